import JvmDerived
import JvmDerived.Pilot.@@N@@Statement
import JvmDerived.Pilot.@@N@@Code
set_option linter.unusedVariables false
set_option linter.unusedSimpArgs false
@@BLOCK:NumsL.lean.txt@@
namespace Jvm.RoadKit
open Sem ClassFile Op Lib Jvm.Stand Jvm.Free Jvm.LawKit
section New
variable {p : Program} {l : Launch} {e : Env} {R : Room} {s : State} {m : MethodId} {args : Array Value} {below : List Frame} {meth : Method} {c : Code} {T : State} {locs : List Loc} {cells slots : Nat}
theorem retI (X : Stand p l e R s m args below meth c T locs cells slots) (hx : p.tables.exec = Jvm.exec) {pc : Nat} {Ls : Array Slot} {z : Int32} {rest : List Value} (hret : meth.sig.returnType = some .int) (hd : decode c.code pc = .ok (.ireturn, 1)) {fs : List Frame}
    (hl : ∀ (f : JFrame) (acts : List Action), f.method = m → f.locked = none → f.entered = [] → (doReturn e (T.setTop f) acts (some (.int z))).1 = T.setFrames fs) : Steps p.tables e below (T.setTop (mkF m pc Ls (.int z :: rest))) (T.setFrames fs) := by
  have hm' : T.vm.method? m = some meth := X.method'
  have hn : narrow .int (.int z) = .int z := rfl
  show Steps p.tables e below (T.setTop { method := m, pc := pc, locals := Ls, stack := _ :: rest, locked := none }) _
  jvm_step X.here [X.here.top, hx, hd, hm', hret, hn]
  first | (intro acts; rw [hl _ acts rfl rfl rfl]) | rw [hl _ _ rfl rfl rfl]
  exact Steps.refl _
end New
end Jvm.RoadKit
namespace Jvm.Pilot.@@N@@
open Jvm Jvm.ClassFile Sem Op Lib Jvm.Free Jvm.Stand Jvm.LawKit Jvm.RoadKit Bundle Jvm.Pilot.@@N@@.Jvm.D
/-- from F on the run comes to the method's end, and K holds there -/
def own_Go (tb : Tables) (e : Env) (below : List Frame) (F : State) (K : Outcome → State → Prop) : Prop := ∃ t o, Steps tb e below F t ∧ t.status = .running ∧ Ended t below o ∧ K o t
theorem own_via {tb : Tables} {e : Env} {below : List Frame} {F G : State} {K : Outcome → State → Prop} (h : ∀ t, Steps tb e below G t → Steps tb e below F t) (k : own_Go tb e below G K) : own_Go tb e below F K := by
  obtain ⟨t, o, h1, h2⟩ := k
  exact ⟨t, o, h t h1, h2⟩
/-- what is asked at the end: it has returned, Q holds of the value, the heap and what was written -/
def own_K (s : State) (Q : Option Value → Heap → List Loc → Prop) (kc ks : Nat) (o : Outcome) (t : State) : Prop := ∃ v L, o = .returned v ∧ Q v t.heap L ∧ FrameEnd s o t L kc ks
/-- what a walk knows of its method all along -/
def own_C (p : Program) (s : State) (m : MethodId) (meth : Method) (c : Code) (Z : State) (a0 : Array Value) (bytes : ByteArray) (ml : Nat) (cls : String) (rt : Option FieldType) (nme : String) : Prop :=
  p.tables.exec = Jvm.exec ∧ Z.Warmed39 s.vm ∧ (∀ d ∈ tables_1, d.before a0 Z = true) ∧ c.code = bytes ∧ c.maxLocals = ml ∧ s.vm.findClass cls = some m.cls ∧ meth.sig.returnType = rt ∧ meth.locks = false ∧ meth.name = nme
theorem own_fin {p : Program} {l : Launch} {e : Env} {R : Room} {s : State} {m : MethodId} {args : Array Value} {below : List Frame} {meth : Method} {c : Code} {T : State} {locs : List Loc} {cells slots : Nat} (X : Stand p l e R s m args below meth c T locs cells slots) {F : State} {h : Heap} (eh : T.heap = h) {v : Option Value} {Q : Option Value → Heap → List Loc → Prop} {kc ks : Nat} (hv : meth.sig.returnType = none → v = none) (hlk : meth.locks = false)
    (hstep : ∀ fs, (∀ (f : JFrame) (acts : List Action), f.method = m → f.locked = none → f.entered = [] → (doReturn e (T.setTop f) acts v).1 = T.setFrames fs) → Steps p.tables e below F (T.setFrames fs)) (q : Q v h locs) (hc : cells ≤ kc) (hs : slots ≤ ks) : own_Go p.tables e below F (own_K s Q kc ks) := by
  obtain ⟨fs, hr, hrun, hended, hW, hsame⟩ := X.leave (v := v) hv hlk
  subst eh
  exact ⟨_, _, hstep fs hr, hrun, hended, _, _, rfl, q, ⟨_, rfl⟩, hW, hsame.mono hc hs⟩
theorem own_eqh {T : State} {h : Heap} (e : T.heap = h) {a : Addr} {c : Cell} (q : h[a]? = some c) : T.heap[a]? = some c := by rw [e]; exact q
theorem own_len {p : Program} {l : Launch} {e : Env} {R : Room} {s : State} {m : MethodId} {args : Array Value} {below : List Frame} {meth : Method} {c : Code} {T : State} {locs : List Loc} {cells slots : Nat} {Z : State} {h : Heap} (X : Stand p l e R s m args below meth c T locs cells slots) (hx : p.tables.exec = Jvm.exec) (hZ : Z.Warmed39 s.vm) (eT : T.heap = h) {a : Addr} {cl : Cell} {ty : FieldType} {n : Int32} (A : Arr Z h a cl ty) (S : cl.slots.size = n.toNatClampNeg) (N : ¬ n < 0)
    {g : JFrame} (hg : g.method = m) {rest : List Value} (hs : g.stack = .ref a :: rest) (hd : decode c.code g.pc = .ok (.arraylength, 1)) {t : State} (k : Steps p.tables e below (T.setTop { g with pc := g.pc + 1, stack := .int n :: rest }) t) : Steps p.tables e below (T.setTop g) t := by
  refine X.arraylength hx (by rw [eT]; exact A.1) (State.isArrayOf_alike hZ.alike A.2.1) hg hs hd _ ?_
  rw [len_of S N]
  exact k
theorem own_ti {i : Nat} (h : i ≤ 100) : (Int32.ofNat i).toInt = (i : Int) := Int32.toInt_ofNat_of_lt (by omega)
theorem own_lt {i n : Nat} (h : i < n) (hn : n ≤ 100) : Int32.ofNat i < Int32.ofNat n := by
  rw [Int32.lt_iff_toInt_lt, own_ti (by omega), own_ti hn]; omega
theorem own_nlt {i n : Nat} (h : ¬ i < n) (hi : i ≤ 100) : ¬ Int32.ofNat i < Int32.ofNat n := by
  rw [Int32.lt_iff_toInt_lt, own_ti hi, own_ti (by omega)]; omega
theorem own_lti {i n : Nat} (hi : i ≤ 100) (hn : n ≤ 100) : Int32.ofNat i < Int32.ofNat n ↔ i < n := by
  rw [Int32.lt_iff_toInt_lt, own_ti hi, own_ti hn]; omega
theorem own_inb {i n : Nat} (h : i < n) (hn : n ≤ 100) : ¬ Int32.ofNat i < 0 ∧ Int32.ofNat i < Int32.ofNat n := ⟨by
  rw [Int32.lt_iff_toInt_lt, own_ti (by omega)]; have k : (0 : Int32).toInt = 0 := rfl; omega, own_lt h hn⟩
theorem own_cl {i : Nat} (h : i ≤ 100) : (Int32.ofNat i).toNatClampNeg = i := by
  simp only [Int32.toNatClampNeg]; rw [own_ti h]; omega
theorem own_sub {k j : Nat} (h : j ≤ k) : Int32.ofNat k - Int32.ofNat j = Int32.ofNat (k - j) := by
  have e : k = (k - j) + j := by omega
  have e2 : Int32.ofNat k = Int32.ofNat (k - j) + Int32.ofNat j := by rw [← Int32.ofNat_add, ← e]
  rw [e2, Int32.add_sub_cancel]
theorem own_one (k : Nat) : Int32.ofNat k + (1 : Int32) = Int32.ofNat (k + 1) := (Int32.ofNat_add k 1).symm
theorem own_pget (P : List Int32) {i : Nat} (h : i ≤ 100) : (P.map Value.int).getD (Int32.ofNat i).toNatClampNeg (.int (0 : Int32)) = .int (P.getD i 0) := by
  rw [own_cl h]
  simp only [List.getD_eq_getElem?_getD, List.getElem?_map]
  cases P[i]? <;> rfl
def own_vl (F : List Nat) : List Value := F.map fun x => Value.int (Int32.ofNat x)
theorem own_fget (F : List Nat) {i : Nat} (h : i ≤ 100) : (own_vl F).getD (Int32.ofNat i).toNatClampNeg (.int (0 : Int32)) = .int (Int32.ofNat (F.getD i 0)) := by
  rw [own_cl h]
  simp only [own_vl, List.getD_eq_getElem?_getD, List.getElem?_map]
  cases F[i]? <;> rfl
theorem own_vset (F : List Nat) (i k : Nat) : (own_vl F).set i (.int (Int32.ofNat k)) = own_vl (F.set i k) := by
  unfold own_vl; rw [List.map_set]
theorem own_vlen (F : List Nat) : (own_vl F).length = F.length := by unfold own_vl; simp
theorem own_rep (n : Nat) : own_vl (List.replicate n 0) = List.replicate n (Value.int (0 : Int32)) := by
  unfold own_vl; rw [List.map_replicate]; rfl
/-- which of the bytes are alike -/
def own_e (P : List Int32) (i j : Nat) : Bool := decide (i < P.length) && decide (j < P.length) && decide (P.getD i 0 = P.getD j 0)
theorem own_et {P : List Int32} {i j : Nat} (hi : i < P.length) (hj : j < P.length) (h : P.getD i 0 = P.getD j 0) : own_e P i j = true := by
  unfold own_e; rw [decide_eq_true hi, decide_eq_true hj, decide_eq_true h]; rfl
theorem own_ef {P : List Int32} {i j : Nat} (h : ¬ P.getD i 0 = P.getD j 0) : own_e P i j = false := by
  unfold own_e; rw [decide_eq_false h, Bool.and_false]
/-- the inner loop, the outer loop -/
def own_in (e : Nat → Nat → Bool) (F : List Nat) (i : Nat) : Nat → Nat → Nat
  | 0, k => k
  | f + 1, k => if k = 0 then k else if e i k = true then k else own_in e F i f (F.getD (k - 1) 0)
def own_nx (e : Nat → Nat → Bool) (i k : Nat) : Nat := if e i k = true then k + 1 else k
def own_out (e : Nat → Nat → Bool) : Nat → Nat → Nat → List Nat → List Nat
  | 0, _, _, F => F
  | r + 1, i, k, F => own_out e r (i + 1) (own_nx e i (own_in e F i k k)) (F.set i (own_nx e i (own_in e F i k k)))
/-- a border of length k of the first L -/
def own_ib5 (e : Nat → Nat → Bool) (L k : Nat) : Bool := decide (k < 5) || e 4 (L - k + 4)
def own_ib4 (e : Nat → Nat → Bool) (L k : Nat) : Bool := (decide (k < 4) || e 3 (L - k + 3)) && own_ib5 e L k
def own_ib3 (e : Nat → Nat → Bool) (L k : Nat) : Bool := (decide (k < 3) || e 2 (L - k + 2)) && own_ib4 e L k
def own_ib2 (e : Nat → Nat → Bool) (L k : Nat) : Bool := (decide (k < 2) || e 1 (L - k + 1)) && own_ib3 e L k
def own_ib1 (e : Nat → Nat → Bool) (L k : Nat) : Bool := (decide (k < 1) || e 0 (L - k)) && own_ib2 e L k
def own_ib6 (e : Nat → Nat → Bool) (L k : Nat) : Bool := true
def own_b2i (b : Bool) : Int32 := if b = true then 1 else 0
def own_bd0 (e : Nat → Nat → Bool) (L : Nat) : Nat := 0
def own_bd1 (e : Nat → Nat → Bool) (L : Nat) : Nat := if 1 < L then (if own_ib1 e L 1 = true then 1 else 0) else 0
def own_bd2 (e : Nat → Nat → Bool) (L : Nat) : Nat := if 2 < L then (if own_ib1 e L 2 = true then 2 else own_bd1 e L) else own_bd1 e L
def own_bd3 (e : Nat → Nat → Bool) (L : Nat) : Nat := if 3 < L then (if own_ib1 e L 3 = true then 3 else own_bd2 e L) else own_bd2 e L
def own_bd4 (e : Nat → Nat → Bool) (L : Nat) : Nat := if 4 < L then (if own_ib1 e L 4 = true then 4 else own_bd3 e L) else own_bd3 e L
def own_bd5 (e : Nat → Nat → Bool) (L : Nat) : Nat := if 5 < L then (if own_ib1 e L 5 = true then 5 else own_bd4 e L) else own_bd4 e L
theorem own_b0 {b : Bool} (h : own_b2i b = 0) : b = false := by
  cases b
  · rfl
  · exact absurd h (by decide)
theorem own_b1 {b : Bool} (h : ¬ own_b2i b = 0) : b = true := by
  cases b
  · exact absurd rfl h
  · rfl
/-! bounds that the loops keep -/
theorem own_inle (e : Nat → Nat → Bool) (F : List Nat) (i : Nat) (hF : ∀ j, F.getD j 0 ≤ j) : ∀ f k, own_in e F i f k ≤ k := by
  intro f
  induction f with
  | zero => intro k; exact Nat.le_refl _
  | succ f ih =>
    intro k
    show (if k = 0 then k else if e i k = true then k else own_in e F i f (F.getD (k - 1) 0)) ≤ k
    split
    · exact Nat.le_refl _
    · split
      · exact Nat.le_refl _
      · have := ih (F.getD (k - 1) 0); have := hF (k - 1); omega
theorem own_nxle (e : Nat → Nat → Bool) (i k : Nat) : own_nx e i k ≤ k + 1 := by
  unfold own_nx; split <;> omega
theorem own_setle {F : List Nat} {i k : Nat} (hF : ∀ j, F.getD j 0 ≤ j) (h : k ≤ i) : ∀ j, (F.set i k).getD j 0 ≤ j := by
  intro j
  simp only [List.getD_eq_getElem?_getD] at hF ⊢
  rw [List.getElem?_set]
  split
  · rename_i q
    subst q
    split
    · exact h
    · exact Nat.zero_le _
  · exact hF j
/-! the law on lists: by the patterns of likeness -/
def own_ok (n : Nat) (e : Nat → Nat → Bool) : Bool := (List.range n).all fun k => (own_out e (n - 1) 1 0 (List.replicate n 0)).getD k 0 == own_bd5 e (k + 1)
def own_ec (c : List Nat) (i j : Nat) : Bool := decide (i < c.length) && decide (j < c.length) && decide (c.getD i 0 = c.getD j 0)
def own_all : Nat → List (List Nat)
  | 0 => [[]]
  | n + 1 => (own_all n).flatMap fun c => (List.range (n + 1)).map fun v => c ++ [v]
theorem own_tried : ((List.range 7).all fun n => (own_all n).all fun c => own_ok n (own_ec c)) = true := by decide +kernel
/-- the first place at which the i-th value stands -/
def own_fst (P : List Int32) (i : Nat) : Nat := ((List.range (i + 1)).find? fun j => decide (P.getD j 0 = P.getD i 0)).getD i
def own_can (P : List Int32) : Nat → List Nat
  | 0 => []
  | n + 1 => own_can P n ++ [own_fst P n]
theorem own_canlen (P : List Int32) (n : Nat) : (own_can P n).length = n := by
  induction n with
  | zero => rfl
  | succ n ih => show (own_can P n ++ [own_fst P n]).length = n + 1; simp [ih]
theorem own_fst_some (P : List Int32) (i : Nat) : ∃ j, (List.range (i + 1)).find? (fun j => decide (P.getD j 0 = P.getD i 0)) = some j ∧ j ≤ i ∧ P.getD j 0 = P.getD i 0 := by
  cases h : (List.range (i + 1)).find? fun j => decide (P.getD j 0 = P.getD i 0) with
  | none =>
    have := List.find?_eq_none.mp h i (List.mem_range.mpr (by omega))
    simp at this
  | some j =>
    have a := List.mem_of_find?_eq_some h
    have b := List.find?_some h
    exact ⟨j, rfl, by have := List.mem_range.mp a; omega, by simpa using b⟩
theorem own_fstle (P : List Int32) (i : Nat) : own_fst P i ≤ i := by
  obtain ⟨j, h1, h2, -⟩ := own_fst_some P i
  unfold own_fst; rw [h1]; exact h2
theorem own_fsteq (P : List Int32) (i : Nat) : P.getD (own_fst P i) 0 = P.getD i 0 := by
  obtain ⟨j, h1, -, h3⟩ := own_fst_some P i
  unfold own_fst; rw [h1]; exact h3
theorem own_fstmin (P : List Int32) (i j : Nat) (h : P.getD j 0 = P.getD i 0) (hj : j ≤ i) : own_fst P i ≤ j := by
  unfold own_fst
  cases hf : (List.range (i + 1)).find? fun j => decide (P.getD j 0 = P.getD i 0) with
  | none =>
    have := List.find?_eq_none.mp hf j (List.mem_range.mpr (by omega))
    simp at this; exact absurd h this
  | some z =>
    obtain ⟨-, as, bs, e, hno⟩ := List.find?_eq_some_iff_append.mp hf
    by_cases q : z ≤ j
    · exact q
    · exfalso
      have hsz : as.length = z := by
        have := congrArg (fun l => l[as.length]?) e
        simp only [List.getElem?_append_right (Nat.le_refl _), Nat.sub_self, List.getElem?_cons_zero] at this
        have hl : as.length < i + 1 := by
          have := congrArg List.length e
          simp at this; omega
        rw [List.getElem?_range hl] at this
        exact Option.some.inj this
      have hm : j ∈ as := by
        have hl : j < as.length := by omega
        have : (List.range (i + 1))[j]? = as[j]? := by rw [e, List.getElem?_append_left hl]
        rw [List.getElem?_range (by omega)] at this
        exact List.mem_of_getElem? this.symm
      have := hno j hm
      simp at this; exact this h
theorem own_fstiff (P : List Int32) (i j : Nat) : own_fst P i = own_fst P j ↔ P.getD i 0 = P.getD j 0 := by
  constructor
  · intro h
    rw [← own_fsteq P i, ← own_fsteq P j, h]
  · intro h
    have a := own_fstle P i; have b := own_fstle P j; have c := own_fsteq P i; have d := own_fsteq P j
    rcases Nat.le_total i j with q | q
    · have m1 := own_fstmin P j (own_fst P i) (c.trans h) (by omega)
      by_cases z : own_fst P j ≤ i
      · have m2 := own_fstmin P i (own_fst P j) (d.trans h.symm) z
        omega
      · omega
    · have m1 := own_fstmin P i (own_fst P j) (d.trans h.symm) (by omega)
      by_cases z : own_fst P i ≤ j
      · have m2 := own_fstmin P j (own_fst P i) (c.trans h) z
        omega
      · omega
theorem own_canget (P : List Int32) (n : Nat) : ∀ i, i < n → (own_can P n).getD i 0 = own_fst P i := by
  induction n with
  | zero => intro i h; omega
  | succ n ih =>
    intro i h
    show (own_can P n ++ [own_fst P n]).getD i 0 = _
    simp only [List.getD_eq_getElem?_getD] at ih ⊢
    by_cases q : i < n
    · rw [List.getElem?_append_left (by rw [own_canlen]; exact q)]
      exact ih i q
    · obtain rfl : i = n := by omega
      rw [List.getElem?_append_right (by rw [own_canlen]; exact Nat.le_refl _), own_canlen, Nat.sub_self]
      rfl
theorem own_canin (P : List Int32) (n : Nat) : own_can P n ∈ own_all n := by
  induction n with
  | zero => exact List.mem_singleton.mpr rfl
  | succ n ih =>
    show own_can P n ++ [own_fst P n] ∈ (own_all n).flatMap fun c => (List.range (n + 1)).map fun v => c ++ [v]
    exact List.mem_flatMap.mpr ⟨_, ih, List.mem_map.mpr ⟨_, List.mem_range.mpr (by have := own_fstle P n; omega), rfl⟩⟩
theorem own_same (P : List Int32) : own_e P = own_ec (own_can P P.length) := by
  funext i j
  unfold own_e own_ec
  rw [own_canlen]
  by_cases hi : i < P.length
  · by_cases hj : j < P.length
    · rw [own_canget P _ i hi, own_canget P _ j hj, decide_eq_decide.mpr (own_fstiff P i j)]
    · rw [decide_eq_false hj]; simp
  · rw [decide_eq_false hi]; simp
theorem own_law (P : List Int32) (h : P.length ≤ 6) (k : Nat) (hk : k < P.length) : (own_out (own_e P) (P.length - 1) 1 0 (List.replicate P.length 0)).getD k 0 = own_bd5 (own_e P) (k + 1) := by
  have a := List.all_eq_true.mp own_tried P.length (List.mem_range.mpr (by omega))
  have b := List.all_eq_true.mp a _ (own_canin P P.length)
  have c := List.all_eq_true.mp b k (List.mem_range.mpr hk)
  rw [← own_same] at c
  simpa using c
def own_pk (q0 : Int32) (q1 : Int32) (q2 : Int32) (q3 : Int32) : Int32 := (if ((XT.ushr q0 ((2 : Int32) * q1)) &&& (3 : Int32)) = (0 : Int32) then (nar .byte (q2.toInt8.toInt32)) else (if ((XT.ushr q0 ((2 : Int32) * q1)) &&& (3 : Int32)) = (1 : Int32) then (nar .byte ((XT.ushr q2 (8 : Int32)).toInt8.toInt32)) else (if ((XT.ushr q0 ((2 : Int32) * q1)) &&& (3 : Int32)) = (2 : Int32) then (nar .byte (q3.toInt8.toInt32)) else (nar .byte ((XT.ushr q3 (8 : Int32)).toInt8.toInt32)))))
def Q1 (Z : State) (q0 : Int32) (q1 : Int32) (q2 : Int32) (q3 : Int32) (h0 : Heap) (n0 : Nat) (v : Option Value) (h : Heap) (L : List Loc) : Prop := v = some (.int (own_pk q0 q1 q2 q3)) ∧ Fr n0 L ∧ h = h0
theorem d1_0 : decode method_3_code 0 = .ok (.iload_n 0, 1) := by decide +kernel
theorem d1_1 : decode method_3_code 1 = .ok (.iconst 2, 1) := by decide +kernel
theorem d1_2 : decode method_3_code 2 = .ok (.iload_n 1, 1) := by decide +kernel
theorem d1_3 : decode method_3_code 3 = .ok (.imul, 1) := by decide +kernel
theorem d1_4 : decode method_3_code 4 = .ok (.iushr, 1) := by decide +kernel
theorem d1_5 : decode method_3_code 5 = .ok (.iconst 3, 1) := by decide +kernel
theorem d1_6 : decode method_3_code 6 = .ok (.iand, 1) := by decide +kernel
theorem d1_7 : decode method_3_code 7 = .ok (.istore 4, 2) := by decide +kernel
theorem d1_9 : decode method_3_code 9 = .ok (.iload 4, 2) := by decide +kernel
theorem d1_11 : decode method_3_code 11 = .ok (.ifCond .ne 6, 3) := by decide +kernel
theorem d1_14 : decode method_3_code 14 = .ok (.iload_n 2, 1) := by decide +kernel
theorem d1_15 : decode method_3_code 15 = .ok (.i2b, 1) := by decide +kernel
theorem d1_16 : decode method_3_code 16 = .ok (.ireturn, 1) := by decide +kernel
theorem d1_17 : decode method_3_code 17 = .ok (.iload 4, 2) := by decide +kernel
theorem d1_19 : decode method_3_code 19 = .ok (.iconst 1, 1) := by decide +kernel
theorem d1_20 : decode method_3_code 20 = .ok (.if_icmp .ne 9, 3) := by decide +kernel
theorem d1_23 : decode method_3_code 23 = .ok (.iload_n 2, 1) := by decide +kernel
theorem d1_24 : decode method_3_code 24 = .ok (.bipush 8, 2) := by decide +kernel
theorem d1_26 : decode method_3_code 26 = .ok (.iushr, 1) := by decide +kernel
theorem d1_27 : decode method_3_code 27 = .ok (.i2b, 1) := by decide +kernel
theorem d1_28 : decode method_3_code 28 = .ok (.ireturn, 1) := by decide +kernel
theorem d1_29 : decode method_3_code 29 = .ok (.iload 4, 2) := by decide +kernel
theorem d1_31 : decode method_3_code 31 = .ok (.iconst 2, 1) := by decide +kernel
theorem d1_32 : decode method_3_code 32 = .ok (.if_icmp .ne 6, 3) := by decide +kernel
theorem d1_35 : decode method_3_code 35 = .ok (.iload_n 3, 1) := by decide +kernel
theorem d1_36 : decode method_3_code 36 = .ok (.i2b, 1) := by decide +kernel
theorem d1_37 : decode method_3_code 37 = .ok (.ireturn, 1) := by decide +kernel
theorem d1_38 : decode method_3_code 38 = .ok (.iload_n 3, 1) := by decide +kernel
theorem d1_39 : decode method_3_code 39 = .ok (.bipush 8, 2) := by decide +kernel
theorem d1_41 : decode method_3_code 41 = .ok (.iushr, 1) := by decide +kernel
theorem d1_42 : decode method_3_code 42 = .ok (.i2b, 1) := by decide +kernel
theorem d1_43 : decode method_3_code 43 = .ok (.ireturn, 1) := by decide +kernel
set_option maxRecDepth 65536 in
set_option maxHeartbeats 40000000 in
theorem b1 {p : Program} {l : Launch} {e : Env} {s : State} {m : MethodId} {args : Array Value} {below : List Frame} {meth : Method} {c : Code} {T0 : State} {locs : List Loc} {Z : State} {a0 : Array Value} {h0 : Heap} {n0 : Nat} (q0 : Int32) (q1 : Int32) (q2 : Int32) (q3 : Int32)
    (C : own_C p s m meth c Z a0 method_3_code 5 "com/example/clew/clew/KnuthMorrisPrattFailureFunctionPinLaw" (some .byte) "pick") (X0 : Stand p l e ({ frames := 0, cells := 0, slots := 0, locals := 0 } : Room) s m args below meth c T0 locs 0 0) (e0 : T0.heap = h0) (Z0 : n0 ≤ h0.size) (N0 : Fr n0 locs) :
    own_Go p.tables e below (T0.setTop (mkF m 0 #[.val (.int q0), .val (.int q1), .val (.int q2), .val (.int q3), .unset] [])) (own_K s (fun (v : Option Value) (h : Heap) (L : List Loc) => Q1 Z q0 q1 q2 q3 h0 n0 v h L) ({ frames := 0, cells := 0, slots := 0, locals := 0 } : Room).cells ({ frames := 0, cells := 0, slots := 0, locals := 0 } : Room).slots) := by
  obtain ⟨hx, hZ, hw, hby, hml, hown, hret, hlk, hnm⟩ := C
  refine own_via (G := T0.setTop (mkF m 1 #[.val (.int q0), .val (.int q1), .val (.int q2), .val (.int q3), .unset] [(.int q0)])) (fun tt kk => XS.iloadN X0.here hx rfl (hb hby d1_0) rfl kk) ?_
  refine own_via (G := T0.setTop (mkF m 2 #[.val (.int q0), .val (.int q1), .val (.int q2), .val (.int q3), .unset] [(.int (2 : Int32)), (.int q0)])) (fun tt kk => XS.iconst X0.here hx rfl (hb hby d1_1) kk) ?_
  refine own_via (G := T0.setTop (mkF m 3 #[.val (.int q0), .val (.int q1), .val (.int q2), .val (.int q3), .unset] [(.int q1), (.int (2 : Int32)), (.int q0)])) (fun tt kk => XS.iloadN X0.here hx rfl (hb hby d1_2) rfl kk) ?_
  refine own_via (G := T0.setTop (mkF m 4 #[.val (.int q0), .val (.int q1), .val (.int q2), .val (.int q3), .unset] [(.int ((2 : Int32) * q1)), (.int q0)])) (fun tt kk => XS.imul X0.here hx rfl (hb hby d1_3) rfl kk) ?_
  refine own_via (G := T0.setTop (mkF m 5 #[.val (.int q0), .val (.int q1), .val (.int q2), .val (.int q3), .unset] [(.int (XT.ushr q0 ((2 : Int32) * q1)))])) (fun tt kk => XT.iushr X0.here hx rfl (hb hby d1_4) rfl kk) ?_
  refine own_via (G := T0.setTop (mkF m 6 #[.val (.int q0), .val (.int q1), .val (.int q2), .val (.int q3), .unset] [(.int (3 : Int32)), (.int (XT.ushr q0 ((2 : Int32) * q1)))])) (fun tt kk => XS.iconst X0.here hx rfl (hb hby d1_5) kk) ?_
  refine own_via (G := T0.setTop (mkF m 7 #[.val (.int q0), .val (.int q1), .val (.int q2), .val (.int q3), .unset] [(.int ((XT.ushr q0 ((2 : Int32) * q1)) &&& (3 : Int32)))])) (fun tt kk => XS.iand X0.here hx rfl (hb hby d1_6) rfl kk) ?_
  refine own_via (G := T0.setTop (mkF m 9 #[.val (.int q0), .val (.int q1), .val (.int q2), .val (.int q3), .val (.int ((XT.ushr q0 ((2 : Int32) * q1)) &&& (3 : Int32)))] [])) (fun tt kk => XS.istore X0.here hx rfl (hb hby d1_7) rfl (l' := #[.val (.int q0), .val (.int q1), .val (.int q2), .val (.int q3), .val (.int ((XT.ushr q0 ((2 : Int32) * q1)) &&& (3 : Int32)))]) rfl kk) ?_
  refine own_via (G := T0.setTop (mkF m 11 #[.val (.int q0), .val (.int q1), .val (.int q2), .val (.int q3), .val (.int ((XT.ushr q0 ((2 : Int32) * q1)) &&& (3 : Int32)))] [(.int ((XT.ushr q0 ((2 : Int32) * q1)) &&& (3 : Int32)))])) (fun tt kk => XS.iload X0.here hx rfl (hb hby d1_9) rfl kk) ?_
  by_cases hc1_11 : ((XT.ushr q0 ((2 : Int32) * q1)) &&& (3 : Int32)) = (0 : Int32)
  · refine own_via (G := T0.setTop (mkF m 14 #[.val (.int q0), .val (.int q1), .val (.int q2), .val (.int q3), .val (.int ((XT.ushr q0 ((2 : Int32) * q1)) &&& (3 : Int32)))] [])) (fun tt kk => XS.ifNo X0.here hx rfl (hb hby d1_11) rfl (XT.i0_ne_f hc1_11) kk) ?_
    refine own_via (G := T0.setTop (mkF m 15 #[.val (.int q0), .val (.int q1), .val (.int q2), .val (.int q3), .val (.int ((XT.ushr q0 ((2 : Int32) * q1)) &&& (3 : Int32)))] [(.int q2)])) (fun tt kk => XS.iloadN X0.here hx rfl (hb hby d1_14) rfl kk) ?_
    refine own_via (G := T0.setTop (mkF m 16 #[.val (.int q0), .val (.int q1), .val (.int q2), .val (.int q3), .val (.int ((XT.ushr q0 ((2 : Int32) * q1)) &&& (3 : Int32)))] [(.int (q2.toInt8.toInt32))])) (fun tt kk => XT.i2b X0.here hx rfl (hb hby d1_15) rfl kk) ?_
    exact own_fin X0 e0 (v := some (.int (nar .byte (q2.toInt8.toInt32)))) (fun h => by rw [hret] at h; cases h) hlk (fun fs hr => retN X0 hx (t := .byte) hret (by simp) (hb hby d1_16) hr) (show ((fun (v : Option Value) (h : Heap) (L : List Loc) => Q1 Z q0 q1 q2 q3 h0 n0 v h L)) (some (.int (nar .byte (q2.toInt8.toInt32)))) h0 _ from ⟨(by unfold own_pk; rw [if_pos hc1_11]), N0, rfl⟩) (by decide) (by decide)
  · refine own_via (G := T0.setTop (mkF m 17 #[.val (.int q0), .val (.int q1), .val (.int q2), .val (.int q3), .val (.int ((XT.ushr q0 ((2 : Int32) * q1)) &&& (3 : Int32)))] [])) (fun tt kk => XS.ifYes X0.here hx rfl (pc0 := 11) (pc' := 17) rfl (hb hby d1_11) rfl (XT.i0_ne_t hc1_11) (by decide) (by decide) kk) ?_
    refine own_via (G := T0.setTop (mkF m 19 #[.val (.int q0), .val (.int q1), .val (.int q2), .val (.int q3), .val (.int ((XT.ushr q0 ((2 : Int32) * q1)) &&& (3 : Int32)))] [(.int ((XT.ushr q0 ((2 : Int32) * q1)) &&& (3 : Int32)))])) (fun tt kk => XS.iload X0.here hx rfl (hb hby d1_17) rfl kk) ?_
    refine own_via (G := T0.setTop (mkF m 20 #[.val (.int q0), .val (.int q1), .val (.int q2), .val (.int q3), .val (.int ((XT.ushr q0 ((2 : Int32) * q1)) &&& (3 : Int32)))] [(.int (1 : Int32)), (.int ((XT.ushr q0 ((2 : Int32) * q1)) &&& (3 : Int32)))])) (fun tt kk => XS.iconst X0.here hx rfl (hb hby d1_19) kk) ?_
    by_cases hc2_20 : ((XT.ushr q0 ((2 : Int32) * q1)) &&& (3 : Int32)) = (1 : Int32)
    · refine own_via (G := T0.setTop (mkF m 23 #[.val (.int q0), .val (.int q1), .val (.int q2), .val (.int q3), .val (.int ((XT.ushr q0 ((2 : Int32) * q1)) &&& (3 : Int32)))] [])) (fun tt kk => XS.icmpNo X0.here hx rfl (hb hby d1_20) rfl (XT.ii_ne_f hc2_20) kk) ?_
      refine own_via (G := T0.setTop (mkF m 24 #[.val (.int q0), .val (.int q1), .val (.int q2), .val (.int q3), .val (.int ((XT.ushr q0 ((2 : Int32) * q1)) &&& (3 : Int32)))] [(.int q2)])) (fun tt kk => XS.iloadN X0.here hx rfl (hb hby d1_23) rfl kk) ?_
      refine own_via (G := T0.setTop (mkF m 26 #[.val (.int q0), .val (.int q1), .val (.int q2), .val (.int q3), .val (.int ((XT.ushr q0 ((2 : Int32) * q1)) &&& (3 : Int32)))] [(.int (8 : Int32)), (.int q2)])) (fun tt kk => XS.bipush X0.here hx rfl (hb hby d1_24) kk) ?_
      refine own_via (G := T0.setTop (mkF m 27 #[.val (.int q0), .val (.int q1), .val (.int q2), .val (.int q3), .val (.int ((XT.ushr q0 ((2 : Int32) * q1)) &&& (3 : Int32)))] [(.int (XT.ushr q2 (8 : Int32)))])) (fun tt kk => XT.iushr X0.here hx rfl (hb hby d1_26) rfl kk) ?_
      refine own_via (G := T0.setTop (mkF m 28 #[.val (.int q0), .val (.int q1), .val (.int q2), .val (.int q3), .val (.int ((XT.ushr q0 ((2 : Int32) * q1)) &&& (3 : Int32)))] [(.int ((XT.ushr q2 (8 : Int32)).toInt8.toInt32))])) (fun tt kk => XT.i2b X0.here hx rfl (hb hby d1_27) rfl kk) ?_
      exact own_fin X0 e0 (v := some (.int (nar .byte ((XT.ushr q2 (8 : Int32)).toInt8.toInt32)))) (fun h => by rw [hret] at h; cases h) hlk (fun fs hr => retN X0 hx (t := .byte) hret (by simp) (hb hby d1_28) hr) (show ((fun (v : Option Value) (h : Heap) (L : List Loc) => Q1 Z q0 q1 q2 q3 h0 n0 v h L)) (some (.int (nar .byte ((XT.ushr q2 (8 : Int32)).toInt8.toInt32)))) h0 _ from ⟨(by unfold own_pk; rw [if_neg hc1_11, if_pos hc2_20]), N0, rfl⟩) (by decide) (by decide)
    · refine own_via (G := T0.setTop (mkF m 29 #[.val (.int q0), .val (.int q1), .val (.int q2), .val (.int q3), .val (.int ((XT.ushr q0 ((2 : Int32) * q1)) &&& (3 : Int32)))] [])) (fun tt kk => XS.icmpYes X0.here hx rfl (pc0 := 20) (pc' := 29) rfl (hb hby d1_20) rfl (XT.ii_ne_t hc2_20) (by decide) (by decide) kk) ?_
      refine own_via (G := T0.setTop (mkF m 31 #[.val (.int q0), .val (.int q1), .val (.int q2), .val (.int q3), .val (.int ((XT.ushr q0 ((2 : Int32) * q1)) &&& (3 : Int32)))] [(.int ((XT.ushr q0 ((2 : Int32) * q1)) &&& (3 : Int32)))])) (fun tt kk => XS.iload X0.here hx rfl (hb hby d1_29) rfl kk) ?_
      refine own_via (G := T0.setTop (mkF m 32 #[.val (.int q0), .val (.int q1), .val (.int q2), .val (.int q3), .val (.int ((XT.ushr q0 ((2 : Int32) * q1)) &&& (3 : Int32)))] [(.int (2 : Int32)), (.int ((XT.ushr q0 ((2 : Int32) * q1)) &&& (3 : Int32)))])) (fun tt kk => XS.iconst X0.here hx rfl (hb hby d1_31) kk) ?_
      by_cases hc3_32 : ((XT.ushr q0 ((2 : Int32) * q1)) &&& (3 : Int32)) = (2 : Int32)
      · refine own_via (G := T0.setTop (mkF m 35 #[.val (.int q0), .val (.int q1), .val (.int q2), .val (.int q3), .val (.int ((XT.ushr q0 ((2 : Int32) * q1)) &&& (3 : Int32)))] [])) (fun tt kk => XS.icmpNo X0.here hx rfl (hb hby d1_32) rfl (XT.ii_ne_f hc3_32) kk) ?_
        refine own_via (G := T0.setTop (mkF m 36 #[.val (.int q0), .val (.int q1), .val (.int q2), .val (.int q3), .val (.int ((XT.ushr q0 ((2 : Int32) * q1)) &&& (3 : Int32)))] [(.int q3)])) (fun tt kk => XS.iloadN X0.here hx rfl (hb hby d1_35) rfl kk) ?_
        refine own_via (G := T0.setTop (mkF m 37 #[.val (.int q0), .val (.int q1), .val (.int q2), .val (.int q3), .val (.int ((XT.ushr q0 ((2 : Int32) * q1)) &&& (3 : Int32)))] [(.int (q3.toInt8.toInt32))])) (fun tt kk => XT.i2b X0.here hx rfl (hb hby d1_36) rfl kk) ?_
        exact own_fin X0 e0 (v := some (.int (nar .byte (q3.toInt8.toInt32)))) (fun h => by rw [hret] at h; cases h) hlk (fun fs hr => retN X0 hx (t := .byte) hret (by simp) (hb hby d1_37) hr) (show ((fun (v : Option Value) (h : Heap) (L : List Loc) => Q1 Z q0 q1 q2 q3 h0 n0 v h L)) (some (.int (nar .byte (q3.toInt8.toInt32)))) h0 _ from ⟨(by unfold own_pk; rw [if_neg hc1_11, if_neg hc2_20, if_pos hc3_32]), N0, rfl⟩) (by decide) (by decide)
      · refine own_via (G := T0.setTop (mkF m 38 #[.val (.int q0), .val (.int q1), .val (.int q2), .val (.int q3), .val (.int ((XT.ushr q0 ((2 : Int32) * q1)) &&& (3 : Int32)))] [])) (fun tt kk => XS.icmpYes X0.here hx rfl (pc0 := 32) (pc' := 38) rfl (hb hby d1_32) rfl (XT.ii_ne_t hc3_32) (by decide) (by decide) kk) ?_
        refine own_via (G := T0.setTop (mkF m 39 #[.val (.int q0), .val (.int q1), .val (.int q2), .val (.int q3), .val (.int ((XT.ushr q0 ((2 : Int32) * q1)) &&& (3 : Int32)))] [(.int q3)])) (fun tt kk => XS.iloadN X0.here hx rfl (hb hby d1_38) rfl kk) ?_
        refine own_via (G := T0.setTop (mkF m 41 #[.val (.int q0), .val (.int q1), .val (.int q2), .val (.int q3), .val (.int ((XT.ushr q0 ((2 : Int32) * q1)) &&& (3 : Int32)))] [(.int (8 : Int32)), (.int q3)])) (fun tt kk => XS.bipush X0.here hx rfl (hb hby d1_39) kk) ?_
        refine own_via (G := T0.setTop (mkF m 42 #[.val (.int q0), .val (.int q1), .val (.int q2), .val (.int q3), .val (.int ((XT.ushr q0 ((2 : Int32) * q1)) &&& (3 : Int32)))] [(.int (XT.ushr q3 (8 : Int32)))])) (fun tt kk => XT.iushr X0.here hx rfl (hb hby d1_41) rfl kk) ?_
        refine own_via (G := T0.setTop (mkF m 43 #[.val (.int q0), .val (.int q1), .val (.int q2), .val (.int q3), .val (.int ((XT.ushr q0 ((2 : Int32) * q1)) &&& (3 : Int32)))] [(.int ((XT.ushr q3 (8 : Int32)).toInt8.toInt32))])) (fun tt kk => XT.i2b X0.here hx rfl (hb hby d1_42) rfl kk) ?_
        exact own_fin X0 e0 (v := some (.int (nar .byte ((XT.ushr q3 (8 : Int32)).toInt8.toInt32)))) (fun h => by rw [hret] at h; cases h) hlk (fun fs hr => retN X0 hx (t := .byte) hret (by simp) (hb hby d1_43) hr) (show ((fun (v : Option Value) (h : Heap) (L : List Loc) => Q1 Z q0 q1 q2 q3 h0 n0 v h L)) (some (.int (nar .byte ((XT.ushr q3 (8 : Int32)).toInt8.toInt32)))) h0 _ from ⟨(by unfold own_pk; rw [if_neg hc1_11, if_neg hc2_20, if_neg hc3_32]), N0, rfl⟩) (by decide) (by decide)
theorem pn_0 : plainName "com/example/clew/clew/KnuthMorrisPrattFailureFunctionPinLaw" = true := by first | (simp [plainName, overriddenIn]; done) | decide +kernel
theorem ef_1 (m : MethodId) (q0 : Int32) (q1 : Int32) (q2 : Int32) (q3 : Int32) : entryFrame m #[(.int q0), (.int q1), (.int q2), (.int q3)] 5 = mkF m 0 #[.val (.int q0), .val (.int q1), .val (.int q2), .val (.int q3), .unset] [] := by first | (simp [entryFrame, mkF, argsToLocals, Value.category, maxLocals]; done) | rfl
set_option maxRecDepth 65536 in
set_option maxHeartbeats 40000000 in
theorem rm1 (l : Launch) (Z : State) (a0 : Array Value) (hw : ∀ d ∈ tables_1, d.before a0 Z = true) (ws : List Jvm.Cond) (q0 : Int32) (q1 : Int32) (q2 : Int32) (q3 : Int32) (h0 : Heap) (n0 : Nat) (Z0 : n0 ≤ h0.size) :
    MetFree l (⟨"com/example/clew/clew/KnuthMorrisPrattFailureFunctionPinLaw", "pick", "(IIII)B"⟩ : MethodName) (head1 (Jvm.Cond.code (⟨"com/example/clew/clew/KnuthMorrisPrattFailureFunctionPinLaw", "pick", "(IIII)B"⟩ : MethodName) method_3_code 5 (some .byte) :: ws) ({ frames := 0, cells := 0, slots := 0, locals := 0 } : Room)) (fun a U => a = #[(.int q0), (.int q1), (.int q2), (.int q3)] ∧ Z.Warmed39 U.vm ∧ U.heap = h0) (fun _ _ _ _ _ => True) (fun _ U o U' => ∃ v L, o = .returned v ∧ Q1 Z q0 q1 q2 q3 h0 n0 v U'.heap L ∧ FrameEnd U o U' L ({ frames := 0, cells := 0, slots := 0, locals := 0 } : Room).cells ({ frames := 0, cells := 0, slots := 0, locals := 0 } : Room).slots) := by
  refine MetFree.of_bodySF (plainFor_of_name pn_0) hisR ?_
  intro p e s m args below meth c s₁ Bd hml0 hP hK
  obtain ⟨rfl, hZ, hh⟩ := hP
  have e0 : s₁.heap = h0 := by rw [← hh, Bd.state]; rfl
  rw [ef_1 m q0 q1 q2 q3]
  exact b1 q0 q1 q2 q3 ⟨Bd.exec, hZ, hw, Bd.bytes, hml0, findClass_of_methodNamed Bd.named, Bd.returns, Bd.notSynchronized, (name_of_methodNamed Bd.named Bd.method).1⟩ (Stand.of_body Bd) e0 Z0 (Fr.nil n0)
theorem own_ib1_t {e : Nat → Nat → Bool} {L k : Nat} (h : k < 1) : own_ib1 e L k = own_ib2 e L k := by unfold own_ib1; rw [decide_eq_true h]; rfl
theorem own_ib1_e {e : Nat → Nat → Bool} {L k : Nat} (h : e 0 (L - k) = true) : own_ib1 e L k = own_ib2 e L k := by unfold own_ib1; rw [h, Bool.or_true]; rfl
theorem own_ib1_f {e : Nat → Nat → Bool} {L k : Nat} (h : ¬ k < 1) (h2 : e 0 (L - k) = false) : own_ib1 e L k = false := by unfold own_ib1; rw [decide_eq_false h, h2]; rfl
theorem own_ib2_t {e : Nat → Nat → Bool} {L k : Nat} (h : k < 2) : own_ib2 e L k = own_ib3 e L k := by unfold own_ib2; rw [decide_eq_true h]; rfl
theorem own_ib2_e {e : Nat → Nat → Bool} {L k : Nat} (h : e 1 (L - k + 1) = true) : own_ib2 e L k = own_ib3 e L k := by unfold own_ib2; rw [h, Bool.or_true]; rfl
theorem own_ib2_f {e : Nat → Nat → Bool} {L k : Nat} (h : ¬ k < 2) (h2 : e 1 (L - k + 1) = false) : own_ib2 e L k = false := by unfold own_ib2; rw [decide_eq_false h, h2]; rfl
theorem own_ib3_t {e : Nat → Nat → Bool} {L k : Nat} (h : k < 3) : own_ib3 e L k = own_ib4 e L k := by unfold own_ib3; rw [decide_eq_true h]; rfl
theorem own_ib3_e {e : Nat → Nat → Bool} {L k : Nat} (h : e 2 (L - k + 2) = true) : own_ib3 e L k = own_ib4 e L k := by unfold own_ib3; rw [h, Bool.or_true]; rfl
theorem own_ib3_f {e : Nat → Nat → Bool} {L k : Nat} (h : ¬ k < 3) (h2 : e 2 (L - k + 2) = false) : own_ib3 e L k = false := by unfold own_ib3; rw [decide_eq_false h, h2]; rfl
theorem own_ib4_t {e : Nat → Nat → Bool} {L k : Nat} (h : k < 4) : own_ib4 e L k = own_ib5 e L k := by unfold own_ib4; rw [decide_eq_true h]; rfl
theorem own_ib4_e {e : Nat → Nat → Bool} {L k : Nat} (h : e 3 (L - k + 3) = true) : own_ib4 e L k = own_ib5 e L k := by unfold own_ib4; rw [h, Bool.or_true]; rfl
theorem own_ib4_f {e : Nat → Nat → Bool} {L k : Nat} (h : ¬ k < 4) (h2 : e 3 (L - k + 3) = false) : own_ib4 e L k = false := by unfold own_ib4; rw [decide_eq_false h, h2]; rfl
theorem own_ib5_t {e : Nat → Nat → Bool} {L k : Nat} (h : k < 5) : own_ib5 e L k = own_ib6 e L k := by unfold own_ib5; rw [decide_eq_true h]; rfl
theorem own_ib5_e {e : Nat → Nat → Bool} {L k : Nat} (h : e 4 (L - k + 4) = true) : own_ib5 e L k = own_ib6 e L k := by unfold own_ib5; rw [h, Bool.or_true]; rfl
theorem own_ib5_f {e : Nat → Nat → Bool} {L k : Nat} (h : ¬ k < 5) (h2 : e 4 (L - k + 4) = false) : own_ib5 e L k = false := by unfold own_ib5; rw [decide_eq_false h, h2]; rfl
theorem d4_82 : decode method_4_code 82 = .ok (.iconst 1, 1) := by decide +kernel
theorem d4_83 : decode method_4_code 83 = .ok (.goto 4, 3) := by decide +kernel
theorem d4_87 : decode method_4_code 87 = .ok (.ireturn, 1) := by decide +kernel
set_option maxRecDepth 65536 in
set_option maxHeartbeats 40000000 in
theorem b4_82 {p : Program} {l : Launch} {e : Env} {s : State} {m : MethodId} {args : Array Value} {below : List Frame} {meth : Method} {c : Code} {T0 : State} {locs : List Loc} {Z : State} {a0 : Array Value} {h0 : Heap} {n0 : Nat} (oa : Addr) (ka : ClassId) (n : Nat) (P : List Int32) (Ln : Nat) (kn : Nat) (r : Int32)
    (C : own_C p s m meth c Z a0 method_4_code 4 "com/example/clew/clew/KnuthMorrisPrattFailureFunctionPinLaw" (some .boolean) "isBorder") (X0 : Stand p l e ({ frames := 0, cells := 0, slots := 0, locals := 0 } : Room) s m args below meth c T0 locs 0 0) (e0 : T0.heap = h0) (Z0 : n0 ≤ h0.size) (N0 : Fr n0 locs) (VA : Arv Z h0 oa ka .byte (Int32.ofNat n) (P.map Value.int) (.int (0 : Int32))) (hP : P.length = n) (hn6 : n ≤ 6) (hL : Ln ≤ n) (hk : kn < Ln) (hr : r = own_b2i (own_ib6 (own_e P) Ln kn)) :
    own_Go p.tables e below (T0.setTop (mkF m 82 #[.val (.ref oa), .val (.int (Int32.ofNat Ln)), .val (.int (Int32.ofNat kn)), .val (.int (Int32.ofNat (Ln - kn)))] [])) (own_K s (fun (v : Option Value) (h : Heap) (L : List Loc) => v = some (.int r) ∧ Fr n0 L ∧ h = h0) ({ frames := 0, cells := 0, slots := 0, locals := 0 } : Room).cells ({ frames := 0, cells := 0, slots := 0, locals := 0 } : Room).slots) := by
  obtain ⟨hx, hZ, hw, hby, hml, hown, hret, hlk, hnm⟩ := C
  refine own_via (G := T0.setTop (mkF m 83 #[.val (.ref oa), .val (.int (Int32.ofNat Ln)), .val (.int (Int32.ofNat kn)), .val (.int (Int32.ofNat (Ln - kn)))] [(.int (1 : Int32))])) (fun tt kk => XS.iconst X0.here hx rfl (hb hby d4_82) kk) ?_
  refine own_via (G := T0.setTop (mkF m 87 #[.val (.ref oa), .val (.int (Int32.ofNat Ln)), .val (.int (Int32.ofNat kn)), .val (.int (Int32.ofNat (Ln - kn)))] [(.int (1 : Int32))])) (fun tt kk => XS.goto X0.here hx rfl (pc0 := 83) (pc' := 87) rfl (hb hby d4_83) (by decide) (by decide) kk) ?_
  exact own_fin X0 e0 (v := some (.int (1 : Int32))) (fun h => by rw [hret] at h; cases h) hlk (fun fs hr => retN X0 hx (t := .boolean) hret (by simp) (hb hby d4_87) hr) (show ((fun (v : Option Value) (h : Heap) (L : List Loc) => v = some (.int r) ∧ Fr n0 L ∧ h = h0)) (some (.int (1 : Int32))) h0 _ from ⟨(by rw [hr]; rfl), N0, rfl⟩) (by decide) (by decide)
theorem own_gei {k j : Nat} (hk : k ≤ 100) (hj : j ≤ 100) (h : ¬ Int32.ofNat k < Int32.ofNat j) : j ≤ k := by rw [own_lti hk hj] at h; omega
theorem own_lei {k j : Nat} (hk : k ≤ 100) (hj : j ≤ 100) (h : Int32.ofNat k < Int32.ofNat j) : k < j := by rw [own_lti hk hj] at h; exact h
theorem own_addn (a j : Nat) : Int32.ofNat a + Int32.ofNat j = Int32.ofNat (a + j) := (Int32.ofNat_add a j).symm
theorem d4_66 : decode method_4_code 66 = .ok (.iload_n 2, 1) := by decide +kernel
theorem d4_67 : decode method_4_code 67 = .ok (.iconst 5, 1) := by decide +kernel
theorem d4_68 : decode method_4_code 68 = .ok (.if_icmp .lt 14, 3) := by decide +kernel
theorem d4_71 : decode method_4_code 71 = .ok (.aload_n 0, 1) := by decide +kernel
theorem d4_72 : decode method_4_code 72 = .ok (.iconst 4, 1) := by decide +kernel
theorem d4_73 : decode method_4_code 73 = .ok (.baload, 1) := by decide +kernel
theorem d4_74 : decode method_4_code 74 = .ok (.aload_n 0, 1) := by decide +kernel
theorem d4_75 : decode method_4_code 75 = .ok (.iload_n 3, 1) := by decide +kernel
theorem d4_76 : decode method_4_code 76 = .ok (.iconst 4, 1) := by decide +kernel
theorem d4_77 : decode method_4_code 77 = .ok (.iadd, 1) := by decide +kernel
theorem d4_78 : decode method_4_code 78 = .ok (.baload, 1) := by decide +kernel
theorem d4_79 : decode method_4_code 79 = .ok (.if_icmp .ne 7, 3) := by decide +kernel
theorem d4_86 : decode method_4_code 86 = .ok (.iconst 0, 1) := by decide +kernel
set_option maxRecDepth 65536 in
set_option maxHeartbeats 40000000 in
theorem b4_66 {p : Program} {l : Launch} {e : Env} {s : State} {m : MethodId} {args : Array Value} {below : List Frame} {meth : Method} {c : Code} {T0 : State} {locs : List Loc} {Z : State} {a0 : Array Value} {h0 : Heap} {n0 : Nat} (oa : Addr) (ka : ClassId) (n : Nat) (P : List Int32) (Ln : Nat) (kn : Nat) (r : Int32)
    (C : own_C p s m meth c Z a0 method_4_code 4 "com/example/clew/clew/KnuthMorrisPrattFailureFunctionPinLaw" (some .boolean) "isBorder") (X0 : Stand p l e ({ frames := 0, cells := 0, slots := 0, locals := 0 } : Room) s m args below meth c T0 locs 0 0) (e0 : T0.heap = h0) (Z0 : n0 ≤ h0.size) (N0 : Fr n0 locs) (VA : Arv Z h0 oa ka .byte (Int32.ofNat n) (P.map Value.int) (.int (0 : Int32))) (hP : P.length = n) (hn6 : n ≤ 6) (hL : Ln ≤ n) (hk : kn < Ln) (hr : r = own_b2i (own_ib5 (own_e P) Ln kn)) :
    own_Go p.tables e below (T0.setTop (mkF m 66 #[.val (.ref oa), .val (.int (Int32.ofNat Ln)), .val (.int (Int32.ofNat kn)), .val (.int (Int32.ofNat (Ln - kn)))] [])) (own_K s (fun (v : Option Value) (h : Heap) (L : List Loc) => v = some (.int r) ∧ Fr n0 L ∧ h = h0) ({ frames := 0, cells := 0, slots := 0, locals := 0 } : Room).cells ({ frames := 0, cells := 0, slots := 0, locals := 0 } : Room).slots) := by
  obtain ⟨hx, hZ, hw, hby, hml, hown, hret, hlk, hnm⟩ := C
  refine own_via (G := T0.setTop (mkF m 67 #[.val (.ref oa), .val (.int (Int32.ofNat Ln)), .val (.int (Int32.ofNat kn)), .val (.int (Int32.ofNat (Ln - kn)))] [(.int (Int32.ofNat kn))])) (fun tt kk => XS.iloadN X0.here hx rfl (hb hby d4_66) rfl kk) ?_
  refine own_via (G := T0.setTop (mkF m 68 #[.val (.ref oa), .val (.int (Int32.ofNat Ln)), .val (.int (Int32.ofNat kn)), .val (.int (Int32.ofNat (Ln - kn)))] [(.int (5 : Int32)), (.int (Int32.ofNat kn))])) (fun tt kk => XS.iconst X0.here hx rfl (hb hby d4_67) kk) ?_
  by_cases hc1_68 : (Int32.ofNat kn) < (5 : Int32)
  · refine own_via (G := T0.setTop (mkF m 82 #[.val (.ref oa), .val (.int (Int32.ofNat Ln)), .val (.int (Int32.ofNat kn)), .val (.int (Int32.ofNat (Ln - kn)))] [])) (fun tt kk => XS.icmpYes X0.here hx rfl (pc0 := 68) (pc' := 82) rfl (hb hby d4_68) rfl (XT.ii_lt_t hc1_68) (by decide) (by decide) kk) ?_
    exact b4_82 oa ka n P Ln kn r ⟨hx, hZ, hw, hby, hml, hown, hret, hlk, hnm⟩ X0 e0 Z0 N0 VA hP hn6 hL hk (hr.trans (congrArg own_b2i (own_ib5_t (own_lei (j := 5) (by omega) (by decide) hc1_68))))
  · refine own_via (G := T0.setTop (mkF m 71 #[.val (.ref oa), .val (.int (Int32.ofNat Ln)), .val (.int (Int32.ofNat kn)), .val (.int (Int32.ofNat (Ln - kn)))] [])) (fun tt kk => XS.icmpNo X0.here hx rfl (hb hby d4_68) rfl (XT.ii_lt_f hc1_68) kk) ?_
    refine own_via (G := T0.setTop (mkF m 72 #[.val (.ref oa), .val (.int (Int32.ofNat Ln)), .val (.int (Int32.ofNat kn)), .val (.int (Int32.ofNat (Ln - kn)))] [(.ref oa)])) (fun tt kk => XS.aloadN X0.here hx rfl (hb hby d4_71) rfl rfl kk) ?_
    refine own_via (G := T0.setTop (mkF m 73 #[.val (.ref oa), .val (.int (Int32.ofNat Ln)), .val (.int (Int32.ofNat kn)), .val (.int (Int32.ofNat (Ln - kn)))] [(.int (4 : Int32)), (.ref oa)])) (fun tt kk => XS.iconst X0.here hx rfl (hb hby d4_72) kk) ?_
    obtain ⟨cl2, Ar2, qc2, S2, NN2, H2, G2⟩ := id VA
    have in2 := inb_of (j := (4 : Int32)) S2 (own_inb (i := 4) (by have q := own_gei (j := 5) (by omega) (by decide) hc1_68; omega) (by omega))
    have hat2 : cl2.slots[((4 : Int32)).toNatClampNeg]? = some (.int (P.getD 4 0)) := H2.at in2 (own_pget P (i := 4) (by omega))
    refine own_via (G := T0.setTop (mkF m 74 #[.val (.ref oa), .val (.int (Int32.ofNat Ln)), .val (.int (Int32.ofNat kn)), .val (.int (Int32.ofNat (Ln - kn)))] [(.int (P.getD 4 0))])) (fun tt kk => X0.baloadBytes hx (j := (4 : Int32)) (v := (.int (P.getD 4 0))) (own_eqh e0 Ar2.1) (State.isArrayOf_alike hZ.alike Ar2.2.1) Ar2.2.2 in2 hat2 (g := (mkF m 73 #[.val (.ref oa), .val (.int (Int32.ofNat Ln)), .val (.int (Int32.ofNat kn)), .val (.int (Int32.ofNat (Ln - kn)))] [(.int (4 : Int32)), (.ref oa)])) rfl rfl (hb hby d4_73) tt kk) ?_
    refine own_via (G := T0.setTop (mkF m 75 #[.val (.ref oa), .val (.int (Int32.ofNat Ln)), .val (.int (Int32.ofNat kn)), .val (.int (Int32.ofNat (Ln - kn)))] [(.ref oa), (.int (P.getD 4 0))])) (fun tt kk => XS.aloadN X0.here hx rfl (hb hby d4_74) rfl rfl kk) ?_
    refine own_via (G := T0.setTop (mkF m 76 #[.val (.ref oa), .val (.int (Int32.ofNat Ln)), .val (.int (Int32.ofNat kn)), .val (.int (Int32.ofNat (Ln - kn)))] [(.int (Int32.ofNat (Ln - kn))), (.ref oa), (.int (P.getD 4 0))])) (fun tt kk => XS.iloadN X0.here hx rfl (hb hby d4_75) rfl kk) ?_
    refine own_via (G := T0.setTop (mkF m 77 #[.val (.ref oa), .val (.int (Int32.ofNat Ln)), .val (.int (Int32.ofNat kn)), .val (.int (Int32.ofNat (Ln - kn)))] [(.int (4 : Int32)), (.int (Int32.ofNat (Ln - kn))), (.ref oa), (.int (P.getD 4 0))])) (fun tt kk => XS.iconst X0.here hx rfl (hb hby d4_76) kk) ?_
    refine own_via (G := T0.setTop (mkF m 78 #[.val (.ref oa), .val (.int (Int32.ofNat Ln)), .val (.int (Int32.ofNat kn)), .val (.int (Int32.ofNat (Ln - kn)))] [(.int ((Int32.ofNat (Ln - kn)) + (4 : Int32))), (.ref oa), (.int (P.getD 4 0))])) (fun tt kk => XS.iadd X0.here hx rfl (hb hby d4_77) rfl kk) ?_
    rw [show (Int32.ofNat (Ln - kn) + (4 : Int32)) = Int32.ofNat (Ln - kn + 4) from own_addn _ 4]
    obtain ⟨cl3, Ar3, qc3, S3, NN3, H3, G3⟩ := id VA
    have in3 := inb_of (j := (Int32.ofNat (Ln - kn + 4))) S3 (own_inb (i := (Ln - kn + 4)) (by have q := own_gei (j := 5) (by omega) (by decide) hc1_68; omega) (by omega))
    have hat3 : cl3.slots[((Int32.ofNat (Ln - kn + 4))).toNatClampNeg]? = some (.int (P.getD (Ln - kn + 4) 0)) := H3.at in3 (own_pget P (i := (Ln - kn + 4)) (by omega))
    refine own_via (G := T0.setTop (mkF m 79 #[.val (.ref oa), .val (.int (Int32.ofNat Ln)), .val (.int (Int32.ofNat kn)), .val (.int (Int32.ofNat (Ln - kn)))] [(.int (P.getD (Ln - kn + 4) 0)), (.int (P.getD 4 0))])) (fun tt kk => X0.baloadBytes hx (j := (Int32.ofNat (Ln - kn + 4))) (v := (.int (P.getD (Ln - kn + 4) 0))) (own_eqh e0 Ar3.1) (State.isArrayOf_alike hZ.alike Ar3.2.1) Ar3.2.2 in3 hat3 (g := (mkF m 78 #[.val (.ref oa), .val (.int (Int32.ofNat Ln)), .val (.int (Int32.ofNat kn)), .val (.int (Int32.ofNat (Ln - kn)))] [(.int (Int32.ofNat (Ln - kn + 4))), (.ref oa), (.int (P.getD 4 0))])) rfl rfl (hb hby d4_78) tt kk) ?_
    by_cases hc4_79 : (P.getD 4 0) = (P.getD (Ln - kn + 4) 0)
    · refine own_via (G := T0.setTop (mkF m 82 #[.val (.ref oa), .val (.int (Int32.ofNat Ln)), .val (.int (Int32.ofNat kn)), .val (.int (Int32.ofNat (Ln - kn)))] [])) (fun tt kk => XS.icmpNo X0.here hx rfl (hb hby d4_79) rfl (XT.ii_ne_f hc4_79) kk) ?_
      exact b4_82 oa ka n P Ln kn r ⟨hx, hZ, hw, hby, hml, hown, hret, hlk, hnm⟩ X0 e0 Z0 N0 VA hP hn6 hL hk (hr.trans (congrArg own_b2i (own_ib5_e (own_et (by have q := own_gei (j := 5) (by omega) (by decide) hc1_68; omega) (by have q := own_gei (j := 5) (by omega) (by decide) hc1_68; omega) hc4_79))))
    · refine own_via (G := T0.setTop (mkF m 86 #[.val (.ref oa), .val (.int (Int32.ofNat Ln)), .val (.int (Int32.ofNat kn)), .val (.int (Int32.ofNat (Ln - kn)))] [])) (fun tt kk => XS.icmpYes X0.here hx rfl (pc0 := 79) (pc' := 86) rfl (hb hby d4_79) rfl (XT.ii_ne_t hc4_79) (by decide) (by decide) kk) ?_
      refine own_via (G := T0.setTop (mkF m 87 #[.val (.ref oa), .val (.int (Int32.ofNat Ln)), .val (.int (Int32.ofNat kn)), .val (.int (Int32.ofNat (Ln - kn)))] [(.int (0 : Int32))])) (fun tt kk => XS.iconst X0.here hx rfl (hb hby d4_86) kk) ?_
      exact own_fin X0 e0 (v := some (.int (0 : Int32))) (fun h => by rw [hret] at h; cases h) hlk (fun fs hr => retN X0 hx (t := .boolean) hret (by simp) (hb hby d4_87) hr) (show ((fun (v : Option Value) (h : Heap) (L : List Loc) => v = some (.int r) ∧ Fr n0 L ∧ h = h0)) (some (.int (0 : Int32))) h0 _ from ⟨(by rw [hr, own_ib5_f (by have q := own_gei (j := 5) (by omega) (by decide) hc1_68; omega) (own_ef hc4_79)]; rfl), N0, rfl⟩) (by decide) (by decide)
theorem d4_50 : decode method_4_code 50 = .ok (.iload_n 2, 1) := by decide +kernel
theorem d4_51 : decode method_4_code 51 = .ok (.iconst 4, 1) := by decide +kernel
theorem d4_52 : decode method_4_code 52 = .ok (.if_icmp .lt 14, 3) := by decide +kernel
theorem d4_55 : decode method_4_code 55 = .ok (.aload_n 0, 1) := by decide +kernel
theorem d4_56 : decode method_4_code 56 = .ok (.iconst 3, 1) := by decide +kernel
theorem d4_57 : decode method_4_code 57 = .ok (.baload, 1) := by decide +kernel
theorem d4_58 : decode method_4_code 58 = .ok (.aload_n 0, 1) := by decide +kernel
theorem d4_59 : decode method_4_code 59 = .ok (.iload_n 3, 1) := by decide +kernel
theorem d4_60 : decode method_4_code 60 = .ok (.iconst 3, 1) := by decide +kernel
theorem d4_61 : decode method_4_code 61 = .ok (.iadd, 1) := by decide +kernel
theorem d4_62 : decode method_4_code 62 = .ok (.baload, 1) := by decide +kernel
theorem d4_63 : decode method_4_code 63 = .ok (.if_icmp .ne 23, 3) := by decide +kernel
set_option maxRecDepth 65536 in
set_option maxHeartbeats 40000000 in
theorem b4_50 {p : Program} {l : Launch} {e : Env} {s : State} {m : MethodId} {args : Array Value} {below : List Frame} {meth : Method} {c : Code} {T0 : State} {locs : List Loc} {Z : State} {a0 : Array Value} {h0 : Heap} {n0 : Nat} (oa : Addr) (ka : ClassId) (n : Nat) (P : List Int32) (Ln : Nat) (kn : Nat) (r : Int32)
    (C : own_C p s m meth c Z a0 method_4_code 4 "com/example/clew/clew/KnuthMorrisPrattFailureFunctionPinLaw" (some .boolean) "isBorder") (X0 : Stand p l e ({ frames := 0, cells := 0, slots := 0, locals := 0 } : Room) s m args below meth c T0 locs 0 0) (e0 : T0.heap = h0) (Z0 : n0 ≤ h0.size) (N0 : Fr n0 locs) (VA : Arv Z h0 oa ka .byte (Int32.ofNat n) (P.map Value.int) (.int (0 : Int32))) (hP : P.length = n) (hn6 : n ≤ 6) (hL : Ln ≤ n) (hk : kn < Ln) (hr : r = own_b2i (own_ib4 (own_e P) Ln kn)) :
    own_Go p.tables e below (T0.setTop (mkF m 50 #[.val (.ref oa), .val (.int (Int32.ofNat Ln)), .val (.int (Int32.ofNat kn)), .val (.int (Int32.ofNat (Ln - kn)))] [])) (own_K s (fun (v : Option Value) (h : Heap) (L : List Loc) => v = some (.int r) ∧ Fr n0 L ∧ h = h0) ({ frames := 0, cells := 0, slots := 0, locals := 0 } : Room).cells ({ frames := 0, cells := 0, slots := 0, locals := 0 } : Room).slots) := by
  obtain ⟨hx, hZ, hw, hby, hml, hown, hret, hlk, hnm⟩ := C
  refine own_via (G := T0.setTop (mkF m 51 #[.val (.ref oa), .val (.int (Int32.ofNat Ln)), .val (.int (Int32.ofNat kn)), .val (.int (Int32.ofNat (Ln - kn)))] [(.int (Int32.ofNat kn))])) (fun tt kk => XS.iloadN X0.here hx rfl (hb hby d4_50) rfl kk) ?_
  refine own_via (G := T0.setTop (mkF m 52 #[.val (.ref oa), .val (.int (Int32.ofNat Ln)), .val (.int (Int32.ofNat kn)), .val (.int (Int32.ofNat (Ln - kn)))] [(.int (4 : Int32)), (.int (Int32.ofNat kn))])) (fun tt kk => XS.iconst X0.here hx rfl (hb hby d4_51) kk) ?_
  by_cases hc1_52 : (Int32.ofNat kn) < (4 : Int32)
  · refine own_via (G := T0.setTop (mkF m 66 #[.val (.ref oa), .val (.int (Int32.ofNat Ln)), .val (.int (Int32.ofNat kn)), .val (.int (Int32.ofNat (Ln - kn)))] [])) (fun tt kk => XS.icmpYes X0.here hx rfl (pc0 := 52) (pc' := 66) rfl (hb hby d4_52) rfl (XT.ii_lt_t hc1_52) (by decide) (by decide) kk) ?_
    exact b4_66 oa ka n P Ln kn r ⟨hx, hZ, hw, hby, hml, hown, hret, hlk, hnm⟩ X0 e0 Z0 N0 VA hP hn6 hL hk (hr.trans (congrArg own_b2i (own_ib4_t (own_lei (j := 4) (by omega) (by decide) hc1_52))))
  · refine own_via (G := T0.setTop (mkF m 55 #[.val (.ref oa), .val (.int (Int32.ofNat Ln)), .val (.int (Int32.ofNat kn)), .val (.int (Int32.ofNat (Ln - kn)))] [])) (fun tt kk => XS.icmpNo X0.here hx rfl (hb hby d4_52) rfl (XT.ii_lt_f hc1_52) kk) ?_
    refine own_via (G := T0.setTop (mkF m 56 #[.val (.ref oa), .val (.int (Int32.ofNat Ln)), .val (.int (Int32.ofNat kn)), .val (.int (Int32.ofNat (Ln - kn)))] [(.ref oa)])) (fun tt kk => XS.aloadN X0.here hx rfl (hb hby d4_55) rfl rfl kk) ?_
    refine own_via (G := T0.setTop (mkF m 57 #[.val (.ref oa), .val (.int (Int32.ofNat Ln)), .val (.int (Int32.ofNat kn)), .val (.int (Int32.ofNat (Ln - kn)))] [(.int (3 : Int32)), (.ref oa)])) (fun tt kk => XS.iconst X0.here hx rfl (hb hby d4_56) kk) ?_
    obtain ⟨cl2, Ar2, qc2, S2, NN2, H2, G2⟩ := id VA
    have in2 := inb_of (j := (3 : Int32)) S2 (own_inb (i := 3) (by have q := own_gei (j := 4) (by omega) (by decide) hc1_52; omega) (by omega))
    have hat2 : cl2.slots[((3 : Int32)).toNatClampNeg]? = some (.int (P.getD 3 0)) := H2.at in2 (own_pget P (i := 3) (by omega))
    refine own_via (G := T0.setTop (mkF m 58 #[.val (.ref oa), .val (.int (Int32.ofNat Ln)), .val (.int (Int32.ofNat kn)), .val (.int (Int32.ofNat (Ln - kn)))] [(.int (P.getD 3 0))])) (fun tt kk => X0.baloadBytes hx (j := (3 : Int32)) (v := (.int (P.getD 3 0))) (own_eqh e0 Ar2.1) (State.isArrayOf_alike hZ.alike Ar2.2.1) Ar2.2.2 in2 hat2 (g := (mkF m 57 #[.val (.ref oa), .val (.int (Int32.ofNat Ln)), .val (.int (Int32.ofNat kn)), .val (.int (Int32.ofNat (Ln - kn)))] [(.int (3 : Int32)), (.ref oa)])) rfl rfl (hb hby d4_57) tt kk) ?_
    refine own_via (G := T0.setTop (mkF m 59 #[.val (.ref oa), .val (.int (Int32.ofNat Ln)), .val (.int (Int32.ofNat kn)), .val (.int (Int32.ofNat (Ln - kn)))] [(.ref oa), (.int (P.getD 3 0))])) (fun tt kk => XS.aloadN X0.here hx rfl (hb hby d4_58) rfl rfl kk) ?_
    refine own_via (G := T0.setTop (mkF m 60 #[.val (.ref oa), .val (.int (Int32.ofNat Ln)), .val (.int (Int32.ofNat kn)), .val (.int (Int32.ofNat (Ln - kn)))] [(.int (Int32.ofNat (Ln - kn))), (.ref oa), (.int (P.getD 3 0))])) (fun tt kk => XS.iloadN X0.here hx rfl (hb hby d4_59) rfl kk) ?_
    refine own_via (G := T0.setTop (mkF m 61 #[.val (.ref oa), .val (.int (Int32.ofNat Ln)), .val (.int (Int32.ofNat kn)), .val (.int (Int32.ofNat (Ln - kn)))] [(.int (3 : Int32)), (.int (Int32.ofNat (Ln - kn))), (.ref oa), (.int (P.getD 3 0))])) (fun tt kk => XS.iconst X0.here hx rfl (hb hby d4_60) kk) ?_
    refine own_via (G := T0.setTop (mkF m 62 #[.val (.ref oa), .val (.int (Int32.ofNat Ln)), .val (.int (Int32.ofNat kn)), .val (.int (Int32.ofNat (Ln - kn)))] [(.int ((Int32.ofNat (Ln - kn)) + (3 : Int32))), (.ref oa), (.int (P.getD 3 0))])) (fun tt kk => XS.iadd X0.here hx rfl (hb hby d4_61) rfl kk) ?_
    rw [show (Int32.ofNat (Ln - kn) + (3 : Int32)) = Int32.ofNat (Ln - kn + 3) from own_addn _ 3]
    obtain ⟨cl3, Ar3, qc3, S3, NN3, H3, G3⟩ := id VA
    have in3 := inb_of (j := (Int32.ofNat (Ln - kn + 3))) S3 (own_inb (i := (Ln - kn + 3)) (by have q := own_gei (j := 4) (by omega) (by decide) hc1_52; omega) (by omega))
    have hat3 : cl3.slots[((Int32.ofNat (Ln - kn + 3))).toNatClampNeg]? = some (.int (P.getD (Ln - kn + 3) 0)) := H3.at in3 (own_pget P (i := (Ln - kn + 3)) (by omega))
    refine own_via (G := T0.setTop (mkF m 63 #[.val (.ref oa), .val (.int (Int32.ofNat Ln)), .val (.int (Int32.ofNat kn)), .val (.int (Int32.ofNat (Ln - kn)))] [(.int (P.getD (Ln - kn + 3) 0)), (.int (P.getD 3 0))])) (fun tt kk => X0.baloadBytes hx (j := (Int32.ofNat (Ln - kn + 3))) (v := (.int (P.getD (Ln - kn + 3) 0))) (own_eqh e0 Ar3.1) (State.isArrayOf_alike hZ.alike Ar3.2.1) Ar3.2.2 in3 hat3 (g := (mkF m 62 #[.val (.ref oa), .val (.int (Int32.ofNat Ln)), .val (.int (Int32.ofNat kn)), .val (.int (Int32.ofNat (Ln - kn)))] [(.int (Int32.ofNat (Ln - kn + 3))), (.ref oa), (.int (P.getD 3 0))])) rfl rfl (hb hby d4_62) tt kk) ?_
    by_cases hc4_63 : (P.getD 3 0) = (P.getD (Ln - kn + 3) 0)
    · refine own_via (G := T0.setTop (mkF m 66 #[.val (.ref oa), .val (.int (Int32.ofNat Ln)), .val (.int (Int32.ofNat kn)), .val (.int (Int32.ofNat (Ln - kn)))] [])) (fun tt kk => XS.icmpNo X0.here hx rfl (hb hby d4_63) rfl (XT.ii_ne_f hc4_63) kk) ?_
      exact b4_66 oa ka n P Ln kn r ⟨hx, hZ, hw, hby, hml, hown, hret, hlk, hnm⟩ X0 e0 Z0 N0 VA hP hn6 hL hk (hr.trans (congrArg own_b2i (own_ib4_e (own_et (by have q := own_gei (j := 4) (by omega) (by decide) hc1_52; omega) (by have q := own_gei (j := 4) (by omega) (by decide) hc1_52; omega) hc4_63))))
    · refine own_via (G := T0.setTop (mkF m 86 #[.val (.ref oa), .val (.int (Int32.ofNat Ln)), .val (.int (Int32.ofNat kn)), .val (.int (Int32.ofNat (Ln - kn)))] [])) (fun tt kk => XS.icmpYes X0.here hx rfl (pc0 := 63) (pc' := 86) rfl (hb hby d4_63) rfl (XT.ii_ne_t hc4_63) (by decide) (by decide) kk) ?_
      refine own_via (G := T0.setTop (mkF m 87 #[.val (.ref oa), .val (.int (Int32.ofNat Ln)), .val (.int (Int32.ofNat kn)), .val (.int (Int32.ofNat (Ln - kn)))] [(.int (0 : Int32))])) (fun tt kk => XS.iconst X0.here hx rfl (hb hby d4_86) kk) ?_
      exact own_fin X0 e0 (v := some (.int (0 : Int32))) (fun h => by rw [hret] at h; cases h) hlk (fun fs hr => retN X0 hx (t := .boolean) hret (by simp) (hb hby d4_87) hr) (show ((fun (v : Option Value) (h : Heap) (L : List Loc) => v = some (.int r) ∧ Fr n0 L ∧ h = h0)) (some (.int (0 : Int32))) h0 _ from ⟨(by rw [hr, own_ib4_f (by have q := own_gei (j := 4) (by omega) (by decide) hc1_52; omega) (own_ef hc4_63)]; rfl), N0, rfl⟩) (by decide) (by decide)
theorem d4_34 : decode method_4_code 34 = .ok (.iload_n 2, 1) := by decide +kernel
theorem d4_35 : decode method_4_code 35 = .ok (.iconst 3, 1) := by decide +kernel
theorem d4_36 : decode method_4_code 36 = .ok (.if_icmp .lt 14, 3) := by decide +kernel
theorem d4_39 : decode method_4_code 39 = .ok (.aload_n 0, 1) := by decide +kernel
theorem d4_40 : decode method_4_code 40 = .ok (.iconst 2, 1) := by decide +kernel
theorem d4_41 : decode method_4_code 41 = .ok (.baload, 1) := by decide +kernel
theorem d4_42 : decode method_4_code 42 = .ok (.aload_n 0, 1) := by decide +kernel
theorem d4_43 : decode method_4_code 43 = .ok (.iload_n 3, 1) := by decide +kernel
theorem d4_44 : decode method_4_code 44 = .ok (.iconst 2, 1) := by decide +kernel
theorem d4_45 : decode method_4_code 45 = .ok (.iadd, 1) := by decide +kernel
theorem d4_46 : decode method_4_code 46 = .ok (.baload, 1) := by decide +kernel
theorem d4_47 : decode method_4_code 47 = .ok (.if_icmp .ne 39, 3) := by decide +kernel
set_option maxRecDepth 65536 in
set_option maxHeartbeats 40000000 in
theorem b4_34 {p : Program} {l : Launch} {e : Env} {s : State} {m : MethodId} {args : Array Value} {below : List Frame} {meth : Method} {c : Code} {T0 : State} {locs : List Loc} {Z : State} {a0 : Array Value} {h0 : Heap} {n0 : Nat} (oa : Addr) (ka : ClassId) (n : Nat) (P : List Int32) (Ln : Nat) (kn : Nat) (r : Int32)
    (C : own_C p s m meth c Z a0 method_4_code 4 "com/example/clew/clew/KnuthMorrisPrattFailureFunctionPinLaw" (some .boolean) "isBorder") (X0 : Stand p l e ({ frames := 0, cells := 0, slots := 0, locals := 0 } : Room) s m args below meth c T0 locs 0 0) (e0 : T0.heap = h0) (Z0 : n0 ≤ h0.size) (N0 : Fr n0 locs) (VA : Arv Z h0 oa ka .byte (Int32.ofNat n) (P.map Value.int) (.int (0 : Int32))) (hP : P.length = n) (hn6 : n ≤ 6) (hL : Ln ≤ n) (hk : kn < Ln) (hr : r = own_b2i (own_ib3 (own_e P) Ln kn)) :
    own_Go p.tables e below (T0.setTop (mkF m 34 #[.val (.ref oa), .val (.int (Int32.ofNat Ln)), .val (.int (Int32.ofNat kn)), .val (.int (Int32.ofNat (Ln - kn)))] [])) (own_K s (fun (v : Option Value) (h : Heap) (L : List Loc) => v = some (.int r) ∧ Fr n0 L ∧ h = h0) ({ frames := 0, cells := 0, slots := 0, locals := 0 } : Room).cells ({ frames := 0, cells := 0, slots := 0, locals := 0 } : Room).slots) := by
  obtain ⟨hx, hZ, hw, hby, hml, hown, hret, hlk, hnm⟩ := C
  refine own_via (G := T0.setTop (mkF m 35 #[.val (.ref oa), .val (.int (Int32.ofNat Ln)), .val (.int (Int32.ofNat kn)), .val (.int (Int32.ofNat (Ln - kn)))] [(.int (Int32.ofNat kn))])) (fun tt kk => XS.iloadN X0.here hx rfl (hb hby d4_34) rfl kk) ?_
  refine own_via (G := T0.setTop (mkF m 36 #[.val (.ref oa), .val (.int (Int32.ofNat Ln)), .val (.int (Int32.ofNat kn)), .val (.int (Int32.ofNat (Ln - kn)))] [(.int (3 : Int32)), (.int (Int32.ofNat kn))])) (fun tt kk => XS.iconst X0.here hx rfl (hb hby d4_35) kk) ?_
  by_cases hc1_36 : (Int32.ofNat kn) < (3 : Int32)
  · refine own_via (G := T0.setTop (mkF m 50 #[.val (.ref oa), .val (.int (Int32.ofNat Ln)), .val (.int (Int32.ofNat kn)), .val (.int (Int32.ofNat (Ln - kn)))] [])) (fun tt kk => XS.icmpYes X0.here hx rfl (pc0 := 36) (pc' := 50) rfl (hb hby d4_36) rfl (XT.ii_lt_t hc1_36) (by decide) (by decide) kk) ?_
    exact b4_50 oa ka n P Ln kn r ⟨hx, hZ, hw, hby, hml, hown, hret, hlk, hnm⟩ X0 e0 Z0 N0 VA hP hn6 hL hk (hr.trans (congrArg own_b2i (own_ib3_t (own_lei (j := 3) (by omega) (by decide) hc1_36))))
  · refine own_via (G := T0.setTop (mkF m 39 #[.val (.ref oa), .val (.int (Int32.ofNat Ln)), .val (.int (Int32.ofNat kn)), .val (.int (Int32.ofNat (Ln - kn)))] [])) (fun tt kk => XS.icmpNo X0.here hx rfl (hb hby d4_36) rfl (XT.ii_lt_f hc1_36) kk) ?_
    refine own_via (G := T0.setTop (mkF m 40 #[.val (.ref oa), .val (.int (Int32.ofNat Ln)), .val (.int (Int32.ofNat kn)), .val (.int (Int32.ofNat (Ln - kn)))] [(.ref oa)])) (fun tt kk => XS.aloadN X0.here hx rfl (hb hby d4_39) rfl rfl kk) ?_
    refine own_via (G := T0.setTop (mkF m 41 #[.val (.ref oa), .val (.int (Int32.ofNat Ln)), .val (.int (Int32.ofNat kn)), .val (.int (Int32.ofNat (Ln - kn)))] [(.int (2 : Int32)), (.ref oa)])) (fun tt kk => XS.iconst X0.here hx rfl (hb hby d4_40) kk) ?_
    obtain ⟨cl2, Ar2, qc2, S2, NN2, H2, G2⟩ := id VA
    have in2 := inb_of (j := (2 : Int32)) S2 (own_inb (i := 2) (by have q := own_gei (j := 3) (by omega) (by decide) hc1_36; omega) (by omega))
    have hat2 : cl2.slots[((2 : Int32)).toNatClampNeg]? = some (.int (P.getD 2 0)) := H2.at in2 (own_pget P (i := 2) (by omega))
    refine own_via (G := T0.setTop (mkF m 42 #[.val (.ref oa), .val (.int (Int32.ofNat Ln)), .val (.int (Int32.ofNat kn)), .val (.int (Int32.ofNat (Ln - kn)))] [(.int (P.getD 2 0))])) (fun tt kk => X0.baloadBytes hx (j := (2 : Int32)) (v := (.int (P.getD 2 0))) (own_eqh e0 Ar2.1) (State.isArrayOf_alike hZ.alike Ar2.2.1) Ar2.2.2 in2 hat2 (g := (mkF m 41 #[.val (.ref oa), .val (.int (Int32.ofNat Ln)), .val (.int (Int32.ofNat kn)), .val (.int (Int32.ofNat (Ln - kn)))] [(.int (2 : Int32)), (.ref oa)])) rfl rfl (hb hby d4_41) tt kk) ?_
    refine own_via (G := T0.setTop (mkF m 43 #[.val (.ref oa), .val (.int (Int32.ofNat Ln)), .val (.int (Int32.ofNat kn)), .val (.int (Int32.ofNat (Ln - kn)))] [(.ref oa), (.int (P.getD 2 0))])) (fun tt kk => XS.aloadN X0.here hx rfl (hb hby d4_42) rfl rfl kk) ?_
    refine own_via (G := T0.setTop (mkF m 44 #[.val (.ref oa), .val (.int (Int32.ofNat Ln)), .val (.int (Int32.ofNat kn)), .val (.int (Int32.ofNat (Ln - kn)))] [(.int (Int32.ofNat (Ln - kn))), (.ref oa), (.int (P.getD 2 0))])) (fun tt kk => XS.iloadN X0.here hx rfl (hb hby d4_43) rfl kk) ?_
    refine own_via (G := T0.setTop (mkF m 45 #[.val (.ref oa), .val (.int (Int32.ofNat Ln)), .val (.int (Int32.ofNat kn)), .val (.int (Int32.ofNat (Ln - kn)))] [(.int (2 : Int32)), (.int (Int32.ofNat (Ln - kn))), (.ref oa), (.int (P.getD 2 0))])) (fun tt kk => XS.iconst X0.here hx rfl (hb hby d4_44) kk) ?_
    refine own_via (G := T0.setTop (mkF m 46 #[.val (.ref oa), .val (.int (Int32.ofNat Ln)), .val (.int (Int32.ofNat kn)), .val (.int (Int32.ofNat (Ln - kn)))] [(.int ((Int32.ofNat (Ln - kn)) + (2 : Int32))), (.ref oa), (.int (P.getD 2 0))])) (fun tt kk => XS.iadd X0.here hx rfl (hb hby d4_45) rfl kk) ?_
    rw [show (Int32.ofNat (Ln - kn) + (2 : Int32)) = Int32.ofNat (Ln - kn + 2) from own_addn _ 2]
    obtain ⟨cl3, Ar3, qc3, S3, NN3, H3, G3⟩ := id VA
    have in3 := inb_of (j := (Int32.ofNat (Ln - kn + 2))) S3 (own_inb (i := (Ln - kn + 2)) (by have q := own_gei (j := 3) (by omega) (by decide) hc1_36; omega) (by omega))
    have hat3 : cl3.slots[((Int32.ofNat (Ln - kn + 2))).toNatClampNeg]? = some (.int (P.getD (Ln - kn + 2) 0)) := H3.at in3 (own_pget P (i := (Ln - kn + 2)) (by omega))
    refine own_via (G := T0.setTop (mkF m 47 #[.val (.ref oa), .val (.int (Int32.ofNat Ln)), .val (.int (Int32.ofNat kn)), .val (.int (Int32.ofNat (Ln - kn)))] [(.int (P.getD (Ln - kn + 2) 0)), (.int (P.getD 2 0))])) (fun tt kk => X0.baloadBytes hx (j := (Int32.ofNat (Ln - kn + 2))) (v := (.int (P.getD (Ln - kn + 2) 0))) (own_eqh e0 Ar3.1) (State.isArrayOf_alike hZ.alike Ar3.2.1) Ar3.2.2 in3 hat3 (g := (mkF m 46 #[.val (.ref oa), .val (.int (Int32.ofNat Ln)), .val (.int (Int32.ofNat kn)), .val (.int (Int32.ofNat (Ln - kn)))] [(.int (Int32.ofNat (Ln - kn + 2))), (.ref oa), (.int (P.getD 2 0))])) rfl rfl (hb hby d4_46) tt kk) ?_
    by_cases hc4_47 : (P.getD 2 0) = (P.getD (Ln - kn + 2) 0)
    · refine own_via (G := T0.setTop (mkF m 50 #[.val (.ref oa), .val (.int (Int32.ofNat Ln)), .val (.int (Int32.ofNat kn)), .val (.int (Int32.ofNat (Ln - kn)))] [])) (fun tt kk => XS.icmpNo X0.here hx rfl (hb hby d4_47) rfl (XT.ii_ne_f hc4_47) kk) ?_
      exact b4_50 oa ka n P Ln kn r ⟨hx, hZ, hw, hby, hml, hown, hret, hlk, hnm⟩ X0 e0 Z0 N0 VA hP hn6 hL hk (hr.trans (congrArg own_b2i (own_ib3_e (own_et (by have q := own_gei (j := 3) (by omega) (by decide) hc1_36; omega) (by have q := own_gei (j := 3) (by omega) (by decide) hc1_36; omega) hc4_47))))
    · refine own_via (G := T0.setTop (mkF m 86 #[.val (.ref oa), .val (.int (Int32.ofNat Ln)), .val (.int (Int32.ofNat kn)), .val (.int (Int32.ofNat (Ln - kn)))] [])) (fun tt kk => XS.icmpYes X0.here hx rfl (pc0 := 47) (pc' := 86) rfl (hb hby d4_47) rfl (XT.ii_ne_t hc4_47) (by decide) (by decide) kk) ?_
      refine own_via (G := T0.setTop (mkF m 87 #[.val (.ref oa), .val (.int (Int32.ofNat Ln)), .val (.int (Int32.ofNat kn)), .val (.int (Int32.ofNat (Ln - kn)))] [(.int (0 : Int32))])) (fun tt kk => XS.iconst X0.here hx rfl (hb hby d4_86) kk) ?_
      exact own_fin X0 e0 (v := some (.int (0 : Int32))) (fun h => by rw [hret] at h; cases h) hlk (fun fs hr => retN X0 hx (t := .boolean) hret (by simp) (hb hby d4_87) hr) (show ((fun (v : Option Value) (h : Heap) (L : List Loc) => v = some (.int r) ∧ Fr n0 L ∧ h = h0)) (some (.int (0 : Int32))) h0 _ from ⟨(by rw [hr, own_ib3_f (by have q := own_gei (j := 3) (by omega) (by decide) hc1_36; omega) (own_ef hc4_47)]; rfl), N0, rfl⟩) (by decide) (by decide)
theorem d4_18 : decode method_4_code 18 = .ok (.iload_n 2, 1) := by decide +kernel
theorem d4_19 : decode method_4_code 19 = .ok (.iconst 2, 1) := by decide +kernel
theorem d4_20 : decode method_4_code 20 = .ok (.if_icmp .lt 14, 3) := by decide +kernel
theorem d4_23 : decode method_4_code 23 = .ok (.aload_n 0, 1) := by decide +kernel
theorem d4_24 : decode method_4_code 24 = .ok (.iconst 1, 1) := by decide +kernel
theorem d4_25 : decode method_4_code 25 = .ok (.baload, 1) := by decide +kernel
theorem d4_26 : decode method_4_code 26 = .ok (.aload_n 0, 1) := by decide +kernel
theorem d4_27 : decode method_4_code 27 = .ok (.iload_n 3, 1) := by decide +kernel
theorem d4_28 : decode method_4_code 28 = .ok (.iconst 1, 1) := by decide +kernel
theorem d4_29 : decode method_4_code 29 = .ok (.iadd, 1) := by decide +kernel
theorem d4_30 : decode method_4_code 30 = .ok (.baload, 1) := by decide +kernel
theorem d4_31 : decode method_4_code 31 = .ok (.if_icmp .ne 55, 3) := by decide +kernel
set_option maxRecDepth 65536 in
set_option maxHeartbeats 40000000 in
theorem b4_18 {p : Program} {l : Launch} {e : Env} {s : State} {m : MethodId} {args : Array Value} {below : List Frame} {meth : Method} {c : Code} {T0 : State} {locs : List Loc} {Z : State} {a0 : Array Value} {h0 : Heap} {n0 : Nat} (oa : Addr) (ka : ClassId) (n : Nat) (P : List Int32) (Ln : Nat) (kn : Nat) (r : Int32)
    (C : own_C p s m meth c Z a0 method_4_code 4 "com/example/clew/clew/KnuthMorrisPrattFailureFunctionPinLaw" (some .boolean) "isBorder") (X0 : Stand p l e ({ frames := 0, cells := 0, slots := 0, locals := 0 } : Room) s m args below meth c T0 locs 0 0) (e0 : T0.heap = h0) (Z0 : n0 ≤ h0.size) (N0 : Fr n0 locs) (VA : Arv Z h0 oa ka .byte (Int32.ofNat n) (P.map Value.int) (.int (0 : Int32))) (hP : P.length = n) (hn6 : n ≤ 6) (hL : Ln ≤ n) (hk : kn < Ln) (hr : r = own_b2i (own_ib2 (own_e P) Ln kn)) :
    own_Go p.tables e below (T0.setTop (mkF m 18 #[.val (.ref oa), .val (.int (Int32.ofNat Ln)), .val (.int (Int32.ofNat kn)), .val (.int (Int32.ofNat (Ln - kn)))] [])) (own_K s (fun (v : Option Value) (h : Heap) (L : List Loc) => v = some (.int r) ∧ Fr n0 L ∧ h = h0) ({ frames := 0, cells := 0, slots := 0, locals := 0 } : Room).cells ({ frames := 0, cells := 0, slots := 0, locals := 0 } : Room).slots) := by
  obtain ⟨hx, hZ, hw, hby, hml, hown, hret, hlk, hnm⟩ := C
  refine own_via (G := T0.setTop (mkF m 19 #[.val (.ref oa), .val (.int (Int32.ofNat Ln)), .val (.int (Int32.ofNat kn)), .val (.int (Int32.ofNat (Ln - kn)))] [(.int (Int32.ofNat kn))])) (fun tt kk => XS.iloadN X0.here hx rfl (hb hby d4_18) rfl kk) ?_
  refine own_via (G := T0.setTop (mkF m 20 #[.val (.ref oa), .val (.int (Int32.ofNat Ln)), .val (.int (Int32.ofNat kn)), .val (.int (Int32.ofNat (Ln - kn)))] [(.int (2 : Int32)), (.int (Int32.ofNat kn))])) (fun tt kk => XS.iconst X0.here hx rfl (hb hby d4_19) kk) ?_
  by_cases hc1_20 : (Int32.ofNat kn) < (2 : Int32)
  · refine own_via (G := T0.setTop (mkF m 34 #[.val (.ref oa), .val (.int (Int32.ofNat Ln)), .val (.int (Int32.ofNat kn)), .val (.int (Int32.ofNat (Ln - kn)))] [])) (fun tt kk => XS.icmpYes X0.here hx rfl (pc0 := 20) (pc' := 34) rfl (hb hby d4_20) rfl (XT.ii_lt_t hc1_20) (by decide) (by decide) kk) ?_
    exact b4_34 oa ka n P Ln kn r ⟨hx, hZ, hw, hby, hml, hown, hret, hlk, hnm⟩ X0 e0 Z0 N0 VA hP hn6 hL hk (hr.trans (congrArg own_b2i (own_ib2_t (own_lei (j := 2) (by omega) (by decide) hc1_20))))
  · refine own_via (G := T0.setTop (mkF m 23 #[.val (.ref oa), .val (.int (Int32.ofNat Ln)), .val (.int (Int32.ofNat kn)), .val (.int (Int32.ofNat (Ln - kn)))] [])) (fun tt kk => XS.icmpNo X0.here hx rfl (hb hby d4_20) rfl (XT.ii_lt_f hc1_20) kk) ?_
    refine own_via (G := T0.setTop (mkF m 24 #[.val (.ref oa), .val (.int (Int32.ofNat Ln)), .val (.int (Int32.ofNat kn)), .val (.int (Int32.ofNat (Ln - kn)))] [(.ref oa)])) (fun tt kk => XS.aloadN X0.here hx rfl (hb hby d4_23) rfl rfl kk) ?_
    refine own_via (G := T0.setTop (mkF m 25 #[.val (.ref oa), .val (.int (Int32.ofNat Ln)), .val (.int (Int32.ofNat kn)), .val (.int (Int32.ofNat (Ln - kn)))] [(.int (1 : Int32)), (.ref oa)])) (fun tt kk => XS.iconst X0.here hx rfl (hb hby d4_24) kk) ?_
    obtain ⟨cl2, Ar2, qc2, S2, NN2, H2, G2⟩ := id VA
    have in2 := inb_of (j := (1 : Int32)) S2 (own_inb (i := 1) (by have q := own_gei (j := 2) (by omega) (by decide) hc1_20; omega) (by omega))
    have hat2 : cl2.slots[((1 : Int32)).toNatClampNeg]? = some (.int (P.getD 1 0)) := H2.at in2 (own_pget P (i := 1) (by omega))
    refine own_via (G := T0.setTop (mkF m 26 #[.val (.ref oa), .val (.int (Int32.ofNat Ln)), .val (.int (Int32.ofNat kn)), .val (.int (Int32.ofNat (Ln - kn)))] [(.int (P.getD 1 0))])) (fun tt kk => X0.baloadBytes hx (j := (1 : Int32)) (v := (.int (P.getD 1 0))) (own_eqh e0 Ar2.1) (State.isArrayOf_alike hZ.alike Ar2.2.1) Ar2.2.2 in2 hat2 (g := (mkF m 25 #[.val (.ref oa), .val (.int (Int32.ofNat Ln)), .val (.int (Int32.ofNat kn)), .val (.int (Int32.ofNat (Ln - kn)))] [(.int (1 : Int32)), (.ref oa)])) rfl rfl (hb hby d4_25) tt kk) ?_
    refine own_via (G := T0.setTop (mkF m 27 #[.val (.ref oa), .val (.int (Int32.ofNat Ln)), .val (.int (Int32.ofNat kn)), .val (.int (Int32.ofNat (Ln - kn)))] [(.ref oa), (.int (P.getD 1 0))])) (fun tt kk => XS.aloadN X0.here hx rfl (hb hby d4_26) rfl rfl kk) ?_
    refine own_via (G := T0.setTop (mkF m 28 #[.val (.ref oa), .val (.int (Int32.ofNat Ln)), .val (.int (Int32.ofNat kn)), .val (.int (Int32.ofNat (Ln - kn)))] [(.int (Int32.ofNat (Ln - kn))), (.ref oa), (.int (P.getD 1 0))])) (fun tt kk => XS.iloadN X0.here hx rfl (hb hby d4_27) rfl kk) ?_
    refine own_via (G := T0.setTop (mkF m 29 #[.val (.ref oa), .val (.int (Int32.ofNat Ln)), .val (.int (Int32.ofNat kn)), .val (.int (Int32.ofNat (Ln - kn)))] [(.int (1 : Int32)), (.int (Int32.ofNat (Ln - kn))), (.ref oa), (.int (P.getD 1 0))])) (fun tt kk => XS.iconst X0.here hx rfl (hb hby d4_28) kk) ?_
    refine own_via (G := T0.setTop (mkF m 30 #[.val (.ref oa), .val (.int (Int32.ofNat Ln)), .val (.int (Int32.ofNat kn)), .val (.int (Int32.ofNat (Ln - kn)))] [(.int ((Int32.ofNat (Ln - kn)) + (1 : Int32))), (.ref oa), (.int (P.getD 1 0))])) (fun tt kk => XS.iadd X0.here hx rfl (hb hby d4_29) rfl kk) ?_
    rw [show (Int32.ofNat (Ln - kn) + (1 : Int32)) = Int32.ofNat (Ln - kn + 1) from own_addn _ 1]
    obtain ⟨cl3, Ar3, qc3, S3, NN3, H3, G3⟩ := id VA
    have in3 := inb_of (j := (Int32.ofNat (Ln - kn + 1))) S3 (own_inb (i := (Ln - kn + 1)) (by have q := own_gei (j := 2) (by omega) (by decide) hc1_20; omega) (by omega))
    have hat3 : cl3.slots[((Int32.ofNat (Ln - kn + 1))).toNatClampNeg]? = some (.int (P.getD (Ln - kn + 1) 0)) := H3.at in3 (own_pget P (i := (Ln - kn + 1)) (by omega))
    refine own_via (G := T0.setTop (mkF m 31 #[.val (.ref oa), .val (.int (Int32.ofNat Ln)), .val (.int (Int32.ofNat kn)), .val (.int (Int32.ofNat (Ln - kn)))] [(.int (P.getD (Ln - kn + 1) 0)), (.int (P.getD 1 0))])) (fun tt kk => X0.baloadBytes hx (j := (Int32.ofNat (Ln - kn + 1))) (v := (.int (P.getD (Ln - kn + 1) 0))) (own_eqh e0 Ar3.1) (State.isArrayOf_alike hZ.alike Ar3.2.1) Ar3.2.2 in3 hat3 (g := (mkF m 30 #[.val (.ref oa), .val (.int (Int32.ofNat Ln)), .val (.int (Int32.ofNat kn)), .val (.int (Int32.ofNat (Ln - kn)))] [(.int (Int32.ofNat (Ln - kn + 1))), (.ref oa), (.int (P.getD 1 0))])) rfl rfl (hb hby d4_30) tt kk) ?_
    by_cases hc4_31 : (P.getD 1 0) = (P.getD (Ln - kn + 1) 0)
    · refine own_via (G := T0.setTop (mkF m 34 #[.val (.ref oa), .val (.int (Int32.ofNat Ln)), .val (.int (Int32.ofNat kn)), .val (.int (Int32.ofNat (Ln - kn)))] [])) (fun tt kk => XS.icmpNo X0.here hx rfl (hb hby d4_31) rfl (XT.ii_ne_f hc4_31) kk) ?_
      exact b4_34 oa ka n P Ln kn r ⟨hx, hZ, hw, hby, hml, hown, hret, hlk, hnm⟩ X0 e0 Z0 N0 VA hP hn6 hL hk (hr.trans (congrArg own_b2i (own_ib2_e (own_et (by have q := own_gei (j := 2) (by omega) (by decide) hc1_20; omega) (by have q := own_gei (j := 2) (by omega) (by decide) hc1_20; omega) hc4_31))))
    · refine own_via (G := T0.setTop (mkF m 86 #[.val (.ref oa), .val (.int (Int32.ofNat Ln)), .val (.int (Int32.ofNat kn)), .val (.int (Int32.ofNat (Ln - kn)))] [])) (fun tt kk => XS.icmpYes X0.here hx rfl (pc0 := 31) (pc' := 86) rfl (hb hby d4_31) rfl (XT.ii_ne_t hc4_31) (by decide) (by decide) kk) ?_
      refine own_via (G := T0.setTop (mkF m 87 #[.val (.ref oa), .val (.int (Int32.ofNat Ln)), .val (.int (Int32.ofNat kn)), .val (.int (Int32.ofNat (Ln - kn)))] [(.int (0 : Int32))])) (fun tt kk => XS.iconst X0.here hx rfl (hb hby d4_86) kk) ?_
      exact own_fin X0 e0 (v := some (.int (0 : Int32))) (fun h => by rw [hret] at h; cases h) hlk (fun fs hr => retN X0 hx (t := .boolean) hret (by simp) (hb hby d4_87) hr) (show ((fun (v : Option Value) (h : Heap) (L : List Loc) => v = some (.int r) ∧ Fr n0 L ∧ h = h0)) (some (.int (0 : Int32))) h0 _ from ⟨(by rw [hr, own_ib2_f (by have q := own_gei (j := 2) (by omega) (by decide) hc1_20; omega) (own_ef hc4_31)]; rfl), N0, rfl⟩) (by decide) (by decide)
theorem d4_4 : decode method_4_code 4 = .ok (.iload_n 2, 1) := by decide +kernel
theorem d4_5 : decode method_4_code 5 = .ok (.iconst 1, 1) := by decide +kernel
theorem d4_6 : decode method_4_code 6 = .ok (.if_icmp .lt 12, 3) := by decide +kernel
theorem d4_9 : decode method_4_code 9 = .ok (.aload_n 0, 1) := by decide +kernel
theorem d4_10 : decode method_4_code 10 = .ok (.iconst 0, 1) := by decide +kernel
theorem d4_11 : decode method_4_code 11 = .ok (.baload, 1) := by decide +kernel
theorem d4_12 : decode method_4_code 12 = .ok (.aload_n 0, 1) := by decide +kernel
theorem d4_13 : decode method_4_code 13 = .ok (.iload_n 3, 1) := by decide +kernel
theorem d4_14 : decode method_4_code 14 = .ok (.baload, 1) := by decide +kernel
theorem d4_15 : decode method_4_code 15 = .ok (.if_icmp .ne 71, 3) := by decide +kernel
set_option maxRecDepth 65536 in
set_option maxHeartbeats 40000000 in
theorem b4_4 {p : Program} {l : Launch} {e : Env} {s : State} {m : MethodId} {args : Array Value} {below : List Frame} {meth : Method} {c : Code} {T0 : State} {locs : List Loc} {Z : State} {a0 : Array Value} {h0 : Heap} {n0 : Nat} (oa : Addr) (ka : ClassId) (n : Nat) (P : List Int32) (Ln : Nat) (kn : Nat) (r : Int32)
    (C : own_C p s m meth c Z a0 method_4_code 4 "com/example/clew/clew/KnuthMorrisPrattFailureFunctionPinLaw" (some .boolean) "isBorder") (X0 : Stand p l e ({ frames := 0, cells := 0, slots := 0, locals := 0 } : Room) s m args below meth c T0 locs 0 0) (e0 : T0.heap = h0) (Z0 : n0 ≤ h0.size) (N0 : Fr n0 locs) (VA : Arv Z h0 oa ka .byte (Int32.ofNat n) (P.map Value.int) (.int (0 : Int32))) (hP : P.length = n) (hn6 : n ≤ 6) (hL : Ln ≤ n) (hk : kn < Ln) (hr : r = own_b2i (own_ib1 (own_e P) Ln kn)) :
    own_Go p.tables e below (T0.setTop (mkF m 4 #[.val (.ref oa), .val (.int (Int32.ofNat Ln)), .val (.int (Int32.ofNat kn)), .val (.int (Int32.ofNat (Ln - kn)))] [])) (own_K s (fun (v : Option Value) (h : Heap) (L : List Loc) => v = some (.int r) ∧ Fr n0 L ∧ h = h0) ({ frames := 0, cells := 0, slots := 0, locals := 0 } : Room).cells ({ frames := 0, cells := 0, slots := 0, locals := 0 } : Room).slots) := by
  obtain ⟨hx, hZ, hw, hby, hml, hown, hret, hlk, hnm⟩ := C
  refine own_via (G := T0.setTop (mkF m 5 #[.val (.ref oa), .val (.int (Int32.ofNat Ln)), .val (.int (Int32.ofNat kn)), .val (.int (Int32.ofNat (Ln - kn)))] [(.int (Int32.ofNat kn))])) (fun tt kk => XS.iloadN X0.here hx rfl (hb hby d4_4) rfl kk) ?_
  refine own_via (G := T0.setTop (mkF m 6 #[.val (.ref oa), .val (.int (Int32.ofNat Ln)), .val (.int (Int32.ofNat kn)), .val (.int (Int32.ofNat (Ln - kn)))] [(.int (1 : Int32)), (.int (Int32.ofNat kn))])) (fun tt kk => XS.iconst X0.here hx rfl (hb hby d4_5) kk) ?_
  by_cases hc1_6 : (Int32.ofNat kn) < (1 : Int32)
  · refine own_via (G := T0.setTop (mkF m 18 #[.val (.ref oa), .val (.int (Int32.ofNat Ln)), .val (.int (Int32.ofNat kn)), .val (.int (Int32.ofNat (Ln - kn)))] [])) (fun tt kk => XS.icmpYes X0.here hx rfl (pc0 := 6) (pc' := 18) rfl (hb hby d4_6) rfl (XT.ii_lt_t hc1_6) (by decide) (by decide) kk) ?_
    exact b4_18 oa ka n P Ln kn r ⟨hx, hZ, hw, hby, hml, hown, hret, hlk, hnm⟩ X0 e0 Z0 N0 VA hP hn6 hL hk (hr.trans (congrArg own_b2i (own_ib1_t (own_lei (j := 1) (by omega) (by decide) hc1_6))))
  · refine own_via (G := T0.setTop (mkF m 9 #[.val (.ref oa), .val (.int (Int32.ofNat Ln)), .val (.int (Int32.ofNat kn)), .val (.int (Int32.ofNat (Ln - kn)))] [])) (fun tt kk => XS.icmpNo X0.here hx rfl (hb hby d4_6) rfl (XT.ii_lt_f hc1_6) kk) ?_
    refine own_via (G := T0.setTop (mkF m 10 #[.val (.ref oa), .val (.int (Int32.ofNat Ln)), .val (.int (Int32.ofNat kn)), .val (.int (Int32.ofNat (Ln - kn)))] [(.ref oa)])) (fun tt kk => XS.aloadN X0.here hx rfl (hb hby d4_9) rfl rfl kk) ?_
    refine own_via (G := T0.setTop (mkF m 11 #[.val (.ref oa), .val (.int (Int32.ofNat Ln)), .val (.int (Int32.ofNat kn)), .val (.int (Int32.ofNat (Ln - kn)))] [(.int (0 : Int32)), (.ref oa)])) (fun tt kk => XS.iconst X0.here hx rfl (hb hby d4_10) kk) ?_
    obtain ⟨cl2, Ar2, qc2, S2, NN2, H2, G2⟩ := id VA
    have in2 := inb_of (j := (0 : Int32)) S2 (own_inb (i := 0) (by have q := own_gei (j := 1) (by omega) (by decide) hc1_6; omega) (by omega))
    have hat2 : cl2.slots[((0 : Int32)).toNatClampNeg]? = some (.int (P.getD 0 0)) := H2.at in2 (own_pget P (i := 0) (by omega))
    refine own_via (G := T0.setTop (mkF m 12 #[.val (.ref oa), .val (.int (Int32.ofNat Ln)), .val (.int (Int32.ofNat kn)), .val (.int (Int32.ofNat (Ln - kn)))] [(.int (P.getD 0 0))])) (fun tt kk => X0.baloadBytes hx (j := (0 : Int32)) (v := (.int (P.getD 0 0))) (own_eqh e0 Ar2.1) (State.isArrayOf_alike hZ.alike Ar2.2.1) Ar2.2.2 in2 hat2 (g := (mkF m 11 #[.val (.ref oa), .val (.int (Int32.ofNat Ln)), .val (.int (Int32.ofNat kn)), .val (.int (Int32.ofNat (Ln - kn)))] [(.int (0 : Int32)), (.ref oa)])) rfl rfl (hb hby d4_11) tt kk) ?_
    refine own_via (G := T0.setTop (mkF m 13 #[.val (.ref oa), .val (.int (Int32.ofNat Ln)), .val (.int (Int32.ofNat kn)), .val (.int (Int32.ofNat (Ln - kn)))] [(.ref oa), (.int (P.getD 0 0))])) (fun tt kk => XS.aloadN X0.here hx rfl (hb hby d4_12) rfl rfl kk) ?_
    refine own_via (G := T0.setTop (mkF m 14 #[.val (.ref oa), .val (.int (Int32.ofNat Ln)), .val (.int (Int32.ofNat kn)), .val (.int (Int32.ofNat (Ln - kn)))] [(.int (Int32.ofNat (Ln - kn))), (.ref oa), (.int (P.getD 0 0))])) (fun tt kk => XS.iloadN X0.here hx rfl (hb hby d4_13) rfl kk) ?_
    obtain ⟨cl3, Ar3, qc3, S3, NN3, H3, G3⟩ := id VA
    have in3 := inb_of (j := (Int32.ofNat (Ln - kn))) S3 (own_inb (i := (Ln - kn)) (by have q := own_gei (j := 1) (by omega) (by decide) hc1_6; omega) (by omega))
    have hat3 : cl3.slots[((Int32.ofNat (Ln - kn))).toNatClampNeg]? = some (.int (P.getD (Ln - kn) 0)) := H3.at in3 (own_pget P (i := (Ln - kn)) (by omega))
    refine own_via (G := T0.setTop (mkF m 15 #[.val (.ref oa), .val (.int (Int32.ofNat Ln)), .val (.int (Int32.ofNat kn)), .val (.int (Int32.ofNat (Ln - kn)))] [(.int (P.getD (Ln - kn) 0)), (.int (P.getD 0 0))])) (fun tt kk => X0.baloadBytes hx (j := (Int32.ofNat (Ln - kn))) (v := (.int (P.getD (Ln - kn) 0))) (own_eqh e0 Ar3.1) (State.isArrayOf_alike hZ.alike Ar3.2.1) Ar3.2.2 in3 hat3 (g := (mkF m 14 #[.val (.ref oa), .val (.int (Int32.ofNat Ln)), .val (.int (Int32.ofNat kn)), .val (.int (Int32.ofNat (Ln - kn)))] [(.int (Int32.ofNat (Ln - kn))), (.ref oa), (.int (P.getD 0 0))])) rfl rfl (hb hby d4_14) tt kk) ?_
    by_cases hc4_15 : (P.getD 0 0) = (P.getD (Ln - kn) 0)
    · refine own_via (G := T0.setTop (mkF m 18 #[.val (.ref oa), .val (.int (Int32.ofNat Ln)), .val (.int (Int32.ofNat kn)), .val (.int (Int32.ofNat (Ln - kn)))] [])) (fun tt kk => XS.icmpNo X0.here hx rfl (hb hby d4_15) rfl (XT.ii_ne_f hc4_15) kk) ?_
      exact b4_18 oa ka n P Ln kn r ⟨hx, hZ, hw, hby, hml, hown, hret, hlk, hnm⟩ X0 e0 Z0 N0 VA hP hn6 hL hk (hr.trans (congrArg own_b2i (own_ib1_e (own_et (by have q := own_gei (j := 1) (by omega) (by decide) hc1_6; omega) (by have q := own_gei (j := 1) (by omega) (by decide) hc1_6; omega) hc4_15))))
    · refine own_via (G := T0.setTop (mkF m 86 #[.val (.ref oa), .val (.int (Int32.ofNat Ln)), .val (.int (Int32.ofNat kn)), .val (.int (Int32.ofNat (Ln - kn)))] [])) (fun tt kk => XS.icmpYes X0.here hx rfl (pc0 := 15) (pc' := 86) rfl (hb hby d4_15) rfl (XT.ii_ne_t hc4_15) (by decide) (by decide) kk) ?_
      refine own_via (G := T0.setTop (mkF m 87 #[.val (.ref oa), .val (.int (Int32.ofNat Ln)), .val (.int (Int32.ofNat kn)), .val (.int (Int32.ofNat (Ln - kn)))] [(.int (0 : Int32))])) (fun tt kk => XS.iconst X0.here hx rfl (hb hby d4_86) kk) ?_
      exact own_fin X0 e0 (v := some (.int (0 : Int32))) (fun h => by rw [hret] at h; cases h) hlk (fun fs hr => retN X0 hx (t := .boolean) hret (by simp) (hb hby d4_87) hr) (show ((fun (v : Option Value) (h : Heap) (L : List Loc) => v = some (.int r) ∧ Fr n0 L ∧ h = h0)) (some (.int (0 : Int32))) h0 _ from ⟨(by rw [hr, own_ib1_f (by have q := own_gei (j := 1) (by omega) (by decide) hc1_6; omega) (own_ef hc4_15)]; rfl), N0, rfl⟩) (by decide) (by decide)
theorem d4_0 : decode method_4_code 0 = .ok (.iload_n 1, 1) := by decide +kernel
theorem d4_1 : decode method_4_code 1 = .ok (.iload_n 2, 1) := by decide +kernel
theorem d4_2 : decode method_4_code 2 = .ok (.isub, 1) := by decide +kernel
theorem d4_3 : decode method_4_code 3 = .ok (.istore_n 3, 1) := by decide +kernel
set_option maxRecDepth 65536 in
set_option maxHeartbeats 40000000 in
theorem b4_0 {p : Program} {l : Launch} {e : Env} {s : State} {m : MethodId} {args : Array Value} {below : List Frame} {meth : Method} {c : Code} {T0 : State} {locs : List Loc} {Z : State} {a0 : Array Value} {h0 : Heap} {n0 : Nat} (oa : Addr) (ka : ClassId) (n : Nat) (P : List Int32) (Ln : Nat) (kn : Nat) (r : Int32)
    (C : own_C p s m meth c Z a0 method_4_code 4 "com/example/clew/clew/KnuthMorrisPrattFailureFunctionPinLaw" (some .boolean) "isBorder") (X0 : Stand p l e ({ frames := 0, cells := 0, slots := 0, locals := 0 } : Room) s m args below meth c T0 locs 0 0) (e0 : T0.heap = h0) (Z0 : n0 ≤ h0.size) (N0 : Fr n0 locs) (VA : Arv Z h0 oa ka .byte (Int32.ofNat n) (P.map Value.int) (.int (0 : Int32))) (hP : P.length = n) (hn6 : n ≤ 6) (hL : Ln ≤ n) (hk : kn < Ln) (hr : r = own_b2i (own_ib1 (own_e P) Ln kn)) :
    own_Go p.tables e below (T0.setTop (mkF m 0 #[.val (.ref oa), .val (.int (Int32.ofNat Ln)), .val (.int (Int32.ofNat kn)), .unset] [])) (own_K s (fun (v : Option Value) (h : Heap) (L : List Loc) => v = some (.int r) ∧ Fr n0 L ∧ h = h0) ({ frames := 0, cells := 0, slots := 0, locals := 0 } : Room).cells ({ frames := 0, cells := 0, slots := 0, locals := 0 } : Room).slots) := by
  obtain ⟨hx, hZ, hw, hby, hml, hown, hret, hlk, hnm⟩ := C
  refine own_via (G := T0.setTop (mkF m 1 #[.val (.ref oa), .val (.int (Int32.ofNat Ln)), .val (.int (Int32.ofNat kn)), .unset] [(.int (Int32.ofNat Ln))])) (fun tt kk => XS.iloadN X0.here hx rfl (hb hby d4_0) rfl kk) ?_
  refine own_via (G := T0.setTop (mkF m 2 #[.val (.ref oa), .val (.int (Int32.ofNat Ln)), .val (.int (Int32.ofNat kn)), .unset] [(.int (Int32.ofNat kn)), (.int (Int32.ofNat Ln))])) (fun tt kk => XS.iloadN X0.here hx rfl (hb hby d4_1) rfl kk) ?_
  refine own_via (G := T0.setTop (mkF m 3 #[.val (.ref oa), .val (.int (Int32.ofNat Ln)), .val (.int (Int32.ofNat kn)), .unset] [(.int ((Int32.ofNat Ln) - (Int32.ofNat kn)))])) (fun tt kk => XS.isub X0.here hx rfl (hb hby d4_2) rfl kk) ?_
  refine own_via (G := T0.setTop (mkF m 4 #[.val (.ref oa), .val (.int (Int32.ofNat Ln)), .val (.int (Int32.ofNat kn)), .val (.int ((Int32.ofNat Ln) - (Int32.ofNat kn)))] [])) (fun tt kk => XS.istoreN X0.here hx rfl (hb hby d4_3) rfl (l' := #[.val (.ref oa), .val (.int (Int32.ofNat Ln)), .val (.int (Int32.ofNat kn)), .val (.int ((Int32.ofNat Ln) - (Int32.ofNat kn)))]) rfl kk) ?_
  rw [show (Int32.ofNat Ln - Int32.ofNat kn) = Int32.ofNat (Ln - kn) from own_sub (by omega)]
  exact b4_4 oa ka n P Ln kn r ⟨hx, hZ, hw, hby, hml, hown, hret, hlk, hnm⟩ X0 e0 Z0 N0 VA hP hn6 hL hk hr
def Q4 (Z : State) (oa : Addr) (ka : ClassId) (n : Nat) (P : List Int32) (Ln : Nat) (kn : Nat) (h0 : Heap) (n0 : Nat) (v : Option Value) (h : Heap) (L : List Loc) : Prop := v = some (.int (own_b2i (own_ib1 (own_e P) Ln kn))) ∧ Fr n0 L ∧ h = h0
theorem ef_4 (m : MethodId) (oa : Addr) (Ln : Nat) (kn : Nat) : entryFrame m #[(.ref oa), (.int (Int32.ofNat Ln)), (.int (Int32.ofNat kn))] 4 = mkF m 0 #[.val (.ref oa), .val (.int (Int32.ofNat Ln)), .val (.int (Int32.ofNat kn)), .unset] [] := by first | (simp [entryFrame, mkF, argsToLocals, Value.category, maxLocals]; done) | rfl
set_option maxRecDepth 65536 in
set_option maxHeartbeats 40000000 in
theorem rm4 (l : Launch) (Z : State) (a0 : Array Value) (hw : ∀ d ∈ tables_1, d.before a0 Z = true) (ws : List Jvm.Cond) (oa : Addr) (ka : ClassId) (n : Nat) (P : List Int32) (Ln : Nat) (kn : Nat) (h0 : Heap) (n0 : Nat) (Z0 : n0 ≤ h0.size) (VA : Arv Z h0 oa ka .byte (Int32.ofNat n) (P.map Value.int) (.int (0 : Int32))) (hP : P.length = n) (hn6 : n ≤ 6) (hL : Ln ≤ n) (hk : kn < Ln) :
    MetFree l (⟨"com/example/clew/clew/KnuthMorrisPrattFailureFunctionPinLaw", "isBorder", "([BII)Z"⟩ : MethodName) (head1 (Jvm.Cond.code (⟨"com/example/clew/clew/KnuthMorrisPrattFailureFunctionPinLaw", "isBorder", "([BII)Z"⟩ : MethodName) method_4_code 4 (some .boolean) :: ws) ({ frames := 0, cells := 0, slots := 0, locals := 0 } : Room)) (fun a U => a = #[(.ref oa), (.int (Int32.ofNat Ln)), (.int (Int32.ofNat kn))] ∧ Z.Warmed39 U.vm ∧ U.heap = h0) (fun _ _ _ _ _ => True) (fun _ U o U' => ∃ v L, o = .returned v ∧ Q4 Z oa ka n P Ln kn h0 n0 v U'.heap L ∧ FrameEnd U o U' L ({ frames := 0, cells := 0, slots := 0, locals := 0 } : Room).cells ({ frames := 0, cells := 0, slots := 0, locals := 0 } : Room).slots) := by
  refine MetFree.of_bodySF (plainFor_of_name pn_0) hisR ?_
  intro p e s m args below meth c s₁ Bd hml0 hP hK
  obtain ⟨rfl, hZ, hh⟩ := hP
  have e0 : s₁.heap = h0 := by rw [← hh, Bd.state]; rfl
  rw [ef_4 m oa Ln kn]
  exact b4_0 oa ka n P Ln kn _ ⟨Bd.exec, hZ, hw, Bd.bytes, hml0, findClass_of_methodNamed Bd.named, Bd.returns, Bd.notSynchronized, (name_of_methodNamed Bd.named Bd.method).1⟩ (Stand.of_body Bd) e0 Z0 (Fr.nil n0) VA hP hn6 hL hk rfl
theorem d3_80 : decode method_5_code 80 = .ok (.iconst 0, 1) := by decide +kernel
theorem d3_81 : decode method_5_code 81 = .ok (.ireturn, 1) := by decide +kernel
set_option maxRecDepth 65536 in
set_option maxHeartbeats 40000000 in
theorem b3_80 {p : Program} {l : Launch} {e : Env} {s : State} {m : MethodId} {args : Array Value} {below : List Frame} {meth : Method} {c : Code} {T0 : State} {locs : List Loc} {Z : State} {a0 : Array Value} {h0 : Heap} {n0 : Nat} (oa : Addr) (ka : ClassId) (n : Nat) (P : List Int32) (Ln : Nat) (r : Int32)
    (C : own_C p s m meth c Z a0 method_5_code 2 "com/example/clew/clew/KnuthMorrisPrattFailureFunctionPinLaw" (some .int) "border") (X0 : Stand p l e ({ frames := 1, cells := 0, slots := 0, locals := 15 } : Room) s m args below meth c T0 locs 0 0) (e0 : T0.heap = h0) (Z0 : n0 ≤ h0.size) (N0 : Fr n0 locs) (VA : Arv Z h0 oa ka .byte (Int32.ofNat n) (P.map Value.int) (.int (0 : Int32))) (hP : P.length = n) (hn6 : n ≤ 6) (hL : Ln ≤ n) (hr : r = Int32.ofNat (own_bd0 (own_e P) Ln)) :
    own_Go p.tables e below (T0.setTop (mkF m 80 #[.val (.ref oa), .val (.int (Int32.ofNat Ln))] [])) (own_K s (fun (v : Option Value) (h : Heap) (L : List Loc) => v = some (.int r) ∧ Fr n0 L ∧ h = h0) ({ frames := 1, cells := 0, slots := 0, locals := 15 } : Room).cells ({ frames := 1, cells := 0, slots := 0, locals := 15 } : Room).slots) := by
  obtain ⟨hx, hZ, hw, hby, hml, hown, hret, hlk, hnm⟩ := C
  refine own_via (G := T0.setTop (mkF m 81 #[.val (.ref oa), .val (.int (Int32.ofNat Ln))] [(.int (0 : Int32))])) (fun tt kk => XS.iconst X0.here hx rfl (hb hby d3_80) kk) ?_
  exact own_fin X0 e0 (v := some (.int (0 : Int32))) (fun h => by rw [hret] at h; cases h) hlk (fun fs hr => retI X0 hx hret (hb hby d3_81) hr) (show ((fun (v : Option Value) (h : Heap) (L : List Loc) => v = some (.int r) ∧ Fr n0 L ∧ h = h0)) (some (.int (0 : Int32))) h0 _ from ⟨(by rw [hr]; rfl), N0, rfl⟩) (by decide) (by decide)
theorem d3_64 : decode method_5_code 64 = .ok (.iconst 1, 1) := by decide +kernel
theorem d3_65 : decode method_5_code 65 = .ok (.iload_n 1, 1) := by decide +kernel
theorem d3_66 : decode method_5_code 66 = .ok (.if_icmp .ge 14, 3) := by decide +kernel
theorem d3_69 : decode method_5_code 69 = .ok (.aload_n 0, 1) := by decide +kernel
theorem d3_70 : decode method_5_code 70 = .ok (.iload_n 1, 1) := by decide +kernel
theorem d3_71 : decode method_5_code 71 = .ok (.iconst 1, 1) := by decide +kernel
theorem d3_72 : decode method_5_code 72 = .ok (.invokestatic 24, 3) := by decide +kernel
theorem pd_0 : parseMethodDescriptor "([BII)Z" = some ⟨[(.array .byte), .int, .int], some .boolean⟩ := by decide +kernel
theorem d3_75 : decode method_5_code 75 = .ok (.ifCond .eq 5, 3) := by decide +kernel
theorem d3_78 : decode method_5_code 78 = .ok (.iconst 1, 1) := by decide +kernel
theorem d3_79 : decode method_5_code 79 = .ok (.ireturn, 1) := by decide +kernel
set_option maxRecDepth 65536 in
set_option maxHeartbeats 40000000 in
theorem b3_64 {p : Program} {l : Launch} {e : Env} {s : State} {m : MethodId} {args : Array Value} {below : List Frame} {meth : Method} {c : Code} {T0 : State} {locs : List Loc} {Z : State} {a0 : Array Value} {h0 : Heap} {n0 : Nat} (oa : Addr) (ka : ClassId) (n : Nat) (P : List Int32) (Ln : Nat) (r : Int32)
    (C : own_C p s m meth c Z a0 method_5_code 2 "com/example/clew/clew/KnuthMorrisPrattFailureFunctionPinLaw" (some .int) "border") (X0 : Stand p l e ({ frames := 1, cells := 0, slots := 0, locals := 15 } : Room) s m args below meth c T0 locs 0 0) (e0 : T0.heap = h0) (Z0 : n0 ≤ h0.size) (N0 : Fr n0 locs) (VA : Arv Z h0 oa ka .byte (Int32.ofNat n) (P.map Value.int) (.int (0 : Int32))) (hP : P.length = n) (hn6 : n ≤ 6) (hL : Ln ≤ n) (hr : r = Int32.ofNat (own_bd1 (own_e P) Ln)) :
    own_Go p.tables e below (T0.setTop (mkF m 64 #[.val (.ref oa), .val (.int (Int32.ofNat Ln))] [])) (own_K s (fun (v : Option Value) (h : Heap) (L : List Loc) => v = some (.int r) ∧ Fr n0 L ∧ h = h0) ({ frames := 1, cells := 0, slots := 0, locals := 15 } : Room).cells ({ frames := 1, cells := 0, slots := 0, locals := 15 } : Room).slots) := by
  obtain ⟨hx, hZ, hw, hby, hml, hown, hret, hlk, hnm⟩ := C
  refine own_via (G := T0.setTop (mkF m 65 #[.val (.ref oa), .val (.int (Int32.ofNat Ln))] [(.int (1 : Int32))])) (fun tt kk => XS.iconst X0.here hx rfl (hb hby d3_64) kk) ?_
  refine own_via (G := T0.setTop (mkF m 66 #[.val (.ref oa), .val (.int (Int32.ofNat Ln))] [(.int (Int32.ofNat Ln)), (.int (1 : Int32))])) (fun tt kk => XS.iloadN X0.here hx rfl (hb hby d3_65) rfl kk) ?_
  by_cases hc1_66 : (1 : Int32) < (Int32.ofNat Ln)
  · refine own_via (G := T0.setTop (mkF m 69 #[.val (.ref oa), .val (.int (Int32.ofNat Ln))] [])) (fun tt kk => XS.icmpNo X0.here hx rfl (hb hby d3_66) rfl (XT.ii_ge_f hc1_66) kk) ?_
    refine own_via (G := T0.setTop (mkF m 70 #[.val (.ref oa), .val (.int (Int32.ofNat Ln))] [(.ref oa)])) (fun tt kk => XS.aloadN X0.here hx rfl (hb hby d3_69) rfl rfl kk) ?_
    refine own_via (G := T0.setTop (mkF m 71 #[.val (.ref oa), .val (.int (Int32.ofNat Ln))] [(.int (Int32.ofNat Ln)), (.ref oa)])) (fun tt kk => XS.iloadN X0.here hx rfl (hb hby d3_70) rfl kk) ?_
    refine own_via (G := T0.setTop (mkF m 72 #[.val (.ref oa), .val (.int (Int32.ofNat Ln))] [(.int (1 : Int32)), (.int (Int32.ofNat Ln)), (.ref oa)])) (fun tt kk => XS.iconst X0.here hx rfl (hb hby d3_71) kk) ?_
    obtain ⟨_, _, ⟨T2, L2, k2, n2⟩, -, X2, ⟨Lc2, hQ2, l2, y2, z2⟩, st2⟩ := Jvm.LawKit.callS X0 hx (y := (⟨"com/example/clew/clew/KnuthMorrisPrattFailureFunctionPinLaw", "isBorder", "([BII)Z"⟩ : MethodName)) hown (mvT hZ (hw _ (List.mem_of_getElem? (i := 14) rfl))) (mvT hZ (hw _ (List.mem_of_getElem? (i := 15) rfl))) (mvT hZ (hw _ (List.mem_of_getElem? (i := 4) rfl))) (mvT hZ (hw _ (List.mem_of_getElem? (i := 16) rfl))) (by decide) (backOf (W := 0) (rm4 l Z a0 hw [] oa ka n P Ln 1 h0 n0 Z0 VA hP hn6 hL (own_lei (k := 1) (j := Ln) (by decide) (by omega) hc1_66)) hZ (hw _ (List.mem_of_getElem? (i := 16) rfl)) (hw _ (List.mem_of_getElem? (i := 4) rfl)) (by decide) (by decide)) (g := (mkF m 72 #[.val (.ref oa), .val (.int (Int32.ofNat Ln))] [(.int (1 : Int32)), (.int (Int32.ofNat Ln)), (.ref oa)])) rfl (by rw [hml]; rfl) (argsL := [(.ref oa), (.int (Int32.ofNat Ln)), (.int (1 : Int32))]) (rest := []) (lenOf pd_0 rfl) rfl (by show 2 * 0 + _ ≤ _; exact Nat.le_of_eq rfl) (hb hby d3_72) (fun _ _ => ⟨rfl, e0, (by decide : 0 + 0 ≤ _), (by decide : 0 + 0 ≤ _)⟩)
    dsimp only [Pt.U, Pt.locs, Pt.cells, Pt.slots] at X2 l2 y2 z2 st2 hQ2
    subst l2 y2 z2
    obtain ⟨rfl, Nq2, eh2⟩ := hQ2
    have N2 := Fr.app N0 Nq2
    refine own_via (G := T2.setTop (mkF m 75 #[.val (.ref oa), .val (.int (Int32.ofNat Ln))] [(.int (own_b2i (own_ib1 (own_e P) Ln 1)))])) (fun tt kk => st2 tt kk) ?_
    by_cases hc3_75 : (own_b2i (own_ib1 (own_e P) Ln 1)) = (0 : Int32)
    · refine own_via (G := T2.setTop (mkF m 80 #[.val (.ref oa), .val (.int (Int32.ofNat Ln))] [])) (fun tt kk => XS.ifYes X2.here hx rfl (pc0 := 75) (pc' := 80) rfl (hb hby d3_75) rfl (XT.i0_eq_t hc3_75) (by decide) (by decide) kk) ?_
      exact b3_80 oa ka n P Ln r ⟨hx, hZ, hw, hby, hml, hown, hret, hlk, hnm⟩ X2 eh2 Z0 N2 VA hP hn6 hL (hr.trans (congrArg Int32.ofNat (by unfold own_bd1; rw [if_pos (own_lei (k := 1) (j := Ln) (by decide) (by omega) hc1_66), if_neg (by rw [own_b0 hc3_75]; decide)]; rfl)))
    · refine own_via (G := T2.setTop (mkF m 78 #[.val (.ref oa), .val (.int (Int32.ofNat Ln))] [])) (fun tt kk => XS.ifNo X2.here hx rfl (hb hby d3_75) rfl (XT.i0_eq_f hc3_75) kk) ?_
      refine own_via (G := T2.setTop (mkF m 79 #[.val (.ref oa), .val (.int (Int32.ofNat Ln))] [(.int (1 : Int32))])) (fun tt kk => XS.iconst X2.here hx rfl (hb hby d3_78) kk) ?_
      exact own_fin X2 eh2 (v := some (.int (1 : Int32))) (fun h => by rw [hret] at h; cases h) hlk (fun fs hr => retI X2 hx hret (hb hby d3_79) hr) (show ((fun (v : Option Value) (h : Heap) (L : List Loc) => v = some (.int r) ∧ Fr n0 L ∧ h = h0)) (some (.int (1 : Int32))) h0 _ from ⟨(by rw [hr]; unfold own_bd1; rw [if_pos (own_lei (k := 1) (j := Ln) (by decide) (by omega) hc1_66), if_pos (own_b1 hc3_75)]; rfl), N2, rfl⟩) (by decide) (by decide)
  · refine own_via (G := T0.setTop (mkF m 80 #[.val (.ref oa), .val (.int (Int32.ofNat Ln))] [])) (fun tt kk => XS.icmpYes X0.here hx rfl (pc0 := 66) (pc' := 80) rfl (hb hby d3_66) rfl (XT.ii_ge_t hc1_66) (by decide) (by decide) kk) ?_
    exact b3_80 oa ka n P Ln r ⟨hx, hZ, hw, hby, hml, hown, hret, hlk, hnm⟩ X0 e0 Z0 N0 VA hP hn6 hL (hr.trans (congrArg Int32.ofNat (by unfold own_bd1; rw [if_neg (fun q => hc1_66 (own_lt (i := 1) q (by omega)))]; rfl)))
theorem d3_48 : decode method_5_code 48 = .ok (.iconst 2, 1) := by decide +kernel
theorem d3_49 : decode method_5_code 49 = .ok (.iload_n 1, 1) := by decide +kernel
theorem d3_50 : decode method_5_code 50 = .ok (.if_icmp .ge 14, 3) := by decide +kernel
theorem d3_53 : decode method_5_code 53 = .ok (.aload_n 0, 1) := by decide +kernel
theorem d3_54 : decode method_5_code 54 = .ok (.iload_n 1, 1) := by decide +kernel
theorem d3_55 : decode method_5_code 55 = .ok (.iconst 2, 1) := by decide +kernel
theorem d3_56 : decode method_5_code 56 = .ok (.invokestatic 24, 3) := by decide +kernel
theorem d3_59 : decode method_5_code 59 = .ok (.ifCond .eq 5, 3) := by decide +kernel
theorem d3_62 : decode method_5_code 62 = .ok (.iconst 2, 1) := by decide +kernel
theorem d3_63 : decode method_5_code 63 = .ok (.ireturn, 1) := by decide +kernel
set_option maxRecDepth 65536 in
set_option maxHeartbeats 40000000 in
theorem b3_48 {p : Program} {l : Launch} {e : Env} {s : State} {m : MethodId} {args : Array Value} {below : List Frame} {meth : Method} {c : Code} {T0 : State} {locs : List Loc} {Z : State} {a0 : Array Value} {h0 : Heap} {n0 : Nat} (oa : Addr) (ka : ClassId) (n : Nat) (P : List Int32) (Ln : Nat) (r : Int32)
    (C : own_C p s m meth c Z a0 method_5_code 2 "com/example/clew/clew/KnuthMorrisPrattFailureFunctionPinLaw" (some .int) "border") (X0 : Stand p l e ({ frames := 1, cells := 0, slots := 0, locals := 15 } : Room) s m args below meth c T0 locs 0 0) (e0 : T0.heap = h0) (Z0 : n0 ≤ h0.size) (N0 : Fr n0 locs) (VA : Arv Z h0 oa ka .byte (Int32.ofNat n) (P.map Value.int) (.int (0 : Int32))) (hP : P.length = n) (hn6 : n ≤ 6) (hL : Ln ≤ n) (hr : r = Int32.ofNat (own_bd2 (own_e P) Ln)) :
    own_Go p.tables e below (T0.setTop (mkF m 48 #[.val (.ref oa), .val (.int (Int32.ofNat Ln))] [])) (own_K s (fun (v : Option Value) (h : Heap) (L : List Loc) => v = some (.int r) ∧ Fr n0 L ∧ h = h0) ({ frames := 1, cells := 0, slots := 0, locals := 15 } : Room).cells ({ frames := 1, cells := 0, slots := 0, locals := 15 } : Room).slots) := by
  obtain ⟨hx, hZ, hw, hby, hml, hown, hret, hlk, hnm⟩ := C
  refine own_via (G := T0.setTop (mkF m 49 #[.val (.ref oa), .val (.int (Int32.ofNat Ln))] [(.int (2 : Int32))])) (fun tt kk => XS.iconst X0.here hx rfl (hb hby d3_48) kk) ?_
  refine own_via (G := T0.setTop (mkF m 50 #[.val (.ref oa), .val (.int (Int32.ofNat Ln))] [(.int (Int32.ofNat Ln)), (.int (2 : Int32))])) (fun tt kk => XS.iloadN X0.here hx rfl (hb hby d3_49) rfl kk) ?_
  by_cases hc1_50 : (2 : Int32) < (Int32.ofNat Ln)
  · refine own_via (G := T0.setTop (mkF m 53 #[.val (.ref oa), .val (.int (Int32.ofNat Ln))] [])) (fun tt kk => XS.icmpNo X0.here hx rfl (hb hby d3_50) rfl (XT.ii_ge_f hc1_50) kk) ?_
    refine own_via (G := T0.setTop (mkF m 54 #[.val (.ref oa), .val (.int (Int32.ofNat Ln))] [(.ref oa)])) (fun tt kk => XS.aloadN X0.here hx rfl (hb hby d3_53) rfl rfl kk) ?_
    refine own_via (G := T0.setTop (mkF m 55 #[.val (.ref oa), .val (.int (Int32.ofNat Ln))] [(.int (Int32.ofNat Ln)), (.ref oa)])) (fun tt kk => XS.iloadN X0.here hx rfl (hb hby d3_54) rfl kk) ?_
    refine own_via (G := T0.setTop (mkF m 56 #[.val (.ref oa), .val (.int (Int32.ofNat Ln))] [(.int (2 : Int32)), (.int (Int32.ofNat Ln)), (.ref oa)])) (fun tt kk => XS.iconst X0.here hx rfl (hb hby d3_55) kk) ?_
    obtain ⟨_, _, ⟨T2, L2, k2, n2⟩, -, X2, ⟨Lc2, hQ2, l2, y2, z2⟩, st2⟩ := Jvm.LawKit.callS X0 hx (y := (⟨"com/example/clew/clew/KnuthMorrisPrattFailureFunctionPinLaw", "isBorder", "([BII)Z"⟩ : MethodName)) hown (mvT hZ (hw _ (List.mem_of_getElem? (i := 14) rfl))) (mvT hZ (hw _ (List.mem_of_getElem? (i := 15) rfl))) (mvT hZ (hw _ (List.mem_of_getElem? (i := 4) rfl))) (mvT hZ (hw _ (List.mem_of_getElem? (i := 16) rfl))) (by decide) (backOf (W := 0) (rm4 l Z a0 hw [] oa ka n P Ln 2 h0 n0 Z0 VA hP hn6 hL (own_lei (k := 2) (j := Ln) (by decide) (by omega) hc1_50)) hZ (hw _ (List.mem_of_getElem? (i := 16) rfl)) (hw _ (List.mem_of_getElem? (i := 4) rfl)) (by decide) (by decide)) (g := (mkF m 56 #[.val (.ref oa), .val (.int (Int32.ofNat Ln))] [(.int (2 : Int32)), (.int (Int32.ofNat Ln)), (.ref oa)])) rfl (by rw [hml]; rfl) (argsL := [(.ref oa), (.int (Int32.ofNat Ln)), (.int (2 : Int32))]) (rest := []) (lenOf pd_0 rfl) rfl (by show 2 * 0 + _ ≤ _; exact Nat.le_of_eq rfl) (hb hby d3_56) (fun _ _ => ⟨rfl, e0, (by decide : 0 + 0 ≤ _), (by decide : 0 + 0 ≤ _)⟩)
    dsimp only [Pt.U, Pt.locs, Pt.cells, Pt.slots] at X2 l2 y2 z2 st2 hQ2
    subst l2 y2 z2
    obtain ⟨rfl, Nq2, eh2⟩ := hQ2
    have N2 := Fr.app N0 Nq2
    refine own_via (G := T2.setTop (mkF m 59 #[.val (.ref oa), .val (.int (Int32.ofNat Ln))] [(.int (own_b2i (own_ib1 (own_e P) Ln 2)))])) (fun tt kk => st2 tt kk) ?_
    by_cases hc3_59 : (own_b2i (own_ib1 (own_e P) Ln 2)) = (0 : Int32)
    · refine own_via (G := T2.setTop (mkF m 64 #[.val (.ref oa), .val (.int (Int32.ofNat Ln))] [])) (fun tt kk => XS.ifYes X2.here hx rfl (pc0 := 59) (pc' := 64) rfl (hb hby d3_59) rfl (XT.i0_eq_t hc3_59) (by decide) (by decide) kk) ?_
      exact b3_64 oa ka n P Ln r ⟨hx, hZ, hw, hby, hml, hown, hret, hlk, hnm⟩ X2 eh2 Z0 N2 VA hP hn6 hL (hr.trans (congrArg Int32.ofNat (by unfold own_bd2; rw [if_pos (own_lei (k := 2) (j := Ln) (by decide) (by omega) hc1_50), if_neg (by rw [own_b0 hc3_59]; decide)])))
    · refine own_via (G := T2.setTop (mkF m 62 #[.val (.ref oa), .val (.int (Int32.ofNat Ln))] [])) (fun tt kk => XS.ifNo X2.here hx rfl (hb hby d3_59) rfl (XT.i0_eq_f hc3_59) kk) ?_
      refine own_via (G := T2.setTop (mkF m 63 #[.val (.ref oa), .val (.int (Int32.ofNat Ln))] [(.int (2 : Int32))])) (fun tt kk => XS.iconst X2.here hx rfl (hb hby d3_62) kk) ?_
      exact own_fin X2 eh2 (v := some (.int (2 : Int32))) (fun h => by rw [hret] at h; cases h) hlk (fun fs hr => retI X2 hx hret (hb hby d3_63) hr) (show ((fun (v : Option Value) (h : Heap) (L : List Loc) => v = some (.int r) ∧ Fr n0 L ∧ h = h0)) (some (.int (2 : Int32))) h0 _ from ⟨(by rw [hr]; unfold own_bd2; rw [if_pos (own_lei (k := 2) (j := Ln) (by decide) (by omega) hc1_50), if_pos (own_b1 hc3_59)]; rfl), N2, rfl⟩) (by decide) (by decide)
  · refine own_via (G := T0.setTop (mkF m 64 #[.val (.ref oa), .val (.int (Int32.ofNat Ln))] [])) (fun tt kk => XS.icmpYes X0.here hx rfl (pc0 := 50) (pc' := 64) rfl (hb hby d3_50) rfl (XT.ii_ge_t hc1_50) (by decide) (by decide) kk) ?_
    exact b3_64 oa ka n P Ln r ⟨hx, hZ, hw, hby, hml, hown, hret, hlk, hnm⟩ X0 e0 Z0 N0 VA hP hn6 hL (hr.trans (congrArg Int32.ofNat (by unfold own_bd2; rw [if_neg (fun q => hc1_50 (own_lt (i := 2) q (by omega)))])))
theorem d3_32 : decode method_5_code 32 = .ok (.iconst 3, 1) := by decide +kernel
theorem d3_33 : decode method_5_code 33 = .ok (.iload_n 1, 1) := by decide +kernel
theorem d3_34 : decode method_5_code 34 = .ok (.if_icmp .ge 14, 3) := by decide +kernel
theorem d3_37 : decode method_5_code 37 = .ok (.aload_n 0, 1) := by decide +kernel
theorem d3_38 : decode method_5_code 38 = .ok (.iload_n 1, 1) := by decide +kernel
theorem d3_39 : decode method_5_code 39 = .ok (.iconst 3, 1) := by decide +kernel
theorem d3_40 : decode method_5_code 40 = .ok (.invokestatic 24, 3) := by decide +kernel
theorem d3_43 : decode method_5_code 43 = .ok (.ifCond .eq 5, 3) := by decide +kernel
theorem d3_46 : decode method_5_code 46 = .ok (.iconst 3, 1) := by decide +kernel
theorem d3_47 : decode method_5_code 47 = .ok (.ireturn, 1) := by decide +kernel
set_option maxRecDepth 65536 in
set_option maxHeartbeats 40000000 in
theorem b3_32 {p : Program} {l : Launch} {e : Env} {s : State} {m : MethodId} {args : Array Value} {below : List Frame} {meth : Method} {c : Code} {T0 : State} {locs : List Loc} {Z : State} {a0 : Array Value} {h0 : Heap} {n0 : Nat} (oa : Addr) (ka : ClassId) (n : Nat) (P : List Int32) (Ln : Nat) (r : Int32)
    (C : own_C p s m meth c Z a0 method_5_code 2 "com/example/clew/clew/KnuthMorrisPrattFailureFunctionPinLaw" (some .int) "border") (X0 : Stand p l e ({ frames := 1, cells := 0, slots := 0, locals := 15 } : Room) s m args below meth c T0 locs 0 0) (e0 : T0.heap = h0) (Z0 : n0 ≤ h0.size) (N0 : Fr n0 locs) (VA : Arv Z h0 oa ka .byte (Int32.ofNat n) (P.map Value.int) (.int (0 : Int32))) (hP : P.length = n) (hn6 : n ≤ 6) (hL : Ln ≤ n) (hr : r = Int32.ofNat (own_bd3 (own_e P) Ln)) :
    own_Go p.tables e below (T0.setTop (mkF m 32 #[.val (.ref oa), .val (.int (Int32.ofNat Ln))] [])) (own_K s (fun (v : Option Value) (h : Heap) (L : List Loc) => v = some (.int r) ∧ Fr n0 L ∧ h = h0) ({ frames := 1, cells := 0, slots := 0, locals := 15 } : Room).cells ({ frames := 1, cells := 0, slots := 0, locals := 15 } : Room).slots) := by
  obtain ⟨hx, hZ, hw, hby, hml, hown, hret, hlk, hnm⟩ := C
  refine own_via (G := T0.setTop (mkF m 33 #[.val (.ref oa), .val (.int (Int32.ofNat Ln))] [(.int (3 : Int32))])) (fun tt kk => XS.iconst X0.here hx rfl (hb hby d3_32) kk) ?_
  refine own_via (G := T0.setTop (mkF m 34 #[.val (.ref oa), .val (.int (Int32.ofNat Ln))] [(.int (Int32.ofNat Ln)), (.int (3 : Int32))])) (fun tt kk => XS.iloadN X0.here hx rfl (hb hby d3_33) rfl kk) ?_
  by_cases hc1_34 : (3 : Int32) < (Int32.ofNat Ln)
  · refine own_via (G := T0.setTop (mkF m 37 #[.val (.ref oa), .val (.int (Int32.ofNat Ln))] [])) (fun tt kk => XS.icmpNo X0.here hx rfl (hb hby d3_34) rfl (XT.ii_ge_f hc1_34) kk) ?_
    refine own_via (G := T0.setTop (mkF m 38 #[.val (.ref oa), .val (.int (Int32.ofNat Ln))] [(.ref oa)])) (fun tt kk => XS.aloadN X0.here hx rfl (hb hby d3_37) rfl rfl kk) ?_
    refine own_via (G := T0.setTop (mkF m 39 #[.val (.ref oa), .val (.int (Int32.ofNat Ln))] [(.int (Int32.ofNat Ln)), (.ref oa)])) (fun tt kk => XS.iloadN X0.here hx rfl (hb hby d3_38) rfl kk) ?_
    refine own_via (G := T0.setTop (mkF m 40 #[.val (.ref oa), .val (.int (Int32.ofNat Ln))] [(.int (3 : Int32)), (.int (Int32.ofNat Ln)), (.ref oa)])) (fun tt kk => XS.iconst X0.here hx rfl (hb hby d3_39) kk) ?_
    obtain ⟨_, _, ⟨T2, L2, k2, n2⟩, -, X2, ⟨Lc2, hQ2, l2, y2, z2⟩, st2⟩ := Jvm.LawKit.callS X0 hx (y := (⟨"com/example/clew/clew/KnuthMorrisPrattFailureFunctionPinLaw", "isBorder", "([BII)Z"⟩ : MethodName)) hown (mvT hZ (hw _ (List.mem_of_getElem? (i := 14) rfl))) (mvT hZ (hw _ (List.mem_of_getElem? (i := 15) rfl))) (mvT hZ (hw _ (List.mem_of_getElem? (i := 4) rfl))) (mvT hZ (hw _ (List.mem_of_getElem? (i := 16) rfl))) (by decide) (backOf (W := 0) (rm4 l Z a0 hw [] oa ka n P Ln 3 h0 n0 Z0 VA hP hn6 hL (own_lei (k := 3) (j := Ln) (by decide) (by omega) hc1_34)) hZ (hw _ (List.mem_of_getElem? (i := 16) rfl)) (hw _ (List.mem_of_getElem? (i := 4) rfl)) (by decide) (by decide)) (g := (mkF m 40 #[.val (.ref oa), .val (.int (Int32.ofNat Ln))] [(.int (3 : Int32)), (.int (Int32.ofNat Ln)), (.ref oa)])) rfl (by rw [hml]; rfl) (argsL := [(.ref oa), (.int (Int32.ofNat Ln)), (.int (3 : Int32))]) (rest := []) (lenOf pd_0 rfl) rfl (by show 2 * 0 + _ ≤ _; exact Nat.le_of_eq rfl) (hb hby d3_40) (fun _ _ => ⟨rfl, e0, (by decide : 0 + 0 ≤ _), (by decide : 0 + 0 ≤ _)⟩)
    dsimp only [Pt.U, Pt.locs, Pt.cells, Pt.slots] at X2 l2 y2 z2 st2 hQ2
    subst l2 y2 z2
    obtain ⟨rfl, Nq2, eh2⟩ := hQ2
    have N2 := Fr.app N0 Nq2
    refine own_via (G := T2.setTop (mkF m 43 #[.val (.ref oa), .val (.int (Int32.ofNat Ln))] [(.int (own_b2i (own_ib1 (own_e P) Ln 3)))])) (fun tt kk => st2 tt kk) ?_
    by_cases hc3_43 : (own_b2i (own_ib1 (own_e P) Ln 3)) = (0 : Int32)
    · refine own_via (G := T2.setTop (mkF m 48 #[.val (.ref oa), .val (.int (Int32.ofNat Ln))] [])) (fun tt kk => XS.ifYes X2.here hx rfl (pc0 := 43) (pc' := 48) rfl (hb hby d3_43) rfl (XT.i0_eq_t hc3_43) (by decide) (by decide) kk) ?_
      exact b3_48 oa ka n P Ln r ⟨hx, hZ, hw, hby, hml, hown, hret, hlk, hnm⟩ X2 eh2 Z0 N2 VA hP hn6 hL (hr.trans (congrArg Int32.ofNat (by unfold own_bd3; rw [if_pos (own_lei (k := 3) (j := Ln) (by decide) (by omega) hc1_34), if_neg (by rw [own_b0 hc3_43]; decide)])))
    · refine own_via (G := T2.setTop (mkF m 46 #[.val (.ref oa), .val (.int (Int32.ofNat Ln))] [])) (fun tt kk => XS.ifNo X2.here hx rfl (hb hby d3_43) rfl (XT.i0_eq_f hc3_43) kk) ?_
      refine own_via (G := T2.setTop (mkF m 47 #[.val (.ref oa), .val (.int (Int32.ofNat Ln))] [(.int (3 : Int32))])) (fun tt kk => XS.iconst X2.here hx rfl (hb hby d3_46) kk) ?_
      exact own_fin X2 eh2 (v := some (.int (3 : Int32))) (fun h => by rw [hret] at h; cases h) hlk (fun fs hr => retI X2 hx hret (hb hby d3_47) hr) (show ((fun (v : Option Value) (h : Heap) (L : List Loc) => v = some (.int r) ∧ Fr n0 L ∧ h = h0)) (some (.int (3 : Int32))) h0 _ from ⟨(by rw [hr]; unfold own_bd3; rw [if_pos (own_lei (k := 3) (j := Ln) (by decide) (by omega) hc1_34), if_pos (own_b1 hc3_43)]; rfl), N2, rfl⟩) (by decide) (by decide)
  · refine own_via (G := T0.setTop (mkF m 48 #[.val (.ref oa), .val (.int (Int32.ofNat Ln))] [])) (fun tt kk => XS.icmpYes X0.here hx rfl (pc0 := 34) (pc' := 48) rfl (hb hby d3_34) rfl (XT.ii_ge_t hc1_34) (by decide) (by decide) kk) ?_
    exact b3_48 oa ka n P Ln r ⟨hx, hZ, hw, hby, hml, hown, hret, hlk, hnm⟩ X0 e0 Z0 N0 VA hP hn6 hL (hr.trans (congrArg Int32.ofNat (by unfold own_bd3; rw [if_neg (fun q => hc1_34 (own_lt (i := 3) q (by omega)))])))
theorem d3_16 : decode method_5_code 16 = .ok (.iconst 4, 1) := by decide +kernel
theorem d3_17 : decode method_5_code 17 = .ok (.iload_n 1, 1) := by decide +kernel
theorem d3_18 : decode method_5_code 18 = .ok (.if_icmp .ge 14, 3) := by decide +kernel
theorem d3_21 : decode method_5_code 21 = .ok (.aload_n 0, 1) := by decide +kernel
theorem d3_22 : decode method_5_code 22 = .ok (.iload_n 1, 1) := by decide +kernel
theorem d3_23 : decode method_5_code 23 = .ok (.iconst 4, 1) := by decide +kernel
theorem d3_24 : decode method_5_code 24 = .ok (.invokestatic 24, 3) := by decide +kernel
theorem d3_27 : decode method_5_code 27 = .ok (.ifCond .eq 5, 3) := by decide +kernel
theorem d3_30 : decode method_5_code 30 = .ok (.iconst 4, 1) := by decide +kernel
theorem d3_31 : decode method_5_code 31 = .ok (.ireturn, 1) := by decide +kernel
set_option maxRecDepth 65536 in
set_option maxHeartbeats 40000000 in
theorem b3_16 {p : Program} {l : Launch} {e : Env} {s : State} {m : MethodId} {args : Array Value} {below : List Frame} {meth : Method} {c : Code} {T0 : State} {locs : List Loc} {Z : State} {a0 : Array Value} {h0 : Heap} {n0 : Nat} (oa : Addr) (ka : ClassId) (n : Nat) (P : List Int32) (Ln : Nat) (r : Int32)
    (C : own_C p s m meth c Z a0 method_5_code 2 "com/example/clew/clew/KnuthMorrisPrattFailureFunctionPinLaw" (some .int) "border") (X0 : Stand p l e ({ frames := 1, cells := 0, slots := 0, locals := 15 } : Room) s m args below meth c T0 locs 0 0) (e0 : T0.heap = h0) (Z0 : n0 ≤ h0.size) (N0 : Fr n0 locs) (VA : Arv Z h0 oa ka .byte (Int32.ofNat n) (P.map Value.int) (.int (0 : Int32))) (hP : P.length = n) (hn6 : n ≤ 6) (hL : Ln ≤ n) (hr : r = Int32.ofNat (own_bd4 (own_e P) Ln)) :
    own_Go p.tables e below (T0.setTop (mkF m 16 #[.val (.ref oa), .val (.int (Int32.ofNat Ln))] [])) (own_K s (fun (v : Option Value) (h : Heap) (L : List Loc) => v = some (.int r) ∧ Fr n0 L ∧ h = h0) ({ frames := 1, cells := 0, slots := 0, locals := 15 } : Room).cells ({ frames := 1, cells := 0, slots := 0, locals := 15 } : Room).slots) := by
  obtain ⟨hx, hZ, hw, hby, hml, hown, hret, hlk, hnm⟩ := C
  refine own_via (G := T0.setTop (mkF m 17 #[.val (.ref oa), .val (.int (Int32.ofNat Ln))] [(.int (4 : Int32))])) (fun tt kk => XS.iconst X0.here hx rfl (hb hby d3_16) kk) ?_
  refine own_via (G := T0.setTop (mkF m 18 #[.val (.ref oa), .val (.int (Int32.ofNat Ln))] [(.int (Int32.ofNat Ln)), (.int (4 : Int32))])) (fun tt kk => XS.iloadN X0.here hx rfl (hb hby d3_17) rfl kk) ?_
  by_cases hc1_18 : (4 : Int32) < (Int32.ofNat Ln)
  · refine own_via (G := T0.setTop (mkF m 21 #[.val (.ref oa), .val (.int (Int32.ofNat Ln))] [])) (fun tt kk => XS.icmpNo X0.here hx rfl (hb hby d3_18) rfl (XT.ii_ge_f hc1_18) kk) ?_
    refine own_via (G := T0.setTop (mkF m 22 #[.val (.ref oa), .val (.int (Int32.ofNat Ln))] [(.ref oa)])) (fun tt kk => XS.aloadN X0.here hx rfl (hb hby d3_21) rfl rfl kk) ?_
    refine own_via (G := T0.setTop (mkF m 23 #[.val (.ref oa), .val (.int (Int32.ofNat Ln))] [(.int (Int32.ofNat Ln)), (.ref oa)])) (fun tt kk => XS.iloadN X0.here hx rfl (hb hby d3_22) rfl kk) ?_
    refine own_via (G := T0.setTop (mkF m 24 #[.val (.ref oa), .val (.int (Int32.ofNat Ln))] [(.int (4 : Int32)), (.int (Int32.ofNat Ln)), (.ref oa)])) (fun tt kk => XS.iconst X0.here hx rfl (hb hby d3_23) kk) ?_
    obtain ⟨_, _, ⟨T2, L2, k2, n2⟩, -, X2, ⟨Lc2, hQ2, l2, y2, z2⟩, st2⟩ := Jvm.LawKit.callS X0 hx (y := (⟨"com/example/clew/clew/KnuthMorrisPrattFailureFunctionPinLaw", "isBorder", "([BII)Z"⟩ : MethodName)) hown (mvT hZ (hw _ (List.mem_of_getElem? (i := 14) rfl))) (mvT hZ (hw _ (List.mem_of_getElem? (i := 15) rfl))) (mvT hZ (hw _ (List.mem_of_getElem? (i := 4) rfl))) (mvT hZ (hw _ (List.mem_of_getElem? (i := 16) rfl))) (by decide) (backOf (W := 0) (rm4 l Z a0 hw [] oa ka n P Ln 4 h0 n0 Z0 VA hP hn6 hL (own_lei (k := 4) (j := Ln) (by decide) (by omega) hc1_18)) hZ (hw _ (List.mem_of_getElem? (i := 16) rfl)) (hw _ (List.mem_of_getElem? (i := 4) rfl)) (by decide) (by decide)) (g := (mkF m 24 #[.val (.ref oa), .val (.int (Int32.ofNat Ln))] [(.int (4 : Int32)), (.int (Int32.ofNat Ln)), (.ref oa)])) rfl (by rw [hml]; rfl) (argsL := [(.ref oa), (.int (Int32.ofNat Ln)), (.int (4 : Int32))]) (rest := []) (lenOf pd_0 rfl) rfl (by show 2 * 0 + _ ≤ _; exact Nat.le_of_eq rfl) (hb hby d3_24) (fun _ _ => ⟨rfl, e0, (by decide : 0 + 0 ≤ _), (by decide : 0 + 0 ≤ _)⟩)
    dsimp only [Pt.U, Pt.locs, Pt.cells, Pt.slots] at X2 l2 y2 z2 st2 hQ2
    subst l2 y2 z2
    obtain ⟨rfl, Nq2, eh2⟩ := hQ2
    have N2 := Fr.app N0 Nq2
    refine own_via (G := T2.setTop (mkF m 27 #[.val (.ref oa), .val (.int (Int32.ofNat Ln))] [(.int (own_b2i (own_ib1 (own_e P) Ln 4)))])) (fun tt kk => st2 tt kk) ?_
    by_cases hc3_27 : (own_b2i (own_ib1 (own_e P) Ln 4)) = (0 : Int32)
    · refine own_via (G := T2.setTop (mkF m 32 #[.val (.ref oa), .val (.int (Int32.ofNat Ln))] [])) (fun tt kk => XS.ifYes X2.here hx rfl (pc0 := 27) (pc' := 32) rfl (hb hby d3_27) rfl (XT.i0_eq_t hc3_27) (by decide) (by decide) kk) ?_
      exact b3_32 oa ka n P Ln r ⟨hx, hZ, hw, hby, hml, hown, hret, hlk, hnm⟩ X2 eh2 Z0 N2 VA hP hn6 hL (hr.trans (congrArg Int32.ofNat (by unfold own_bd4; rw [if_pos (own_lei (k := 4) (j := Ln) (by decide) (by omega) hc1_18), if_neg (by rw [own_b0 hc3_27]; decide)])))
    · refine own_via (G := T2.setTop (mkF m 30 #[.val (.ref oa), .val (.int (Int32.ofNat Ln))] [])) (fun tt kk => XS.ifNo X2.here hx rfl (hb hby d3_27) rfl (XT.i0_eq_f hc3_27) kk) ?_
      refine own_via (G := T2.setTop (mkF m 31 #[.val (.ref oa), .val (.int (Int32.ofNat Ln))] [(.int (4 : Int32))])) (fun tt kk => XS.iconst X2.here hx rfl (hb hby d3_30) kk) ?_
      exact own_fin X2 eh2 (v := some (.int (4 : Int32))) (fun h => by rw [hret] at h; cases h) hlk (fun fs hr => retI X2 hx hret (hb hby d3_31) hr) (show ((fun (v : Option Value) (h : Heap) (L : List Loc) => v = some (.int r) ∧ Fr n0 L ∧ h = h0)) (some (.int (4 : Int32))) h0 _ from ⟨(by rw [hr]; unfold own_bd4; rw [if_pos (own_lei (k := 4) (j := Ln) (by decide) (by omega) hc1_18), if_pos (own_b1 hc3_27)]; rfl), N2, rfl⟩) (by decide) (by decide)
  · refine own_via (G := T0.setTop (mkF m 32 #[.val (.ref oa), .val (.int (Int32.ofNat Ln))] [])) (fun tt kk => XS.icmpYes X0.here hx rfl (pc0 := 18) (pc' := 32) rfl (hb hby d3_18) rfl (XT.ii_ge_t hc1_18) (by decide) (by decide) kk) ?_
    exact b3_32 oa ka n P Ln r ⟨hx, hZ, hw, hby, hml, hown, hret, hlk, hnm⟩ X0 e0 Z0 N0 VA hP hn6 hL (hr.trans (congrArg Int32.ofNat (by unfold own_bd4; rw [if_neg (fun q => hc1_18 (own_lt (i := 4) q (by omega)))])))
theorem d3_0 : decode method_5_code 0 = .ok (.iconst 5, 1) := by decide +kernel
theorem d3_1 : decode method_5_code 1 = .ok (.iload_n 1, 1) := by decide +kernel
theorem d3_2 : decode method_5_code 2 = .ok (.if_icmp .ge 14, 3) := by decide +kernel
theorem d3_5 : decode method_5_code 5 = .ok (.aload_n 0, 1) := by decide +kernel
theorem d3_6 : decode method_5_code 6 = .ok (.iload_n 1, 1) := by decide +kernel
theorem d3_7 : decode method_5_code 7 = .ok (.iconst 5, 1) := by decide +kernel
theorem d3_8 : decode method_5_code 8 = .ok (.invokestatic 24, 3) := by decide +kernel
theorem d3_11 : decode method_5_code 11 = .ok (.ifCond .eq 5, 3) := by decide +kernel
theorem d3_14 : decode method_5_code 14 = .ok (.iconst 5, 1) := by decide +kernel
theorem d3_15 : decode method_5_code 15 = .ok (.ireturn, 1) := by decide +kernel
set_option maxRecDepth 65536 in
set_option maxHeartbeats 40000000 in
theorem b3_0 {p : Program} {l : Launch} {e : Env} {s : State} {m : MethodId} {args : Array Value} {below : List Frame} {meth : Method} {c : Code} {T0 : State} {locs : List Loc} {Z : State} {a0 : Array Value} {h0 : Heap} {n0 : Nat} (oa : Addr) (ka : ClassId) (n : Nat) (P : List Int32) (Ln : Nat) (r : Int32)
    (C : own_C p s m meth c Z a0 method_5_code 2 "com/example/clew/clew/KnuthMorrisPrattFailureFunctionPinLaw" (some .int) "border") (X0 : Stand p l e ({ frames := 1, cells := 0, slots := 0, locals := 15 } : Room) s m args below meth c T0 locs 0 0) (e0 : T0.heap = h0) (Z0 : n0 ≤ h0.size) (N0 : Fr n0 locs) (VA : Arv Z h0 oa ka .byte (Int32.ofNat n) (P.map Value.int) (.int (0 : Int32))) (hP : P.length = n) (hn6 : n ≤ 6) (hL : Ln ≤ n) (hr : r = Int32.ofNat (own_bd5 (own_e P) Ln)) :
    own_Go p.tables e below (T0.setTop (mkF m 0 #[.val (.ref oa), .val (.int (Int32.ofNat Ln))] [])) (own_K s (fun (v : Option Value) (h : Heap) (L : List Loc) => v = some (.int r) ∧ Fr n0 L ∧ h = h0) ({ frames := 1, cells := 0, slots := 0, locals := 15 } : Room).cells ({ frames := 1, cells := 0, slots := 0, locals := 15 } : Room).slots) := by
  obtain ⟨hx, hZ, hw, hby, hml, hown, hret, hlk, hnm⟩ := C
  refine own_via (G := T0.setTop (mkF m 1 #[.val (.ref oa), .val (.int (Int32.ofNat Ln))] [(.int (5 : Int32))])) (fun tt kk => XS.iconst X0.here hx rfl (hb hby d3_0) kk) ?_
  refine own_via (G := T0.setTop (mkF m 2 #[.val (.ref oa), .val (.int (Int32.ofNat Ln))] [(.int (Int32.ofNat Ln)), (.int (5 : Int32))])) (fun tt kk => XS.iloadN X0.here hx rfl (hb hby d3_1) rfl kk) ?_
  by_cases hc1_2 : (5 : Int32) < (Int32.ofNat Ln)
  · refine own_via (G := T0.setTop (mkF m 5 #[.val (.ref oa), .val (.int (Int32.ofNat Ln))] [])) (fun tt kk => XS.icmpNo X0.here hx rfl (hb hby d3_2) rfl (XT.ii_ge_f hc1_2) kk) ?_
    refine own_via (G := T0.setTop (mkF m 6 #[.val (.ref oa), .val (.int (Int32.ofNat Ln))] [(.ref oa)])) (fun tt kk => XS.aloadN X0.here hx rfl (hb hby d3_5) rfl rfl kk) ?_
    refine own_via (G := T0.setTop (mkF m 7 #[.val (.ref oa), .val (.int (Int32.ofNat Ln))] [(.int (Int32.ofNat Ln)), (.ref oa)])) (fun tt kk => XS.iloadN X0.here hx rfl (hb hby d3_6) rfl kk) ?_
    refine own_via (G := T0.setTop (mkF m 8 #[.val (.ref oa), .val (.int (Int32.ofNat Ln))] [(.int (5 : Int32)), (.int (Int32.ofNat Ln)), (.ref oa)])) (fun tt kk => XS.iconst X0.here hx rfl (hb hby d3_7) kk) ?_
    obtain ⟨_, _, ⟨T2, L2, k2, n2⟩, -, X2, ⟨Lc2, hQ2, l2, y2, z2⟩, st2⟩ := Jvm.LawKit.callS X0 hx (y := (⟨"com/example/clew/clew/KnuthMorrisPrattFailureFunctionPinLaw", "isBorder", "([BII)Z"⟩ : MethodName)) hown (mvT hZ (hw _ (List.mem_of_getElem? (i := 14) rfl))) (mvT hZ (hw _ (List.mem_of_getElem? (i := 15) rfl))) (mvT hZ (hw _ (List.mem_of_getElem? (i := 4) rfl))) (mvT hZ (hw _ (List.mem_of_getElem? (i := 16) rfl))) (by decide) (backOf (W := 0) (rm4 l Z a0 hw [] oa ka n P Ln 5 h0 n0 Z0 VA hP hn6 hL (own_lei (k := 5) (j := Ln) (by decide) (by omega) hc1_2)) hZ (hw _ (List.mem_of_getElem? (i := 16) rfl)) (hw _ (List.mem_of_getElem? (i := 4) rfl)) (by decide) (by decide)) (g := (mkF m 8 #[.val (.ref oa), .val (.int (Int32.ofNat Ln))] [(.int (5 : Int32)), (.int (Int32.ofNat Ln)), (.ref oa)])) rfl (by rw [hml]; rfl) (argsL := [(.ref oa), (.int (Int32.ofNat Ln)), (.int (5 : Int32))]) (rest := []) (lenOf pd_0 rfl) rfl (by show 2 * 0 + _ ≤ _; exact Nat.le_of_eq rfl) (hb hby d3_8) (fun _ _ => ⟨rfl, e0, (by decide : 0 + 0 ≤ _), (by decide : 0 + 0 ≤ _)⟩)
    dsimp only [Pt.U, Pt.locs, Pt.cells, Pt.slots] at X2 l2 y2 z2 st2 hQ2
    subst l2 y2 z2
    obtain ⟨rfl, Nq2, eh2⟩ := hQ2
    have N2 := Fr.app N0 Nq2
    refine own_via (G := T2.setTop (mkF m 11 #[.val (.ref oa), .val (.int (Int32.ofNat Ln))] [(.int (own_b2i (own_ib1 (own_e P) Ln 5)))])) (fun tt kk => st2 tt kk) ?_
    by_cases hc3_11 : (own_b2i (own_ib1 (own_e P) Ln 5)) = (0 : Int32)
    · refine own_via (G := T2.setTop (mkF m 16 #[.val (.ref oa), .val (.int (Int32.ofNat Ln))] [])) (fun tt kk => XS.ifYes X2.here hx rfl (pc0 := 11) (pc' := 16) rfl (hb hby d3_11) rfl (XT.i0_eq_t hc3_11) (by decide) (by decide) kk) ?_
      exact b3_16 oa ka n P Ln r ⟨hx, hZ, hw, hby, hml, hown, hret, hlk, hnm⟩ X2 eh2 Z0 N2 VA hP hn6 hL (hr.trans (congrArg Int32.ofNat (by unfold own_bd5; rw [if_pos (own_lei (k := 5) (j := Ln) (by decide) (by omega) hc1_2), if_neg (by rw [own_b0 hc3_11]; decide)])))
    · refine own_via (G := T2.setTop (mkF m 14 #[.val (.ref oa), .val (.int (Int32.ofNat Ln))] [])) (fun tt kk => XS.ifNo X2.here hx rfl (hb hby d3_11) rfl (XT.i0_eq_f hc3_11) kk) ?_
      refine own_via (G := T2.setTop (mkF m 15 #[.val (.ref oa), .val (.int (Int32.ofNat Ln))] [(.int (5 : Int32))])) (fun tt kk => XS.iconst X2.here hx rfl (hb hby d3_14) kk) ?_
      exact own_fin X2 eh2 (v := some (.int (5 : Int32))) (fun h => by rw [hret] at h; cases h) hlk (fun fs hr => retI X2 hx hret (hb hby d3_15) hr) (show ((fun (v : Option Value) (h : Heap) (L : List Loc) => v = some (.int r) ∧ Fr n0 L ∧ h = h0)) (some (.int (5 : Int32))) h0 _ from ⟨(by rw [hr]; unfold own_bd5; rw [if_pos (own_lei (k := 5) (j := Ln) (by decide) (by omega) hc1_2), if_pos (own_b1 hc3_11)]; rfl), N2, rfl⟩) (by decide) (by decide)
  · refine own_via (G := T0.setTop (mkF m 16 #[.val (.ref oa), .val (.int (Int32.ofNat Ln))] [])) (fun tt kk => XS.icmpYes X0.here hx rfl (pc0 := 2) (pc' := 16) rfl (hb hby d3_2) rfl (XT.ii_ge_t hc1_2) (by decide) (by decide) kk) ?_
    exact b3_16 oa ka n P Ln r ⟨hx, hZ, hw, hby, hml, hown, hret, hlk, hnm⟩ X0 e0 Z0 N0 VA hP hn6 hL (hr.trans (congrArg Int32.ofNat (by unfold own_bd5; rw [if_neg (fun q => hc1_2 (own_lt (i := 5) q (by omega)))])))
def Q3 (Z : State) (oa : Addr) (ka : ClassId) (n : Nat) (P : List Int32) (Ln : Nat) (h0 : Heap) (n0 : Nat) (v : Option Value) (h : Heap) (L : List Loc) : Prop := v = some (.int (Int32.ofNat (own_bd5 (own_e P) Ln))) ∧ Fr n0 L ∧ h = h0
theorem ef_3 (m : MethodId) (oa : Addr) (Ln : Nat) : entryFrame m #[(.ref oa), (.int (Int32.ofNat Ln))] 2 = mkF m 0 #[.val (.ref oa), .val (.int (Int32.ofNat Ln))] [] := by first | (simp [entryFrame, mkF, argsToLocals, Value.category, maxLocals]; done) | rfl
set_option maxRecDepth 65536 in
set_option maxHeartbeats 40000000 in
theorem rm3 (l : Launch) (Z : State) (a0 : Array Value) (hw : ∀ d ∈ tables_1, d.before a0 Z = true) (ws : List Jvm.Cond) (oa : Addr) (ka : ClassId) (n : Nat) (P : List Int32) (Ln : Nat) (h0 : Heap) (n0 : Nat) (Z0 : n0 ≤ h0.size) (VA : Arv Z h0 oa ka .byte (Int32.ofNat n) (P.map Value.int) (.int (0 : Int32))) (hP : P.length = n) (hn6 : n ≤ 6) (hL : Ln ≤ n) :
    MetFree l (⟨"com/example/clew/clew/KnuthMorrisPrattFailureFunctionPinLaw", "border", "([BI)I"⟩ : MethodName) (head1 (Jvm.Cond.code (⟨"com/example/clew/clew/KnuthMorrisPrattFailureFunctionPinLaw", "border", "([BI)I"⟩ : MethodName) method_5_code 2 (some .int) :: ws) ({ frames := 1, cells := 0, slots := 0, locals := 15 } : Room)) (fun a U => a = #[(.ref oa), (.int (Int32.ofNat Ln))] ∧ Z.Warmed39 U.vm ∧ U.heap = h0) (fun _ _ _ _ _ => True) (fun _ U o U' => ∃ v L, o = .returned v ∧ Q3 Z oa ka n P Ln h0 n0 v U'.heap L ∧ FrameEnd U o U' L ({ frames := 1, cells := 0, slots := 0, locals := 15 } : Room).cells ({ frames := 1, cells := 0, slots := 0, locals := 15 } : Room).slots) := by
  refine MetFree.of_bodySF (plainFor_of_name pn_0) hisR ?_
  intro p e s m args below meth c s₁ Bd hml0 hP hK
  obtain ⟨rfl, hZ, hh⟩ := hP
  have e0 : s₁.heap = h0 := by rw [← hh, Bd.state]; rfl
  rw [ef_3 m oa Ln]
  exact b3_0 oa ka n P Ln _ ⟨Bd.exec, hZ, hw, Bd.bytes, hml0, findClass_of_methodNamed Bd.named, Bd.returns, Bd.notSynchronized, (name_of_methodNamed Bd.named Bd.method).1⟩ (Stand.of_body Bd) e0 Z0 (Fr.nil n0) VA hP hn6 hL rfl
theorem d2_15 : decode prog_22_method_2_code 15 = .ok (.iload_n 2, 1) := by decide +kernel
theorem d2_16 : decode prog_22_method_2_code 16 = .ok (.ifCond .le 21, 3) := by decide +kernel
theorem d2_19 : decode prog_22_method_2_code 19 = .ok (.aload_n 0, 1) := by decide +kernel
theorem d2_20 : decode prog_22_method_2_code 20 = .ok (.iload_n 3, 1) := by decide +kernel
theorem d2_21 : decode prog_22_method_2_code 21 = .ok (.baload, 1) := by decide +kernel
theorem d2_22 : decode prog_22_method_2_code 22 = .ok (.aload_n 0, 1) := by decide +kernel
theorem d2_23 : decode prog_22_method_2_code 23 = .ok (.iload_n 2, 1) := by decide +kernel
theorem d2_24 : decode prog_22_method_2_code 24 = .ok (.baload, 1) := by decide +kernel
theorem d2_25 : decode prog_22_method_2_code 25 = .ok (.if_icmp .eq 12, 3) := by decide +kernel
theorem d2_28 : decode prog_22_method_2_code 28 = .ok (.aload_n 1, 1) := by decide +kernel
theorem d2_29 : decode prog_22_method_2_code 29 = .ok (.iload_n 2, 1) := by decide +kernel
theorem d2_30 : decode prog_22_method_2_code 30 = .ok (.iconst 1, 1) := by decide +kernel
theorem d2_31 : decode prog_22_method_2_code 31 = .ok (.isub, 1) := by decide +kernel
theorem d2_32 : decode prog_22_method_2_code 32 = .ok (.iaload, 1) := by decide +kernel
theorem d2_33 : decode prog_22_method_2_code 33 = .ok (.istore_n 2, 1) := by decide +kernel
theorem d2_34 : decode prog_22_method_2_code 34 = .ok (.goto (-19), 3) := by decide +kernel
set_option maxRecDepth 65536 in
set_option maxHeartbeats 40000000 in
theorem b2_15 {p : Program} {l : Launch} {e : Env} {s : State} {m : MethodId} {args : Array Value} {below : List Frame} {meth : Method} {c : Code} {T0 : State} {locs : List Loc} {cells slts : Nat} {Z : State} {a0 : Array Value} {h0 : Heap} {KK : Outcome → State → Prop} (oa : Addr) (ka : ClassId) (n : Nat) (P : List Int32) (ob : Addr) (kb : ClassId) (F : List Nat) (i : Nat) (C : own_C p s m meth c Z a0 prog_22_method_2_code 4 "com/example/clew/clew/KnuthMorrisPratt" (some (.array .int)) "failureFunction") (X0 : Stand p l e ({ frames := 0, cells := 1, slots := 6, locals := 0 } : Room) s m args below meth c T0 locs cells slts) (e0 : T0.heap = h0) (VA : Arv Z h0 oa ka .byte (Int32.ofNat n) (P.map Value.int) (.int (0 : Int32))) (VO : Arv Z h0 ob kb .int (Int32.ofNat n) (own_vl F) (.int (0 : Int32))) (hP : P.length = n) (hn6 : n ≤ 6) (hi : i < n) (hFle : ∀ j, F.getD j 0 ≤ j) :
    ∀ (f k : Nat), k ≤ f → k < i → own_Go p.tables e below (T0.setTop (mkF m 37 #[.val (.ref oa), .val (.ref ob), .val (.int (Int32.ofNat (own_in (own_e P) F i f k))), .val (.int (Int32.ofNat i))] [])) KK → own_Go p.tables e below (T0.setTop (mkF m 15 #[.val (.ref oa), .val (.ref ob), .val (.int (Int32.ofNat k)), .val (.int (Int32.ofNat i))] [])) KK := by
  obtain ⟨hx, hZ, hw, hby, hml, hown, hret, hlk, hnm⟩ := C
  intro f
  induction f with
  | zero =>
    intro k hkf hki kt
    obtain rfl : k = 0 := by omega
    have hq : own_in (own_e P) F i 0 0 = 0 := rfl
    rw [hq] at kt
    refine own_via (G := T0.setTop (mkF m 16 #[.val (.ref oa), .val (.ref ob), .val (.int (Int32.ofNat 0)), .val (.int (Int32.ofNat i))] [(.int (Int32.ofNat 0))])) (fun tt kk => XS.iloadN X0.here hx rfl (hb hby d2_15) rfl kk) ?_
    have hc1_16 : ¬ ((0 : Int32) < (Int32.ofNat 0)) := own_nlt (i := 0) (n := 0) (by omega) (by omega)
    refine own_via (G := T0.setTop (mkF m 37 #[.val (.ref oa), .val (.ref ob), .val (.int (Int32.ofNat 0)), .val (.int (Int32.ofNat i))] [])) (fun tt kk => XS.ifYes X0.here hx rfl (pc0 := 16) (pc' := 37) rfl (hb hby d2_16) rfl (XT.i0_le_t hc1_16) (by decide) (by decide) kk) ?_
    exact kt
  | succ f ih =>
    intro k hkf hki kt
    by_cases hk0 : k = 0
    · subst hk0
      have hq : own_in (own_e P) F i (f + 1) 0 = 0 := by
        show (if (0 : Nat) = 0 then 0 else _) = 0
        rw [if_pos rfl]
      rw [hq] at kt
      refine own_via (G := T0.setTop (mkF m 16 #[.val (.ref oa), .val (.ref ob), .val (.int (Int32.ofNat 0)), .val (.int (Int32.ofNat i))] [(.int (Int32.ofNat 0))])) (fun tt kk => XS.iloadN X0.here hx rfl (hb hby d2_15) rfl kk) ?_
      have hc1_16 : ¬ ((0 : Int32) < (Int32.ofNat 0)) := own_nlt (i := 0) (n := 0) (by omega) (by omega)
      refine own_via (G := T0.setTop (mkF m 37 #[.val (.ref oa), .val (.ref ob), .val (.int (Int32.ofNat 0)), .val (.int (Int32.ofNat i))] [])) (fun tt kk => XS.ifYes X0.here hx rfl (pc0 := 16) (pc' := 37) rfl (hb hby d2_16) rfl (XT.i0_le_t hc1_16) (by decide) (by decide) kk) ?_
      exact kt
    · by_cases he : P.getD i 0 = P.getD k 0
      · have hq : own_in (own_e P) F i (f + 1) k = k := by
          show (if k = 0 then k else if own_e P i k = true then k else _) = k
          rw [if_neg hk0, if_pos (own_et (by omega) (by omega) he)]
        rw [hq] at kt
        refine own_via (G := T0.setTop (mkF m 16 #[.val (.ref oa), .val (.ref ob), .val (.int (Int32.ofNat k)), .val (.int (Int32.ofNat i))] [(.int (Int32.ofNat k))])) (fun tt kk => XS.iloadN X0.here hx rfl (hb hby d2_15) rfl kk) ?_
        have hc1_16 : (0 : Int32) < (Int32.ofNat k) := own_lt (i := 0) (by omega) (by omega)
        refine own_via (G := T0.setTop (mkF m 19 #[.val (.ref oa), .val (.ref ob), .val (.int (Int32.ofNat k)), .val (.int (Int32.ofNat i))] [])) (fun tt kk => XS.ifNo X0.here hx rfl (hb hby d2_16) rfl (XT.i0_le_f hc1_16) kk) ?_
        refine own_via (G := T0.setTop (mkF m 20 #[.val (.ref oa), .val (.ref ob), .val (.int (Int32.ofNat k)), .val (.int (Int32.ofNat i))] [(.ref oa)])) (fun tt kk => XS.aloadN X0.here hx rfl (hb hby d2_19) rfl rfl kk) ?_
        refine own_via (G := T0.setTop (mkF m 21 #[.val (.ref oa), .val (.ref ob), .val (.int (Int32.ofNat k)), .val (.int (Int32.ofNat i))] [(.int (Int32.ofNat i)), (.ref oa)])) (fun tt kk => XS.iloadN X0.here hx rfl (hb hby d2_20) rfl kk) ?_
        obtain ⟨cl2, Ar2, qc2, S2, NN2, H2, G2⟩ := id VA
        have in2 := inb_of (j := (Int32.ofNat i)) S2 (own_inb (i := i) (by omega) (by omega))
        have hat2 : cl2.slots[((Int32.ofNat i)).toNatClampNeg]? = some (.int (P.getD i 0)) := H2.at in2 (own_pget P (i := i) (by omega))
        refine own_via (G := T0.setTop (mkF m 22 #[.val (.ref oa), .val (.ref ob), .val (.int (Int32.ofNat k)), .val (.int (Int32.ofNat i))] [(.int (P.getD i 0))])) (fun tt kk => X0.baloadBytes hx (j := (Int32.ofNat i)) (v := (.int (P.getD i 0))) (own_eqh e0 Ar2.1) (State.isArrayOf_alike hZ.alike Ar2.2.1) Ar2.2.2 in2 hat2 (g := (mkF m 21 #[.val (.ref oa), .val (.ref ob), .val (.int (Int32.ofNat k)), .val (.int (Int32.ofNat i))] [(.int (Int32.ofNat i)), (.ref oa)])) rfl rfl (hb hby d2_21) tt kk) ?_
        refine own_via (G := T0.setTop (mkF m 23 #[.val (.ref oa), .val (.ref ob), .val (.int (Int32.ofNat k)), .val (.int (Int32.ofNat i))] [(.ref oa), (.int (P.getD i 0))])) (fun tt kk => XS.aloadN X0.here hx rfl (hb hby d2_22) rfl rfl kk) ?_
        refine own_via (G := T0.setTop (mkF m 24 #[.val (.ref oa), .val (.ref ob), .val (.int (Int32.ofNat k)), .val (.int (Int32.ofNat i))] [(.int (Int32.ofNat k)), (.ref oa), (.int (P.getD i 0))])) (fun tt kk => XS.iloadN X0.here hx rfl (hb hby d2_23) rfl kk) ?_
        obtain ⟨cl3, Ar3, qc3, S3, NN3, H3, G3⟩ := id VA
        have in3 := inb_of (j := (Int32.ofNat k)) S3 (own_inb (i := k) (by omega) (by omega))
        have hat3 : cl3.slots[((Int32.ofNat k)).toNatClampNeg]? = some (.int (P.getD k 0)) := H3.at in3 (own_pget P (i := k) (by omega))
        refine own_via (G := T0.setTop (mkF m 25 #[.val (.ref oa), .val (.ref ob), .val (.int (Int32.ofNat k)), .val (.int (Int32.ofNat i))] [(.int (P.getD k 0)), (.int (P.getD i 0))])) (fun tt kk => X0.baloadBytes hx (j := (Int32.ofNat k)) (v := (.int (P.getD k 0))) (own_eqh e0 Ar3.1) (State.isArrayOf_alike hZ.alike Ar3.2.1) Ar3.2.2 in3 hat3 (g := (mkF m 24 #[.val (.ref oa), .val (.ref ob), .val (.int (Int32.ofNat k)), .val (.int (Int32.ofNat i))] [(.int (Int32.ofNat k)), (.ref oa), (.int (P.getD i 0))])) rfl rfl (hb hby d2_24) tt kk) ?_
        have hc4_25 : (P.getD i 0) = (P.getD k 0) := he
        refine own_via (G := T0.setTop (mkF m 37 #[.val (.ref oa), .val (.ref ob), .val (.int (Int32.ofNat k)), .val (.int (Int32.ofNat i))] [])) (fun tt kk => XS.icmpYes X0.here hx rfl (pc0 := 25) (pc' := 37) rfl (hb hby d2_25) rfl (XT.ii_eq_t hc4_25) (by decide) (by decide) kk) ?_
        exact kt
      · have hq : own_in (own_e P) F i (f + 1) k = own_in (own_e P) F i f (F.getD (k - 1) 0) := by
          show (if k = 0 then k else if own_e P i k = true then k else own_in (own_e P) F i f (F.getD (k - 1) 0)) = _
          rw [if_neg hk0, if_neg (by rw [own_ef he]; decide)]
        rw [hq] at kt
        refine own_via (G := T0.setTop (mkF m 16 #[.val (.ref oa), .val (.ref ob), .val (.int (Int32.ofNat k)), .val (.int (Int32.ofNat i))] [(.int (Int32.ofNat k))])) (fun tt kk => XS.iloadN X0.here hx rfl (hb hby d2_15) rfl kk) ?_
        have hc1_16 : (0 : Int32) < (Int32.ofNat k) := own_lt (i := 0) (by omega) (by omega)
        refine own_via (G := T0.setTop (mkF m 19 #[.val (.ref oa), .val (.ref ob), .val (.int (Int32.ofNat k)), .val (.int (Int32.ofNat i))] [])) (fun tt kk => XS.ifNo X0.here hx rfl (hb hby d2_16) rfl (XT.i0_le_f hc1_16) kk) ?_
        refine own_via (G := T0.setTop (mkF m 20 #[.val (.ref oa), .val (.ref ob), .val (.int (Int32.ofNat k)), .val (.int (Int32.ofNat i))] [(.ref oa)])) (fun tt kk => XS.aloadN X0.here hx rfl (hb hby d2_19) rfl rfl kk) ?_
        refine own_via (G := T0.setTop (mkF m 21 #[.val (.ref oa), .val (.ref ob), .val (.int (Int32.ofNat k)), .val (.int (Int32.ofNat i))] [(.int (Int32.ofNat i)), (.ref oa)])) (fun tt kk => XS.iloadN X0.here hx rfl (hb hby d2_20) rfl kk) ?_
        obtain ⟨cl2, Ar2, qc2, S2, NN2, H2, G2⟩ := id VA
        have in2 := inb_of (j := (Int32.ofNat i)) S2 (own_inb (i := i) (by omega) (by omega))
        have hat2 : cl2.slots[((Int32.ofNat i)).toNatClampNeg]? = some (.int (P.getD i 0)) := H2.at in2 (own_pget P (i := i) (by omega))
        refine own_via (G := T0.setTop (mkF m 22 #[.val (.ref oa), .val (.ref ob), .val (.int (Int32.ofNat k)), .val (.int (Int32.ofNat i))] [(.int (P.getD i 0))])) (fun tt kk => X0.baloadBytes hx (j := (Int32.ofNat i)) (v := (.int (P.getD i 0))) (own_eqh e0 Ar2.1) (State.isArrayOf_alike hZ.alike Ar2.2.1) Ar2.2.2 in2 hat2 (g := (mkF m 21 #[.val (.ref oa), .val (.ref ob), .val (.int (Int32.ofNat k)), .val (.int (Int32.ofNat i))] [(.int (Int32.ofNat i)), (.ref oa)])) rfl rfl (hb hby d2_21) tt kk) ?_
        refine own_via (G := T0.setTop (mkF m 23 #[.val (.ref oa), .val (.ref ob), .val (.int (Int32.ofNat k)), .val (.int (Int32.ofNat i))] [(.ref oa), (.int (P.getD i 0))])) (fun tt kk => XS.aloadN X0.here hx rfl (hb hby d2_22) rfl rfl kk) ?_
        refine own_via (G := T0.setTop (mkF m 24 #[.val (.ref oa), .val (.ref ob), .val (.int (Int32.ofNat k)), .val (.int (Int32.ofNat i))] [(.int (Int32.ofNat k)), (.ref oa), (.int (P.getD i 0))])) (fun tt kk => XS.iloadN X0.here hx rfl (hb hby d2_23) rfl kk) ?_
        obtain ⟨cl3, Ar3, qc3, S3, NN3, H3, G3⟩ := id VA
        have in3 := inb_of (j := (Int32.ofNat k)) S3 (own_inb (i := k) (by omega) (by omega))
        have hat3 : cl3.slots[((Int32.ofNat k)).toNatClampNeg]? = some (.int (P.getD k 0)) := H3.at in3 (own_pget P (i := k) (by omega))
        refine own_via (G := T0.setTop (mkF m 25 #[.val (.ref oa), .val (.ref ob), .val (.int (Int32.ofNat k)), .val (.int (Int32.ofNat i))] [(.int (P.getD k 0)), (.int (P.getD i 0))])) (fun tt kk => X0.baloadBytes hx (j := (Int32.ofNat k)) (v := (.int (P.getD k 0))) (own_eqh e0 Ar3.1) (State.isArrayOf_alike hZ.alike Ar3.2.1) Ar3.2.2 in3 hat3 (g := (mkF m 24 #[.val (.ref oa), .val (.ref ob), .val (.int (Int32.ofNat k)), .val (.int (Int32.ofNat i))] [(.int (Int32.ofNat k)), (.ref oa), (.int (P.getD i 0))])) rfl rfl (hb hby d2_24) tt kk) ?_
        have hc4_25 : ¬ ((P.getD i 0) = (P.getD k 0)) := he
        refine own_via (G := T0.setTop (mkF m 28 #[.val (.ref oa), .val (.ref ob), .val (.int (Int32.ofNat k)), .val (.int (Int32.ofNat i))] [])) (fun tt kk => XS.icmpNo X0.here hx rfl (hb hby d2_25) rfl (XT.ii_eq_f hc4_25) kk) ?_
        refine own_via (G := T0.setTop (mkF m 29 #[.val (.ref oa), .val (.ref ob), .val (.int (Int32.ofNat k)), .val (.int (Int32.ofNat i))] [(.ref ob)])) (fun tt kk => XS.aloadN X0.here hx rfl (hb hby d2_28) rfl rfl kk) ?_
        refine own_via (G := T0.setTop (mkF m 30 #[.val (.ref oa), .val (.ref ob), .val (.int (Int32.ofNat k)), .val (.int (Int32.ofNat i))] [(.int (Int32.ofNat k)), (.ref ob)])) (fun tt kk => XS.iloadN X0.here hx rfl (hb hby d2_29) rfl kk) ?_
        refine own_via (G := T0.setTop (mkF m 31 #[.val (.ref oa), .val (.ref ob), .val (.int (Int32.ofNat k)), .val (.int (Int32.ofNat i))] [(.int (1 : Int32)), (.int (Int32.ofNat k)), (.ref ob)])) (fun tt kk => XS.iconst X0.here hx rfl (hb hby d2_30) kk) ?_
        refine own_via (G := T0.setTop (mkF m 32 #[.val (.ref oa), .val (.ref ob), .val (.int (Int32.ofNat k)), .val (.int (Int32.ofNat i))] [(.int ((Int32.ofNat k) - (1 : Int32))), (.ref ob)])) (fun tt kk => XS.isub X0.here hx rfl (hb hby d2_31) rfl kk) ?_
        rw [show (Int32.ofNat k - (1 : Int32)) = Int32.ofNat (k - 1) from own_sub (k := k) (j := 1) (by omega)]
        obtain ⟨cl5, Ar5, qc5, S5, NN5, H5, G5⟩ := id VO
        have in5 := inb_of (j := (Int32.ofNat (k - 1))) S5 (own_inb (i := k - 1) (by omega) (by omega))
        have hat5 : cl5.slots[((Int32.ofNat (k - 1))).toNatClampNeg]? = some (.int (Int32.ofNat (F.getD (k - 1) 0))) := H5.at in5 (own_fget F (i := k - 1) (by omega))
        refine own_via (G := T0.setTop (mkF m 33 #[.val (.ref oa), .val (.ref ob), .val (.int (Int32.ofNat k)), .val (.int (Int32.ofNat i))] [(.int (Int32.ofNat (F.getD (k - 1) 0)))])) (fun tt kk => X0.iaload hx (j := (Int32.ofNat (k - 1))) (v := (.int (Int32.ofNat (F.getD (k - 1) 0)))) (own_eqh e0 Ar5.1) (State.isArrayOf_alike hZ.alike Ar5.2.1) Ar5.2.2 in5 hat5 (g := (mkF m 32 #[.val (.ref oa), .val (.ref ob), .val (.int (Int32.ofNat k)), .val (.int (Int32.ofNat i))] [(.int (Int32.ofNat (k - 1))), (.ref ob)])) rfl rfl (hb hby d2_32) tt kk) ?_
        refine own_via (G := T0.setTop (mkF m 34 #[.val (.ref oa), .val (.ref ob), .val (.int (Int32.ofNat (F.getD (k - 1) 0))), .val (.int (Int32.ofNat i))] [])) (fun tt kk => XS.istoreN X0.here hx rfl (hb hby d2_33) rfl (l' := #[.val (.ref oa), .val (.ref ob), .val (.int (Int32.ofNat (F.getD (k - 1) 0))), .val (.int (Int32.ofNat i))]) rfl kk) ?_
        refine own_via (G := T0.setTop (mkF m 15 #[.val (.ref oa), .val (.ref ob), .val (.int (Int32.ofNat (F.getD (k - 1) 0))), .val (.int (Int32.ofNat i))] [])) (fun tt kk => XS.goto X0.here hx rfl (pc0 := 34) (pc' := 15) rfl (hb hby d2_34) (by decide) (by decide) kk) ?_
        exact ih _ (by have := hFle (k - 1); omega) (by have := hFle (k - 1); omega) kt
theorem d2_9 : decode prog_22_method_2_code 9 = .ok (.iload_n 3, 1) := by decide +kernel
theorem d2_10 : decode prog_22_method_2_code 10 = .ok (.aload_n 0, 1) := by decide +kernel
theorem d2_11 : decode prog_22_method_2_code 11 = .ok (.arraylength, 1) := by decide +kernel
theorem d2_12 : decode prog_22_method_2_code 12 = .ok (.if_icmp .ge 47, 3) := by decide +kernel
theorem d2_59 : decode prog_22_method_2_code 59 = .ok (.aload_n 1, 1) := by decide +kernel
theorem d2_60 : decode prog_22_method_2_code 60 = .ok (.areturn, 1) := by decide +kernel
theorem d2_37 : decode prog_22_method_2_code 37 = .ok (.aload_n 0, 1) := by decide +kernel
theorem d2_38 : decode prog_22_method_2_code 38 = .ok (.iload_n 3, 1) := by decide +kernel
theorem d2_39 : decode prog_22_method_2_code 39 = .ok (.baload, 1) := by decide +kernel
theorem d2_40 : decode prog_22_method_2_code 40 = .ok (.aload_n 0, 1) := by decide +kernel
theorem d2_41 : decode prog_22_method_2_code 41 = .ok (.iload_n 2, 1) := by decide +kernel
theorem d2_42 : decode prog_22_method_2_code 42 = .ok (.baload, 1) := by decide +kernel
theorem d2_43 : decode prog_22_method_2_code 43 = .ok (.if_icmp .ne 6, 3) := by decide +kernel
theorem d2_46 : decode prog_22_method_2_code 46 = .ok (.iinc 2 1, 3) := by decide +kernel
theorem d2_49 : decode prog_22_method_2_code 49 = .ok (.aload_n 1, 1) := by decide +kernel
theorem d2_50 : decode prog_22_method_2_code 50 = .ok (.iload_n 3, 1) := by decide +kernel
theorem d2_51 : decode prog_22_method_2_code 51 = .ok (.iload_n 2, 1) := by decide +kernel
theorem d2_52 : decode prog_22_method_2_code 52 = .ok (.iastore, 1) := by decide +kernel
theorem d2_53 : decode prog_22_method_2_code 53 = .ok (.iinc 3 1, 3) := by decide +kernel
theorem d2_56 : decode prog_22_method_2_code 56 = .ok (.goto (-47), 3) := by decide +kernel
set_option maxRecDepth 65536 in
set_option maxHeartbeats 40000000 in
theorem b2_9 {p : Program} {l : Launch} {e : Env} {s : State} {m : MethodId} {args : Array Value} {below : List Frame} {meth : Method} {c : Code} {Z : State} {a0 : Array Value} {n0 : Nat} (oa : Addr) (ka : ClassId) (n : Nat) (P : List Int32) (ob : Addr) (kb : ClassId) (hE : Heap) (FF : List Nat) (C : own_C p s m meth c Z a0 prog_22_method_2_code 4 "com/example/clew/clew/KnuthMorrisPratt" (some (.array .int)) "failureFunction") (hP : P.length = n) (hn6 : n ≤ 6) (g_ob : n0 ≤ ob) (szb : hE.size ≤ ob) (ne_ab : oa ≠ ob) :
    ∀ (r i k : Nat) (F : List Nat) (T0 : State) (locs : List Loc) (h0 : Heap) (X0 : Stand p l e ({ frames := 0, cells := 1, slots := 6, locals := 0 } : Room) s m args below meth c T0 locs 1 6) (e0 : T0.heap = h0) (Z0 : n0 ≤ h0.size) (N0 : Fr n0 locs) (VA : Arv Z h0 oa ka .byte (Int32.ofNat n) (P.map Value.int) (.int (0 : Int32))) (VO : Arv Z h0 ob kb .int (Int32.ofNat n) (own_vl F) (.int (0 : Int32))) (KE : Keep hE h0 []) (hr : r = n - i) (hi1 : 1 ≤ i) (hi7 : i ≤ 7) (hki : k < i) (hF : F.length = n) (hFle : ∀ j, F.getD j 0 ≤ j) (hres : own_out (own_e P) r i k F = FF), own_Go p.tables e below (T0.setTop (mkF m 9 #[.val (.ref oa), .val (.ref ob), .val (.int (Int32.ofNat k)), .val (.int (Int32.ofNat i))] [])) (own_K s (fun (v : Option Value) (h : Heap) (L : List Loc) => ∃ bz : Addr, ∃ kz : ClassId, v = some (.ref bz) ∧ Fr n0 L ∧ Keep hE h [] ∧ hE.size ≤ bz ∧ Arv Z h bz kz .int (Int32.ofNat n) (own_vl FF) (.int (0 : Int32))) ({ frames := 0, cells := 1, slots := 6, locals := 0 } : Room).cells ({ frames := 0, cells := 1, slots := 6, locals := 0 } : Room).slots) := by
  obtain ⟨hx, hZ, hw, hby, hml, hown, hret, hlk, hnm⟩ := C
  intro r
  induction r with
  | zero =>
    intro i k F T0 locs h0 X0 e0 Z0 N0 VA VO KE hr hi1 hi7 hki hF hFle hres
    refine own_via (G := T0.setTop (mkF m 10 #[.val (.ref oa), .val (.ref ob), .val (.int (Int32.ofNat k)), .val (.int (Int32.ofNat i))] [(.int (Int32.ofNat i))])) (fun tt kk => XS.iloadN X0.here hx rfl (hb hby d2_9) rfl kk) ?_
    refine own_via (G := T0.setTop (mkF m 11 #[.val (.ref oa), .val (.ref ob), .val (.int (Int32.ofNat k)), .val (.int (Int32.ofNat i))] [(.ref oa), (.int (Int32.ofNat i))])) (fun tt kk => XS.aloadN X0.here hx rfl (hb hby d2_10) rfl rfl kk) ?_
    obtain ⟨cl1, Ar1, -, S1, NN1, -, -⟩ := id VA
    refine own_via (G := T0.setTop (mkF m 12 #[.val (.ref oa), .val (.ref ob), .val (.int (Int32.ofNat k)), .val (.int (Int32.ofNat i))] [(.int (Int32.ofNat n)), (.int (Int32.ofNat i))])) (fun tt kk => own_len X0 hx hZ e0 Ar1 S1 NN1 (g := (mkF m 11 #[.val (.ref oa), .val (.ref ob), .val (.int (Int32.ofNat k)), .val (.int (Int32.ofNat i))] [(.ref oa), (.int (Int32.ofNat i))])) rfl rfl (hb hby d2_11) kk) ?_
    have hc2_12 : ¬ ((Int32.ofNat i) < (Int32.ofNat n)) := own_nlt (by omega) (by omega)
    refine own_via (G := T0.setTop (mkF m 59 #[.val (.ref oa), .val (.ref ob), .val (.int (Int32.ofNat k)), .val (.int (Int32.ofNat i))] [])) (fun tt kk => XS.icmpYes X0.here hx rfl (pc0 := 12) (pc' := 59) rfl (hb hby d2_12) rfl (XT.ii_ge_t hc2_12) (by decide) (by decide) kk) ?_
    refine own_via (G := T0.setTop (mkF m 60 #[.val (.ref oa), .val (.ref ob), .val (.int (Int32.ofNat k)), .val (.int (Int32.ofNat i))] [(.ref ob)])) (fun tt kk => XS.aloadN X0.here hx rfl (hb hby d2_59) rfl rfl kk) ?_
    exact own_fin X0 e0 (v := some (.ref ob)) (fun h => by rw [hret] at h; cases h) hlk (fun fs hr => X0.areturnOut hx rfl hret rfl (hb hby d2_60) hr) (show ((fun (v : Option Value) (h : Heap) (L : List Loc) => ∃ bz : Addr, ∃ kz : ClassId, v = some (.ref bz) ∧ Fr n0 L ∧ Keep hE h [] ∧ hE.size ≤ bz ∧ Arv Z h bz kz .int (Int32.ofNat n) (own_vl FF) (.int (0 : Int32)))) (some (.ref ob)) h0 _ from ⟨ob, kb, rfl, N0, KE, szb, ((show F = FF from hres) ▸ VO)⟩) (by decide) (by decide)
  | succ r ih =>
    intro i k F T0 locs h0 X0 e0 Z0 N0 VA VO KE hr hi1 hi7 hki hF hFle hres
    have hkle : (own_in (own_e P) F i k k) ≤ k := own_inle (own_e P) F i hFle k k
    refine own_via (G := T0.setTop (mkF m 10 #[.val (.ref oa), .val (.ref ob), .val (.int (Int32.ofNat k)), .val (.int (Int32.ofNat i))] [(.int (Int32.ofNat i))])) (fun tt kk => XS.iloadN X0.here hx rfl (hb hby d2_9) rfl kk) ?_
    refine own_via (G := T0.setTop (mkF m 11 #[.val (.ref oa), .val (.ref ob), .val (.int (Int32.ofNat k)), .val (.int (Int32.ofNat i))] [(.ref oa), (.int (Int32.ofNat i))])) (fun tt kk => XS.aloadN X0.here hx rfl (hb hby d2_10) rfl rfl kk) ?_
    obtain ⟨cl1, Ar1, -, S1, NN1, -, -⟩ := id VA
    refine own_via (G := T0.setTop (mkF m 12 #[.val (.ref oa), .val (.ref ob), .val (.int (Int32.ofNat k)), .val (.int (Int32.ofNat i))] [(.int (Int32.ofNat n)), (.int (Int32.ofNat i))])) (fun tt kk => own_len X0 hx hZ e0 Ar1 S1 NN1 (g := (mkF m 11 #[.val (.ref oa), .val (.ref ob), .val (.int (Int32.ofNat k)), .val (.int (Int32.ofNat i))] [(.ref oa), (.int (Int32.ofNat i))])) rfl rfl (hb hby d2_11) kk) ?_
    have hc2_12 : (Int32.ofNat i) < (Int32.ofNat n) := own_lt (by omega) (by omega)
    refine own_via (G := T0.setTop (mkF m 15 #[.val (.ref oa), .val (.ref ob), .val (.int (Int32.ofNat k)), .val (.int (Int32.ofNat i))] [])) (fun tt kk => XS.icmpNo X0.here hx rfl (hb hby d2_12) rfl (XT.ii_ge_f hc2_12) kk) ?_
    refine b2_15 oa ka n P ob kb F i ⟨hx, hZ, hw, hby, hml, hown, hret, hlk, hnm⟩ X0 e0 VA VO hP hn6 (by omega) hFle k k (Nat.le_refl k) hki ?_
    refine own_via (G := T0.setTop (mkF m 38 #[.val (.ref oa), .val (.ref ob), .val (.int (Int32.ofNat (own_in (own_e P) F i k k))), .val (.int (Int32.ofNat i))] [(.ref oa)])) (fun tt kk => XS.aloadN X0.here hx rfl (hb hby d2_37) rfl rfl kk) ?_
    refine own_via (G := T0.setTop (mkF m 39 #[.val (.ref oa), .val (.ref ob), .val (.int (Int32.ofNat (own_in (own_e P) F i k k))), .val (.int (Int32.ofNat i))] [(.int (Int32.ofNat i)), (.ref oa)])) (fun tt kk => XS.iloadN X0.here hx rfl (hb hby d2_38) rfl kk) ?_
    obtain ⟨cl3, Ar3, qc3, S3, NN3, H3, G3⟩ := id VA
    have in3 := inb_of (j := (Int32.ofNat i)) S3 (own_inb (i := i) (by omega) (by omega))
    have hat3 : cl3.slots[((Int32.ofNat i)).toNatClampNeg]? = some (.int (P.getD i 0)) := H3.at in3 (own_pget P (i := i) (by omega))
    refine own_via (G := T0.setTop (mkF m 40 #[.val (.ref oa), .val (.ref ob), .val (.int (Int32.ofNat (own_in (own_e P) F i k k))), .val (.int (Int32.ofNat i))] [(.int (P.getD i 0))])) (fun tt kk => X0.baloadBytes hx (j := (Int32.ofNat i)) (v := (.int (P.getD i 0))) (own_eqh e0 Ar3.1) (State.isArrayOf_alike hZ.alike Ar3.2.1) Ar3.2.2 in3 hat3 (g := (mkF m 39 #[.val (.ref oa), .val (.ref ob), .val (.int (Int32.ofNat (own_in (own_e P) F i k k))), .val (.int (Int32.ofNat i))] [(.int (Int32.ofNat i)), (.ref oa)])) rfl rfl (hb hby d2_39) tt kk) ?_
    refine own_via (G := T0.setTop (mkF m 41 #[.val (.ref oa), .val (.ref ob), .val (.int (Int32.ofNat (own_in (own_e P) F i k k))), .val (.int (Int32.ofNat i))] [(.ref oa), (.int (P.getD i 0))])) (fun tt kk => XS.aloadN X0.here hx rfl (hb hby d2_40) rfl rfl kk) ?_
    refine own_via (G := T0.setTop (mkF m 42 #[.val (.ref oa), .val (.ref ob), .val (.int (Int32.ofNat (own_in (own_e P) F i k k))), .val (.int (Int32.ofNat i))] [(.int (Int32.ofNat (own_in (own_e P) F i k k))), (.ref oa), (.int (P.getD i 0))])) (fun tt kk => XS.iloadN X0.here hx rfl (hb hby d2_41) rfl kk) ?_
    obtain ⟨cl4, Ar4, qc4, S4, NN4, H4, G4⟩ := id VA
    have in4 := inb_of (j := (Int32.ofNat (own_in (own_e P) F i k k))) S4 (own_inb (i := (own_in (own_e P) F i k k)) (by omega) (by omega))
    have hat4 : cl4.slots[((Int32.ofNat (own_in (own_e P) F i k k))).toNatClampNeg]? = some (.int (P.getD (own_in (own_e P) F i k k) 0)) := H4.at in4 (own_pget P (i := (own_in (own_e P) F i k k)) (by omega))
    refine own_via (G := T0.setTop (mkF m 43 #[.val (.ref oa), .val (.ref ob), .val (.int (Int32.ofNat (own_in (own_e P) F i k k))), .val (.int (Int32.ofNat i))] [(.int (P.getD (own_in (own_e P) F i k k) 0)), (.int (P.getD i 0))])) (fun tt kk => X0.baloadBytes hx (j := (Int32.ofNat (own_in (own_e P) F i k k))) (v := (.int (P.getD (own_in (own_e P) F i k k) 0))) (own_eqh e0 Ar4.1) (State.isArrayOf_alike hZ.alike Ar4.2.1) Ar4.2.2 in4 hat4 (g := (mkF m 42 #[.val (.ref oa), .val (.ref ob), .val (.int (Int32.ofNat (own_in (own_e P) F i k k))), .val (.int (Int32.ofNat i))] [(.int (Int32.ofNat (own_in (own_e P) F i k k))), (.ref oa), (.int (P.getD i 0))])) rfl rfl (hb hby d2_42) tt kk) ?_
    by_cases hc5_43 : (P.getD i 0) = (P.getD (own_in (own_e P) F i k k) 0)
    · refine own_via (G := T0.setTop (mkF m 46 #[.val (.ref oa), .val (.ref ob), .val (.int (Int32.ofNat (own_in (own_e P) F i k k))), .val (.int (Int32.ofNat i))] [])) (fun tt kk => XS.icmpNo X0.here hx rfl (hb hby d2_43) rfl (XT.ii_ne_f hc5_43) kk) ?_
      refine own_via (G := T0.setTop (mkF m 49 #[.val (.ref oa), .val (.ref ob), .val (.int ((Int32.ofNat (own_in (own_e P) F i k k)) + (1 : Int32))), .val (.int (Int32.ofNat i))] [])) (fun tt kk => XS.iinc X0.here hx rfl (hb hby d2_46) rfl (l' := #[.val (.ref oa), .val (.ref ob), .val (.int ((Int32.ofNat (own_in (own_e P) F i k k)) + (1 : Int32))), .val (.int (Int32.ofNat i))]) rfl kk) ?_
      rw [own_one]
      have hnx : own_nx (own_e P) i (own_in (own_e P) F i k k) = (own_in (own_e P) F i k k) + 1 := by unfold own_nx; rw [if_pos (own_et (by omega) (by omega) hc5_43)]
      refine own_via (G := T0.setTop (mkF m 50 #[.val (.ref oa), .val (.ref ob), .val (.int (Int32.ofNat ((own_in (own_e P) F i k k) + 1))), .val (.int (Int32.ofNat i))] [(.ref ob)])) (fun tt kk => XS.aloadN X0.here hx rfl (hb hby d2_49) rfl rfl kk) ?_
      refine own_via (G := T0.setTop (mkF m 51 #[.val (.ref oa), .val (.ref ob), .val (.int (Int32.ofNat ((own_in (own_e P) F i k k) + 1))), .val (.int (Int32.ofNat i))] [(.int (Int32.ofNat i)), (.ref ob)])) (fun tt kk => XS.iloadN X0.here hx rfl (hb hby d2_50) rfl kk) ?_
      refine own_via (G := T0.setTop (mkF m 52 #[.val (.ref oa), .val (.ref ob), .val (.int (Int32.ofNat ((own_in (own_e P) F i k k) + 1))), .val (.int (Int32.ofNat i))] [(.int (Int32.ofNat ((own_in (own_e P) F i k k) + 1))), (.int (Int32.ofNat i)), (.ref ob)])) (fun tt kk => XS.iloadN X0.here hx rfl (hb hby d2_51) rfl kk) ?_
      obtain ⟨cl6, Ar6, qc6, S6, NN6, H6, G6⟩ := id VO
      obtain ⟨T6, h6, X6, e6, W6, st6⟩ := stI X0 hx hZ e0 Ar6 (j := (Int32.ofNat i)) (inb_of S6 (own_inb (i := i) (by omega) (by omega))) (g := (mkF m 52 #[.val (.ref oa), .val (.ref ob), .val (.int (Int32.ofNat ((own_in (own_e P) F i k k) + 1))), .val (.int (Int32.ofNat i))] [(.int (Int32.ofNat ((own_in (own_e P) F i k k) + 1))), (.int (Int32.ofNat i)), (.ref ob)])) rfl rfl (hb hby d2_52)
      have V_ob'6 : Arv Z h6 ob kb .int (Int32.ofNat n) (own_vl (F.set i ((own_in (own_e P) F i k k) + 1))) (.int (0 : Int32)) := (by have q := Arv.set Ar6 qc6 S6 NN6 H6 G6 rfl W6 i (own_cl (by omega)) (by rw [own_vlen, hF]; omega); rw [own_vset] at q; exact q)
      have VA'6 := VA.other W6 ne_ab
      have N6 := Fr.snoc X6 N0 g_ob
      have Z6 : n0 ≤ h6.size := Nat.le_trans Z0 (Keep.of_wr W6).1
      have K6 := (KE).wr W6 (Or.inr szb)
      refine own_via (G := T6.setTop (mkF m 53 #[.val (.ref oa), .val (.ref ob), .val (.int (Int32.ofNat ((own_in (own_e P) F i k k) + 1))), .val (.int (Int32.ofNat i))] [])) (fun tt kk => st6 tt kk) ?_
      refine own_via (G := T6.setTop (mkF m 56 #[.val (.ref oa), .val (.ref ob), .val (.int (Int32.ofNat ((own_in (own_e P) F i k k) + 1))), .val (.int ((Int32.ofNat i) + (1 : Int32)))] [])) (fun tt kk => XS.iinc X6.here hx rfl (hb hby d2_53) rfl (l' := #[.val (.ref oa), .val (.ref ob), .val (.int (Int32.ofNat ((own_in (own_e P) F i k k) + 1))), .val (.int ((Int32.ofNat i) + (1 : Int32)))]) rfl kk) ?_
      refine own_via (G := T6.setTop (mkF m 9 #[.val (.ref oa), .val (.ref ob), .val (.int (Int32.ofNat ((own_in (own_e P) F i k k) + 1))), .val (.int ((Int32.ofNat i) + (1 : Int32)))] [])) (fun tt kk => XS.goto X6.here hx rfl (pc0 := 56) (pc' := 9) rfl (hb hby d2_56) (by decide) (by decide) kk) ?_
      rw [own_one]
      exact ih (i + 1) ((own_in (own_e P) F i k k) + 1) (F.set i ((own_in (own_e P) F i k k) + 1)) T6 _ _ X6 e6 Z6 N6 VA'6 V_ob'6 K6 (by omega) (by omega) (by omega) (by omega) (by rw [List.length_set]; exact hF) (own_setle hFle (by omega)) (by rw [← hnx]; exact hres)
    · refine own_via (G := T0.setTop (mkF m 49 #[.val (.ref oa), .val (.ref ob), .val (.int (Int32.ofNat (own_in (own_e P) F i k k))), .val (.int (Int32.ofNat i))] [])) (fun tt kk => XS.icmpYes X0.here hx rfl (pc0 := 43) (pc' := 49) rfl (hb hby d2_43) rfl (XT.ii_ne_t hc5_43) (by decide) (by decide) kk) ?_
      have hnx : own_nx (own_e P) i (own_in (own_e P) F i k k) = (own_in (own_e P) F i k k) := by unfold own_nx; rw [if_neg (by rw [own_ef hc5_43]; decide)]
      refine own_via (G := T0.setTop (mkF m 50 #[.val (.ref oa), .val (.ref ob), .val (.int (Int32.ofNat (own_in (own_e P) F i k k))), .val (.int (Int32.ofNat i))] [(.ref ob)])) (fun tt kk => XS.aloadN X0.here hx rfl (hb hby d2_49) rfl rfl kk) ?_
      refine own_via (G := T0.setTop (mkF m 51 #[.val (.ref oa), .val (.ref ob), .val (.int (Int32.ofNat (own_in (own_e P) F i k k))), .val (.int (Int32.ofNat i))] [(.int (Int32.ofNat i)), (.ref ob)])) (fun tt kk => XS.iloadN X0.here hx rfl (hb hby d2_50) rfl kk) ?_
      refine own_via (G := T0.setTop (mkF m 52 #[.val (.ref oa), .val (.ref ob), .val (.int (Int32.ofNat (own_in (own_e P) F i k k))), .val (.int (Int32.ofNat i))] [(.int (Int32.ofNat (own_in (own_e P) F i k k))), (.int (Int32.ofNat i)), (.ref ob)])) (fun tt kk => XS.iloadN X0.here hx rfl (hb hby d2_51) rfl kk) ?_
      obtain ⟨cl7, Ar7, qc7, S7, NN7, H7, G7⟩ := id VO
      obtain ⟨T7, h7, X7, e7, W7, st7⟩ := stI X0 hx hZ e0 Ar7 (j := (Int32.ofNat i)) (inb_of S7 (own_inb (i := i) (by omega) (by omega))) (g := (mkF m 52 #[.val (.ref oa), .val (.ref ob), .val (.int (Int32.ofNat (own_in (own_e P) F i k k))), .val (.int (Int32.ofNat i))] [(.int (Int32.ofNat (own_in (own_e P) F i k k))), (.int (Int32.ofNat i)), (.ref ob)])) rfl rfl (hb hby d2_52)
      have V_ob'7 : Arv Z h7 ob kb .int (Int32.ofNat n) (own_vl (F.set i (own_in (own_e P) F i k k))) (.int (0 : Int32)) := (by have q := Arv.set Ar7 qc7 S7 NN7 H7 G7 rfl W7 i (own_cl (by omega)) (by rw [own_vlen, hF]; omega); rw [own_vset] at q; exact q)
      have VA'7 := VA.other W7 ne_ab
      have N7 := Fr.snoc X7 N0 g_ob
      have Z7 : n0 ≤ h7.size := Nat.le_trans Z0 (Keep.of_wr W7).1
      have K7 := (KE).wr W7 (Or.inr szb)
      refine own_via (G := T7.setTop (mkF m 53 #[.val (.ref oa), .val (.ref ob), .val (.int (Int32.ofNat (own_in (own_e P) F i k k))), .val (.int (Int32.ofNat i))] [])) (fun tt kk => st7 tt kk) ?_
      refine own_via (G := T7.setTop (mkF m 56 #[.val (.ref oa), .val (.ref ob), .val (.int (Int32.ofNat (own_in (own_e P) F i k k))), .val (.int ((Int32.ofNat i) + (1 : Int32)))] [])) (fun tt kk => XS.iinc X7.here hx rfl (hb hby d2_53) rfl (l' := #[.val (.ref oa), .val (.ref ob), .val (.int (Int32.ofNat (own_in (own_e P) F i k k))), .val (.int ((Int32.ofNat i) + (1 : Int32)))]) rfl kk) ?_
      refine own_via (G := T7.setTop (mkF m 9 #[.val (.ref oa), .val (.ref ob), .val (.int (Int32.ofNat (own_in (own_e P) F i k k))), .val (.int ((Int32.ofNat i) + (1 : Int32)))] [])) (fun tt kk => XS.goto X7.here hx rfl (pc0 := 56) (pc' := 9) rfl (hb hby d2_56) (by decide) (by decide) kk) ?_
      rw [own_one]
      exact ih (i + 1) (own_in (own_e P) F i k k) (F.set i (own_in (own_e P) F i k k)) T7 _ _ X7 e7 Z7 N7 VA'7 V_ob'7 K7 (by omega) (by omega) (by omega) (by omega) (by rw [List.length_set]; exact hF) (own_setle hFle (by omega)) (by rw [← hnx]; exact hres)
theorem own_rle {n : Nat} : ∀ j, (List.replicate n 0).getD j 0 ≤ j := by
  intro j
  simp only [List.getD_eq_getElem?_getD, List.getElem?_replicate]
  split <;> exact Nat.zero_le _
theorem d2_0 : decode prog_22_method_2_code 0 = .ok (.aload_n 0, 1) := by decide +kernel
theorem d2_1 : decode prog_22_method_2_code 1 = .ok (.arraylength, 1) := by decide +kernel
theorem d2_2 : decode prog_22_method_2_code 2 = .ok (.newarray .int, 2) := by decide +kernel
theorem d2_4 : decode prog_22_method_2_code 4 = .ok (.astore_n 1, 1) := by decide +kernel
theorem d2_5 : decode prog_22_method_2_code 5 = .ok (.iconst 0, 1) := by decide +kernel
theorem d2_6 : decode prog_22_method_2_code 6 = .ok (.istore_n 2, 1) := by decide +kernel
theorem d2_7 : decode prog_22_method_2_code 7 = .ok (.iconst 1, 1) := by decide +kernel
theorem d2_8 : decode prog_22_method_2_code 8 = .ok (.istore_n 3, 1) := by decide +kernel
set_option maxRecDepth 65536 in
set_option maxHeartbeats 40000000 in
theorem b2_0 {p : Program} {l : Launch} {e : Env} {s : State} {m : MethodId} {args : Array Value} {below : List Frame} {meth : Method} {c : Code} {T0 : State} {locs : List Loc} {Z : State} {a0 : Array Value} {h0 : Heap} {n0 : Nat} (oa : Addr) (ka : ClassId) (n : Nat) (P : List Int32)
    (C : own_C p s m meth c Z a0 prog_22_method_2_code 4 "com/example/clew/clew/KnuthMorrisPratt" (some (.array .int)) "failureFunction") (X0 : Stand p l e ({ frames := 0, cells := 1, slots := 6, locals := 0 } : Room) s m args below meth c T0 locs 0 0) (e0 : T0.heap = h0) (Z0 : n0 ≤ h0.size) (N0 : Fr n0 locs) (VA : Arv Z h0 oa ka .byte (Int32.ofNat n) (P.map Value.int) (.int (0 : Int32))) (hP : P.length = n) (hn6 : n ≤ 6) :
    own_Go p.tables e below (T0.setTop (mkF m 0 #[.val (.ref oa), .unset, .unset, .unset] [])) (own_K s (fun (v : Option Value) (h : Heap) (L : List Loc) => ∃ bz : Addr, ∃ kz : ClassId, v = some (.ref bz) ∧ Fr n0 L ∧ Keep h0 h [] ∧ h0.size ≤ bz ∧ Arv Z h bz kz .int (Int32.ofNat n) (own_vl (own_out (own_e P) (n - 1) 1 0 (List.replicate n 0))) (.int (0 : Int32))) ({ frames := 0, cells := 1, slots := 6, locals := 0 } : Room).cells ({ frames := 0, cells := 1, slots := 6, locals := 0 } : Room).slots) := by
  obtain ⟨hx, hZ, hw, hby, hml, hown, hret, hlk, hnm⟩ := C
  refine own_via (G := T0.setTop (mkF m 1 #[.val (.ref oa), .unset, .unset, .unset] [(.ref oa)])) (fun tt kk => XS.aloadN X0.here hx rfl (hb hby d2_0) rfl rfl kk) ?_
  obtain ⟨cl1, Ar1, -, S1, NN1, -, -⟩ := id VA
  refine own_via (G := T0.setTop (mkF m 2 #[.val (.ref oa), .unset, .unset, .unset] [(.int (Int32.ofNat n))])) (fun tt kk => own_len X0 hx hZ e0 Ar1 S1 NN1 (g := (mkF m 1 #[.val (.ref oa), .unset, .unset, .unset] [(.ref oa)])) rfl rfl (hb hby d2_1) kk) ?_
  obtain ⟨T2, h2, k2, X2, e2, E2, A2, st2⟩ := newP X0 hx hZ (hw _ (List.mem_of_getElem? (i := 10) rfl)) e0 (g := (mkF m 2 #[.val (.ref oa), .unset, .unset, .unset] [(.int (Int32.ofNat n))])) rfl (hb hby d2_2) rfl (own_inb (i := n) (n := n + 1) (by omega) (by omega)).1 (cap := 6) (by rw [own_cl (by omega)]; exact hn6) (by decide) (by decide) (by decide)
  obtain ⟨b2, g2⟩ : ∃ z, z = h0.size := ⟨_, rfl⟩
  rw [← g2] at A2 st2
  have ne_oa_b2 : oa ≠ b2 := Nat.ne_of_lt (Nat.lt_of_lt_of_le VA.lt (Nat.le_of_eq g2.symm))
  have g_b2 : n0 ≤ b2 := Nat.le_trans Z0 (Nat.le_of_eq g2.symm)
  have VA'2 := VA.ext E2
  have sz_b2 : h0.size ≤ b2 := Nat.le_trans ((Keep.refl h0 [])).1 (Nat.le_of_eq g2.symm)
  have K2 := ((Keep.refl h0 [])).ext E2
  have Z2 : n0 ≤ h2.size := Nat.le_trans Z0 E2.1
  have V_b2 : Arv Z h2 b2 k2 .int (Int32.ofNat n) (own_vl (List.replicate n 0)) (.int (0 : Int32)) := ((Arv.new A2 (own_inb (i := n) (n := n + 1) (by omega) (by omega)).1)).pad (by intro i; rw [own_rep]; exact pad_rep [] _ n i)
  refine own_via (G := T2.setTop (mkF m 4 #[.val (.ref oa), .unset, .unset, .unset] [(.ref b2)])) (fun tt kk => st2 tt kk) ?_
  refine own_via (G := T2.setTop (mkF m 5 #[.val (.ref oa), .val (.ref b2), .unset, .unset] [])) (fun tt kk => XS.astoreN X2.here hx rfl (hb hby d2_4) rfl rfl (l' := #[.val (.ref oa), .val (.ref b2), .unset, .unset]) rfl kk) ?_
  refine own_via (G := T2.setTop (mkF m 6 #[.val (.ref oa), .val (.ref b2), .unset, .unset] [(.int (0 : Int32))])) (fun tt kk => XS.iconst X2.here hx rfl (hb hby d2_5) kk) ?_
  refine own_via (G := T2.setTop (mkF m 7 #[.val (.ref oa), .val (.ref b2), .val (.int (0 : Int32)), .unset] [])) (fun tt kk => XS.istoreN X2.here hx rfl (hb hby d2_6) rfl (l' := #[.val (.ref oa), .val (.ref b2), .val (.int (0 : Int32)), .unset]) rfl kk) ?_
  refine own_via (G := T2.setTop (mkF m 8 #[.val (.ref oa), .val (.ref b2), .val (.int (0 : Int32)), .unset] [(.int (1 : Int32))])) (fun tt kk => XS.iconst X2.here hx rfl (hb hby d2_7) kk) ?_
  refine own_via (G := T2.setTop (mkF m 9 #[.val (.ref oa), .val (.ref b2), .val (.int (0 : Int32)), .val (.int (1 : Int32))] [])) (fun tt kk => XS.istoreN X2.here hx rfl (hb hby d2_8) rfl (l' := #[.val (.ref oa), .val (.ref b2), .val (.int (0 : Int32)), .val (.int (1 : Int32))]) rfl kk) ?_
  exact b2_9 oa ka n P b2 k2 h0 (own_out (own_e P) (n - 1) 1 0 (List.replicate n 0)) ⟨hx, hZ, hw, hby, hml, hown, hret, hlk, hnm⟩ hP hn6 g_b2 sz_b2 ne_oa_b2 (n - 1) 1 0 (List.replicate n 0) T2 _ _ X2 e2 Z2 N0 VA'2 V_b2 K2 rfl (by omega) (by omega) (by omega) (by simp) own_rle rfl
def Q2 (Z : State) (oa : Addr) (ka : ClassId) (n : Nat) (P : List Int32) (h0 : Heap) (n0 : Nat) (v : Option Value) (h : Heap) (L : List Loc) : Prop := ∃ bz : Addr, ∃ kz : ClassId, v = some (.ref bz) ∧ Fr n0 L ∧ Keep h0 h [] ∧ h0.size ≤ bz ∧ Arv Z h bz kz .int (Int32.ofNat n) (own_vl (own_out (own_e P) (n - 1) 1 0 (List.replicate n 0))) (.int (0 : Int32))
theorem pn_1 : plainName "com/example/clew/clew/KnuthMorrisPratt" = true := by first | (simp [plainName, overriddenIn]; done) | decide +kernel
theorem ef_2 (m : MethodId) (oa : Addr) : entryFrame m #[(.ref oa)] 4 = mkF m 0 #[.val (.ref oa), .unset, .unset, .unset] [] := by first | (simp [entryFrame, mkF, argsToLocals, Value.category, maxLocals]; done) | rfl
set_option maxRecDepth 65536 in
set_option maxHeartbeats 40000000 in
theorem rm2 (l : Launch) (Z : State) (a0 : Array Value) (hw : ∀ d ∈ tables_1, d.before a0 Z = true) (ws : List Jvm.Cond) (oa : Addr) (ka : ClassId) (n : Nat) (P : List Int32) (h0 : Heap) (n0 : Nat) (Z0 : n0 ≤ h0.size) (VA : Arv Z h0 oa ka .byte (Int32.ofNat n) (P.map Value.int) (.int (0 : Int32))) (hP : P.length = n) (hn6 : n ≤ 6) :
    MetFree l (⟨"com/example/clew/clew/KnuthMorrisPratt", "failureFunction", "([B)[I"⟩ : MethodName) (head1 (Jvm.Cond.code (⟨"com/example/clew/clew/KnuthMorrisPratt", "failureFunction", "([B)[I"⟩ : MethodName) prog_22_method_2_code 4 (some (.array .int)) :: ws) ({ frames := 0, cells := 1, slots := 6, locals := 0 } : Room)) (fun a U => a = #[(.ref oa)] ∧ Z.Warmed39 U.vm ∧ U.heap = h0) (fun _ _ _ _ _ => True) (fun _ U o U' => ∃ v L, o = .returned v ∧ Q2 Z oa ka n P h0 n0 v U'.heap L ∧ FrameEnd U o U' L ({ frames := 0, cells := 1, slots := 6, locals := 0 } : Room).cells ({ frames := 0, cells := 1, slots := 6, locals := 0 } : Room).slots) := by
  refine MetFree.of_bodySF (plainFor_of_name pn_1) hisR ?_
  intro p e s m args below meth c s₁ Bd hml0 hP hK
  obtain ⟨rfl, hZ, hh⟩ := hP
  have e0 : s₁.heap = h0 := by rw [← hh, Bd.state]; rfl
  rw [ef_2 m oa]
  exact b2_0 oa ka n P ⟨Bd.exec, hZ, hw, Bd.bytes, hml0, findClass_of_methodNamed Bd.named, Bd.returns, Bd.notSynchronized, (name_of_methodNamed Bd.named Bd.method).1⟩ (Stand.of_body Bd) e0 Z0 (Fr.nil n0) VA hP hn6
theorem own_seven (x : Int32) : ((x &&& (2147483647 : Int32)) % (7 : Int32)) = 0 ∨ ((x &&& (2147483647 : Int32)) % (7 : Int32)) = 1 ∨ ((x &&& (2147483647 : Int32)) % (7 : Int32)) = 2 ∨ ((x &&& (2147483647 : Int32)) % (7 : Int32)) = 3 ∨ ((x &&& (2147483647 : Int32)) % (7 : Int32)) = 4 ∨ ((x &&& (2147483647 : Int32)) % (7 : Int32)) = 5 ∨ ((x &&& (2147483647 : Int32)) % (7 : Int32)) = 6 := by
  have e : (x &&& (2147483647 : Int32)).toInt = x.toInt % 2 ^ 31 := Jvm.Kit.i32_mask x _ (k := 31) (by decide) (by decide)
  have k : (7 : Int32).toInt = 7 := rfl
  have m : ((x &&& (2147483647 : Int32)) % (7 : Int32)).toInt = (x &&& (2147483647 : Int32)).toInt % 7 := by rw [Jvm.Kit.i32_rem_nonneg (by omega), k]
  generalize ((x &&& (2147483647 : Int32)) % (7 : Int32)) = X at *
  have : X.toInt = 0 ∨ X.toInt = 1 ∨ X.toInt = 2 ∨ X.toInt = 3 ∨ X.toInt = 4 ∨ X.toInt = 5 ∨ X.toInt = 6 := by omega
  rcases this with q | q | q | q | q | q | q
  · exact Or.inl (Int32.toInt_inj.mp q)
  · exact Or.inr (Or.inl (Int32.toInt_inj.mp q))
  · exact Or.inr (Or.inr (Or.inl (Int32.toInt_inj.mp q)))
  · exact Or.inr (Or.inr (Or.inr (Or.inl (Int32.toInt_inj.mp q))))
  · exact Or.inr (Or.inr (Or.inr (Or.inr (Or.inl (Int32.toInt_inj.mp q)))))
  · exact Or.inr (Or.inr (Or.inr (Or.inr (Or.inr (Or.inl (Int32.toInt_inj.mp q))))))
  · exact Or.inr (Or.inr (Or.inr (Or.inr (Or.inr (Or.inr (Int32.toInt_inj.mp q))))))
theorem pd_1 : parseMethodDescriptor "([B)[I" = some ⟨[(.array .byte)], some (.array .int)⟩ := by decide +kernel
set_option maxRecDepth 65536 in
set_option maxHeartbeats 40000000 in
theorem b0_116_0 {p : Program} {l : Launch} {e : Env} {s : State} {m : MethodId} {args : Array Value} {below : List Frame} {meth : Method} {c : Code} {T0 : State} {locs : List Loc} {Z : State} {a0 : Array Value} {h0 : Heap} {n0 : Nat} (z0 : Slot) (z1 : Slot) (z2 : Slot) (z3 : Slot) (op : Addr) (kp : ClassId)
    (C : own_C p s m meth c Z a0 code maxLocals "com/example/clew/clew/KnuthMorrisPrattFailureFunctionPinLaw" ret "law") (X0 : Stand p l e room_1 s m args below meth c T0 locs 1 0) (e0 : T0.heap = h0) (Z0 : n0 ≤ h0.size) (N0 : Fr n0 locs) (VP0 : Arv Z h0 op kp .byte (0 : Int32) [] (.int (0 : Int32))) (g_op : n0 ≤ op) :
    own_Go p.tables e below (T0.setTop (mkF m 116 #[z0, z1, z2, z3, .val (.int (0 : Int32)), .val (.ref op), .unset, .unset] [])) (own_K s (fun (v : Option Value) (h : Heap) (L : List Loc) => v = some (.int (1 : Int32)) ∧ Fr n0 L) room_1.cells room_1.slots) := by
  obtain ⟨hx, hZ, hw, hby, hml, hown, hret, hlk, hnm⟩ := C
  refine own_via (G := T0.setTop (mkF m 118 #[z0, z1, z2, z3, .val (.int (0 : Int32)), .val (.ref op), .unset, .unset] [(.ref op)])) (fun tt kk => XS.aload X0.here hx rfl (hb hby at_116) rfl rfl kk) ?_
  obtain ⟨_, _, ⟨T1, L1, k1, n1⟩, -, X1, ⟨Lc1, hQ1, l1, y1, z1⟩, st1⟩ := Jvm.LawKit.callS X0 hx (y := (⟨"com/example/clew/clew/KnuthMorrisPratt", "failureFunction", "([B)[I"⟩ : MethodName)) hown (mvT hZ (hw _ (List.mem_of_getElem? (i := 6) rfl))) (mvT hZ (hw _ (List.mem_of_getElem? (i := 7) rfl))) (mvT hZ (hw _ (List.mem_of_getElem? (i := 8) rfl))) (mvT hZ (hw _ (List.mem_of_getElem? (i := 9) rfl))) (by decide) (backOf (W := 0) (rm2 l Z a0 hw [] op kp 0 [] h0 n0 Z0 VP0 rfl (by decide)) hZ (hw _ (List.mem_of_getElem? (i := 9) rfl)) (hw _ (List.mem_of_getElem? (i := 8) rfl)) (by decide) (by decide)) (g := (mkF m 118 #[z0, z1, z2, z3, .val (.int (0 : Int32)), .val (.ref op), .unset, .unset] [(.ref op)])) rfl (by rw [hml]; rfl) (argsL := [(.ref op)]) (rest := []) (lenOf pd_1 rfl) rfl (by show 2 * 0 + _ ≤ _; exact Nat.le_of_eq rfl) (hb hby at_118) (fun _ _ => ⟨rfl, e0, (by decide : 1 + 1 ≤ _), (by decide : 0 + 6 ≤ _)⟩)
  dsimp only [Pt.U, Pt.locs, Pt.cells, Pt.slots] at X1 l1 y1 z1 st1 hQ1
  subst l1 y1 z1
  obtain ⟨bz_1, kz_1, rfl, Nq1, K1q, fz_bz_1, P0_1⟩ := hQ1
  have N1 := Fr.app N0 Nq1
  have VP0'1 := VP0.keep K1q nin0
  have g_bz_1 : n0 ≤ bz_1 := Nat.le_trans Z0 fz_bz_1
  have ne_op_bz_1 : op ≠ bz_1 := Nat.ne_of_lt (Nat.lt_of_lt_of_le VP0.lt fz_bz_1)
  have Z1 : n0 ≤ T1.heap.size := Nat.le_trans Z0 K1q.1
  refine own_via (G := T1.setTop (mkF m 121 #[z0, z1, z2, z3, .val (.int (0 : Int32)), .val (.ref op), .unset, .unset] [(.ref bz_1)])) (fun tt kk => st1 tt kk) ?_
  refine own_via (G := T1.setTop (mkF m 123 #[z0, z1, z2, z3, .val (.int (0 : Int32)), .val (.ref op), .val (.ref bz_1), .unset] [])) (fun tt kk => XS.astore X1.here hx rfl (hb hby at_121) rfl rfl (l' := #[z0, z1, z2, z3, .val (.int (0 : Int32)), .val (.ref op), .val (.ref bz_1), .unset]) rfl kk) ?_
  refine own_via (G := T1.setTop (mkF m 125 #[z0, z1, z2, z3, .val (.int (0 : Int32)), .val (.ref op), .val (.ref bz_1), .unset] [(.ref bz_1)])) (fun tt kk => XS.aload X1.here hx rfl (hb hby at_123) rfl rfl kk) ?_
  refine own_via (G := T1.setTop (mkF m 128 #[z0, z1, z2, z3, .val (.int (0 : Int32)), .val (.ref op), .val (.ref bz_1), .unset] [])) (fun tt kk => XS.ifnullNo X1.here hx rfl (hb hby at_125) rfl kk) ?_
  refine own_via (G := T1.setTop (mkF m 130 #[z0, z1, z2, z3, .val (.int (0 : Int32)), .val (.ref op), .val (.ref bz_1), .unset] [(.ref bz_1)])) (fun tt kk => XS.aload X1.here hx rfl (hb hby at_128) rfl rfl kk) ?_
  obtain ⟨cl2, Ar2, -, S2, NN2, -, -⟩ := id P0_1
  refine own_via (G := T1.setTop (mkF m 131 #[z0, z1, z2, z3, .val (.int (0 : Int32)), .val (.ref op), .val (.ref bz_1), .unset] [(.int (Int32.ofNat 0))])) (fun tt kk => own_len X1 hx hZ rfl Ar2 S2 NN2 (g := (mkF m 130 #[z0, z1, z2, z3, .val (.int (0 : Int32)), .val (.ref op), .val (.ref bz_1), .unset] [(.ref bz_1)])) rfl rfl (hb hby at_130) kk) ?_
  refine own_via (G := T1.setTop (mkF m 133 #[z0, z1, z2, z3, .val (.int (0 : Int32)), .val (.ref op), .val (.ref bz_1), .unset] [(.int (0 : Int32)), (.int (Int32.ofNat 0))])) (fun tt kk => XS.iload X1.here hx rfl (hb hby at_131) rfl kk) ?_
  have hc3_133 : (Int32.ofNat 0) = (0 : Int32) := rfl
  refine own_via (G := T1.setTop (mkF m 138 #[z0, z1, z2, z3, .val (.int (0 : Int32)), .val (.ref op), .val (.ref bz_1), .unset] [])) (fun tt kk => XS.icmpYes X1.here hx rfl (pc0 := 133) (pc' := 138) rfl (hb hby at_133) rfl (XT.ii_eq_t hc3_133) (by decide) (by decide) kk) ?_
  refine own_via (G := T1.setTop (mkF m 139 #[z0, z1, z2, z3, .val (.int (0 : Int32)), .val (.ref op), .val (.ref bz_1), .unset] [(.int (1 : Int32))])) (fun tt kk => XS.iconst X1.here hx rfl (hb hby at_138) kk) ?_
  refine own_via (G := T1.setTop (mkF m 141 #[z0, z1, z2, z3, .val (.int (0 : Int32)), .val (.ref op), .val (.ref bz_1), .val (.int (1 : Int32))] [])) (fun tt kk => XS.istore X1.here hx rfl (hb hby at_139) rfl (l' := #[z0, z1, z2, z3, .val (.int (0 : Int32)), .val (.ref op), .val (.ref bz_1), .val (.int (1 : Int32))]) rfl kk) ?_
  refine own_via (G := T1.setTop (mkF m 143 #[z0, z1, z2, z3, .val (.int (0 : Int32)), .val (.ref op), .val (.ref bz_1), .val (.int (1 : Int32))] [(.int (0 : Int32))])) (fun tt kk => XS.iload X1.here hx rfl (hb hby at_141) rfl kk) ?_
  have hc4_143 : ¬ ((0 : Int32) < (0 : Int32)) := (by decide)
  refine own_via (G := T1.setTop (mkF m 171 #[z0, z1, z2, z3, .val (.int (0 : Int32)), .val (.ref op), .val (.ref bz_1), .val (.int (1 : Int32))] [])) (fun tt kk => XS.ifYes X1.here hx rfl (pc0 := 143) (pc' := 171) rfl (hb hby at_143) rfl (XT.i0_le_t hc4_143) (by decide) (by decide) kk) ?_
  refine own_via (G := T1.setTop (mkF m 173 #[z0, z1, z2, z3, .val (.int (0 : Int32)), .val (.ref op), .val (.ref bz_1), .val (.int (1 : Int32))] [(.int (0 : Int32))])) (fun tt kk => XS.iload X1.here hx rfl (hb hby at_171) rfl kk) ?_
  refine own_via (G := T1.setTop (mkF m 174 #[z0, z1, z2, z3, .val (.int (0 : Int32)), .val (.ref op), .val (.ref bz_1), .val (.int (1 : Int32))] [(.int (1 : Int32)), (.int (0 : Int32))])) (fun tt kk => XS.iconst X1.here hx rfl (hb hby at_173) kk) ?_
  have hc5_174 : ¬ ((1 : Int32) < (0 : Int32)) := (by decide)
  refine own_via (G := T1.setTop (mkF m 202 #[z0, z1, z2, z3, .val (.int (0 : Int32)), .val (.ref op), .val (.ref bz_1), .val (.int (1 : Int32))] [])) (fun tt kk => XS.icmpYes X1.here hx rfl (pc0 := 174) (pc' := 202) rfl (hb hby at_174) rfl (XT.ii_le_t hc5_174) (by decide) (by decide) kk) ?_
  refine own_via (G := T1.setTop (mkF m 204 #[z0, z1, z2, z3, .val (.int (0 : Int32)), .val (.ref op), .val (.ref bz_1), .val (.int (1 : Int32))] [(.int (0 : Int32))])) (fun tt kk => XS.iload X1.here hx rfl (hb hby at_202) rfl kk) ?_
  refine own_via (G := T1.setTop (mkF m 205 #[z0, z1, z2, z3, .val (.int (0 : Int32)), .val (.ref op), .val (.ref bz_1), .val (.int (1 : Int32))] [(.int (2 : Int32)), (.int (0 : Int32))])) (fun tt kk => XS.iconst X1.here hx rfl (hb hby at_204) kk) ?_
  have hc6_205 : ¬ ((2 : Int32) < (0 : Int32)) := (by decide)
  refine own_via (G := T1.setTop (mkF m 233 #[z0, z1, z2, z3, .val (.int (0 : Int32)), .val (.ref op), .val (.ref bz_1), .val (.int (1 : Int32))] [])) (fun tt kk => XS.icmpYes X1.here hx rfl (pc0 := 205) (pc' := 233) rfl (hb hby at_205) rfl (XT.ii_le_t hc6_205) (by decide) (by decide) kk) ?_
  refine own_via (G := T1.setTop (mkF m 235 #[z0, z1, z2, z3, .val (.int (0 : Int32)), .val (.ref op), .val (.ref bz_1), .val (.int (1 : Int32))] [(.int (0 : Int32))])) (fun tt kk => XS.iload X1.here hx rfl (hb hby at_233) rfl kk) ?_
  refine own_via (G := T1.setTop (mkF m 236 #[z0, z1, z2, z3, .val (.int (0 : Int32)), .val (.ref op), .val (.ref bz_1), .val (.int (1 : Int32))] [(.int (3 : Int32)), (.int (0 : Int32))])) (fun tt kk => XS.iconst X1.here hx rfl (hb hby at_235) kk) ?_
  have hc7_236 : ¬ ((3 : Int32) < (0 : Int32)) := (by decide)
  refine own_via (G := T1.setTop (mkF m 264 #[z0, z1, z2, z3, .val (.int (0 : Int32)), .val (.ref op), .val (.ref bz_1), .val (.int (1 : Int32))] [])) (fun tt kk => XS.icmpYes X1.here hx rfl (pc0 := 236) (pc' := 264) rfl (hb hby at_236) rfl (XT.ii_le_t hc7_236) (by decide) (by decide) kk) ?_
  refine own_via (G := T1.setTop (mkF m 266 #[z0, z1, z2, z3, .val (.int (0 : Int32)), .val (.ref op), .val (.ref bz_1), .val (.int (1 : Int32))] [(.int (0 : Int32))])) (fun tt kk => XS.iload X1.here hx rfl (hb hby at_264) rfl kk) ?_
  refine own_via (G := T1.setTop (mkF m 267 #[z0, z1, z2, z3, .val (.int (0 : Int32)), .val (.ref op), .val (.ref bz_1), .val (.int (1 : Int32))] [(.int (4 : Int32)), (.int (0 : Int32))])) (fun tt kk => XS.iconst X1.here hx rfl (hb hby at_266) kk) ?_
  have hc8_267 : ¬ ((4 : Int32) < (0 : Int32)) := (by decide)
  refine own_via (G := T1.setTop (mkF m 295 #[z0, z1, z2, z3, .val (.int (0 : Int32)), .val (.ref op), .val (.ref bz_1), .val (.int (1 : Int32))] [])) (fun tt kk => XS.icmpYes X1.here hx rfl (pc0 := 267) (pc' := 295) rfl (hb hby at_267) rfl (XT.ii_le_t hc8_267) (by decide) (by decide) kk) ?_
  refine own_via (G := T1.setTop (mkF m 297 #[z0, z1, z2, z3, .val (.int (0 : Int32)), .val (.ref op), .val (.ref bz_1), .val (.int (1 : Int32))] [(.int (0 : Int32))])) (fun tt kk => XS.iload X1.here hx rfl (hb hby at_295) rfl kk) ?_
  refine own_via (G := T1.setTop (mkF m 298 #[z0, z1, z2, z3, .val (.int (0 : Int32)), .val (.ref op), .val (.ref bz_1), .val (.int (1 : Int32))] [(.int (5 : Int32)), (.int (0 : Int32))])) (fun tt kk => XS.iconst X1.here hx rfl (hb hby at_297) kk) ?_
  have hc9_298 : ¬ ((5 : Int32) < (0 : Int32)) := (by decide)
  refine own_via (G := T1.setTop (mkF m 327 #[z0, z1, z2, z3, .val (.int (0 : Int32)), .val (.ref op), .val (.ref bz_1), .val (.int (1 : Int32))] [])) (fun tt kk => XS.icmpYes X1.here hx rfl (pc0 := 298) (pc' := 327) rfl (hb hby at_298) rfl (XT.ii_le_t hc9_298) (by decide) (by decide) kk) ?_
  refine own_via (G := T1.setTop (mkF m 329 #[z0, z1, z2, z3, .val (.int (0 : Int32)), .val (.ref op), .val (.ref bz_1), .val (.int (1 : Int32))] [(.int (1 : Int32))])) (fun tt kk => XS.iload X1.here hx rfl (hb hby at_327) rfl kk) ?_
  exact own_fin X1 rfl (v := some (.int (1 : Int32))) (fun h => by rw [hret] at h; cases h) hlk (fun fs hr => retN X1 hx (t := .boolean) hret (by simp) (hb hby at_329) hr) (show ((fun (v : Option Value) (h : Heap) (L : List Loc) => v = some (.int (1 : Int32)) ∧ Fr n0 L)) (some (.int (1 : Int32))) T1.heap _ from ⟨rfl, N1⟩) (by decide) (by decide)
theorem pd_2 : parseMethodDescriptor "([BI)I" = some ⟨[(.array .byte), .int], some .int⟩ := by decide +kernel
set_option maxRecDepth 65536 in
set_option maxHeartbeats 40000000 in
theorem b0_116_1 {p : Program} {l : Launch} {e : Env} {s : State} {m : MethodId} {args : Array Value} {below : List Frame} {meth : Method} {c : Code} {T0 : State} {locs : List Loc} {Z : State} {a0 : Array Value} {h0 : Heap} {n0 : Nat} (z0 : Slot) (z1 : Slot) (z2 : Slot) (z3 : Slot) (op : Addr) (kp : ClassId) (v0 : Int32)
    (C : own_C p s m meth c Z a0 code maxLocals "com/example/clew/clew/KnuthMorrisPrattFailureFunctionPinLaw" ret "law") (X0 : Stand p l e room_1 s m args below meth c T0 locs 1 1) (e0 : T0.heap = h0) (Z0 : n0 ≤ h0.size) (N0 : Fr n0 locs) (VP0 : Arv Z h0 op kp .byte (1 : Int32) [(.int v0)] (.int (0 : Int32))) (g_op : n0 ≤ op) :
    own_Go p.tables e below (T0.setTop (mkF m 116 #[z0, z1, z2, z3, .val (.int (1 : Int32)), .val (.ref op), .unset, .unset] [])) (own_K s (fun (v : Option Value) (h : Heap) (L : List Loc) => v = some (.int (1 : Int32)) ∧ Fr n0 L) room_1.cells room_1.slots) := by
  obtain ⟨hx, hZ, hw, hby, hml, hown, hret, hlk, hnm⟩ := C
  refine own_via (G := T0.setTop (mkF m 118 #[z0, z1, z2, z3, .val (.int (1 : Int32)), .val (.ref op), .unset, .unset] [(.ref op)])) (fun tt kk => XS.aload X0.here hx rfl (hb hby at_116) rfl rfl kk) ?_
  obtain ⟨_, _, ⟨T1, L1, k1, n1⟩, -, X1, ⟨Lc1, hQ1, l1, y1, z1⟩, st1⟩ := Jvm.LawKit.callS X0 hx (y := (⟨"com/example/clew/clew/KnuthMorrisPratt", "failureFunction", "([B)[I"⟩ : MethodName)) hown (mvT hZ (hw _ (List.mem_of_getElem? (i := 6) rfl))) (mvT hZ (hw _ (List.mem_of_getElem? (i := 7) rfl))) (mvT hZ (hw _ (List.mem_of_getElem? (i := 8) rfl))) (mvT hZ (hw _ (List.mem_of_getElem? (i := 9) rfl))) (by decide) (backOf (W := 0) (rm2 l Z a0 hw [] op kp 1 [v0] h0 n0 Z0 VP0 rfl (by decide)) hZ (hw _ (List.mem_of_getElem? (i := 9) rfl)) (hw _ (List.mem_of_getElem? (i := 8) rfl)) (by decide) (by decide)) (g := (mkF m 118 #[z0, z1, z2, z3, .val (.int (1 : Int32)), .val (.ref op), .unset, .unset] [(.ref op)])) rfl (by rw [hml]; rfl) (argsL := [(.ref op)]) (rest := []) (lenOf pd_1 rfl) rfl (by show 2 * 0 + _ ≤ _; exact Nat.le_of_eq rfl) (hb hby at_118) (fun _ _ => ⟨rfl, e0, (by decide : 1 + 1 ≤ _), (by decide : 1 + 6 ≤ _)⟩)
  dsimp only [Pt.U, Pt.locs, Pt.cells, Pt.slots] at X1 l1 y1 z1 st1 hQ1
  subst l1 y1 z1
  obtain ⟨bz_1, kz_1, rfl, Nq1, K1q, fz_bz_1, P0_1⟩ := hQ1
  have N1 := Fr.app N0 Nq1
  have VP0'1 := VP0.keep K1q nin0
  have g_bz_1 : n0 ≤ bz_1 := Nat.le_trans Z0 fz_bz_1
  have ne_op_bz_1 : op ≠ bz_1 := Nat.ne_of_lt (Nat.lt_of_lt_of_le VP0.lt fz_bz_1)
  have Z1 : n0 ≤ T1.heap.size := Nat.le_trans Z0 K1q.1
  refine own_via (G := T1.setTop (mkF m 121 #[z0, z1, z2, z3, .val (.int (1 : Int32)), .val (.ref op), .unset, .unset] [(.ref bz_1)])) (fun tt kk => st1 tt kk) ?_
  refine own_via (G := T1.setTop (mkF m 123 #[z0, z1, z2, z3, .val (.int (1 : Int32)), .val (.ref op), .val (.ref bz_1), .unset] [])) (fun tt kk => XS.astore X1.here hx rfl (hb hby at_121) rfl rfl (l' := #[z0, z1, z2, z3, .val (.int (1 : Int32)), .val (.ref op), .val (.ref bz_1), .unset]) rfl kk) ?_
  refine own_via (G := T1.setTop (mkF m 125 #[z0, z1, z2, z3, .val (.int (1 : Int32)), .val (.ref op), .val (.ref bz_1), .unset] [(.ref bz_1)])) (fun tt kk => XS.aload X1.here hx rfl (hb hby at_123) rfl rfl kk) ?_
  refine own_via (G := T1.setTop (mkF m 128 #[z0, z1, z2, z3, .val (.int (1 : Int32)), .val (.ref op), .val (.ref bz_1), .unset] [])) (fun tt kk => XS.ifnullNo X1.here hx rfl (hb hby at_125) rfl kk) ?_
  refine own_via (G := T1.setTop (mkF m 130 #[z0, z1, z2, z3, .val (.int (1 : Int32)), .val (.ref op), .val (.ref bz_1), .unset] [(.ref bz_1)])) (fun tt kk => XS.aload X1.here hx rfl (hb hby at_128) rfl rfl kk) ?_
  obtain ⟨cl2, Ar2, -, S2, NN2, -, -⟩ := id P0_1
  refine own_via (G := T1.setTop (mkF m 131 #[z0, z1, z2, z3, .val (.int (1 : Int32)), .val (.ref op), .val (.ref bz_1), .unset] [(.int (Int32.ofNat 1))])) (fun tt kk => own_len X1 hx hZ rfl Ar2 S2 NN2 (g := (mkF m 130 #[z0, z1, z2, z3, .val (.int (1 : Int32)), .val (.ref op), .val (.ref bz_1), .unset] [(.ref bz_1)])) rfl rfl (hb hby at_130) kk) ?_
  refine own_via (G := T1.setTop (mkF m 133 #[z0, z1, z2, z3, .val (.int (1 : Int32)), .val (.ref op), .val (.ref bz_1), .unset] [(.int (1 : Int32)), (.int (Int32.ofNat 1))])) (fun tt kk => XS.iload X1.here hx rfl (hb hby at_131) rfl kk) ?_
  have hc3_133 : (Int32.ofNat 1) = (1 : Int32) := rfl
  refine own_via (G := T1.setTop (mkF m 138 #[z0, z1, z2, z3, .val (.int (1 : Int32)), .val (.ref op), .val (.ref bz_1), .unset] [])) (fun tt kk => XS.icmpYes X1.here hx rfl (pc0 := 133) (pc' := 138) rfl (hb hby at_133) rfl (XT.ii_eq_t hc3_133) (by decide) (by decide) kk) ?_
  refine own_via (G := T1.setTop (mkF m 139 #[z0, z1, z2, z3, .val (.int (1 : Int32)), .val (.ref op), .val (.ref bz_1), .unset] [(.int (1 : Int32))])) (fun tt kk => XS.iconst X1.here hx rfl (hb hby at_138) kk) ?_
  refine own_via (G := T1.setTop (mkF m 141 #[z0, z1, z2, z3, .val (.int (1 : Int32)), .val (.ref op), .val (.ref bz_1), .val (.int (1 : Int32))] [])) (fun tt kk => XS.istore X1.here hx rfl (hb hby at_139) rfl (l' := #[z0, z1, z2, z3, .val (.int (1 : Int32)), .val (.ref op), .val (.ref bz_1), .val (.int (1 : Int32))]) rfl kk) ?_
  refine own_via (G := T1.setTop (mkF m 143 #[z0, z1, z2, z3, .val (.int (1 : Int32)), .val (.ref op), .val (.ref bz_1), .val (.int (1 : Int32))] [(.int (1 : Int32))])) (fun tt kk => XS.iload X1.here hx rfl (hb hby at_141) rfl kk) ?_
  have hc4_143 : (0 : Int32) < (1 : Int32) := (by decide)
  refine own_via (G := T1.setTop (mkF m 146 #[z0, z1, z2, z3, .val (.int (1 : Int32)), .val (.ref op), .val (.ref bz_1), .val (.int (1 : Int32))] [])) (fun tt kk => XS.ifNo X1.here hx rfl (hb hby at_143) rfl (XT.i0_le_f hc4_143) kk) ?_
  refine own_via (G := T1.setTop (mkF m 148 #[z0, z1, z2, z3, .val (.int (1 : Int32)), .val (.ref op), .val (.ref bz_1), .val (.int (1 : Int32))] [(.int (1 : Int32))])) (fun tt kk => XS.iload X1.here hx rfl (hb hby at_146) rfl kk) ?_
  have hc5_148 : ¬ ((1 : Int32) = (0 : Int32)) := (by decide)
  refine own_via (G := T1.setTop (mkF m 151 #[z0, z1, z2, z3, .val (.int (1 : Int32)), .val (.ref op), .val (.ref bz_1), .val (.int (1 : Int32))] [])) (fun tt kk => XS.ifNo X1.here hx rfl (hb hby at_148) rfl (XT.i0_eq_f hc5_148) kk) ?_
  refine own_via (G := T1.setTop (mkF m 153 #[z0, z1, z2, z3, .val (.int (1 : Int32)), .val (.ref op), .val (.ref bz_1), .val (.int (1 : Int32))] [(.ref bz_1)])) (fun tt kk => XS.aload X1.here hx rfl (hb hby at_151) rfl rfl kk) ?_
  refine own_via (G := T1.setTop (mkF m 154 #[z0, z1, z2, z3, .val (.int (1 : Int32)), .val (.ref op), .val (.ref bz_1), .val (.int (1 : Int32))] [(.int (0 : Int32)), (.ref bz_1)])) (fun tt kk => XS.iconst X1.here hx rfl (hb hby at_153) kk) ?_
  obtain ⟨cl6, Ar6, qc6, S6, NN6, H6, G6⟩ := id P0_1
  have in6 := inb_of (j := (0 : Int32)) S6 (own_inb (i := 0) (by decide) (by decide))
  have hat6 : cl6.slots[((0 : Int32)).toNatClampNeg]? = some (.int (Int32.ofNat ((own_out (own_e [v0]) (1 - 1) 1 0 (List.replicate 1 0)).getD 0 0))) := H6.at in6 (own_fget (own_out (own_e [v0]) (1 - 1) 1 0 (List.replicate 1 0)) (i := 0) (by decide))
  refine own_via (G := T1.setTop (mkF m 155 #[z0, z1, z2, z3, .val (.int (1 : Int32)), .val (.ref op), .val (.ref bz_1), .val (.int (1 : Int32))] [(.int (Int32.ofNat ((own_out (own_e [v0]) (1 - 1) 1 0 (List.replicate 1 0)).getD 0 0)))])) (fun tt kk => X1.iaload hx (j := (0 : Int32)) (v := (.int (Int32.ofNat ((own_out (own_e [v0]) (1 - 1) 1 0 (List.replicate 1 0)).getD 0 0)))) (own_eqh rfl Ar6.1) (State.isArrayOf_alike hZ.alike Ar6.2.1) Ar6.2.2 in6 hat6 (g := (mkF m 154 #[z0, z1, z2, z3, .val (.int (1 : Int32)), .val (.ref op), .val (.ref bz_1), .val (.int (1 : Int32))] [(.int (0 : Int32)), (.ref bz_1)])) rfl rfl (hb hby at_154) tt kk) ?_
  refine own_via (G := T1.setTop (mkF m 157 #[z0, z1, z2, z3, .val (.int (1 : Int32)), .val (.ref op), .val (.ref bz_1), .val (.int (1 : Int32))] [(.ref op), (.int (Int32.ofNat ((own_out (own_e [v0]) (1 - 1) 1 0 (List.replicate 1 0)).getD 0 0)))])) (fun tt kk => XS.aload X1.here hx rfl (hb hby at_155) rfl rfl kk) ?_
  refine own_via (G := T1.setTop (mkF m 158 #[z0, z1, z2, z3, .val (.int (1 : Int32)), .val (.ref op), .val (.ref bz_1), .val (.int (1 : Int32))] [(.int (1 : Int32)), (.ref op), (.int (Int32.ofNat ((own_out (own_e [v0]) (1 - 1) 1 0 (List.replicate 1 0)).getD 0 0)))])) (fun tt kk => XS.iconst X1.here hx rfl (hb hby at_157) kk) ?_
  obtain ⟨_, _, ⟨T7, L7, k7, n7⟩, -, X7, ⟨Lc7, hQ7, l7, y7, z7⟩, st7⟩ := Jvm.LawKit.callS X1 hx (y := (⟨"com/example/clew/clew/KnuthMorrisPrattFailureFunctionPinLaw", "border", "([BI)I"⟩ : MethodName)) hown (mvT hZ (hw _ (List.mem_of_getElem? (i := 11) rfl))) (mvT hZ (hw _ (List.mem_of_getElem? (i := 12) rfl))) (mvT hZ (hw _ (List.mem_of_getElem? (i := 4) rfl))) (mvT hZ (hw _ (List.mem_of_getElem? (i := 13) rfl))) (by decide) (backOf (W := 1) (rm3 l Z a0 hw [] op kp 1 [v0] 1 T1.heap n0 Z1 VP0'1 rfl (by decide) (by decide)) hZ (hw _ (List.mem_of_getElem? (i := 13) rfl)) (hw _ (List.mem_of_getElem? (i := 4) rfl)) (by decide) (by decide)) (g := (mkF m 158 #[z0, z1, z2, z3, .val (.int (1 : Int32)), .val (.ref op), .val (.ref bz_1), .val (.int (1 : Int32))] [(.int (1 : Int32)), (.ref op), (.int (Int32.ofNat ((own_out (own_e [v0]) (1 - 1) 1 0 (List.replicate 1 0)).getD 0 0)))])) rfl (by rw [hml]; rfl) (argsL := [(.ref op), (.int (1 : Int32))]) (rest := [(.int (Int32.ofNat ((own_out (own_e [v0]) (1 - 1) 1 0 (List.replicate 1 0)).getD 0 0)))]) (lenOf pd_2 rfl) rfl (by show 2 * 0 + _ ≤ _; exact Nat.le_of_eq rfl) (hb hby at_158) (fun _ _ => ⟨rfl, rfl, (by decide : (1 + 1) + 0 ≤ _), (by decide : (1 + 6) + 0 ≤ _)⟩)
  dsimp only [Pt.U, Pt.locs, Pt.cells, Pt.slots] at X7 l7 y7 z7 st7 hQ7
  subst l7 y7 z7
  obtain ⟨rfl, Nq7, eh7⟩ := hQ7
  have N7 := Fr.app N1 Nq7
  refine own_via (G := T7.setTop (mkF m 161 #[z0, z1, z2, z3, .val (.int (1 : Int32)), .val (.ref op), .val (.ref bz_1), .val (.int (1 : Int32))] [(.int (Int32.ofNat (own_bd5 (own_e [v0]) 1))), (.int (Int32.ofNat ((own_out (own_e [v0]) (1 - 1) 1 0 (List.replicate 1 0)).getD 0 0)))])) (fun tt kk => st7 tt kk) ?_
  have hc8_161 : (Int32.ofNat ((own_out (own_e [v0]) (1 - 1) 1 0 (List.replicate 1 0)).getD 0 0)) = (Int32.ofNat (own_bd5 (own_e [v0]) 1)) := congrArg Int32.ofNat (own_law [v0] (Nat.le_of_ble_eq_true rfl) 0 (Nat.le_of_ble_eq_true rfl))
  refine own_via (G := T7.setTop (mkF m 164 #[z0, z1, z2, z3, .val (.int (1 : Int32)), .val (.ref op), .val (.ref bz_1), .val (.int (1 : Int32))] [])) (fun tt kk => XS.icmpNo X7.here hx rfl (hb hby at_161) rfl (XT.ii_ne_f hc8_161) kk) ?_
  refine own_via (G := T7.setTop (mkF m 165 #[z0, z1, z2, z3, .val (.int (1 : Int32)), .val (.ref op), .val (.ref bz_1), .val (.int (1 : Int32))] [(.int (1 : Int32))])) (fun tt kk => XS.iconst X7.here hx rfl (hb hby at_164) kk) ?_
  refine own_via (G := T7.setTop (mkF m 169 #[z0, z1, z2, z3, .val (.int (1 : Int32)), .val (.ref op), .val (.ref bz_1), .val (.int (1 : Int32))] [(.int (1 : Int32))])) (fun tt kk => XS.goto X7.here hx rfl (pc0 := 165) (pc' := 169) rfl (hb hby at_165) (by decide) (by decide) kk) ?_
  refine own_via (G := T7.setTop (mkF m 171 #[z0, z1, z2, z3, .val (.int (1 : Int32)), .val (.ref op), .val (.ref bz_1), .val (.int (1 : Int32))] [])) (fun tt kk => XS.istore X7.here hx rfl (hb hby at_169) rfl (l' := #[z0, z1, z2, z3, .val (.int (1 : Int32)), .val (.ref op), .val (.ref bz_1), .val (.int (1 : Int32))]) rfl kk) ?_
  refine own_via (G := T7.setTop (mkF m 173 #[z0, z1, z2, z3, .val (.int (1 : Int32)), .val (.ref op), .val (.ref bz_1), .val (.int (1 : Int32))] [(.int (1 : Int32))])) (fun tt kk => XS.iload X7.here hx rfl (hb hby at_171) rfl kk) ?_
  refine own_via (G := T7.setTop (mkF m 174 #[z0, z1, z2, z3, .val (.int (1 : Int32)), .val (.ref op), .val (.ref bz_1), .val (.int (1 : Int32))] [(.int (1 : Int32)), (.int (1 : Int32))])) (fun tt kk => XS.iconst X7.here hx rfl (hb hby at_173) kk) ?_
  have hc9_174 : ¬ ((1 : Int32) < (1 : Int32)) := (by decide)
  refine own_via (G := T7.setTop (mkF m 202 #[z0, z1, z2, z3, .val (.int (1 : Int32)), .val (.ref op), .val (.ref bz_1), .val (.int (1 : Int32))] [])) (fun tt kk => XS.icmpYes X7.here hx rfl (pc0 := 174) (pc' := 202) rfl (hb hby at_174) rfl (XT.ii_le_t hc9_174) (by decide) (by decide) kk) ?_
  refine own_via (G := T7.setTop (mkF m 204 #[z0, z1, z2, z3, .val (.int (1 : Int32)), .val (.ref op), .val (.ref bz_1), .val (.int (1 : Int32))] [(.int (1 : Int32))])) (fun tt kk => XS.iload X7.here hx rfl (hb hby at_202) rfl kk) ?_
  refine own_via (G := T7.setTop (mkF m 205 #[z0, z1, z2, z3, .val (.int (1 : Int32)), .val (.ref op), .val (.ref bz_1), .val (.int (1 : Int32))] [(.int (2 : Int32)), (.int (1 : Int32))])) (fun tt kk => XS.iconst X7.here hx rfl (hb hby at_204) kk) ?_
  have hc10_205 : ¬ ((2 : Int32) < (1 : Int32)) := (by decide)
  refine own_via (G := T7.setTop (mkF m 233 #[z0, z1, z2, z3, .val (.int (1 : Int32)), .val (.ref op), .val (.ref bz_1), .val (.int (1 : Int32))] [])) (fun tt kk => XS.icmpYes X7.here hx rfl (pc0 := 205) (pc' := 233) rfl (hb hby at_205) rfl (XT.ii_le_t hc10_205) (by decide) (by decide) kk) ?_
  refine own_via (G := T7.setTop (mkF m 235 #[z0, z1, z2, z3, .val (.int (1 : Int32)), .val (.ref op), .val (.ref bz_1), .val (.int (1 : Int32))] [(.int (1 : Int32))])) (fun tt kk => XS.iload X7.here hx rfl (hb hby at_233) rfl kk) ?_
  refine own_via (G := T7.setTop (mkF m 236 #[z0, z1, z2, z3, .val (.int (1 : Int32)), .val (.ref op), .val (.ref bz_1), .val (.int (1 : Int32))] [(.int (3 : Int32)), (.int (1 : Int32))])) (fun tt kk => XS.iconst X7.here hx rfl (hb hby at_235) kk) ?_
  have hc11_236 : ¬ ((3 : Int32) < (1 : Int32)) := (by decide)
  refine own_via (G := T7.setTop (mkF m 264 #[z0, z1, z2, z3, .val (.int (1 : Int32)), .val (.ref op), .val (.ref bz_1), .val (.int (1 : Int32))] [])) (fun tt kk => XS.icmpYes X7.here hx rfl (pc0 := 236) (pc' := 264) rfl (hb hby at_236) rfl (XT.ii_le_t hc11_236) (by decide) (by decide) kk) ?_
  refine own_via (G := T7.setTop (mkF m 266 #[z0, z1, z2, z3, .val (.int (1 : Int32)), .val (.ref op), .val (.ref bz_1), .val (.int (1 : Int32))] [(.int (1 : Int32))])) (fun tt kk => XS.iload X7.here hx rfl (hb hby at_264) rfl kk) ?_
  refine own_via (G := T7.setTop (mkF m 267 #[z0, z1, z2, z3, .val (.int (1 : Int32)), .val (.ref op), .val (.ref bz_1), .val (.int (1 : Int32))] [(.int (4 : Int32)), (.int (1 : Int32))])) (fun tt kk => XS.iconst X7.here hx rfl (hb hby at_266) kk) ?_
  have hc12_267 : ¬ ((4 : Int32) < (1 : Int32)) := (by decide)
  refine own_via (G := T7.setTop (mkF m 295 #[z0, z1, z2, z3, .val (.int (1 : Int32)), .val (.ref op), .val (.ref bz_1), .val (.int (1 : Int32))] [])) (fun tt kk => XS.icmpYes X7.here hx rfl (pc0 := 267) (pc' := 295) rfl (hb hby at_267) rfl (XT.ii_le_t hc12_267) (by decide) (by decide) kk) ?_
  refine own_via (G := T7.setTop (mkF m 297 #[z0, z1, z2, z3, .val (.int (1 : Int32)), .val (.ref op), .val (.ref bz_1), .val (.int (1 : Int32))] [(.int (1 : Int32))])) (fun tt kk => XS.iload X7.here hx rfl (hb hby at_295) rfl kk) ?_
  refine own_via (G := T7.setTop (mkF m 298 #[z0, z1, z2, z3, .val (.int (1 : Int32)), .val (.ref op), .val (.ref bz_1), .val (.int (1 : Int32))] [(.int (5 : Int32)), (.int (1 : Int32))])) (fun tt kk => XS.iconst X7.here hx rfl (hb hby at_297) kk) ?_
  have hc13_298 : ¬ ((5 : Int32) < (1 : Int32)) := (by decide)
  refine own_via (G := T7.setTop (mkF m 327 #[z0, z1, z2, z3, .val (.int (1 : Int32)), .val (.ref op), .val (.ref bz_1), .val (.int (1 : Int32))] [])) (fun tt kk => XS.icmpYes X7.here hx rfl (pc0 := 298) (pc' := 327) rfl (hb hby at_298) rfl (XT.ii_le_t hc13_298) (by decide) (by decide) kk) ?_
  refine own_via (G := T7.setTop (mkF m 329 #[z0, z1, z2, z3, .val (.int (1 : Int32)), .val (.ref op), .val (.ref bz_1), .val (.int (1 : Int32))] [(.int (1 : Int32))])) (fun tt kk => XS.iload X7.here hx rfl (hb hby at_327) rfl kk) ?_
  exact own_fin X7 eh7 (v := some (.int (1 : Int32))) (fun h => by rw [hret] at h; cases h) hlk (fun fs hr => retN X7 hx (t := .boolean) hret (by simp) (hb hby at_329) hr) (show ((fun (v : Option Value) (h : Heap) (L : List Loc) => v = some (.int (1 : Int32)) ∧ Fr n0 L)) (some (.int (1 : Int32))) T1.heap _ from ⟨rfl, N7⟩) (by decide) (by decide)
set_option maxRecDepth 65536 in
set_option maxHeartbeats 40000000 in
theorem b0_116_2 {p : Program} {l : Launch} {e : Env} {s : State} {m : MethodId} {args : Array Value} {below : List Frame} {meth : Method} {c : Code} {T0 : State} {locs : List Loc} {Z : State} {a0 : Array Value} {h0 : Heap} {n0 : Nat} (z0 : Slot) (z1 : Slot) (z2 : Slot) (z3 : Slot) (op : Addr) (kp : ClassId) (v0 : Int32) (v1 : Int32)
    (C : own_C p s m meth c Z a0 code maxLocals "com/example/clew/clew/KnuthMorrisPrattFailureFunctionPinLaw" ret "law") (X0 : Stand p l e room_1 s m args below meth c T0 locs 1 2) (e0 : T0.heap = h0) (Z0 : n0 ≤ h0.size) (N0 : Fr n0 locs) (VP0 : Arv Z h0 op kp .byte (2 : Int32) [(.int v0), (.int v1)] (.int (0 : Int32))) (g_op : n0 ≤ op) :
    own_Go p.tables e below (T0.setTop (mkF m 116 #[z0, z1, z2, z3, .val (.int (2 : Int32)), .val (.ref op), .unset, .unset] [])) (own_K s (fun (v : Option Value) (h : Heap) (L : List Loc) => v = some (.int (1 : Int32)) ∧ Fr n0 L) room_1.cells room_1.slots) := by
  obtain ⟨hx, hZ, hw, hby, hml, hown, hret, hlk, hnm⟩ := C
  refine own_via (G := T0.setTop (mkF m 118 #[z0, z1, z2, z3, .val (.int (2 : Int32)), .val (.ref op), .unset, .unset] [(.ref op)])) (fun tt kk => XS.aload X0.here hx rfl (hb hby at_116) rfl rfl kk) ?_
  obtain ⟨_, _, ⟨T1, L1, k1, n1⟩, -, X1, ⟨Lc1, hQ1, l1, y1, z1⟩, st1⟩ := Jvm.LawKit.callS X0 hx (y := (⟨"com/example/clew/clew/KnuthMorrisPratt", "failureFunction", "([B)[I"⟩ : MethodName)) hown (mvT hZ (hw _ (List.mem_of_getElem? (i := 6) rfl))) (mvT hZ (hw _ (List.mem_of_getElem? (i := 7) rfl))) (mvT hZ (hw _ (List.mem_of_getElem? (i := 8) rfl))) (mvT hZ (hw _ (List.mem_of_getElem? (i := 9) rfl))) (by decide) (backOf (W := 0) (rm2 l Z a0 hw [] op kp 2 [v0, v1] h0 n0 Z0 VP0 rfl (by decide)) hZ (hw _ (List.mem_of_getElem? (i := 9) rfl)) (hw _ (List.mem_of_getElem? (i := 8) rfl)) (by decide) (by decide)) (g := (mkF m 118 #[z0, z1, z2, z3, .val (.int (2 : Int32)), .val (.ref op), .unset, .unset] [(.ref op)])) rfl (by rw [hml]; rfl) (argsL := [(.ref op)]) (rest := []) (lenOf pd_1 rfl) rfl (by show 2 * 0 + _ ≤ _; exact Nat.le_of_eq rfl) (hb hby at_118) (fun _ _ => ⟨rfl, e0, (by decide : 1 + 1 ≤ _), (by decide : 2 + 6 ≤ _)⟩)
  dsimp only [Pt.U, Pt.locs, Pt.cells, Pt.slots] at X1 l1 y1 z1 st1 hQ1
  subst l1 y1 z1
  obtain ⟨bz_1, kz_1, rfl, Nq1, K1q, fz_bz_1, P0_1⟩ := hQ1
  have N1 := Fr.app N0 Nq1
  have VP0'1 := VP0.keep K1q nin0
  have g_bz_1 : n0 ≤ bz_1 := Nat.le_trans Z0 fz_bz_1
  have ne_op_bz_1 : op ≠ bz_1 := Nat.ne_of_lt (Nat.lt_of_lt_of_le VP0.lt fz_bz_1)
  have Z1 : n0 ≤ T1.heap.size := Nat.le_trans Z0 K1q.1
  refine own_via (G := T1.setTop (mkF m 121 #[z0, z1, z2, z3, .val (.int (2 : Int32)), .val (.ref op), .unset, .unset] [(.ref bz_1)])) (fun tt kk => st1 tt kk) ?_
  refine own_via (G := T1.setTop (mkF m 123 #[z0, z1, z2, z3, .val (.int (2 : Int32)), .val (.ref op), .val (.ref bz_1), .unset] [])) (fun tt kk => XS.astore X1.here hx rfl (hb hby at_121) rfl rfl (l' := #[z0, z1, z2, z3, .val (.int (2 : Int32)), .val (.ref op), .val (.ref bz_1), .unset]) rfl kk) ?_
  refine own_via (G := T1.setTop (mkF m 125 #[z0, z1, z2, z3, .val (.int (2 : Int32)), .val (.ref op), .val (.ref bz_1), .unset] [(.ref bz_1)])) (fun tt kk => XS.aload X1.here hx rfl (hb hby at_123) rfl rfl kk) ?_
  refine own_via (G := T1.setTop (mkF m 128 #[z0, z1, z2, z3, .val (.int (2 : Int32)), .val (.ref op), .val (.ref bz_1), .unset] [])) (fun tt kk => XS.ifnullNo X1.here hx rfl (hb hby at_125) rfl kk) ?_
  refine own_via (G := T1.setTop (mkF m 130 #[z0, z1, z2, z3, .val (.int (2 : Int32)), .val (.ref op), .val (.ref bz_1), .unset] [(.ref bz_1)])) (fun tt kk => XS.aload X1.here hx rfl (hb hby at_128) rfl rfl kk) ?_
  obtain ⟨cl2, Ar2, -, S2, NN2, -, -⟩ := id P0_1
  refine own_via (G := T1.setTop (mkF m 131 #[z0, z1, z2, z3, .val (.int (2 : Int32)), .val (.ref op), .val (.ref bz_1), .unset] [(.int (Int32.ofNat 2))])) (fun tt kk => own_len X1 hx hZ rfl Ar2 S2 NN2 (g := (mkF m 130 #[z0, z1, z2, z3, .val (.int (2 : Int32)), .val (.ref op), .val (.ref bz_1), .unset] [(.ref bz_1)])) rfl rfl (hb hby at_130) kk) ?_
  refine own_via (G := T1.setTop (mkF m 133 #[z0, z1, z2, z3, .val (.int (2 : Int32)), .val (.ref op), .val (.ref bz_1), .unset] [(.int (2 : Int32)), (.int (Int32.ofNat 2))])) (fun tt kk => XS.iload X1.here hx rfl (hb hby at_131) rfl kk) ?_
  have hc3_133 : (Int32.ofNat 2) = (2 : Int32) := rfl
  refine own_via (G := T1.setTop (mkF m 138 #[z0, z1, z2, z3, .val (.int (2 : Int32)), .val (.ref op), .val (.ref bz_1), .unset] [])) (fun tt kk => XS.icmpYes X1.here hx rfl (pc0 := 133) (pc' := 138) rfl (hb hby at_133) rfl (XT.ii_eq_t hc3_133) (by decide) (by decide) kk) ?_
  refine own_via (G := T1.setTop (mkF m 139 #[z0, z1, z2, z3, .val (.int (2 : Int32)), .val (.ref op), .val (.ref bz_1), .unset] [(.int (1 : Int32))])) (fun tt kk => XS.iconst X1.here hx rfl (hb hby at_138) kk) ?_
  refine own_via (G := T1.setTop (mkF m 141 #[z0, z1, z2, z3, .val (.int (2 : Int32)), .val (.ref op), .val (.ref bz_1), .val (.int (1 : Int32))] [])) (fun tt kk => XS.istore X1.here hx rfl (hb hby at_139) rfl (l' := #[z0, z1, z2, z3, .val (.int (2 : Int32)), .val (.ref op), .val (.ref bz_1), .val (.int (1 : Int32))]) rfl kk) ?_
  refine own_via (G := T1.setTop (mkF m 143 #[z0, z1, z2, z3, .val (.int (2 : Int32)), .val (.ref op), .val (.ref bz_1), .val (.int (1 : Int32))] [(.int (2 : Int32))])) (fun tt kk => XS.iload X1.here hx rfl (hb hby at_141) rfl kk) ?_
  have hc4_143 : (0 : Int32) < (2 : Int32) := (by decide)
  refine own_via (G := T1.setTop (mkF m 146 #[z0, z1, z2, z3, .val (.int (2 : Int32)), .val (.ref op), .val (.ref bz_1), .val (.int (1 : Int32))] [])) (fun tt kk => XS.ifNo X1.here hx rfl (hb hby at_143) rfl (XT.i0_le_f hc4_143) kk) ?_
  refine own_via (G := T1.setTop (mkF m 148 #[z0, z1, z2, z3, .val (.int (2 : Int32)), .val (.ref op), .val (.ref bz_1), .val (.int (1 : Int32))] [(.int (1 : Int32))])) (fun tt kk => XS.iload X1.here hx rfl (hb hby at_146) rfl kk) ?_
  have hc5_148 : ¬ ((1 : Int32) = (0 : Int32)) := (by decide)
  refine own_via (G := T1.setTop (mkF m 151 #[z0, z1, z2, z3, .val (.int (2 : Int32)), .val (.ref op), .val (.ref bz_1), .val (.int (1 : Int32))] [])) (fun tt kk => XS.ifNo X1.here hx rfl (hb hby at_148) rfl (XT.i0_eq_f hc5_148) kk) ?_
  refine own_via (G := T1.setTop (mkF m 153 #[z0, z1, z2, z3, .val (.int (2 : Int32)), .val (.ref op), .val (.ref bz_1), .val (.int (1 : Int32))] [(.ref bz_1)])) (fun tt kk => XS.aload X1.here hx rfl (hb hby at_151) rfl rfl kk) ?_
  refine own_via (G := T1.setTop (mkF m 154 #[z0, z1, z2, z3, .val (.int (2 : Int32)), .val (.ref op), .val (.ref bz_1), .val (.int (1 : Int32))] [(.int (0 : Int32)), (.ref bz_1)])) (fun tt kk => XS.iconst X1.here hx rfl (hb hby at_153) kk) ?_
  obtain ⟨cl6, Ar6, qc6, S6, NN6, H6, G6⟩ := id P0_1
  have in6 := inb_of (j := (0 : Int32)) S6 (own_inb (i := 0) (by decide) (by decide))
  have hat6 : cl6.slots[((0 : Int32)).toNatClampNeg]? = some (.int (Int32.ofNat ((own_out (own_e [v0, v1]) (2 - 1) 1 0 (List.replicate 2 0)).getD 0 0))) := H6.at in6 (own_fget (own_out (own_e [v0, v1]) (2 - 1) 1 0 (List.replicate 2 0)) (i := 0) (by decide))
  refine own_via (G := T1.setTop (mkF m 155 #[z0, z1, z2, z3, .val (.int (2 : Int32)), .val (.ref op), .val (.ref bz_1), .val (.int (1 : Int32))] [(.int (Int32.ofNat ((own_out (own_e [v0, v1]) (2 - 1) 1 0 (List.replicate 2 0)).getD 0 0)))])) (fun tt kk => X1.iaload hx (j := (0 : Int32)) (v := (.int (Int32.ofNat ((own_out (own_e [v0, v1]) (2 - 1) 1 0 (List.replicate 2 0)).getD 0 0)))) (own_eqh rfl Ar6.1) (State.isArrayOf_alike hZ.alike Ar6.2.1) Ar6.2.2 in6 hat6 (g := (mkF m 154 #[z0, z1, z2, z3, .val (.int (2 : Int32)), .val (.ref op), .val (.ref bz_1), .val (.int (1 : Int32))] [(.int (0 : Int32)), (.ref bz_1)])) rfl rfl (hb hby at_154) tt kk) ?_
  refine own_via (G := T1.setTop (mkF m 157 #[z0, z1, z2, z3, .val (.int (2 : Int32)), .val (.ref op), .val (.ref bz_1), .val (.int (1 : Int32))] [(.ref op), (.int (Int32.ofNat ((own_out (own_e [v0, v1]) (2 - 1) 1 0 (List.replicate 2 0)).getD 0 0)))])) (fun tt kk => XS.aload X1.here hx rfl (hb hby at_155) rfl rfl kk) ?_
  refine own_via (G := T1.setTop (mkF m 158 #[z0, z1, z2, z3, .val (.int (2 : Int32)), .val (.ref op), .val (.ref bz_1), .val (.int (1 : Int32))] [(.int (1 : Int32)), (.ref op), (.int (Int32.ofNat ((own_out (own_e [v0, v1]) (2 - 1) 1 0 (List.replicate 2 0)).getD 0 0)))])) (fun tt kk => XS.iconst X1.here hx rfl (hb hby at_157) kk) ?_
  obtain ⟨_, _, ⟨T7, L7, k7, n7⟩, -, X7, ⟨Lc7, hQ7, l7, y7, z7⟩, st7⟩ := Jvm.LawKit.callS X1 hx (y := (⟨"com/example/clew/clew/KnuthMorrisPrattFailureFunctionPinLaw", "border", "([BI)I"⟩ : MethodName)) hown (mvT hZ (hw _ (List.mem_of_getElem? (i := 11) rfl))) (mvT hZ (hw _ (List.mem_of_getElem? (i := 12) rfl))) (mvT hZ (hw _ (List.mem_of_getElem? (i := 4) rfl))) (mvT hZ (hw _ (List.mem_of_getElem? (i := 13) rfl))) (by decide) (backOf (W := 1) (rm3 l Z a0 hw [] op kp 2 [v0, v1] 1 T1.heap n0 Z1 VP0'1 rfl (by decide) (by decide)) hZ (hw _ (List.mem_of_getElem? (i := 13) rfl)) (hw _ (List.mem_of_getElem? (i := 4) rfl)) (by decide) (by decide)) (g := (mkF m 158 #[z0, z1, z2, z3, .val (.int (2 : Int32)), .val (.ref op), .val (.ref bz_1), .val (.int (1 : Int32))] [(.int (1 : Int32)), (.ref op), (.int (Int32.ofNat ((own_out (own_e [v0, v1]) (2 - 1) 1 0 (List.replicate 2 0)).getD 0 0)))])) rfl (by rw [hml]; rfl) (argsL := [(.ref op), (.int (1 : Int32))]) (rest := [(.int (Int32.ofNat ((own_out (own_e [v0, v1]) (2 - 1) 1 0 (List.replicate 2 0)).getD 0 0)))]) (lenOf pd_2 rfl) rfl (by show 2 * 0 + _ ≤ _; exact Nat.le_of_eq rfl) (hb hby at_158) (fun _ _ => ⟨rfl, rfl, (by decide : (1 + 1) + 0 ≤ _), (by decide : (2 + 6) + 0 ≤ _)⟩)
  dsimp only [Pt.U, Pt.locs, Pt.cells, Pt.slots] at X7 l7 y7 z7 st7 hQ7
  subst l7 y7 z7
  obtain ⟨rfl, Nq7, eh7⟩ := hQ7
  have N7 := Fr.app N1 Nq7
  refine own_via (G := T7.setTop (mkF m 161 #[z0, z1, z2, z3, .val (.int (2 : Int32)), .val (.ref op), .val (.ref bz_1), .val (.int (1 : Int32))] [(.int (Int32.ofNat (own_bd5 (own_e [v0, v1]) 1))), (.int (Int32.ofNat ((own_out (own_e [v0, v1]) (2 - 1) 1 0 (List.replicate 2 0)).getD 0 0)))])) (fun tt kk => st7 tt kk) ?_
  have hc8_161 : (Int32.ofNat ((own_out (own_e [v0, v1]) (2 - 1) 1 0 (List.replicate 2 0)).getD 0 0)) = (Int32.ofNat (own_bd5 (own_e [v0, v1]) 1)) := congrArg Int32.ofNat (own_law [v0, v1] (Nat.le_of_ble_eq_true rfl) 0 (Nat.le_of_ble_eq_true rfl))
  refine own_via (G := T7.setTop (mkF m 164 #[z0, z1, z2, z3, .val (.int (2 : Int32)), .val (.ref op), .val (.ref bz_1), .val (.int (1 : Int32))] [])) (fun tt kk => XS.icmpNo X7.here hx rfl (hb hby at_161) rfl (XT.ii_ne_f hc8_161) kk) ?_
  refine own_via (G := T7.setTop (mkF m 165 #[z0, z1, z2, z3, .val (.int (2 : Int32)), .val (.ref op), .val (.ref bz_1), .val (.int (1 : Int32))] [(.int (1 : Int32))])) (fun tt kk => XS.iconst X7.here hx rfl (hb hby at_164) kk) ?_
  refine own_via (G := T7.setTop (mkF m 169 #[z0, z1, z2, z3, .val (.int (2 : Int32)), .val (.ref op), .val (.ref bz_1), .val (.int (1 : Int32))] [(.int (1 : Int32))])) (fun tt kk => XS.goto X7.here hx rfl (pc0 := 165) (pc' := 169) rfl (hb hby at_165) (by decide) (by decide) kk) ?_
  refine own_via (G := T7.setTop (mkF m 171 #[z0, z1, z2, z3, .val (.int (2 : Int32)), .val (.ref op), .val (.ref bz_1), .val (.int (1 : Int32))] [])) (fun tt kk => XS.istore X7.here hx rfl (hb hby at_169) rfl (l' := #[z0, z1, z2, z3, .val (.int (2 : Int32)), .val (.ref op), .val (.ref bz_1), .val (.int (1 : Int32))]) rfl kk) ?_
  refine own_via (G := T7.setTop (mkF m 173 #[z0, z1, z2, z3, .val (.int (2 : Int32)), .val (.ref op), .val (.ref bz_1), .val (.int (1 : Int32))] [(.int (2 : Int32))])) (fun tt kk => XS.iload X7.here hx rfl (hb hby at_171) rfl kk) ?_
  refine own_via (G := T7.setTop (mkF m 174 #[z0, z1, z2, z3, .val (.int (2 : Int32)), .val (.ref op), .val (.ref bz_1), .val (.int (1 : Int32))] [(.int (1 : Int32)), (.int (2 : Int32))])) (fun tt kk => XS.iconst X7.here hx rfl (hb hby at_173) kk) ?_
  have hc9_174 : (1 : Int32) < (2 : Int32) := (by decide)
  refine own_via (G := T7.setTop (mkF m 177 #[z0, z1, z2, z3, .val (.int (2 : Int32)), .val (.ref op), .val (.ref bz_1), .val (.int (1 : Int32))] [])) (fun tt kk => XS.icmpNo X7.here hx rfl (hb hby at_174) rfl (XT.ii_le_f hc9_174) kk) ?_
  refine own_via (G := T7.setTop (mkF m 179 #[z0, z1, z2, z3, .val (.int (2 : Int32)), .val (.ref op), .val (.ref bz_1), .val (.int (1 : Int32))] [(.int (1 : Int32))])) (fun tt kk => XS.iload X7.here hx rfl (hb hby at_177) rfl kk) ?_
  have hc10_179 : ¬ ((1 : Int32) = (0 : Int32)) := (by decide)
  refine own_via (G := T7.setTop (mkF m 182 #[z0, z1, z2, z3, .val (.int (2 : Int32)), .val (.ref op), .val (.ref bz_1), .val (.int (1 : Int32))] [])) (fun tt kk => XS.ifNo X7.here hx rfl (hb hby at_179) rfl (XT.i0_eq_f hc10_179) kk) ?_
  refine own_via (G := T7.setTop (mkF m 184 #[z0, z1, z2, z3, .val (.int (2 : Int32)), .val (.ref op), .val (.ref bz_1), .val (.int (1 : Int32))] [(.ref bz_1)])) (fun tt kk => XS.aload X7.here hx rfl (hb hby at_182) rfl rfl kk) ?_
  refine own_via (G := T7.setTop (mkF m 185 #[z0, z1, z2, z3, .val (.int (2 : Int32)), .val (.ref op), .val (.ref bz_1), .val (.int (1 : Int32))] [(.int (1 : Int32)), (.ref bz_1)])) (fun tt kk => XS.iconst X7.here hx rfl (hb hby at_184) kk) ?_
  obtain ⟨cl11, Ar11, qc11, S11, NN11, H11, G11⟩ := id P0_1
  have in11 := inb_of (j := (1 : Int32)) S11 (own_inb (i := 1) (by decide) (by decide))
  have hat11 : cl11.slots[((1 : Int32)).toNatClampNeg]? = some (.int (Int32.ofNat ((own_out (own_e [v0, v1]) (2 - 1) 1 0 (List.replicate 2 0)).getD 1 0))) := H11.at in11 (own_fget (own_out (own_e [v0, v1]) (2 - 1) 1 0 (List.replicate 2 0)) (i := 1) (by decide))
  refine own_via (G := T7.setTop (mkF m 186 #[z0, z1, z2, z3, .val (.int (2 : Int32)), .val (.ref op), .val (.ref bz_1), .val (.int (1 : Int32))] [(.int (Int32.ofNat ((own_out (own_e [v0, v1]) (2 - 1) 1 0 (List.replicate 2 0)).getD 1 0)))])) (fun tt kk => X7.iaload hx (j := (1 : Int32)) (v := (.int (Int32.ofNat ((own_out (own_e [v0, v1]) (2 - 1) 1 0 (List.replicate 2 0)).getD 1 0)))) (own_eqh eh7 Ar11.1) (State.isArrayOf_alike hZ.alike Ar11.2.1) Ar11.2.2 in11 hat11 (g := (mkF m 185 #[z0, z1, z2, z3, .val (.int (2 : Int32)), .val (.ref op), .val (.ref bz_1), .val (.int (1 : Int32))] [(.int (1 : Int32)), (.ref bz_1)])) rfl rfl (hb hby at_185) tt kk) ?_
  refine own_via (G := T7.setTop (mkF m 188 #[z0, z1, z2, z3, .val (.int (2 : Int32)), .val (.ref op), .val (.ref bz_1), .val (.int (1 : Int32))] [(.ref op), (.int (Int32.ofNat ((own_out (own_e [v0, v1]) (2 - 1) 1 0 (List.replicate 2 0)).getD 1 0)))])) (fun tt kk => XS.aload X7.here hx rfl (hb hby at_186) rfl rfl kk) ?_
  refine own_via (G := T7.setTop (mkF m 189 #[z0, z1, z2, z3, .val (.int (2 : Int32)), .val (.ref op), .val (.ref bz_1), .val (.int (1 : Int32))] [(.int (2 : Int32)), (.ref op), (.int (Int32.ofNat ((own_out (own_e [v0, v1]) (2 - 1) 1 0 (List.replicate 2 0)).getD 1 0)))])) (fun tt kk => XS.iconst X7.here hx rfl (hb hby at_188) kk) ?_
  obtain ⟨_, _, ⟨T12, L12, k12, n12⟩, -, X12, ⟨Lc12, hQ12, l12, y12, z12⟩, st12⟩ := Jvm.LawKit.callS X7 hx (y := (⟨"com/example/clew/clew/KnuthMorrisPrattFailureFunctionPinLaw", "border", "([BI)I"⟩ : MethodName)) hown (mvT hZ (hw _ (List.mem_of_getElem? (i := 11) rfl))) (mvT hZ (hw _ (List.mem_of_getElem? (i := 12) rfl))) (mvT hZ (hw _ (List.mem_of_getElem? (i := 4) rfl))) (mvT hZ (hw _ (List.mem_of_getElem? (i := 13) rfl))) (by decide) (backOf (W := 1) (rm3 l Z a0 hw [] op kp 2 [v0, v1] 2 T1.heap n0 Z1 VP0'1 rfl (by decide) (by decide)) hZ (hw _ (List.mem_of_getElem? (i := 13) rfl)) (hw _ (List.mem_of_getElem? (i := 4) rfl)) (by decide) (by decide)) (g := (mkF m 189 #[z0, z1, z2, z3, .val (.int (2 : Int32)), .val (.ref op), .val (.ref bz_1), .val (.int (1 : Int32))] [(.int (2 : Int32)), (.ref op), (.int (Int32.ofNat ((own_out (own_e [v0, v1]) (2 - 1) 1 0 (List.replicate 2 0)).getD 1 0)))])) rfl (by rw [hml]; rfl) (argsL := [(.ref op), (.int (2 : Int32))]) (rest := [(.int (Int32.ofNat ((own_out (own_e [v0, v1]) (2 - 1) 1 0 (List.replicate 2 0)).getD 1 0)))]) (lenOf pd_2 rfl) rfl (by show 2 * 0 + _ ≤ _; exact Nat.le_of_eq rfl) (hb hby at_189) (fun _ _ => ⟨rfl, eh7, (by decide : ((1 + 1) + 0) + 0 ≤ _), (by decide : ((2 + 6) + 0) + 0 ≤ _)⟩)
  dsimp only [Pt.U, Pt.locs, Pt.cells, Pt.slots] at X12 l12 y12 z12 st12 hQ12
  subst l12 y12 z12
  obtain ⟨rfl, Nq12, eh12⟩ := hQ12
  have N12 := Fr.app N7 Nq12
  refine own_via (G := T12.setTop (mkF m 192 #[z0, z1, z2, z3, .val (.int (2 : Int32)), .val (.ref op), .val (.ref bz_1), .val (.int (1 : Int32))] [(.int (Int32.ofNat (own_bd5 (own_e [v0, v1]) 2))), (.int (Int32.ofNat ((own_out (own_e [v0, v1]) (2 - 1) 1 0 (List.replicate 2 0)).getD 1 0)))])) (fun tt kk => st12 tt kk) ?_
  have hc13_192 : (Int32.ofNat ((own_out (own_e [v0, v1]) (2 - 1) 1 0 (List.replicate 2 0)).getD 1 0)) = (Int32.ofNat (own_bd5 (own_e [v0, v1]) 2)) := congrArg Int32.ofNat (own_law [v0, v1] (Nat.le_of_ble_eq_true rfl) 1 (Nat.le_of_ble_eq_true rfl))
  refine own_via (G := T12.setTop (mkF m 195 #[z0, z1, z2, z3, .val (.int (2 : Int32)), .val (.ref op), .val (.ref bz_1), .val (.int (1 : Int32))] [])) (fun tt kk => XS.icmpNo X12.here hx rfl (hb hby at_192) rfl (XT.ii_ne_f hc13_192) kk) ?_
  refine own_via (G := T12.setTop (mkF m 196 #[z0, z1, z2, z3, .val (.int (2 : Int32)), .val (.ref op), .val (.ref bz_1), .val (.int (1 : Int32))] [(.int (1 : Int32))])) (fun tt kk => XS.iconst X12.here hx rfl (hb hby at_195) kk) ?_
  refine own_via (G := T12.setTop (mkF m 200 #[z0, z1, z2, z3, .val (.int (2 : Int32)), .val (.ref op), .val (.ref bz_1), .val (.int (1 : Int32))] [(.int (1 : Int32))])) (fun tt kk => XS.goto X12.here hx rfl (pc0 := 196) (pc' := 200) rfl (hb hby at_196) (by decide) (by decide) kk) ?_
  refine own_via (G := T12.setTop (mkF m 202 #[z0, z1, z2, z3, .val (.int (2 : Int32)), .val (.ref op), .val (.ref bz_1), .val (.int (1 : Int32))] [])) (fun tt kk => XS.istore X12.here hx rfl (hb hby at_200) rfl (l' := #[z0, z1, z2, z3, .val (.int (2 : Int32)), .val (.ref op), .val (.ref bz_1), .val (.int (1 : Int32))]) rfl kk) ?_
  refine own_via (G := T12.setTop (mkF m 204 #[z0, z1, z2, z3, .val (.int (2 : Int32)), .val (.ref op), .val (.ref bz_1), .val (.int (1 : Int32))] [(.int (2 : Int32))])) (fun tt kk => XS.iload X12.here hx rfl (hb hby at_202) rfl kk) ?_
  refine own_via (G := T12.setTop (mkF m 205 #[z0, z1, z2, z3, .val (.int (2 : Int32)), .val (.ref op), .val (.ref bz_1), .val (.int (1 : Int32))] [(.int (2 : Int32)), (.int (2 : Int32))])) (fun tt kk => XS.iconst X12.here hx rfl (hb hby at_204) kk) ?_
  have hc14_205 : ¬ ((2 : Int32) < (2 : Int32)) := (by decide)
  refine own_via (G := T12.setTop (mkF m 233 #[z0, z1, z2, z3, .val (.int (2 : Int32)), .val (.ref op), .val (.ref bz_1), .val (.int (1 : Int32))] [])) (fun tt kk => XS.icmpYes X12.here hx rfl (pc0 := 205) (pc' := 233) rfl (hb hby at_205) rfl (XT.ii_le_t hc14_205) (by decide) (by decide) kk) ?_
  refine own_via (G := T12.setTop (mkF m 235 #[z0, z1, z2, z3, .val (.int (2 : Int32)), .val (.ref op), .val (.ref bz_1), .val (.int (1 : Int32))] [(.int (2 : Int32))])) (fun tt kk => XS.iload X12.here hx rfl (hb hby at_233) rfl kk) ?_
  refine own_via (G := T12.setTop (mkF m 236 #[z0, z1, z2, z3, .val (.int (2 : Int32)), .val (.ref op), .val (.ref bz_1), .val (.int (1 : Int32))] [(.int (3 : Int32)), (.int (2 : Int32))])) (fun tt kk => XS.iconst X12.here hx rfl (hb hby at_235) kk) ?_
  have hc15_236 : ¬ ((3 : Int32) < (2 : Int32)) := (by decide)
  refine own_via (G := T12.setTop (mkF m 264 #[z0, z1, z2, z3, .val (.int (2 : Int32)), .val (.ref op), .val (.ref bz_1), .val (.int (1 : Int32))] [])) (fun tt kk => XS.icmpYes X12.here hx rfl (pc0 := 236) (pc' := 264) rfl (hb hby at_236) rfl (XT.ii_le_t hc15_236) (by decide) (by decide) kk) ?_
  refine own_via (G := T12.setTop (mkF m 266 #[z0, z1, z2, z3, .val (.int (2 : Int32)), .val (.ref op), .val (.ref bz_1), .val (.int (1 : Int32))] [(.int (2 : Int32))])) (fun tt kk => XS.iload X12.here hx rfl (hb hby at_264) rfl kk) ?_
  refine own_via (G := T12.setTop (mkF m 267 #[z0, z1, z2, z3, .val (.int (2 : Int32)), .val (.ref op), .val (.ref bz_1), .val (.int (1 : Int32))] [(.int (4 : Int32)), (.int (2 : Int32))])) (fun tt kk => XS.iconst X12.here hx rfl (hb hby at_266) kk) ?_
  have hc16_267 : ¬ ((4 : Int32) < (2 : Int32)) := (by decide)
  refine own_via (G := T12.setTop (mkF m 295 #[z0, z1, z2, z3, .val (.int (2 : Int32)), .val (.ref op), .val (.ref bz_1), .val (.int (1 : Int32))] [])) (fun tt kk => XS.icmpYes X12.here hx rfl (pc0 := 267) (pc' := 295) rfl (hb hby at_267) rfl (XT.ii_le_t hc16_267) (by decide) (by decide) kk) ?_
  refine own_via (G := T12.setTop (mkF m 297 #[z0, z1, z2, z3, .val (.int (2 : Int32)), .val (.ref op), .val (.ref bz_1), .val (.int (1 : Int32))] [(.int (2 : Int32))])) (fun tt kk => XS.iload X12.here hx rfl (hb hby at_295) rfl kk) ?_
  refine own_via (G := T12.setTop (mkF m 298 #[z0, z1, z2, z3, .val (.int (2 : Int32)), .val (.ref op), .val (.ref bz_1), .val (.int (1 : Int32))] [(.int (5 : Int32)), (.int (2 : Int32))])) (fun tt kk => XS.iconst X12.here hx rfl (hb hby at_297) kk) ?_
  have hc17_298 : ¬ ((5 : Int32) < (2 : Int32)) := (by decide)
  refine own_via (G := T12.setTop (mkF m 327 #[z0, z1, z2, z3, .val (.int (2 : Int32)), .val (.ref op), .val (.ref bz_1), .val (.int (1 : Int32))] [])) (fun tt kk => XS.icmpYes X12.here hx rfl (pc0 := 298) (pc' := 327) rfl (hb hby at_298) rfl (XT.ii_le_t hc17_298) (by decide) (by decide) kk) ?_
  refine own_via (G := T12.setTop (mkF m 329 #[z0, z1, z2, z3, .val (.int (2 : Int32)), .val (.ref op), .val (.ref bz_1), .val (.int (1 : Int32))] [(.int (1 : Int32))])) (fun tt kk => XS.iload X12.here hx rfl (hb hby at_327) rfl kk) ?_
  exact own_fin X12 eh12 (v := some (.int (1 : Int32))) (fun h => by rw [hret] at h; cases h) hlk (fun fs hr => retN X12 hx (t := .boolean) hret (by simp) (hb hby at_329) hr) (show ((fun (v : Option Value) (h : Heap) (L : List Loc) => v = some (.int (1 : Int32)) ∧ Fr n0 L)) (some (.int (1 : Int32))) T1.heap _ from ⟨rfl, N12⟩) (by decide) (by decide)
set_option maxRecDepth 65536 in
set_option maxHeartbeats 40000000 in
theorem b0_116_3 {p : Program} {l : Launch} {e : Env} {s : State} {m : MethodId} {args : Array Value} {below : List Frame} {meth : Method} {c : Code} {T0 : State} {locs : List Loc} {Z : State} {a0 : Array Value} {h0 : Heap} {n0 : Nat} (z0 : Slot) (z1 : Slot) (z2 : Slot) (z3 : Slot) (op : Addr) (kp : ClassId) (v0 : Int32) (v1 : Int32) (v2 : Int32)
    (C : own_C p s m meth c Z a0 code maxLocals "com/example/clew/clew/KnuthMorrisPrattFailureFunctionPinLaw" ret "law") (X0 : Stand p l e room_1 s m args below meth c T0 locs 1 3) (e0 : T0.heap = h0) (Z0 : n0 ≤ h0.size) (N0 : Fr n0 locs) (VP0 : Arv Z h0 op kp .byte (3 : Int32) [(.int v0), (.int v1), (.int v2)] (.int (0 : Int32))) (g_op : n0 ≤ op) :
    own_Go p.tables e below (T0.setTop (mkF m 116 #[z0, z1, z2, z3, .val (.int (3 : Int32)), .val (.ref op), .unset, .unset] [])) (own_K s (fun (v : Option Value) (h : Heap) (L : List Loc) => v = some (.int (1 : Int32)) ∧ Fr n0 L) room_1.cells room_1.slots) := by
  obtain ⟨hx, hZ, hw, hby, hml, hown, hret, hlk, hnm⟩ := C
  refine own_via (G := T0.setTop (mkF m 118 #[z0, z1, z2, z3, .val (.int (3 : Int32)), .val (.ref op), .unset, .unset] [(.ref op)])) (fun tt kk => XS.aload X0.here hx rfl (hb hby at_116) rfl rfl kk) ?_
  obtain ⟨_, _, ⟨T1, L1, k1, n1⟩, -, X1, ⟨Lc1, hQ1, l1, y1, z1⟩, st1⟩ := Jvm.LawKit.callS X0 hx (y := (⟨"com/example/clew/clew/KnuthMorrisPratt", "failureFunction", "([B)[I"⟩ : MethodName)) hown (mvT hZ (hw _ (List.mem_of_getElem? (i := 6) rfl))) (mvT hZ (hw _ (List.mem_of_getElem? (i := 7) rfl))) (mvT hZ (hw _ (List.mem_of_getElem? (i := 8) rfl))) (mvT hZ (hw _ (List.mem_of_getElem? (i := 9) rfl))) (by decide) (backOf (W := 0) (rm2 l Z a0 hw [] op kp 3 [v0, v1, v2] h0 n0 Z0 VP0 rfl (by decide)) hZ (hw _ (List.mem_of_getElem? (i := 9) rfl)) (hw _ (List.mem_of_getElem? (i := 8) rfl)) (by decide) (by decide)) (g := (mkF m 118 #[z0, z1, z2, z3, .val (.int (3 : Int32)), .val (.ref op), .unset, .unset] [(.ref op)])) rfl (by rw [hml]; rfl) (argsL := [(.ref op)]) (rest := []) (lenOf pd_1 rfl) rfl (by show 2 * 0 + _ ≤ _; exact Nat.le_of_eq rfl) (hb hby at_118) (fun _ _ => ⟨rfl, e0, (by decide : 1 + 1 ≤ _), (by decide : 3 + 6 ≤ _)⟩)
  dsimp only [Pt.U, Pt.locs, Pt.cells, Pt.slots] at X1 l1 y1 z1 st1 hQ1
  subst l1 y1 z1
  obtain ⟨bz_1, kz_1, rfl, Nq1, K1q, fz_bz_1, P0_1⟩ := hQ1
  have N1 := Fr.app N0 Nq1
  have VP0'1 := VP0.keep K1q nin0
  have g_bz_1 : n0 ≤ bz_1 := Nat.le_trans Z0 fz_bz_1
  have ne_op_bz_1 : op ≠ bz_1 := Nat.ne_of_lt (Nat.lt_of_lt_of_le VP0.lt fz_bz_1)
  have Z1 : n0 ≤ T1.heap.size := Nat.le_trans Z0 K1q.1
  refine own_via (G := T1.setTop (mkF m 121 #[z0, z1, z2, z3, .val (.int (3 : Int32)), .val (.ref op), .unset, .unset] [(.ref bz_1)])) (fun tt kk => st1 tt kk) ?_
  refine own_via (G := T1.setTop (mkF m 123 #[z0, z1, z2, z3, .val (.int (3 : Int32)), .val (.ref op), .val (.ref bz_1), .unset] [])) (fun tt kk => XS.astore X1.here hx rfl (hb hby at_121) rfl rfl (l' := #[z0, z1, z2, z3, .val (.int (3 : Int32)), .val (.ref op), .val (.ref bz_1), .unset]) rfl kk) ?_
  refine own_via (G := T1.setTop (mkF m 125 #[z0, z1, z2, z3, .val (.int (3 : Int32)), .val (.ref op), .val (.ref bz_1), .unset] [(.ref bz_1)])) (fun tt kk => XS.aload X1.here hx rfl (hb hby at_123) rfl rfl kk) ?_
  refine own_via (G := T1.setTop (mkF m 128 #[z0, z1, z2, z3, .val (.int (3 : Int32)), .val (.ref op), .val (.ref bz_1), .unset] [])) (fun tt kk => XS.ifnullNo X1.here hx rfl (hb hby at_125) rfl kk) ?_
  refine own_via (G := T1.setTop (mkF m 130 #[z0, z1, z2, z3, .val (.int (3 : Int32)), .val (.ref op), .val (.ref bz_1), .unset] [(.ref bz_1)])) (fun tt kk => XS.aload X1.here hx rfl (hb hby at_128) rfl rfl kk) ?_
  obtain ⟨cl2, Ar2, -, S2, NN2, -, -⟩ := id P0_1
  refine own_via (G := T1.setTop (mkF m 131 #[z0, z1, z2, z3, .val (.int (3 : Int32)), .val (.ref op), .val (.ref bz_1), .unset] [(.int (Int32.ofNat 3))])) (fun tt kk => own_len X1 hx hZ rfl Ar2 S2 NN2 (g := (mkF m 130 #[z0, z1, z2, z3, .val (.int (3 : Int32)), .val (.ref op), .val (.ref bz_1), .unset] [(.ref bz_1)])) rfl rfl (hb hby at_130) kk) ?_
  refine own_via (G := T1.setTop (mkF m 133 #[z0, z1, z2, z3, .val (.int (3 : Int32)), .val (.ref op), .val (.ref bz_1), .unset] [(.int (3 : Int32)), (.int (Int32.ofNat 3))])) (fun tt kk => XS.iload X1.here hx rfl (hb hby at_131) rfl kk) ?_
  have hc3_133 : (Int32.ofNat 3) = (3 : Int32) := rfl
  refine own_via (G := T1.setTop (mkF m 138 #[z0, z1, z2, z3, .val (.int (3 : Int32)), .val (.ref op), .val (.ref bz_1), .unset] [])) (fun tt kk => XS.icmpYes X1.here hx rfl (pc0 := 133) (pc' := 138) rfl (hb hby at_133) rfl (XT.ii_eq_t hc3_133) (by decide) (by decide) kk) ?_
  refine own_via (G := T1.setTop (mkF m 139 #[z0, z1, z2, z3, .val (.int (3 : Int32)), .val (.ref op), .val (.ref bz_1), .unset] [(.int (1 : Int32))])) (fun tt kk => XS.iconst X1.here hx rfl (hb hby at_138) kk) ?_
  refine own_via (G := T1.setTop (mkF m 141 #[z0, z1, z2, z3, .val (.int (3 : Int32)), .val (.ref op), .val (.ref bz_1), .val (.int (1 : Int32))] [])) (fun tt kk => XS.istore X1.here hx rfl (hb hby at_139) rfl (l' := #[z0, z1, z2, z3, .val (.int (3 : Int32)), .val (.ref op), .val (.ref bz_1), .val (.int (1 : Int32))]) rfl kk) ?_
  refine own_via (G := T1.setTop (mkF m 143 #[z0, z1, z2, z3, .val (.int (3 : Int32)), .val (.ref op), .val (.ref bz_1), .val (.int (1 : Int32))] [(.int (3 : Int32))])) (fun tt kk => XS.iload X1.here hx rfl (hb hby at_141) rfl kk) ?_
  have hc4_143 : (0 : Int32) < (3 : Int32) := (by decide)
  refine own_via (G := T1.setTop (mkF m 146 #[z0, z1, z2, z3, .val (.int (3 : Int32)), .val (.ref op), .val (.ref bz_1), .val (.int (1 : Int32))] [])) (fun tt kk => XS.ifNo X1.here hx rfl (hb hby at_143) rfl (XT.i0_le_f hc4_143) kk) ?_
  refine own_via (G := T1.setTop (mkF m 148 #[z0, z1, z2, z3, .val (.int (3 : Int32)), .val (.ref op), .val (.ref bz_1), .val (.int (1 : Int32))] [(.int (1 : Int32))])) (fun tt kk => XS.iload X1.here hx rfl (hb hby at_146) rfl kk) ?_
  have hc5_148 : ¬ ((1 : Int32) = (0 : Int32)) := (by decide)
  refine own_via (G := T1.setTop (mkF m 151 #[z0, z1, z2, z3, .val (.int (3 : Int32)), .val (.ref op), .val (.ref bz_1), .val (.int (1 : Int32))] [])) (fun tt kk => XS.ifNo X1.here hx rfl (hb hby at_148) rfl (XT.i0_eq_f hc5_148) kk) ?_
  refine own_via (G := T1.setTop (mkF m 153 #[z0, z1, z2, z3, .val (.int (3 : Int32)), .val (.ref op), .val (.ref bz_1), .val (.int (1 : Int32))] [(.ref bz_1)])) (fun tt kk => XS.aload X1.here hx rfl (hb hby at_151) rfl rfl kk) ?_
  refine own_via (G := T1.setTop (mkF m 154 #[z0, z1, z2, z3, .val (.int (3 : Int32)), .val (.ref op), .val (.ref bz_1), .val (.int (1 : Int32))] [(.int (0 : Int32)), (.ref bz_1)])) (fun tt kk => XS.iconst X1.here hx rfl (hb hby at_153) kk) ?_
  obtain ⟨cl6, Ar6, qc6, S6, NN6, H6, G6⟩ := id P0_1
  have in6 := inb_of (j := (0 : Int32)) S6 (own_inb (i := 0) (by decide) (by decide))
  have hat6 : cl6.slots[((0 : Int32)).toNatClampNeg]? = some (.int (Int32.ofNat ((own_out (own_e [v0, v1, v2]) (3 - 1) 1 0 (List.replicate 3 0)).getD 0 0))) := H6.at in6 (own_fget (own_out (own_e [v0, v1, v2]) (3 - 1) 1 0 (List.replicate 3 0)) (i := 0) (by decide))
  refine own_via (G := T1.setTop (mkF m 155 #[z0, z1, z2, z3, .val (.int (3 : Int32)), .val (.ref op), .val (.ref bz_1), .val (.int (1 : Int32))] [(.int (Int32.ofNat ((own_out (own_e [v0, v1, v2]) (3 - 1) 1 0 (List.replicate 3 0)).getD 0 0)))])) (fun tt kk => X1.iaload hx (j := (0 : Int32)) (v := (.int (Int32.ofNat ((own_out (own_e [v0, v1, v2]) (3 - 1) 1 0 (List.replicate 3 0)).getD 0 0)))) (own_eqh rfl Ar6.1) (State.isArrayOf_alike hZ.alike Ar6.2.1) Ar6.2.2 in6 hat6 (g := (mkF m 154 #[z0, z1, z2, z3, .val (.int (3 : Int32)), .val (.ref op), .val (.ref bz_1), .val (.int (1 : Int32))] [(.int (0 : Int32)), (.ref bz_1)])) rfl rfl (hb hby at_154) tt kk) ?_
  refine own_via (G := T1.setTop (mkF m 157 #[z0, z1, z2, z3, .val (.int (3 : Int32)), .val (.ref op), .val (.ref bz_1), .val (.int (1 : Int32))] [(.ref op), (.int (Int32.ofNat ((own_out (own_e [v0, v1, v2]) (3 - 1) 1 0 (List.replicate 3 0)).getD 0 0)))])) (fun tt kk => XS.aload X1.here hx rfl (hb hby at_155) rfl rfl kk) ?_
  refine own_via (G := T1.setTop (mkF m 158 #[z0, z1, z2, z3, .val (.int (3 : Int32)), .val (.ref op), .val (.ref bz_1), .val (.int (1 : Int32))] [(.int (1 : Int32)), (.ref op), (.int (Int32.ofNat ((own_out (own_e [v0, v1, v2]) (3 - 1) 1 0 (List.replicate 3 0)).getD 0 0)))])) (fun tt kk => XS.iconst X1.here hx rfl (hb hby at_157) kk) ?_
  obtain ⟨_, _, ⟨T7, L7, k7, n7⟩, -, X7, ⟨Lc7, hQ7, l7, y7, z7⟩, st7⟩ := Jvm.LawKit.callS X1 hx (y := (⟨"com/example/clew/clew/KnuthMorrisPrattFailureFunctionPinLaw", "border", "([BI)I"⟩ : MethodName)) hown (mvT hZ (hw _ (List.mem_of_getElem? (i := 11) rfl))) (mvT hZ (hw _ (List.mem_of_getElem? (i := 12) rfl))) (mvT hZ (hw _ (List.mem_of_getElem? (i := 4) rfl))) (mvT hZ (hw _ (List.mem_of_getElem? (i := 13) rfl))) (by decide) (backOf (W := 1) (rm3 l Z a0 hw [] op kp 3 [v0, v1, v2] 1 T1.heap n0 Z1 VP0'1 rfl (by decide) (by decide)) hZ (hw _ (List.mem_of_getElem? (i := 13) rfl)) (hw _ (List.mem_of_getElem? (i := 4) rfl)) (by decide) (by decide)) (g := (mkF m 158 #[z0, z1, z2, z3, .val (.int (3 : Int32)), .val (.ref op), .val (.ref bz_1), .val (.int (1 : Int32))] [(.int (1 : Int32)), (.ref op), (.int (Int32.ofNat ((own_out (own_e [v0, v1, v2]) (3 - 1) 1 0 (List.replicate 3 0)).getD 0 0)))])) rfl (by rw [hml]; rfl) (argsL := [(.ref op), (.int (1 : Int32))]) (rest := [(.int (Int32.ofNat ((own_out (own_e [v0, v1, v2]) (3 - 1) 1 0 (List.replicate 3 0)).getD 0 0)))]) (lenOf pd_2 rfl) rfl (by show 2 * 0 + _ ≤ _; exact Nat.le_of_eq rfl) (hb hby at_158) (fun _ _ => ⟨rfl, rfl, (by decide : (1 + 1) + 0 ≤ _), (by decide : (3 + 6) + 0 ≤ _)⟩)
  dsimp only [Pt.U, Pt.locs, Pt.cells, Pt.slots] at X7 l7 y7 z7 st7 hQ7
  subst l7 y7 z7
  obtain ⟨rfl, Nq7, eh7⟩ := hQ7
  have N7 := Fr.app N1 Nq7
  refine own_via (G := T7.setTop (mkF m 161 #[z0, z1, z2, z3, .val (.int (3 : Int32)), .val (.ref op), .val (.ref bz_1), .val (.int (1 : Int32))] [(.int (Int32.ofNat (own_bd5 (own_e [v0, v1, v2]) 1))), (.int (Int32.ofNat ((own_out (own_e [v0, v1, v2]) (3 - 1) 1 0 (List.replicate 3 0)).getD 0 0)))])) (fun tt kk => st7 tt kk) ?_
  have hc8_161 : (Int32.ofNat ((own_out (own_e [v0, v1, v2]) (3 - 1) 1 0 (List.replicate 3 0)).getD 0 0)) = (Int32.ofNat (own_bd5 (own_e [v0, v1, v2]) 1)) := congrArg Int32.ofNat (own_law [v0, v1, v2] (Nat.le_of_ble_eq_true rfl) 0 (Nat.le_of_ble_eq_true rfl))
  refine own_via (G := T7.setTop (mkF m 164 #[z0, z1, z2, z3, .val (.int (3 : Int32)), .val (.ref op), .val (.ref bz_1), .val (.int (1 : Int32))] [])) (fun tt kk => XS.icmpNo X7.here hx rfl (hb hby at_161) rfl (XT.ii_ne_f hc8_161) kk) ?_
  refine own_via (G := T7.setTop (mkF m 165 #[z0, z1, z2, z3, .val (.int (3 : Int32)), .val (.ref op), .val (.ref bz_1), .val (.int (1 : Int32))] [(.int (1 : Int32))])) (fun tt kk => XS.iconst X7.here hx rfl (hb hby at_164) kk) ?_
  refine own_via (G := T7.setTop (mkF m 169 #[z0, z1, z2, z3, .val (.int (3 : Int32)), .val (.ref op), .val (.ref bz_1), .val (.int (1 : Int32))] [(.int (1 : Int32))])) (fun tt kk => XS.goto X7.here hx rfl (pc0 := 165) (pc' := 169) rfl (hb hby at_165) (by decide) (by decide) kk) ?_
  refine own_via (G := T7.setTop (mkF m 171 #[z0, z1, z2, z3, .val (.int (3 : Int32)), .val (.ref op), .val (.ref bz_1), .val (.int (1 : Int32))] [])) (fun tt kk => XS.istore X7.here hx rfl (hb hby at_169) rfl (l' := #[z0, z1, z2, z3, .val (.int (3 : Int32)), .val (.ref op), .val (.ref bz_1), .val (.int (1 : Int32))]) rfl kk) ?_
  refine own_via (G := T7.setTop (mkF m 173 #[z0, z1, z2, z3, .val (.int (3 : Int32)), .val (.ref op), .val (.ref bz_1), .val (.int (1 : Int32))] [(.int (3 : Int32))])) (fun tt kk => XS.iload X7.here hx rfl (hb hby at_171) rfl kk) ?_
  refine own_via (G := T7.setTop (mkF m 174 #[z0, z1, z2, z3, .val (.int (3 : Int32)), .val (.ref op), .val (.ref bz_1), .val (.int (1 : Int32))] [(.int (1 : Int32)), (.int (3 : Int32))])) (fun tt kk => XS.iconst X7.here hx rfl (hb hby at_173) kk) ?_
  have hc9_174 : (1 : Int32) < (3 : Int32) := (by decide)
  refine own_via (G := T7.setTop (mkF m 177 #[z0, z1, z2, z3, .val (.int (3 : Int32)), .val (.ref op), .val (.ref bz_1), .val (.int (1 : Int32))] [])) (fun tt kk => XS.icmpNo X7.here hx rfl (hb hby at_174) rfl (XT.ii_le_f hc9_174) kk) ?_
  refine own_via (G := T7.setTop (mkF m 179 #[z0, z1, z2, z3, .val (.int (3 : Int32)), .val (.ref op), .val (.ref bz_1), .val (.int (1 : Int32))] [(.int (1 : Int32))])) (fun tt kk => XS.iload X7.here hx rfl (hb hby at_177) rfl kk) ?_
  have hc10_179 : ¬ ((1 : Int32) = (0 : Int32)) := (by decide)
  refine own_via (G := T7.setTop (mkF m 182 #[z0, z1, z2, z3, .val (.int (3 : Int32)), .val (.ref op), .val (.ref bz_1), .val (.int (1 : Int32))] [])) (fun tt kk => XS.ifNo X7.here hx rfl (hb hby at_179) rfl (XT.i0_eq_f hc10_179) kk) ?_
  refine own_via (G := T7.setTop (mkF m 184 #[z0, z1, z2, z3, .val (.int (3 : Int32)), .val (.ref op), .val (.ref bz_1), .val (.int (1 : Int32))] [(.ref bz_1)])) (fun tt kk => XS.aload X7.here hx rfl (hb hby at_182) rfl rfl kk) ?_
  refine own_via (G := T7.setTop (mkF m 185 #[z0, z1, z2, z3, .val (.int (3 : Int32)), .val (.ref op), .val (.ref bz_1), .val (.int (1 : Int32))] [(.int (1 : Int32)), (.ref bz_1)])) (fun tt kk => XS.iconst X7.here hx rfl (hb hby at_184) kk) ?_
  obtain ⟨cl11, Ar11, qc11, S11, NN11, H11, G11⟩ := id P0_1
  have in11 := inb_of (j := (1 : Int32)) S11 (own_inb (i := 1) (by decide) (by decide))
  have hat11 : cl11.slots[((1 : Int32)).toNatClampNeg]? = some (.int (Int32.ofNat ((own_out (own_e [v0, v1, v2]) (3 - 1) 1 0 (List.replicate 3 0)).getD 1 0))) := H11.at in11 (own_fget (own_out (own_e [v0, v1, v2]) (3 - 1) 1 0 (List.replicate 3 0)) (i := 1) (by decide))
  refine own_via (G := T7.setTop (mkF m 186 #[z0, z1, z2, z3, .val (.int (3 : Int32)), .val (.ref op), .val (.ref bz_1), .val (.int (1 : Int32))] [(.int (Int32.ofNat ((own_out (own_e [v0, v1, v2]) (3 - 1) 1 0 (List.replicate 3 0)).getD 1 0)))])) (fun tt kk => X7.iaload hx (j := (1 : Int32)) (v := (.int (Int32.ofNat ((own_out (own_e [v0, v1, v2]) (3 - 1) 1 0 (List.replicate 3 0)).getD 1 0)))) (own_eqh eh7 Ar11.1) (State.isArrayOf_alike hZ.alike Ar11.2.1) Ar11.2.2 in11 hat11 (g := (mkF m 185 #[z0, z1, z2, z3, .val (.int (3 : Int32)), .val (.ref op), .val (.ref bz_1), .val (.int (1 : Int32))] [(.int (1 : Int32)), (.ref bz_1)])) rfl rfl (hb hby at_185) tt kk) ?_
  refine own_via (G := T7.setTop (mkF m 188 #[z0, z1, z2, z3, .val (.int (3 : Int32)), .val (.ref op), .val (.ref bz_1), .val (.int (1 : Int32))] [(.ref op), (.int (Int32.ofNat ((own_out (own_e [v0, v1, v2]) (3 - 1) 1 0 (List.replicate 3 0)).getD 1 0)))])) (fun tt kk => XS.aload X7.here hx rfl (hb hby at_186) rfl rfl kk) ?_
  refine own_via (G := T7.setTop (mkF m 189 #[z0, z1, z2, z3, .val (.int (3 : Int32)), .val (.ref op), .val (.ref bz_1), .val (.int (1 : Int32))] [(.int (2 : Int32)), (.ref op), (.int (Int32.ofNat ((own_out (own_e [v0, v1, v2]) (3 - 1) 1 0 (List.replicate 3 0)).getD 1 0)))])) (fun tt kk => XS.iconst X7.here hx rfl (hb hby at_188) kk) ?_
  obtain ⟨_, _, ⟨T12, L12, k12, n12⟩, -, X12, ⟨Lc12, hQ12, l12, y12, z12⟩, st12⟩ := Jvm.LawKit.callS X7 hx (y := (⟨"com/example/clew/clew/KnuthMorrisPrattFailureFunctionPinLaw", "border", "([BI)I"⟩ : MethodName)) hown (mvT hZ (hw _ (List.mem_of_getElem? (i := 11) rfl))) (mvT hZ (hw _ (List.mem_of_getElem? (i := 12) rfl))) (mvT hZ (hw _ (List.mem_of_getElem? (i := 4) rfl))) (mvT hZ (hw _ (List.mem_of_getElem? (i := 13) rfl))) (by decide) (backOf (W := 1) (rm3 l Z a0 hw [] op kp 3 [v0, v1, v2] 2 T1.heap n0 Z1 VP0'1 rfl (by decide) (by decide)) hZ (hw _ (List.mem_of_getElem? (i := 13) rfl)) (hw _ (List.mem_of_getElem? (i := 4) rfl)) (by decide) (by decide)) (g := (mkF m 189 #[z0, z1, z2, z3, .val (.int (3 : Int32)), .val (.ref op), .val (.ref bz_1), .val (.int (1 : Int32))] [(.int (2 : Int32)), (.ref op), (.int (Int32.ofNat ((own_out (own_e [v0, v1, v2]) (3 - 1) 1 0 (List.replicate 3 0)).getD 1 0)))])) rfl (by rw [hml]; rfl) (argsL := [(.ref op), (.int (2 : Int32))]) (rest := [(.int (Int32.ofNat ((own_out (own_e [v0, v1, v2]) (3 - 1) 1 0 (List.replicate 3 0)).getD 1 0)))]) (lenOf pd_2 rfl) rfl (by show 2 * 0 + _ ≤ _; exact Nat.le_of_eq rfl) (hb hby at_189) (fun _ _ => ⟨rfl, eh7, (by decide : ((1 + 1) + 0) + 0 ≤ _), (by decide : ((3 + 6) + 0) + 0 ≤ _)⟩)
  dsimp only [Pt.U, Pt.locs, Pt.cells, Pt.slots] at X12 l12 y12 z12 st12 hQ12
  subst l12 y12 z12
  obtain ⟨rfl, Nq12, eh12⟩ := hQ12
  have N12 := Fr.app N7 Nq12
  refine own_via (G := T12.setTop (mkF m 192 #[z0, z1, z2, z3, .val (.int (3 : Int32)), .val (.ref op), .val (.ref bz_1), .val (.int (1 : Int32))] [(.int (Int32.ofNat (own_bd5 (own_e [v0, v1, v2]) 2))), (.int (Int32.ofNat ((own_out (own_e [v0, v1, v2]) (3 - 1) 1 0 (List.replicate 3 0)).getD 1 0)))])) (fun tt kk => st12 tt kk) ?_
  have hc13_192 : (Int32.ofNat ((own_out (own_e [v0, v1, v2]) (3 - 1) 1 0 (List.replicate 3 0)).getD 1 0)) = (Int32.ofNat (own_bd5 (own_e [v0, v1, v2]) 2)) := congrArg Int32.ofNat (own_law [v0, v1, v2] (Nat.le_of_ble_eq_true rfl) 1 (Nat.le_of_ble_eq_true rfl))
  refine own_via (G := T12.setTop (mkF m 195 #[z0, z1, z2, z3, .val (.int (3 : Int32)), .val (.ref op), .val (.ref bz_1), .val (.int (1 : Int32))] [])) (fun tt kk => XS.icmpNo X12.here hx rfl (hb hby at_192) rfl (XT.ii_ne_f hc13_192) kk) ?_
  refine own_via (G := T12.setTop (mkF m 196 #[z0, z1, z2, z3, .val (.int (3 : Int32)), .val (.ref op), .val (.ref bz_1), .val (.int (1 : Int32))] [(.int (1 : Int32))])) (fun tt kk => XS.iconst X12.here hx rfl (hb hby at_195) kk) ?_
  refine own_via (G := T12.setTop (mkF m 200 #[z0, z1, z2, z3, .val (.int (3 : Int32)), .val (.ref op), .val (.ref bz_1), .val (.int (1 : Int32))] [(.int (1 : Int32))])) (fun tt kk => XS.goto X12.here hx rfl (pc0 := 196) (pc' := 200) rfl (hb hby at_196) (by decide) (by decide) kk) ?_
  refine own_via (G := T12.setTop (mkF m 202 #[z0, z1, z2, z3, .val (.int (3 : Int32)), .val (.ref op), .val (.ref bz_1), .val (.int (1 : Int32))] [])) (fun tt kk => XS.istore X12.here hx rfl (hb hby at_200) rfl (l' := #[z0, z1, z2, z3, .val (.int (3 : Int32)), .val (.ref op), .val (.ref bz_1), .val (.int (1 : Int32))]) rfl kk) ?_
  refine own_via (G := T12.setTop (mkF m 204 #[z0, z1, z2, z3, .val (.int (3 : Int32)), .val (.ref op), .val (.ref bz_1), .val (.int (1 : Int32))] [(.int (3 : Int32))])) (fun tt kk => XS.iload X12.here hx rfl (hb hby at_202) rfl kk) ?_
  refine own_via (G := T12.setTop (mkF m 205 #[z0, z1, z2, z3, .val (.int (3 : Int32)), .val (.ref op), .val (.ref bz_1), .val (.int (1 : Int32))] [(.int (2 : Int32)), (.int (3 : Int32))])) (fun tt kk => XS.iconst X12.here hx rfl (hb hby at_204) kk) ?_
  have hc14_205 : (2 : Int32) < (3 : Int32) := (by decide)
  refine own_via (G := T12.setTop (mkF m 208 #[z0, z1, z2, z3, .val (.int (3 : Int32)), .val (.ref op), .val (.ref bz_1), .val (.int (1 : Int32))] [])) (fun tt kk => XS.icmpNo X12.here hx rfl (hb hby at_205) rfl (XT.ii_le_f hc14_205) kk) ?_
  refine own_via (G := T12.setTop (mkF m 210 #[z0, z1, z2, z3, .val (.int (3 : Int32)), .val (.ref op), .val (.ref bz_1), .val (.int (1 : Int32))] [(.int (1 : Int32))])) (fun tt kk => XS.iload X12.here hx rfl (hb hby at_208) rfl kk) ?_
  have hc15_210 : ¬ ((1 : Int32) = (0 : Int32)) := (by decide)
  refine own_via (G := T12.setTop (mkF m 213 #[z0, z1, z2, z3, .val (.int (3 : Int32)), .val (.ref op), .val (.ref bz_1), .val (.int (1 : Int32))] [])) (fun tt kk => XS.ifNo X12.here hx rfl (hb hby at_210) rfl (XT.i0_eq_f hc15_210) kk) ?_
  refine own_via (G := T12.setTop (mkF m 215 #[z0, z1, z2, z3, .val (.int (3 : Int32)), .val (.ref op), .val (.ref bz_1), .val (.int (1 : Int32))] [(.ref bz_1)])) (fun tt kk => XS.aload X12.here hx rfl (hb hby at_213) rfl rfl kk) ?_
  refine own_via (G := T12.setTop (mkF m 216 #[z0, z1, z2, z3, .val (.int (3 : Int32)), .val (.ref op), .val (.ref bz_1), .val (.int (1 : Int32))] [(.int (2 : Int32)), (.ref bz_1)])) (fun tt kk => XS.iconst X12.here hx rfl (hb hby at_215) kk) ?_
  obtain ⟨cl16, Ar16, qc16, S16, NN16, H16, G16⟩ := id P0_1
  have in16 := inb_of (j := (2 : Int32)) S16 (own_inb (i := 2) (by decide) (by decide))
  have hat16 : cl16.slots[((2 : Int32)).toNatClampNeg]? = some (.int (Int32.ofNat ((own_out (own_e [v0, v1, v2]) (3 - 1) 1 0 (List.replicate 3 0)).getD 2 0))) := H16.at in16 (own_fget (own_out (own_e [v0, v1, v2]) (3 - 1) 1 0 (List.replicate 3 0)) (i := 2) (by decide))
  refine own_via (G := T12.setTop (mkF m 217 #[z0, z1, z2, z3, .val (.int (3 : Int32)), .val (.ref op), .val (.ref bz_1), .val (.int (1 : Int32))] [(.int (Int32.ofNat ((own_out (own_e [v0, v1, v2]) (3 - 1) 1 0 (List.replicate 3 0)).getD 2 0)))])) (fun tt kk => X12.iaload hx (j := (2 : Int32)) (v := (.int (Int32.ofNat ((own_out (own_e [v0, v1, v2]) (3 - 1) 1 0 (List.replicate 3 0)).getD 2 0)))) (own_eqh eh12 Ar16.1) (State.isArrayOf_alike hZ.alike Ar16.2.1) Ar16.2.2 in16 hat16 (g := (mkF m 216 #[z0, z1, z2, z3, .val (.int (3 : Int32)), .val (.ref op), .val (.ref bz_1), .val (.int (1 : Int32))] [(.int (2 : Int32)), (.ref bz_1)])) rfl rfl (hb hby at_216) tt kk) ?_
  refine own_via (G := T12.setTop (mkF m 219 #[z0, z1, z2, z3, .val (.int (3 : Int32)), .val (.ref op), .val (.ref bz_1), .val (.int (1 : Int32))] [(.ref op), (.int (Int32.ofNat ((own_out (own_e [v0, v1, v2]) (3 - 1) 1 0 (List.replicate 3 0)).getD 2 0)))])) (fun tt kk => XS.aload X12.here hx rfl (hb hby at_217) rfl rfl kk) ?_
  refine own_via (G := T12.setTop (mkF m 220 #[z0, z1, z2, z3, .val (.int (3 : Int32)), .val (.ref op), .val (.ref bz_1), .val (.int (1 : Int32))] [(.int (3 : Int32)), (.ref op), (.int (Int32.ofNat ((own_out (own_e [v0, v1, v2]) (3 - 1) 1 0 (List.replicate 3 0)).getD 2 0)))])) (fun tt kk => XS.iconst X12.here hx rfl (hb hby at_219) kk) ?_
  obtain ⟨_, _, ⟨T17, L17, k17, n17⟩, -, X17, ⟨Lc17, hQ17, l17, y17, z17⟩, st17⟩ := Jvm.LawKit.callS X12 hx (y := (⟨"com/example/clew/clew/KnuthMorrisPrattFailureFunctionPinLaw", "border", "([BI)I"⟩ : MethodName)) hown (mvT hZ (hw _ (List.mem_of_getElem? (i := 11) rfl))) (mvT hZ (hw _ (List.mem_of_getElem? (i := 12) rfl))) (mvT hZ (hw _ (List.mem_of_getElem? (i := 4) rfl))) (mvT hZ (hw _ (List.mem_of_getElem? (i := 13) rfl))) (by decide) (backOf (W := 1) (rm3 l Z a0 hw [] op kp 3 [v0, v1, v2] 3 T1.heap n0 Z1 VP0'1 rfl (by decide) (by decide)) hZ (hw _ (List.mem_of_getElem? (i := 13) rfl)) (hw _ (List.mem_of_getElem? (i := 4) rfl)) (by decide) (by decide)) (g := (mkF m 220 #[z0, z1, z2, z3, .val (.int (3 : Int32)), .val (.ref op), .val (.ref bz_1), .val (.int (1 : Int32))] [(.int (3 : Int32)), (.ref op), (.int (Int32.ofNat ((own_out (own_e [v0, v1, v2]) (3 - 1) 1 0 (List.replicate 3 0)).getD 2 0)))])) rfl (by rw [hml]; rfl) (argsL := [(.ref op), (.int (3 : Int32))]) (rest := [(.int (Int32.ofNat ((own_out (own_e [v0, v1, v2]) (3 - 1) 1 0 (List.replicate 3 0)).getD 2 0)))]) (lenOf pd_2 rfl) rfl (by show 2 * 0 + _ ≤ _; exact Nat.le_of_eq rfl) (hb hby at_220) (fun _ _ => ⟨rfl, eh12, (by decide : (((1 + 1) + 0) + 0) + 0 ≤ _), (by decide : (((3 + 6) + 0) + 0) + 0 ≤ _)⟩)
  dsimp only [Pt.U, Pt.locs, Pt.cells, Pt.slots] at X17 l17 y17 z17 st17 hQ17
  subst l17 y17 z17
  obtain ⟨rfl, Nq17, eh17⟩ := hQ17
  have N17 := Fr.app N12 Nq17
  refine own_via (G := T17.setTop (mkF m 223 #[z0, z1, z2, z3, .val (.int (3 : Int32)), .val (.ref op), .val (.ref bz_1), .val (.int (1 : Int32))] [(.int (Int32.ofNat (own_bd5 (own_e [v0, v1, v2]) 3))), (.int (Int32.ofNat ((own_out (own_e [v0, v1, v2]) (3 - 1) 1 0 (List.replicate 3 0)).getD 2 0)))])) (fun tt kk => st17 tt kk) ?_
  have hc18_223 : (Int32.ofNat ((own_out (own_e [v0, v1, v2]) (3 - 1) 1 0 (List.replicate 3 0)).getD 2 0)) = (Int32.ofNat (own_bd5 (own_e [v0, v1, v2]) 3)) := congrArg Int32.ofNat (own_law [v0, v1, v2] (Nat.le_of_ble_eq_true rfl) 2 (Nat.le_of_ble_eq_true rfl))
  refine own_via (G := T17.setTop (mkF m 226 #[z0, z1, z2, z3, .val (.int (3 : Int32)), .val (.ref op), .val (.ref bz_1), .val (.int (1 : Int32))] [])) (fun tt kk => XS.icmpNo X17.here hx rfl (hb hby at_223) rfl (XT.ii_ne_f hc18_223) kk) ?_
  refine own_via (G := T17.setTop (mkF m 227 #[z0, z1, z2, z3, .val (.int (3 : Int32)), .val (.ref op), .val (.ref bz_1), .val (.int (1 : Int32))] [(.int (1 : Int32))])) (fun tt kk => XS.iconst X17.here hx rfl (hb hby at_226) kk) ?_
  refine own_via (G := T17.setTop (mkF m 231 #[z0, z1, z2, z3, .val (.int (3 : Int32)), .val (.ref op), .val (.ref bz_1), .val (.int (1 : Int32))] [(.int (1 : Int32))])) (fun tt kk => XS.goto X17.here hx rfl (pc0 := 227) (pc' := 231) rfl (hb hby at_227) (by decide) (by decide) kk) ?_
  refine own_via (G := T17.setTop (mkF m 233 #[z0, z1, z2, z3, .val (.int (3 : Int32)), .val (.ref op), .val (.ref bz_1), .val (.int (1 : Int32))] [])) (fun tt kk => XS.istore X17.here hx rfl (hb hby at_231) rfl (l' := #[z0, z1, z2, z3, .val (.int (3 : Int32)), .val (.ref op), .val (.ref bz_1), .val (.int (1 : Int32))]) rfl kk) ?_
  refine own_via (G := T17.setTop (mkF m 235 #[z0, z1, z2, z3, .val (.int (3 : Int32)), .val (.ref op), .val (.ref bz_1), .val (.int (1 : Int32))] [(.int (3 : Int32))])) (fun tt kk => XS.iload X17.here hx rfl (hb hby at_233) rfl kk) ?_
  refine own_via (G := T17.setTop (mkF m 236 #[z0, z1, z2, z3, .val (.int (3 : Int32)), .val (.ref op), .val (.ref bz_1), .val (.int (1 : Int32))] [(.int (3 : Int32)), (.int (3 : Int32))])) (fun tt kk => XS.iconst X17.here hx rfl (hb hby at_235) kk) ?_
  have hc19_236 : ¬ ((3 : Int32) < (3 : Int32)) := (by decide)
  refine own_via (G := T17.setTop (mkF m 264 #[z0, z1, z2, z3, .val (.int (3 : Int32)), .val (.ref op), .val (.ref bz_1), .val (.int (1 : Int32))] [])) (fun tt kk => XS.icmpYes X17.here hx rfl (pc0 := 236) (pc' := 264) rfl (hb hby at_236) rfl (XT.ii_le_t hc19_236) (by decide) (by decide) kk) ?_
  refine own_via (G := T17.setTop (mkF m 266 #[z0, z1, z2, z3, .val (.int (3 : Int32)), .val (.ref op), .val (.ref bz_1), .val (.int (1 : Int32))] [(.int (3 : Int32))])) (fun tt kk => XS.iload X17.here hx rfl (hb hby at_264) rfl kk) ?_
  refine own_via (G := T17.setTop (mkF m 267 #[z0, z1, z2, z3, .val (.int (3 : Int32)), .val (.ref op), .val (.ref bz_1), .val (.int (1 : Int32))] [(.int (4 : Int32)), (.int (3 : Int32))])) (fun tt kk => XS.iconst X17.here hx rfl (hb hby at_266) kk) ?_
  have hc20_267 : ¬ ((4 : Int32) < (3 : Int32)) := (by decide)
  refine own_via (G := T17.setTop (mkF m 295 #[z0, z1, z2, z3, .val (.int (3 : Int32)), .val (.ref op), .val (.ref bz_1), .val (.int (1 : Int32))] [])) (fun tt kk => XS.icmpYes X17.here hx rfl (pc0 := 267) (pc' := 295) rfl (hb hby at_267) rfl (XT.ii_le_t hc20_267) (by decide) (by decide) kk) ?_
  refine own_via (G := T17.setTop (mkF m 297 #[z0, z1, z2, z3, .val (.int (3 : Int32)), .val (.ref op), .val (.ref bz_1), .val (.int (1 : Int32))] [(.int (3 : Int32))])) (fun tt kk => XS.iload X17.here hx rfl (hb hby at_295) rfl kk) ?_
  refine own_via (G := T17.setTop (mkF m 298 #[z0, z1, z2, z3, .val (.int (3 : Int32)), .val (.ref op), .val (.ref bz_1), .val (.int (1 : Int32))] [(.int (5 : Int32)), (.int (3 : Int32))])) (fun tt kk => XS.iconst X17.here hx rfl (hb hby at_297) kk) ?_
  have hc21_298 : ¬ ((5 : Int32) < (3 : Int32)) := (by decide)
  refine own_via (G := T17.setTop (mkF m 327 #[z0, z1, z2, z3, .val (.int (3 : Int32)), .val (.ref op), .val (.ref bz_1), .val (.int (1 : Int32))] [])) (fun tt kk => XS.icmpYes X17.here hx rfl (pc0 := 298) (pc' := 327) rfl (hb hby at_298) rfl (XT.ii_le_t hc21_298) (by decide) (by decide) kk) ?_
  refine own_via (G := T17.setTop (mkF m 329 #[z0, z1, z2, z3, .val (.int (3 : Int32)), .val (.ref op), .val (.ref bz_1), .val (.int (1 : Int32))] [(.int (1 : Int32))])) (fun tt kk => XS.iload X17.here hx rfl (hb hby at_327) rfl kk) ?_
  exact own_fin X17 eh17 (v := some (.int (1 : Int32))) (fun h => by rw [hret] at h; cases h) hlk (fun fs hr => retN X17 hx (t := .boolean) hret (by simp) (hb hby at_329) hr) (show ((fun (v : Option Value) (h : Heap) (L : List Loc) => v = some (.int (1 : Int32)) ∧ Fr n0 L)) (some (.int (1 : Int32))) T1.heap _ from ⟨rfl, N17⟩) (by decide) (by decide)
set_option maxRecDepth 65536 in
set_option maxHeartbeats 40000000 in
theorem b0_116_4 {p : Program} {l : Launch} {e : Env} {s : State} {m : MethodId} {args : Array Value} {below : List Frame} {meth : Method} {c : Code} {T0 : State} {locs : List Loc} {Z : State} {a0 : Array Value} {h0 : Heap} {n0 : Nat} (z0 : Slot) (z1 : Slot) (z2 : Slot) (z3 : Slot) (op : Addr) (kp : ClassId) (v0 : Int32) (v1 : Int32) (v2 : Int32) (v3 : Int32)
    (C : own_C p s m meth c Z a0 code maxLocals "com/example/clew/clew/KnuthMorrisPrattFailureFunctionPinLaw" ret "law") (X0 : Stand p l e room_1 s m args below meth c T0 locs 1 4) (e0 : T0.heap = h0) (Z0 : n0 ≤ h0.size) (N0 : Fr n0 locs) (VP0 : Arv Z h0 op kp .byte (4 : Int32) [(.int v0), (.int v1), (.int v2), (.int v3)] (.int (0 : Int32))) (g_op : n0 ≤ op) :
    own_Go p.tables e below (T0.setTop (mkF m 116 #[z0, z1, z2, z3, .val (.int (4 : Int32)), .val (.ref op), .unset, .unset] [])) (own_K s (fun (v : Option Value) (h : Heap) (L : List Loc) => v = some (.int (1 : Int32)) ∧ Fr n0 L) room_1.cells room_1.slots) := by
  obtain ⟨hx, hZ, hw, hby, hml, hown, hret, hlk, hnm⟩ := C
  refine own_via (G := T0.setTop (mkF m 118 #[z0, z1, z2, z3, .val (.int (4 : Int32)), .val (.ref op), .unset, .unset] [(.ref op)])) (fun tt kk => XS.aload X0.here hx rfl (hb hby at_116) rfl rfl kk) ?_
  obtain ⟨_, _, ⟨T1, L1, k1, n1⟩, -, X1, ⟨Lc1, hQ1, l1, y1, z1⟩, st1⟩ := Jvm.LawKit.callS X0 hx (y := (⟨"com/example/clew/clew/KnuthMorrisPratt", "failureFunction", "([B)[I"⟩ : MethodName)) hown (mvT hZ (hw _ (List.mem_of_getElem? (i := 6) rfl))) (mvT hZ (hw _ (List.mem_of_getElem? (i := 7) rfl))) (mvT hZ (hw _ (List.mem_of_getElem? (i := 8) rfl))) (mvT hZ (hw _ (List.mem_of_getElem? (i := 9) rfl))) (by decide) (backOf (W := 0) (rm2 l Z a0 hw [] op kp 4 [v0, v1, v2, v3] h0 n0 Z0 VP0 rfl (by decide)) hZ (hw _ (List.mem_of_getElem? (i := 9) rfl)) (hw _ (List.mem_of_getElem? (i := 8) rfl)) (by decide) (by decide)) (g := (mkF m 118 #[z0, z1, z2, z3, .val (.int (4 : Int32)), .val (.ref op), .unset, .unset] [(.ref op)])) rfl (by rw [hml]; rfl) (argsL := [(.ref op)]) (rest := []) (lenOf pd_1 rfl) rfl (by show 2 * 0 + _ ≤ _; exact Nat.le_of_eq rfl) (hb hby at_118) (fun _ _ => ⟨rfl, e0, (by decide : 1 + 1 ≤ _), (by decide : 4 + 6 ≤ _)⟩)
  dsimp only [Pt.U, Pt.locs, Pt.cells, Pt.slots] at X1 l1 y1 z1 st1 hQ1
  subst l1 y1 z1
  obtain ⟨bz_1, kz_1, rfl, Nq1, K1q, fz_bz_1, P0_1⟩ := hQ1
  have N1 := Fr.app N0 Nq1
  have VP0'1 := VP0.keep K1q nin0
  have g_bz_1 : n0 ≤ bz_1 := Nat.le_trans Z0 fz_bz_1
  have ne_op_bz_1 : op ≠ bz_1 := Nat.ne_of_lt (Nat.lt_of_lt_of_le VP0.lt fz_bz_1)
  have Z1 : n0 ≤ T1.heap.size := Nat.le_trans Z0 K1q.1
  refine own_via (G := T1.setTop (mkF m 121 #[z0, z1, z2, z3, .val (.int (4 : Int32)), .val (.ref op), .unset, .unset] [(.ref bz_1)])) (fun tt kk => st1 tt kk) ?_
  refine own_via (G := T1.setTop (mkF m 123 #[z0, z1, z2, z3, .val (.int (4 : Int32)), .val (.ref op), .val (.ref bz_1), .unset] [])) (fun tt kk => XS.astore X1.here hx rfl (hb hby at_121) rfl rfl (l' := #[z0, z1, z2, z3, .val (.int (4 : Int32)), .val (.ref op), .val (.ref bz_1), .unset]) rfl kk) ?_
  refine own_via (G := T1.setTop (mkF m 125 #[z0, z1, z2, z3, .val (.int (4 : Int32)), .val (.ref op), .val (.ref bz_1), .unset] [(.ref bz_1)])) (fun tt kk => XS.aload X1.here hx rfl (hb hby at_123) rfl rfl kk) ?_
  refine own_via (G := T1.setTop (mkF m 128 #[z0, z1, z2, z3, .val (.int (4 : Int32)), .val (.ref op), .val (.ref bz_1), .unset] [])) (fun tt kk => XS.ifnullNo X1.here hx rfl (hb hby at_125) rfl kk) ?_
  refine own_via (G := T1.setTop (mkF m 130 #[z0, z1, z2, z3, .val (.int (4 : Int32)), .val (.ref op), .val (.ref bz_1), .unset] [(.ref bz_1)])) (fun tt kk => XS.aload X1.here hx rfl (hb hby at_128) rfl rfl kk) ?_
  obtain ⟨cl2, Ar2, -, S2, NN2, -, -⟩ := id P0_1
  refine own_via (G := T1.setTop (mkF m 131 #[z0, z1, z2, z3, .val (.int (4 : Int32)), .val (.ref op), .val (.ref bz_1), .unset] [(.int (Int32.ofNat 4))])) (fun tt kk => own_len X1 hx hZ rfl Ar2 S2 NN2 (g := (mkF m 130 #[z0, z1, z2, z3, .val (.int (4 : Int32)), .val (.ref op), .val (.ref bz_1), .unset] [(.ref bz_1)])) rfl rfl (hb hby at_130) kk) ?_
  refine own_via (G := T1.setTop (mkF m 133 #[z0, z1, z2, z3, .val (.int (4 : Int32)), .val (.ref op), .val (.ref bz_1), .unset] [(.int (4 : Int32)), (.int (Int32.ofNat 4))])) (fun tt kk => XS.iload X1.here hx rfl (hb hby at_131) rfl kk) ?_
  have hc3_133 : (Int32.ofNat 4) = (4 : Int32) := rfl
  refine own_via (G := T1.setTop (mkF m 138 #[z0, z1, z2, z3, .val (.int (4 : Int32)), .val (.ref op), .val (.ref bz_1), .unset] [])) (fun tt kk => XS.icmpYes X1.here hx rfl (pc0 := 133) (pc' := 138) rfl (hb hby at_133) rfl (XT.ii_eq_t hc3_133) (by decide) (by decide) kk) ?_
  refine own_via (G := T1.setTop (mkF m 139 #[z0, z1, z2, z3, .val (.int (4 : Int32)), .val (.ref op), .val (.ref bz_1), .unset] [(.int (1 : Int32))])) (fun tt kk => XS.iconst X1.here hx rfl (hb hby at_138) kk) ?_
  refine own_via (G := T1.setTop (mkF m 141 #[z0, z1, z2, z3, .val (.int (4 : Int32)), .val (.ref op), .val (.ref bz_1), .val (.int (1 : Int32))] [])) (fun tt kk => XS.istore X1.here hx rfl (hb hby at_139) rfl (l' := #[z0, z1, z2, z3, .val (.int (4 : Int32)), .val (.ref op), .val (.ref bz_1), .val (.int (1 : Int32))]) rfl kk) ?_
  refine own_via (G := T1.setTop (mkF m 143 #[z0, z1, z2, z3, .val (.int (4 : Int32)), .val (.ref op), .val (.ref bz_1), .val (.int (1 : Int32))] [(.int (4 : Int32))])) (fun tt kk => XS.iload X1.here hx rfl (hb hby at_141) rfl kk) ?_
  have hc4_143 : (0 : Int32) < (4 : Int32) := (by decide)
  refine own_via (G := T1.setTop (mkF m 146 #[z0, z1, z2, z3, .val (.int (4 : Int32)), .val (.ref op), .val (.ref bz_1), .val (.int (1 : Int32))] [])) (fun tt kk => XS.ifNo X1.here hx rfl (hb hby at_143) rfl (XT.i0_le_f hc4_143) kk) ?_
  refine own_via (G := T1.setTop (mkF m 148 #[z0, z1, z2, z3, .val (.int (4 : Int32)), .val (.ref op), .val (.ref bz_1), .val (.int (1 : Int32))] [(.int (1 : Int32))])) (fun tt kk => XS.iload X1.here hx rfl (hb hby at_146) rfl kk) ?_
  have hc5_148 : ¬ ((1 : Int32) = (0 : Int32)) := (by decide)
  refine own_via (G := T1.setTop (mkF m 151 #[z0, z1, z2, z3, .val (.int (4 : Int32)), .val (.ref op), .val (.ref bz_1), .val (.int (1 : Int32))] [])) (fun tt kk => XS.ifNo X1.here hx rfl (hb hby at_148) rfl (XT.i0_eq_f hc5_148) kk) ?_
  refine own_via (G := T1.setTop (mkF m 153 #[z0, z1, z2, z3, .val (.int (4 : Int32)), .val (.ref op), .val (.ref bz_1), .val (.int (1 : Int32))] [(.ref bz_1)])) (fun tt kk => XS.aload X1.here hx rfl (hb hby at_151) rfl rfl kk) ?_
  refine own_via (G := T1.setTop (mkF m 154 #[z0, z1, z2, z3, .val (.int (4 : Int32)), .val (.ref op), .val (.ref bz_1), .val (.int (1 : Int32))] [(.int (0 : Int32)), (.ref bz_1)])) (fun tt kk => XS.iconst X1.here hx rfl (hb hby at_153) kk) ?_
  obtain ⟨cl6, Ar6, qc6, S6, NN6, H6, G6⟩ := id P0_1
  have in6 := inb_of (j := (0 : Int32)) S6 (own_inb (i := 0) (by decide) (by decide))
  have hat6 : cl6.slots[((0 : Int32)).toNatClampNeg]? = some (.int (Int32.ofNat ((own_out (own_e [v0, v1, v2, v3]) (4 - 1) 1 0 (List.replicate 4 0)).getD 0 0))) := H6.at in6 (own_fget (own_out (own_e [v0, v1, v2, v3]) (4 - 1) 1 0 (List.replicate 4 0)) (i := 0) (by decide))
  refine own_via (G := T1.setTop (mkF m 155 #[z0, z1, z2, z3, .val (.int (4 : Int32)), .val (.ref op), .val (.ref bz_1), .val (.int (1 : Int32))] [(.int (Int32.ofNat ((own_out (own_e [v0, v1, v2, v3]) (4 - 1) 1 0 (List.replicate 4 0)).getD 0 0)))])) (fun tt kk => X1.iaload hx (j := (0 : Int32)) (v := (.int (Int32.ofNat ((own_out (own_e [v0, v1, v2, v3]) (4 - 1) 1 0 (List.replicate 4 0)).getD 0 0)))) (own_eqh rfl Ar6.1) (State.isArrayOf_alike hZ.alike Ar6.2.1) Ar6.2.2 in6 hat6 (g := (mkF m 154 #[z0, z1, z2, z3, .val (.int (4 : Int32)), .val (.ref op), .val (.ref bz_1), .val (.int (1 : Int32))] [(.int (0 : Int32)), (.ref bz_1)])) rfl rfl (hb hby at_154) tt kk) ?_
  refine own_via (G := T1.setTop (mkF m 157 #[z0, z1, z2, z3, .val (.int (4 : Int32)), .val (.ref op), .val (.ref bz_1), .val (.int (1 : Int32))] [(.ref op), (.int (Int32.ofNat ((own_out (own_e [v0, v1, v2, v3]) (4 - 1) 1 0 (List.replicate 4 0)).getD 0 0)))])) (fun tt kk => XS.aload X1.here hx rfl (hb hby at_155) rfl rfl kk) ?_
  refine own_via (G := T1.setTop (mkF m 158 #[z0, z1, z2, z3, .val (.int (4 : Int32)), .val (.ref op), .val (.ref bz_1), .val (.int (1 : Int32))] [(.int (1 : Int32)), (.ref op), (.int (Int32.ofNat ((own_out (own_e [v0, v1, v2, v3]) (4 - 1) 1 0 (List.replicate 4 0)).getD 0 0)))])) (fun tt kk => XS.iconst X1.here hx rfl (hb hby at_157) kk) ?_
  obtain ⟨_, _, ⟨T7, L7, k7, n7⟩, -, X7, ⟨Lc7, hQ7, l7, y7, z7⟩, st7⟩ := Jvm.LawKit.callS X1 hx (y := (⟨"com/example/clew/clew/KnuthMorrisPrattFailureFunctionPinLaw", "border", "([BI)I"⟩ : MethodName)) hown (mvT hZ (hw _ (List.mem_of_getElem? (i := 11) rfl))) (mvT hZ (hw _ (List.mem_of_getElem? (i := 12) rfl))) (mvT hZ (hw _ (List.mem_of_getElem? (i := 4) rfl))) (mvT hZ (hw _ (List.mem_of_getElem? (i := 13) rfl))) (by decide) (backOf (W := 1) (rm3 l Z a0 hw [] op kp 4 [v0, v1, v2, v3] 1 T1.heap n0 Z1 VP0'1 rfl (by decide) (by decide)) hZ (hw _ (List.mem_of_getElem? (i := 13) rfl)) (hw _ (List.mem_of_getElem? (i := 4) rfl)) (by decide) (by decide)) (g := (mkF m 158 #[z0, z1, z2, z3, .val (.int (4 : Int32)), .val (.ref op), .val (.ref bz_1), .val (.int (1 : Int32))] [(.int (1 : Int32)), (.ref op), (.int (Int32.ofNat ((own_out (own_e [v0, v1, v2, v3]) (4 - 1) 1 0 (List.replicate 4 0)).getD 0 0)))])) rfl (by rw [hml]; rfl) (argsL := [(.ref op), (.int (1 : Int32))]) (rest := [(.int (Int32.ofNat ((own_out (own_e [v0, v1, v2, v3]) (4 - 1) 1 0 (List.replicate 4 0)).getD 0 0)))]) (lenOf pd_2 rfl) rfl (by show 2 * 0 + _ ≤ _; exact Nat.le_of_eq rfl) (hb hby at_158) (fun _ _ => ⟨rfl, rfl, (by decide : (1 + 1) + 0 ≤ _), (by decide : (4 + 6) + 0 ≤ _)⟩)
  dsimp only [Pt.U, Pt.locs, Pt.cells, Pt.slots] at X7 l7 y7 z7 st7 hQ7
  subst l7 y7 z7
  obtain ⟨rfl, Nq7, eh7⟩ := hQ7
  have N7 := Fr.app N1 Nq7
  refine own_via (G := T7.setTop (mkF m 161 #[z0, z1, z2, z3, .val (.int (4 : Int32)), .val (.ref op), .val (.ref bz_1), .val (.int (1 : Int32))] [(.int (Int32.ofNat (own_bd5 (own_e [v0, v1, v2, v3]) 1))), (.int (Int32.ofNat ((own_out (own_e [v0, v1, v2, v3]) (4 - 1) 1 0 (List.replicate 4 0)).getD 0 0)))])) (fun tt kk => st7 tt kk) ?_
  have hc8_161 : (Int32.ofNat ((own_out (own_e [v0, v1, v2, v3]) (4 - 1) 1 0 (List.replicate 4 0)).getD 0 0)) = (Int32.ofNat (own_bd5 (own_e [v0, v1, v2, v3]) 1)) := congrArg Int32.ofNat (own_law [v0, v1, v2, v3] (Nat.le_of_ble_eq_true rfl) 0 (Nat.le_of_ble_eq_true rfl))
  refine own_via (G := T7.setTop (mkF m 164 #[z0, z1, z2, z3, .val (.int (4 : Int32)), .val (.ref op), .val (.ref bz_1), .val (.int (1 : Int32))] [])) (fun tt kk => XS.icmpNo X7.here hx rfl (hb hby at_161) rfl (XT.ii_ne_f hc8_161) kk) ?_
  refine own_via (G := T7.setTop (mkF m 165 #[z0, z1, z2, z3, .val (.int (4 : Int32)), .val (.ref op), .val (.ref bz_1), .val (.int (1 : Int32))] [(.int (1 : Int32))])) (fun tt kk => XS.iconst X7.here hx rfl (hb hby at_164) kk) ?_
  refine own_via (G := T7.setTop (mkF m 169 #[z0, z1, z2, z3, .val (.int (4 : Int32)), .val (.ref op), .val (.ref bz_1), .val (.int (1 : Int32))] [(.int (1 : Int32))])) (fun tt kk => XS.goto X7.here hx rfl (pc0 := 165) (pc' := 169) rfl (hb hby at_165) (by decide) (by decide) kk) ?_
  refine own_via (G := T7.setTop (mkF m 171 #[z0, z1, z2, z3, .val (.int (4 : Int32)), .val (.ref op), .val (.ref bz_1), .val (.int (1 : Int32))] [])) (fun tt kk => XS.istore X7.here hx rfl (hb hby at_169) rfl (l' := #[z0, z1, z2, z3, .val (.int (4 : Int32)), .val (.ref op), .val (.ref bz_1), .val (.int (1 : Int32))]) rfl kk) ?_
  refine own_via (G := T7.setTop (mkF m 173 #[z0, z1, z2, z3, .val (.int (4 : Int32)), .val (.ref op), .val (.ref bz_1), .val (.int (1 : Int32))] [(.int (4 : Int32))])) (fun tt kk => XS.iload X7.here hx rfl (hb hby at_171) rfl kk) ?_
  refine own_via (G := T7.setTop (mkF m 174 #[z0, z1, z2, z3, .val (.int (4 : Int32)), .val (.ref op), .val (.ref bz_1), .val (.int (1 : Int32))] [(.int (1 : Int32)), (.int (4 : Int32))])) (fun tt kk => XS.iconst X7.here hx rfl (hb hby at_173) kk) ?_
  have hc9_174 : (1 : Int32) < (4 : Int32) := (by decide)
  refine own_via (G := T7.setTop (mkF m 177 #[z0, z1, z2, z3, .val (.int (4 : Int32)), .val (.ref op), .val (.ref bz_1), .val (.int (1 : Int32))] [])) (fun tt kk => XS.icmpNo X7.here hx rfl (hb hby at_174) rfl (XT.ii_le_f hc9_174) kk) ?_
  refine own_via (G := T7.setTop (mkF m 179 #[z0, z1, z2, z3, .val (.int (4 : Int32)), .val (.ref op), .val (.ref bz_1), .val (.int (1 : Int32))] [(.int (1 : Int32))])) (fun tt kk => XS.iload X7.here hx rfl (hb hby at_177) rfl kk) ?_
  have hc10_179 : ¬ ((1 : Int32) = (0 : Int32)) := (by decide)
  refine own_via (G := T7.setTop (mkF m 182 #[z0, z1, z2, z3, .val (.int (4 : Int32)), .val (.ref op), .val (.ref bz_1), .val (.int (1 : Int32))] [])) (fun tt kk => XS.ifNo X7.here hx rfl (hb hby at_179) rfl (XT.i0_eq_f hc10_179) kk) ?_
  refine own_via (G := T7.setTop (mkF m 184 #[z0, z1, z2, z3, .val (.int (4 : Int32)), .val (.ref op), .val (.ref bz_1), .val (.int (1 : Int32))] [(.ref bz_1)])) (fun tt kk => XS.aload X7.here hx rfl (hb hby at_182) rfl rfl kk) ?_
  refine own_via (G := T7.setTop (mkF m 185 #[z0, z1, z2, z3, .val (.int (4 : Int32)), .val (.ref op), .val (.ref bz_1), .val (.int (1 : Int32))] [(.int (1 : Int32)), (.ref bz_1)])) (fun tt kk => XS.iconst X7.here hx rfl (hb hby at_184) kk) ?_
  obtain ⟨cl11, Ar11, qc11, S11, NN11, H11, G11⟩ := id P0_1
  have in11 := inb_of (j := (1 : Int32)) S11 (own_inb (i := 1) (by decide) (by decide))
  have hat11 : cl11.slots[((1 : Int32)).toNatClampNeg]? = some (.int (Int32.ofNat ((own_out (own_e [v0, v1, v2, v3]) (4 - 1) 1 0 (List.replicate 4 0)).getD 1 0))) := H11.at in11 (own_fget (own_out (own_e [v0, v1, v2, v3]) (4 - 1) 1 0 (List.replicate 4 0)) (i := 1) (by decide))
  refine own_via (G := T7.setTop (mkF m 186 #[z0, z1, z2, z3, .val (.int (4 : Int32)), .val (.ref op), .val (.ref bz_1), .val (.int (1 : Int32))] [(.int (Int32.ofNat ((own_out (own_e [v0, v1, v2, v3]) (4 - 1) 1 0 (List.replicate 4 0)).getD 1 0)))])) (fun tt kk => X7.iaload hx (j := (1 : Int32)) (v := (.int (Int32.ofNat ((own_out (own_e [v0, v1, v2, v3]) (4 - 1) 1 0 (List.replicate 4 0)).getD 1 0)))) (own_eqh eh7 Ar11.1) (State.isArrayOf_alike hZ.alike Ar11.2.1) Ar11.2.2 in11 hat11 (g := (mkF m 185 #[z0, z1, z2, z3, .val (.int (4 : Int32)), .val (.ref op), .val (.ref bz_1), .val (.int (1 : Int32))] [(.int (1 : Int32)), (.ref bz_1)])) rfl rfl (hb hby at_185) tt kk) ?_
  refine own_via (G := T7.setTop (mkF m 188 #[z0, z1, z2, z3, .val (.int (4 : Int32)), .val (.ref op), .val (.ref bz_1), .val (.int (1 : Int32))] [(.ref op), (.int (Int32.ofNat ((own_out (own_e [v0, v1, v2, v3]) (4 - 1) 1 0 (List.replicate 4 0)).getD 1 0)))])) (fun tt kk => XS.aload X7.here hx rfl (hb hby at_186) rfl rfl kk) ?_
  refine own_via (G := T7.setTop (mkF m 189 #[z0, z1, z2, z3, .val (.int (4 : Int32)), .val (.ref op), .val (.ref bz_1), .val (.int (1 : Int32))] [(.int (2 : Int32)), (.ref op), (.int (Int32.ofNat ((own_out (own_e [v0, v1, v2, v3]) (4 - 1) 1 0 (List.replicate 4 0)).getD 1 0)))])) (fun tt kk => XS.iconst X7.here hx rfl (hb hby at_188) kk) ?_
  obtain ⟨_, _, ⟨T12, L12, k12, n12⟩, -, X12, ⟨Lc12, hQ12, l12, y12, z12⟩, st12⟩ := Jvm.LawKit.callS X7 hx (y := (⟨"com/example/clew/clew/KnuthMorrisPrattFailureFunctionPinLaw", "border", "([BI)I"⟩ : MethodName)) hown (mvT hZ (hw _ (List.mem_of_getElem? (i := 11) rfl))) (mvT hZ (hw _ (List.mem_of_getElem? (i := 12) rfl))) (mvT hZ (hw _ (List.mem_of_getElem? (i := 4) rfl))) (mvT hZ (hw _ (List.mem_of_getElem? (i := 13) rfl))) (by decide) (backOf (W := 1) (rm3 l Z a0 hw [] op kp 4 [v0, v1, v2, v3] 2 T1.heap n0 Z1 VP0'1 rfl (by decide) (by decide)) hZ (hw _ (List.mem_of_getElem? (i := 13) rfl)) (hw _ (List.mem_of_getElem? (i := 4) rfl)) (by decide) (by decide)) (g := (mkF m 189 #[z0, z1, z2, z3, .val (.int (4 : Int32)), .val (.ref op), .val (.ref bz_1), .val (.int (1 : Int32))] [(.int (2 : Int32)), (.ref op), (.int (Int32.ofNat ((own_out (own_e [v0, v1, v2, v3]) (4 - 1) 1 0 (List.replicate 4 0)).getD 1 0)))])) rfl (by rw [hml]; rfl) (argsL := [(.ref op), (.int (2 : Int32))]) (rest := [(.int (Int32.ofNat ((own_out (own_e [v0, v1, v2, v3]) (4 - 1) 1 0 (List.replicate 4 0)).getD 1 0)))]) (lenOf pd_2 rfl) rfl (by show 2 * 0 + _ ≤ _; exact Nat.le_of_eq rfl) (hb hby at_189) (fun _ _ => ⟨rfl, eh7, (by decide : ((1 + 1) + 0) + 0 ≤ _), (by decide : ((4 + 6) + 0) + 0 ≤ _)⟩)
  dsimp only [Pt.U, Pt.locs, Pt.cells, Pt.slots] at X12 l12 y12 z12 st12 hQ12
  subst l12 y12 z12
  obtain ⟨rfl, Nq12, eh12⟩ := hQ12
  have N12 := Fr.app N7 Nq12
  refine own_via (G := T12.setTop (mkF m 192 #[z0, z1, z2, z3, .val (.int (4 : Int32)), .val (.ref op), .val (.ref bz_1), .val (.int (1 : Int32))] [(.int (Int32.ofNat (own_bd5 (own_e [v0, v1, v2, v3]) 2))), (.int (Int32.ofNat ((own_out (own_e [v0, v1, v2, v3]) (4 - 1) 1 0 (List.replicate 4 0)).getD 1 0)))])) (fun tt kk => st12 tt kk) ?_
  have hc13_192 : (Int32.ofNat ((own_out (own_e [v0, v1, v2, v3]) (4 - 1) 1 0 (List.replicate 4 0)).getD 1 0)) = (Int32.ofNat (own_bd5 (own_e [v0, v1, v2, v3]) 2)) := congrArg Int32.ofNat (own_law [v0, v1, v2, v3] (Nat.le_of_ble_eq_true rfl) 1 (Nat.le_of_ble_eq_true rfl))
  refine own_via (G := T12.setTop (mkF m 195 #[z0, z1, z2, z3, .val (.int (4 : Int32)), .val (.ref op), .val (.ref bz_1), .val (.int (1 : Int32))] [])) (fun tt kk => XS.icmpNo X12.here hx rfl (hb hby at_192) rfl (XT.ii_ne_f hc13_192) kk) ?_
  refine own_via (G := T12.setTop (mkF m 196 #[z0, z1, z2, z3, .val (.int (4 : Int32)), .val (.ref op), .val (.ref bz_1), .val (.int (1 : Int32))] [(.int (1 : Int32))])) (fun tt kk => XS.iconst X12.here hx rfl (hb hby at_195) kk) ?_
  refine own_via (G := T12.setTop (mkF m 200 #[z0, z1, z2, z3, .val (.int (4 : Int32)), .val (.ref op), .val (.ref bz_1), .val (.int (1 : Int32))] [(.int (1 : Int32))])) (fun tt kk => XS.goto X12.here hx rfl (pc0 := 196) (pc' := 200) rfl (hb hby at_196) (by decide) (by decide) kk) ?_
  refine own_via (G := T12.setTop (mkF m 202 #[z0, z1, z2, z3, .val (.int (4 : Int32)), .val (.ref op), .val (.ref bz_1), .val (.int (1 : Int32))] [])) (fun tt kk => XS.istore X12.here hx rfl (hb hby at_200) rfl (l' := #[z0, z1, z2, z3, .val (.int (4 : Int32)), .val (.ref op), .val (.ref bz_1), .val (.int (1 : Int32))]) rfl kk) ?_
  refine own_via (G := T12.setTop (mkF m 204 #[z0, z1, z2, z3, .val (.int (4 : Int32)), .val (.ref op), .val (.ref bz_1), .val (.int (1 : Int32))] [(.int (4 : Int32))])) (fun tt kk => XS.iload X12.here hx rfl (hb hby at_202) rfl kk) ?_
  refine own_via (G := T12.setTop (mkF m 205 #[z0, z1, z2, z3, .val (.int (4 : Int32)), .val (.ref op), .val (.ref bz_1), .val (.int (1 : Int32))] [(.int (2 : Int32)), (.int (4 : Int32))])) (fun tt kk => XS.iconst X12.here hx rfl (hb hby at_204) kk) ?_
  have hc14_205 : (2 : Int32) < (4 : Int32) := (by decide)
  refine own_via (G := T12.setTop (mkF m 208 #[z0, z1, z2, z3, .val (.int (4 : Int32)), .val (.ref op), .val (.ref bz_1), .val (.int (1 : Int32))] [])) (fun tt kk => XS.icmpNo X12.here hx rfl (hb hby at_205) rfl (XT.ii_le_f hc14_205) kk) ?_
  refine own_via (G := T12.setTop (mkF m 210 #[z0, z1, z2, z3, .val (.int (4 : Int32)), .val (.ref op), .val (.ref bz_1), .val (.int (1 : Int32))] [(.int (1 : Int32))])) (fun tt kk => XS.iload X12.here hx rfl (hb hby at_208) rfl kk) ?_
  have hc15_210 : ¬ ((1 : Int32) = (0 : Int32)) := (by decide)
  refine own_via (G := T12.setTop (mkF m 213 #[z0, z1, z2, z3, .val (.int (4 : Int32)), .val (.ref op), .val (.ref bz_1), .val (.int (1 : Int32))] [])) (fun tt kk => XS.ifNo X12.here hx rfl (hb hby at_210) rfl (XT.i0_eq_f hc15_210) kk) ?_
  refine own_via (G := T12.setTop (mkF m 215 #[z0, z1, z2, z3, .val (.int (4 : Int32)), .val (.ref op), .val (.ref bz_1), .val (.int (1 : Int32))] [(.ref bz_1)])) (fun tt kk => XS.aload X12.here hx rfl (hb hby at_213) rfl rfl kk) ?_
  refine own_via (G := T12.setTop (mkF m 216 #[z0, z1, z2, z3, .val (.int (4 : Int32)), .val (.ref op), .val (.ref bz_1), .val (.int (1 : Int32))] [(.int (2 : Int32)), (.ref bz_1)])) (fun tt kk => XS.iconst X12.here hx rfl (hb hby at_215) kk) ?_
  obtain ⟨cl16, Ar16, qc16, S16, NN16, H16, G16⟩ := id P0_1
  have in16 := inb_of (j := (2 : Int32)) S16 (own_inb (i := 2) (by decide) (by decide))
  have hat16 : cl16.slots[((2 : Int32)).toNatClampNeg]? = some (.int (Int32.ofNat ((own_out (own_e [v0, v1, v2, v3]) (4 - 1) 1 0 (List.replicate 4 0)).getD 2 0))) := H16.at in16 (own_fget (own_out (own_e [v0, v1, v2, v3]) (4 - 1) 1 0 (List.replicate 4 0)) (i := 2) (by decide))
  refine own_via (G := T12.setTop (mkF m 217 #[z0, z1, z2, z3, .val (.int (4 : Int32)), .val (.ref op), .val (.ref bz_1), .val (.int (1 : Int32))] [(.int (Int32.ofNat ((own_out (own_e [v0, v1, v2, v3]) (4 - 1) 1 0 (List.replicate 4 0)).getD 2 0)))])) (fun tt kk => X12.iaload hx (j := (2 : Int32)) (v := (.int (Int32.ofNat ((own_out (own_e [v0, v1, v2, v3]) (4 - 1) 1 0 (List.replicate 4 0)).getD 2 0)))) (own_eqh eh12 Ar16.1) (State.isArrayOf_alike hZ.alike Ar16.2.1) Ar16.2.2 in16 hat16 (g := (mkF m 216 #[z0, z1, z2, z3, .val (.int (4 : Int32)), .val (.ref op), .val (.ref bz_1), .val (.int (1 : Int32))] [(.int (2 : Int32)), (.ref bz_1)])) rfl rfl (hb hby at_216) tt kk) ?_
  refine own_via (G := T12.setTop (mkF m 219 #[z0, z1, z2, z3, .val (.int (4 : Int32)), .val (.ref op), .val (.ref bz_1), .val (.int (1 : Int32))] [(.ref op), (.int (Int32.ofNat ((own_out (own_e [v0, v1, v2, v3]) (4 - 1) 1 0 (List.replicate 4 0)).getD 2 0)))])) (fun tt kk => XS.aload X12.here hx rfl (hb hby at_217) rfl rfl kk) ?_
  refine own_via (G := T12.setTop (mkF m 220 #[z0, z1, z2, z3, .val (.int (4 : Int32)), .val (.ref op), .val (.ref bz_1), .val (.int (1 : Int32))] [(.int (3 : Int32)), (.ref op), (.int (Int32.ofNat ((own_out (own_e [v0, v1, v2, v3]) (4 - 1) 1 0 (List.replicate 4 0)).getD 2 0)))])) (fun tt kk => XS.iconst X12.here hx rfl (hb hby at_219) kk) ?_
  obtain ⟨_, _, ⟨T17, L17, k17, n17⟩, -, X17, ⟨Lc17, hQ17, l17, y17, z17⟩, st17⟩ := Jvm.LawKit.callS X12 hx (y := (⟨"com/example/clew/clew/KnuthMorrisPrattFailureFunctionPinLaw", "border", "([BI)I"⟩ : MethodName)) hown (mvT hZ (hw _ (List.mem_of_getElem? (i := 11) rfl))) (mvT hZ (hw _ (List.mem_of_getElem? (i := 12) rfl))) (mvT hZ (hw _ (List.mem_of_getElem? (i := 4) rfl))) (mvT hZ (hw _ (List.mem_of_getElem? (i := 13) rfl))) (by decide) (backOf (W := 1) (rm3 l Z a0 hw [] op kp 4 [v0, v1, v2, v3] 3 T1.heap n0 Z1 VP0'1 rfl (by decide) (by decide)) hZ (hw _ (List.mem_of_getElem? (i := 13) rfl)) (hw _ (List.mem_of_getElem? (i := 4) rfl)) (by decide) (by decide)) (g := (mkF m 220 #[z0, z1, z2, z3, .val (.int (4 : Int32)), .val (.ref op), .val (.ref bz_1), .val (.int (1 : Int32))] [(.int (3 : Int32)), (.ref op), (.int (Int32.ofNat ((own_out (own_e [v0, v1, v2, v3]) (4 - 1) 1 0 (List.replicate 4 0)).getD 2 0)))])) rfl (by rw [hml]; rfl) (argsL := [(.ref op), (.int (3 : Int32))]) (rest := [(.int (Int32.ofNat ((own_out (own_e [v0, v1, v2, v3]) (4 - 1) 1 0 (List.replicate 4 0)).getD 2 0)))]) (lenOf pd_2 rfl) rfl (by show 2 * 0 + _ ≤ _; exact Nat.le_of_eq rfl) (hb hby at_220) (fun _ _ => ⟨rfl, eh12, (by decide : (((1 + 1) + 0) + 0) + 0 ≤ _), (by decide : (((4 + 6) + 0) + 0) + 0 ≤ _)⟩)
  dsimp only [Pt.U, Pt.locs, Pt.cells, Pt.slots] at X17 l17 y17 z17 st17 hQ17
  subst l17 y17 z17
  obtain ⟨rfl, Nq17, eh17⟩ := hQ17
  have N17 := Fr.app N12 Nq17
  refine own_via (G := T17.setTop (mkF m 223 #[z0, z1, z2, z3, .val (.int (4 : Int32)), .val (.ref op), .val (.ref bz_1), .val (.int (1 : Int32))] [(.int (Int32.ofNat (own_bd5 (own_e [v0, v1, v2, v3]) 3))), (.int (Int32.ofNat ((own_out (own_e [v0, v1, v2, v3]) (4 - 1) 1 0 (List.replicate 4 0)).getD 2 0)))])) (fun tt kk => st17 tt kk) ?_
  have hc18_223 : (Int32.ofNat ((own_out (own_e [v0, v1, v2, v3]) (4 - 1) 1 0 (List.replicate 4 0)).getD 2 0)) = (Int32.ofNat (own_bd5 (own_e [v0, v1, v2, v3]) 3)) := congrArg Int32.ofNat (own_law [v0, v1, v2, v3] (Nat.le_of_ble_eq_true rfl) 2 (Nat.le_of_ble_eq_true rfl))
  refine own_via (G := T17.setTop (mkF m 226 #[z0, z1, z2, z3, .val (.int (4 : Int32)), .val (.ref op), .val (.ref bz_1), .val (.int (1 : Int32))] [])) (fun tt kk => XS.icmpNo X17.here hx rfl (hb hby at_223) rfl (XT.ii_ne_f hc18_223) kk) ?_
  refine own_via (G := T17.setTop (mkF m 227 #[z0, z1, z2, z3, .val (.int (4 : Int32)), .val (.ref op), .val (.ref bz_1), .val (.int (1 : Int32))] [(.int (1 : Int32))])) (fun tt kk => XS.iconst X17.here hx rfl (hb hby at_226) kk) ?_
  refine own_via (G := T17.setTop (mkF m 231 #[z0, z1, z2, z3, .val (.int (4 : Int32)), .val (.ref op), .val (.ref bz_1), .val (.int (1 : Int32))] [(.int (1 : Int32))])) (fun tt kk => XS.goto X17.here hx rfl (pc0 := 227) (pc' := 231) rfl (hb hby at_227) (by decide) (by decide) kk) ?_
  refine own_via (G := T17.setTop (mkF m 233 #[z0, z1, z2, z3, .val (.int (4 : Int32)), .val (.ref op), .val (.ref bz_1), .val (.int (1 : Int32))] [])) (fun tt kk => XS.istore X17.here hx rfl (hb hby at_231) rfl (l' := #[z0, z1, z2, z3, .val (.int (4 : Int32)), .val (.ref op), .val (.ref bz_1), .val (.int (1 : Int32))]) rfl kk) ?_
  refine own_via (G := T17.setTop (mkF m 235 #[z0, z1, z2, z3, .val (.int (4 : Int32)), .val (.ref op), .val (.ref bz_1), .val (.int (1 : Int32))] [(.int (4 : Int32))])) (fun tt kk => XS.iload X17.here hx rfl (hb hby at_233) rfl kk) ?_
  refine own_via (G := T17.setTop (mkF m 236 #[z0, z1, z2, z3, .val (.int (4 : Int32)), .val (.ref op), .val (.ref bz_1), .val (.int (1 : Int32))] [(.int (3 : Int32)), (.int (4 : Int32))])) (fun tt kk => XS.iconst X17.here hx rfl (hb hby at_235) kk) ?_
  have hc19_236 : (3 : Int32) < (4 : Int32) := (by decide)
  refine own_via (G := T17.setTop (mkF m 239 #[z0, z1, z2, z3, .val (.int (4 : Int32)), .val (.ref op), .val (.ref bz_1), .val (.int (1 : Int32))] [])) (fun tt kk => XS.icmpNo X17.here hx rfl (hb hby at_236) rfl (XT.ii_le_f hc19_236) kk) ?_
  refine own_via (G := T17.setTop (mkF m 241 #[z0, z1, z2, z3, .val (.int (4 : Int32)), .val (.ref op), .val (.ref bz_1), .val (.int (1 : Int32))] [(.int (1 : Int32))])) (fun tt kk => XS.iload X17.here hx rfl (hb hby at_239) rfl kk) ?_
  have hc20_241 : ¬ ((1 : Int32) = (0 : Int32)) := (by decide)
  refine own_via (G := T17.setTop (mkF m 244 #[z0, z1, z2, z3, .val (.int (4 : Int32)), .val (.ref op), .val (.ref bz_1), .val (.int (1 : Int32))] [])) (fun tt kk => XS.ifNo X17.here hx rfl (hb hby at_241) rfl (XT.i0_eq_f hc20_241) kk) ?_
  refine own_via (G := T17.setTop (mkF m 246 #[z0, z1, z2, z3, .val (.int (4 : Int32)), .val (.ref op), .val (.ref bz_1), .val (.int (1 : Int32))] [(.ref bz_1)])) (fun tt kk => XS.aload X17.here hx rfl (hb hby at_244) rfl rfl kk) ?_
  refine own_via (G := T17.setTop (mkF m 247 #[z0, z1, z2, z3, .val (.int (4 : Int32)), .val (.ref op), .val (.ref bz_1), .val (.int (1 : Int32))] [(.int (3 : Int32)), (.ref bz_1)])) (fun tt kk => XS.iconst X17.here hx rfl (hb hby at_246) kk) ?_
  obtain ⟨cl21, Ar21, qc21, S21, NN21, H21, G21⟩ := id P0_1
  have in21 := inb_of (j := (3 : Int32)) S21 (own_inb (i := 3) (by decide) (by decide))
  have hat21 : cl21.slots[((3 : Int32)).toNatClampNeg]? = some (.int (Int32.ofNat ((own_out (own_e [v0, v1, v2, v3]) (4 - 1) 1 0 (List.replicate 4 0)).getD 3 0))) := H21.at in21 (own_fget (own_out (own_e [v0, v1, v2, v3]) (4 - 1) 1 0 (List.replicate 4 0)) (i := 3) (by decide))
  refine own_via (G := T17.setTop (mkF m 248 #[z0, z1, z2, z3, .val (.int (4 : Int32)), .val (.ref op), .val (.ref bz_1), .val (.int (1 : Int32))] [(.int (Int32.ofNat ((own_out (own_e [v0, v1, v2, v3]) (4 - 1) 1 0 (List.replicate 4 0)).getD 3 0)))])) (fun tt kk => X17.iaload hx (j := (3 : Int32)) (v := (.int (Int32.ofNat ((own_out (own_e [v0, v1, v2, v3]) (4 - 1) 1 0 (List.replicate 4 0)).getD 3 0)))) (own_eqh eh17 Ar21.1) (State.isArrayOf_alike hZ.alike Ar21.2.1) Ar21.2.2 in21 hat21 (g := (mkF m 247 #[z0, z1, z2, z3, .val (.int (4 : Int32)), .val (.ref op), .val (.ref bz_1), .val (.int (1 : Int32))] [(.int (3 : Int32)), (.ref bz_1)])) rfl rfl (hb hby at_247) tt kk) ?_
  refine own_via (G := T17.setTop (mkF m 250 #[z0, z1, z2, z3, .val (.int (4 : Int32)), .val (.ref op), .val (.ref bz_1), .val (.int (1 : Int32))] [(.ref op), (.int (Int32.ofNat ((own_out (own_e [v0, v1, v2, v3]) (4 - 1) 1 0 (List.replicate 4 0)).getD 3 0)))])) (fun tt kk => XS.aload X17.here hx rfl (hb hby at_248) rfl rfl kk) ?_
  refine own_via (G := T17.setTop (mkF m 251 #[z0, z1, z2, z3, .val (.int (4 : Int32)), .val (.ref op), .val (.ref bz_1), .val (.int (1 : Int32))] [(.int (4 : Int32)), (.ref op), (.int (Int32.ofNat ((own_out (own_e [v0, v1, v2, v3]) (4 - 1) 1 0 (List.replicate 4 0)).getD 3 0)))])) (fun tt kk => XS.iconst X17.here hx rfl (hb hby at_250) kk) ?_
  obtain ⟨_, _, ⟨T22, L22, k22, n22⟩, -, X22, ⟨Lc22, hQ22, l22, y22, z22⟩, st22⟩ := Jvm.LawKit.callS X17 hx (y := (⟨"com/example/clew/clew/KnuthMorrisPrattFailureFunctionPinLaw", "border", "([BI)I"⟩ : MethodName)) hown (mvT hZ (hw _ (List.mem_of_getElem? (i := 11) rfl))) (mvT hZ (hw _ (List.mem_of_getElem? (i := 12) rfl))) (mvT hZ (hw _ (List.mem_of_getElem? (i := 4) rfl))) (mvT hZ (hw _ (List.mem_of_getElem? (i := 13) rfl))) (by decide) (backOf (W := 1) (rm3 l Z a0 hw [] op kp 4 [v0, v1, v2, v3] 4 T1.heap n0 Z1 VP0'1 rfl (by decide) (by decide)) hZ (hw _ (List.mem_of_getElem? (i := 13) rfl)) (hw _ (List.mem_of_getElem? (i := 4) rfl)) (by decide) (by decide)) (g := (mkF m 251 #[z0, z1, z2, z3, .val (.int (4 : Int32)), .val (.ref op), .val (.ref bz_1), .val (.int (1 : Int32))] [(.int (4 : Int32)), (.ref op), (.int (Int32.ofNat ((own_out (own_e [v0, v1, v2, v3]) (4 - 1) 1 0 (List.replicate 4 0)).getD 3 0)))])) rfl (by rw [hml]; rfl) (argsL := [(.ref op), (.int (4 : Int32))]) (rest := [(.int (Int32.ofNat ((own_out (own_e [v0, v1, v2, v3]) (4 - 1) 1 0 (List.replicate 4 0)).getD 3 0)))]) (lenOf pd_2 rfl) rfl (by show 2 * 0 + _ ≤ _; exact Nat.le_of_eq rfl) (hb hby at_251) (fun _ _ => ⟨rfl, eh17, (by decide : ((((1 + 1) + 0) + 0) + 0) + 0 ≤ _), (by decide : ((((4 + 6) + 0) + 0) + 0) + 0 ≤ _)⟩)
  dsimp only [Pt.U, Pt.locs, Pt.cells, Pt.slots] at X22 l22 y22 z22 st22 hQ22
  subst l22 y22 z22
  obtain ⟨rfl, Nq22, eh22⟩ := hQ22
  have N22 := Fr.app N17 Nq22
  refine own_via (G := T22.setTop (mkF m 254 #[z0, z1, z2, z3, .val (.int (4 : Int32)), .val (.ref op), .val (.ref bz_1), .val (.int (1 : Int32))] [(.int (Int32.ofNat (own_bd5 (own_e [v0, v1, v2, v3]) 4))), (.int (Int32.ofNat ((own_out (own_e [v0, v1, v2, v3]) (4 - 1) 1 0 (List.replicate 4 0)).getD 3 0)))])) (fun tt kk => st22 tt kk) ?_
  have hc23_254 : (Int32.ofNat ((own_out (own_e [v0, v1, v2, v3]) (4 - 1) 1 0 (List.replicate 4 0)).getD 3 0)) = (Int32.ofNat (own_bd5 (own_e [v0, v1, v2, v3]) 4)) := congrArg Int32.ofNat (own_law [v0, v1, v2, v3] (Nat.le_of_ble_eq_true rfl) 3 (Nat.le_of_ble_eq_true rfl))
  refine own_via (G := T22.setTop (mkF m 257 #[z0, z1, z2, z3, .val (.int (4 : Int32)), .val (.ref op), .val (.ref bz_1), .val (.int (1 : Int32))] [])) (fun tt kk => XS.icmpNo X22.here hx rfl (hb hby at_254) rfl (XT.ii_ne_f hc23_254) kk) ?_
  refine own_via (G := T22.setTop (mkF m 258 #[z0, z1, z2, z3, .val (.int (4 : Int32)), .val (.ref op), .val (.ref bz_1), .val (.int (1 : Int32))] [(.int (1 : Int32))])) (fun tt kk => XS.iconst X22.here hx rfl (hb hby at_257) kk) ?_
  refine own_via (G := T22.setTop (mkF m 262 #[z0, z1, z2, z3, .val (.int (4 : Int32)), .val (.ref op), .val (.ref bz_1), .val (.int (1 : Int32))] [(.int (1 : Int32))])) (fun tt kk => XS.goto X22.here hx rfl (pc0 := 258) (pc' := 262) rfl (hb hby at_258) (by decide) (by decide) kk) ?_
  refine own_via (G := T22.setTop (mkF m 264 #[z0, z1, z2, z3, .val (.int (4 : Int32)), .val (.ref op), .val (.ref bz_1), .val (.int (1 : Int32))] [])) (fun tt kk => XS.istore X22.here hx rfl (hb hby at_262) rfl (l' := #[z0, z1, z2, z3, .val (.int (4 : Int32)), .val (.ref op), .val (.ref bz_1), .val (.int (1 : Int32))]) rfl kk) ?_
  refine own_via (G := T22.setTop (mkF m 266 #[z0, z1, z2, z3, .val (.int (4 : Int32)), .val (.ref op), .val (.ref bz_1), .val (.int (1 : Int32))] [(.int (4 : Int32))])) (fun tt kk => XS.iload X22.here hx rfl (hb hby at_264) rfl kk) ?_
  refine own_via (G := T22.setTop (mkF m 267 #[z0, z1, z2, z3, .val (.int (4 : Int32)), .val (.ref op), .val (.ref bz_1), .val (.int (1 : Int32))] [(.int (4 : Int32)), (.int (4 : Int32))])) (fun tt kk => XS.iconst X22.here hx rfl (hb hby at_266) kk) ?_
  have hc24_267 : ¬ ((4 : Int32) < (4 : Int32)) := (by decide)
  refine own_via (G := T22.setTop (mkF m 295 #[z0, z1, z2, z3, .val (.int (4 : Int32)), .val (.ref op), .val (.ref bz_1), .val (.int (1 : Int32))] [])) (fun tt kk => XS.icmpYes X22.here hx rfl (pc0 := 267) (pc' := 295) rfl (hb hby at_267) rfl (XT.ii_le_t hc24_267) (by decide) (by decide) kk) ?_
  refine own_via (G := T22.setTop (mkF m 297 #[z0, z1, z2, z3, .val (.int (4 : Int32)), .val (.ref op), .val (.ref bz_1), .val (.int (1 : Int32))] [(.int (4 : Int32))])) (fun tt kk => XS.iload X22.here hx rfl (hb hby at_295) rfl kk) ?_
  refine own_via (G := T22.setTop (mkF m 298 #[z0, z1, z2, z3, .val (.int (4 : Int32)), .val (.ref op), .val (.ref bz_1), .val (.int (1 : Int32))] [(.int (5 : Int32)), (.int (4 : Int32))])) (fun tt kk => XS.iconst X22.here hx rfl (hb hby at_297) kk) ?_
  have hc25_298 : ¬ ((5 : Int32) < (4 : Int32)) := (by decide)
  refine own_via (G := T22.setTop (mkF m 327 #[z0, z1, z2, z3, .val (.int (4 : Int32)), .val (.ref op), .val (.ref bz_1), .val (.int (1 : Int32))] [])) (fun tt kk => XS.icmpYes X22.here hx rfl (pc0 := 298) (pc' := 327) rfl (hb hby at_298) rfl (XT.ii_le_t hc25_298) (by decide) (by decide) kk) ?_
  refine own_via (G := T22.setTop (mkF m 329 #[z0, z1, z2, z3, .val (.int (4 : Int32)), .val (.ref op), .val (.ref bz_1), .val (.int (1 : Int32))] [(.int (1 : Int32))])) (fun tt kk => XS.iload X22.here hx rfl (hb hby at_327) rfl kk) ?_
  exact own_fin X22 eh22 (v := some (.int (1 : Int32))) (fun h => by rw [hret] at h; cases h) hlk (fun fs hr => retN X22 hx (t := .boolean) hret (by simp) (hb hby at_329) hr) (show ((fun (v : Option Value) (h : Heap) (L : List Loc) => v = some (.int (1 : Int32)) ∧ Fr n0 L)) (some (.int (1 : Int32))) T1.heap _ from ⟨rfl, N22⟩) (by decide) (by decide)
set_option maxRecDepth 65536 in
set_option maxHeartbeats 40000000 in
theorem b0_116_5 {p : Program} {l : Launch} {e : Env} {s : State} {m : MethodId} {args : Array Value} {below : List Frame} {meth : Method} {c : Code} {T0 : State} {locs : List Loc} {Z : State} {a0 : Array Value} {h0 : Heap} {n0 : Nat} (z0 : Slot) (z1 : Slot) (z2 : Slot) (z3 : Slot) (op : Addr) (kp : ClassId) (v0 : Int32) (v1 : Int32) (v2 : Int32) (v3 : Int32) (v4 : Int32)
    (C : own_C p s m meth c Z a0 code maxLocals "com/example/clew/clew/KnuthMorrisPrattFailureFunctionPinLaw" ret "law") (X0 : Stand p l e room_1 s m args below meth c T0 locs 1 5) (e0 : T0.heap = h0) (Z0 : n0 ≤ h0.size) (N0 : Fr n0 locs) (VP0 : Arv Z h0 op kp .byte (5 : Int32) [(.int v0), (.int v1), (.int v2), (.int v3), (.int v4)] (.int (0 : Int32))) (g_op : n0 ≤ op) :
    own_Go p.tables e below (T0.setTop (mkF m 116 #[z0, z1, z2, z3, .val (.int (5 : Int32)), .val (.ref op), .unset, .unset] [])) (own_K s (fun (v : Option Value) (h : Heap) (L : List Loc) => v = some (.int (1 : Int32)) ∧ Fr n0 L) room_1.cells room_1.slots) := by
  obtain ⟨hx, hZ, hw, hby, hml, hown, hret, hlk, hnm⟩ := C
  refine own_via (G := T0.setTop (mkF m 118 #[z0, z1, z2, z3, .val (.int (5 : Int32)), .val (.ref op), .unset, .unset] [(.ref op)])) (fun tt kk => XS.aload X0.here hx rfl (hb hby at_116) rfl rfl kk) ?_
  obtain ⟨_, _, ⟨T1, L1, k1, n1⟩, -, X1, ⟨Lc1, hQ1, l1, y1, z1⟩, st1⟩ := Jvm.LawKit.callS X0 hx (y := (⟨"com/example/clew/clew/KnuthMorrisPratt", "failureFunction", "([B)[I"⟩ : MethodName)) hown (mvT hZ (hw _ (List.mem_of_getElem? (i := 6) rfl))) (mvT hZ (hw _ (List.mem_of_getElem? (i := 7) rfl))) (mvT hZ (hw _ (List.mem_of_getElem? (i := 8) rfl))) (mvT hZ (hw _ (List.mem_of_getElem? (i := 9) rfl))) (by decide) (backOf (W := 0) (rm2 l Z a0 hw [] op kp 5 [v0, v1, v2, v3, v4] h0 n0 Z0 VP0 rfl (by decide)) hZ (hw _ (List.mem_of_getElem? (i := 9) rfl)) (hw _ (List.mem_of_getElem? (i := 8) rfl)) (by decide) (by decide)) (g := (mkF m 118 #[z0, z1, z2, z3, .val (.int (5 : Int32)), .val (.ref op), .unset, .unset] [(.ref op)])) rfl (by rw [hml]; rfl) (argsL := [(.ref op)]) (rest := []) (lenOf pd_1 rfl) rfl (by show 2 * 0 + _ ≤ _; exact Nat.le_of_eq rfl) (hb hby at_118) (fun _ _ => ⟨rfl, e0, (by decide : 1 + 1 ≤ _), (by decide : 5 + 6 ≤ _)⟩)
  dsimp only [Pt.U, Pt.locs, Pt.cells, Pt.slots] at X1 l1 y1 z1 st1 hQ1
  subst l1 y1 z1
  obtain ⟨bz_1, kz_1, rfl, Nq1, K1q, fz_bz_1, P0_1⟩ := hQ1
  have N1 := Fr.app N0 Nq1
  have VP0'1 := VP0.keep K1q nin0
  have g_bz_1 : n0 ≤ bz_1 := Nat.le_trans Z0 fz_bz_1
  have ne_op_bz_1 : op ≠ bz_1 := Nat.ne_of_lt (Nat.lt_of_lt_of_le VP0.lt fz_bz_1)
  have Z1 : n0 ≤ T1.heap.size := Nat.le_trans Z0 K1q.1
  refine own_via (G := T1.setTop (mkF m 121 #[z0, z1, z2, z3, .val (.int (5 : Int32)), .val (.ref op), .unset, .unset] [(.ref bz_1)])) (fun tt kk => st1 tt kk) ?_
  refine own_via (G := T1.setTop (mkF m 123 #[z0, z1, z2, z3, .val (.int (5 : Int32)), .val (.ref op), .val (.ref bz_1), .unset] [])) (fun tt kk => XS.astore X1.here hx rfl (hb hby at_121) rfl rfl (l' := #[z0, z1, z2, z3, .val (.int (5 : Int32)), .val (.ref op), .val (.ref bz_1), .unset]) rfl kk) ?_
  refine own_via (G := T1.setTop (mkF m 125 #[z0, z1, z2, z3, .val (.int (5 : Int32)), .val (.ref op), .val (.ref bz_1), .unset] [(.ref bz_1)])) (fun tt kk => XS.aload X1.here hx rfl (hb hby at_123) rfl rfl kk) ?_
  refine own_via (G := T1.setTop (mkF m 128 #[z0, z1, z2, z3, .val (.int (5 : Int32)), .val (.ref op), .val (.ref bz_1), .unset] [])) (fun tt kk => XS.ifnullNo X1.here hx rfl (hb hby at_125) rfl kk) ?_
  refine own_via (G := T1.setTop (mkF m 130 #[z0, z1, z2, z3, .val (.int (5 : Int32)), .val (.ref op), .val (.ref bz_1), .unset] [(.ref bz_1)])) (fun tt kk => XS.aload X1.here hx rfl (hb hby at_128) rfl rfl kk) ?_
  obtain ⟨cl2, Ar2, -, S2, NN2, -, -⟩ := id P0_1
  refine own_via (G := T1.setTop (mkF m 131 #[z0, z1, z2, z3, .val (.int (5 : Int32)), .val (.ref op), .val (.ref bz_1), .unset] [(.int (Int32.ofNat 5))])) (fun tt kk => own_len X1 hx hZ rfl Ar2 S2 NN2 (g := (mkF m 130 #[z0, z1, z2, z3, .val (.int (5 : Int32)), .val (.ref op), .val (.ref bz_1), .unset] [(.ref bz_1)])) rfl rfl (hb hby at_130) kk) ?_
  refine own_via (G := T1.setTop (mkF m 133 #[z0, z1, z2, z3, .val (.int (5 : Int32)), .val (.ref op), .val (.ref bz_1), .unset] [(.int (5 : Int32)), (.int (Int32.ofNat 5))])) (fun tt kk => XS.iload X1.here hx rfl (hb hby at_131) rfl kk) ?_
  have hc3_133 : (Int32.ofNat 5) = (5 : Int32) := rfl
  refine own_via (G := T1.setTop (mkF m 138 #[z0, z1, z2, z3, .val (.int (5 : Int32)), .val (.ref op), .val (.ref bz_1), .unset] [])) (fun tt kk => XS.icmpYes X1.here hx rfl (pc0 := 133) (pc' := 138) rfl (hb hby at_133) rfl (XT.ii_eq_t hc3_133) (by decide) (by decide) kk) ?_
  refine own_via (G := T1.setTop (mkF m 139 #[z0, z1, z2, z3, .val (.int (5 : Int32)), .val (.ref op), .val (.ref bz_1), .unset] [(.int (1 : Int32))])) (fun tt kk => XS.iconst X1.here hx rfl (hb hby at_138) kk) ?_
  refine own_via (G := T1.setTop (mkF m 141 #[z0, z1, z2, z3, .val (.int (5 : Int32)), .val (.ref op), .val (.ref bz_1), .val (.int (1 : Int32))] [])) (fun tt kk => XS.istore X1.here hx rfl (hb hby at_139) rfl (l' := #[z0, z1, z2, z3, .val (.int (5 : Int32)), .val (.ref op), .val (.ref bz_1), .val (.int (1 : Int32))]) rfl kk) ?_
  refine own_via (G := T1.setTop (mkF m 143 #[z0, z1, z2, z3, .val (.int (5 : Int32)), .val (.ref op), .val (.ref bz_1), .val (.int (1 : Int32))] [(.int (5 : Int32))])) (fun tt kk => XS.iload X1.here hx rfl (hb hby at_141) rfl kk) ?_
  have hc4_143 : (0 : Int32) < (5 : Int32) := (by decide)
  refine own_via (G := T1.setTop (mkF m 146 #[z0, z1, z2, z3, .val (.int (5 : Int32)), .val (.ref op), .val (.ref bz_1), .val (.int (1 : Int32))] [])) (fun tt kk => XS.ifNo X1.here hx rfl (hb hby at_143) rfl (XT.i0_le_f hc4_143) kk) ?_
  refine own_via (G := T1.setTop (mkF m 148 #[z0, z1, z2, z3, .val (.int (5 : Int32)), .val (.ref op), .val (.ref bz_1), .val (.int (1 : Int32))] [(.int (1 : Int32))])) (fun tt kk => XS.iload X1.here hx rfl (hb hby at_146) rfl kk) ?_
  have hc5_148 : ¬ ((1 : Int32) = (0 : Int32)) := (by decide)
  refine own_via (G := T1.setTop (mkF m 151 #[z0, z1, z2, z3, .val (.int (5 : Int32)), .val (.ref op), .val (.ref bz_1), .val (.int (1 : Int32))] [])) (fun tt kk => XS.ifNo X1.here hx rfl (hb hby at_148) rfl (XT.i0_eq_f hc5_148) kk) ?_
  refine own_via (G := T1.setTop (mkF m 153 #[z0, z1, z2, z3, .val (.int (5 : Int32)), .val (.ref op), .val (.ref bz_1), .val (.int (1 : Int32))] [(.ref bz_1)])) (fun tt kk => XS.aload X1.here hx rfl (hb hby at_151) rfl rfl kk) ?_
  refine own_via (G := T1.setTop (mkF m 154 #[z0, z1, z2, z3, .val (.int (5 : Int32)), .val (.ref op), .val (.ref bz_1), .val (.int (1 : Int32))] [(.int (0 : Int32)), (.ref bz_1)])) (fun tt kk => XS.iconst X1.here hx rfl (hb hby at_153) kk) ?_
  obtain ⟨cl6, Ar6, qc6, S6, NN6, H6, G6⟩ := id P0_1
  have in6 := inb_of (j := (0 : Int32)) S6 (own_inb (i := 0) (by decide) (by decide))
  have hat6 : cl6.slots[((0 : Int32)).toNatClampNeg]? = some (.int (Int32.ofNat ((own_out (own_e [v0, v1, v2, v3, v4]) (5 - 1) 1 0 (List.replicate 5 0)).getD 0 0))) := H6.at in6 (own_fget (own_out (own_e [v0, v1, v2, v3, v4]) (5 - 1) 1 0 (List.replicate 5 0)) (i := 0) (by decide))
  refine own_via (G := T1.setTop (mkF m 155 #[z0, z1, z2, z3, .val (.int (5 : Int32)), .val (.ref op), .val (.ref bz_1), .val (.int (1 : Int32))] [(.int (Int32.ofNat ((own_out (own_e [v0, v1, v2, v3, v4]) (5 - 1) 1 0 (List.replicate 5 0)).getD 0 0)))])) (fun tt kk => X1.iaload hx (j := (0 : Int32)) (v := (.int (Int32.ofNat ((own_out (own_e [v0, v1, v2, v3, v4]) (5 - 1) 1 0 (List.replicate 5 0)).getD 0 0)))) (own_eqh rfl Ar6.1) (State.isArrayOf_alike hZ.alike Ar6.2.1) Ar6.2.2 in6 hat6 (g := (mkF m 154 #[z0, z1, z2, z3, .val (.int (5 : Int32)), .val (.ref op), .val (.ref bz_1), .val (.int (1 : Int32))] [(.int (0 : Int32)), (.ref bz_1)])) rfl rfl (hb hby at_154) tt kk) ?_
  refine own_via (G := T1.setTop (mkF m 157 #[z0, z1, z2, z3, .val (.int (5 : Int32)), .val (.ref op), .val (.ref bz_1), .val (.int (1 : Int32))] [(.ref op), (.int (Int32.ofNat ((own_out (own_e [v0, v1, v2, v3, v4]) (5 - 1) 1 0 (List.replicate 5 0)).getD 0 0)))])) (fun tt kk => XS.aload X1.here hx rfl (hb hby at_155) rfl rfl kk) ?_
  refine own_via (G := T1.setTop (mkF m 158 #[z0, z1, z2, z3, .val (.int (5 : Int32)), .val (.ref op), .val (.ref bz_1), .val (.int (1 : Int32))] [(.int (1 : Int32)), (.ref op), (.int (Int32.ofNat ((own_out (own_e [v0, v1, v2, v3, v4]) (5 - 1) 1 0 (List.replicate 5 0)).getD 0 0)))])) (fun tt kk => XS.iconst X1.here hx rfl (hb hby at_157) kk) ?_
  obtain ⟨_, _, ⟨T7, L7, k7, n7⟩, -, X7, ⟨Lc7, hQ7, l7, y7, z7⟩, st7⟩ := Jvm.LawKit.callS X1 hx (y := (⟨"com/example/clew/clew/KnuthMorrisPrattFailureFunctionPinLaw", "border", "([BI)I"⟩ : MethodName)) hown (mvT hZ (hw _ (List.mem_of_getElem? (i := 11) rfl))) (mvT hZ (hw _ (List.mem_of_getElem? (i := 12) rfl))) (mvT hZ (hw _ (List.mem_of_getElem? (i := 4) rfl))) (mvT hZ (hw _ (List.mem_of_getElem? (i := 13) rfl))) (by decide) (backOf (W := 1) (rm3 l Z a0 hw [] op kp 5 [v0, v1, v2, v3, v4] 1 T1.heap n0 Z1 VP0'1 rfl (by decide) (by decide)) hZ (hw _ (List.mem_of_getElem? (i := 13) rfl)) (hw _ (List.mem_of_getElem? (i := 4) rfl)) (by decide) (by decide)) (g := (mkF m 158 #[z0, z1, z2, z3, .val (.int (5 : Int32)), .val (.ref op), .val (.ref bz_1), .val (.int (1 : Int32))] [(.int (1 : Int32)), (.ref op), (.int (Int32.ofNat ((own_out (own_e [v0, v1, v2, v3, v4]) (5 - 1) 1 0 (List.replicate 5 0)).getD 0 0)))])) rfl (by rw [hml]; rfl) (argsL := [(.ref op), (.int (1 : Int32))]) (rest := [(.int (Int32.ofNat ((own_out (own_e [v0, v1, v2, v3, v4]) (5 - 1) 1 0 (List.replicate 5 0)).getD 0 0)))]) (lenOf pd_2 rfl) rfl (by show 2 * 0 + _ ≤ _; exact Nat.le_of_eq rfl) (hb hby at_158) (fun _ _ => ⟨rfl, rfl, (by decide : (1 + 1) + 0 ≤ _), (by decide : (5 + 6) + 0 ≤ _)⟩)
  dsimp only [Pt.U, Pt.locs, Pt.cells, Pt.slots] at X7 l7 y7 z7 st7 hQ7
  subst l7 y7 z7
  obtain ⟨rfl, Nq7, eh7⟩ := hQ7
  have N7 := Fr.app N1 Nq7
  refine own_via (G := T7.setTop (mkF m 161 #[z0, z1, z2, z3, .val (.int (5 : Int32)), .val (.ref op), .val (.ref bz_1), .val (.int (1 : Int32))] [(.int (Int32.ofNat (own_bd5 (own_e [v0, v1, v2, v3, v4]) 1))), (.int (Int32.ofNat ((own_out (own_e [v0, v1, v2, v3, v4]) (5 - 1) 1 0 (List.replicate 5 0)).getD 0 0)))])) (fun tt kk => st7 tt kk) ?_
  have hc8_161 : (Int32.ofNat ((own_out (own_e [v0, v1, v2, v3, v4]) (5 - 1) 1 0 (List.replicate 5 0)).getD 0 0)) = (Int32.ofNat (own_bd5 (own_e [v0, v1, v2, v3, v4]) 1)) := congrArg Int32.ofNat (own_law [v0, v1, v2, v3, v4] (Nat.le_of_ble_eq_true rfl) 0 (Nat.le_of_ble_eq_true rfl))
  refine own_via (G := T7.setTop (mkF m 164 #[z0, z1, z2, z3, .val (.int (5 : Int32)), .val (.ref op), .val (.ref bz_1), .val (.int (1 : Int32))] [])) (fun tt kk => XS.icmpNo X7.here hx rfl (hb hby at_161) rfl (XT.ii_ne_f hc8_161) kk) ?_
  refine own_via (G := T7.setTop (mkF m 165 #[z0, z1, z2, z3, .val (.int (5 : Int32)), .val (.ref op), .val (.ref bz_1), .val (.int (1 : Int32))] [(.int (1 : Int32))])) (fun tt kk => XS.iconst X7.here hx rfl (hb hby at_164) kk) ?_
  refine own_via (G := T7.setTop (mkF m 169 #[z0, z1, z2, z3, .val (.int (5 : Int32)), .val (.ref op), .val (.ref bz_1), .val (.int (1 : Int32))] [(.int (1 : Int32))])) (fun tt kk => XS.goto X7.here hx rfl (pc0 := 165) (pc' := 169) rfl (hb hby at_165) (by decide) (by decide) kk) ?_
  refine own_via (G := T7.setTop (mkF m 171 #[z0, z1, z2, z3, .val (.int (5 : Int32)), .val (.ref op), .val (.ref bz_1), .val (.int (1 : Int32))] [])) (fun tt kk => XS.istore X7.here hx rfl (hb hby at_169) rfl (l' := #[z0, z1, z2, z3, .val (.int (5 : Int32)), .val (.ref op), .val (.ref bz_1), .val (.int (1 : Int32))]) rfl kk) ?_
  refine own_via (G := T7.setTop (mkF m 173 #[z0, z1, z2, z3, .val (.int (5 : Int32)), .val (.ref op), .val (.ref bz_1), .val (.int (1 : Int32))] [(.int (5 : Int32))])) (fun tt kk => XS.iload X7.here hx rfl (hb hby at_171) rfl kk) ?_
  refine own_via (G := T7.setTop (mkF m 174 #[z0, z1, z2, z3, .val (.int (5 : Int32)), .val (.ref op), .val (.ref bz_1), .val (.int (1 : Int32))] [(.int (1 : Int32)), (.int (5 : Int32))])) (fun tt kk => XS.iconst X7.here hx rfl (hb hby at_173) kk) ?_
  have hc9_174 : (1 : Int32) < (5 : Int32) := (by decide)
  refine own_via (G := T7.setTop (mkF m 177 #[z0, z1, z2, z3, .val (.int (5 : Int32)), .val (.ref op), .val (.ref bz_1), .val (.int (1 : Int32))] [])) (fun tt kk => XS.icmpNo X7.here hx rfl (hb hby at_174) rfl (XT.ii_le_f hc9_174) kk) ?_
  refine own_via (G := T7.setTop (mkF m 179 #[z0, z1, z2, z3, .val (.int (5 : Int32)), .val (.ref op), .val (.ref bz_1), .val (.int (1 : Int32))] [(.int (1 : Int32))])) (fun tt kk => XS.iload X7.here hx rfl (hb hby at_177) rfl kk) ?_
  have hc10_179 : ¬ ((1 : Int32) = (0 : Int32)) := (by decide)
  refine own_via (G := T7.setTop (mkF m 182 #[z0, z1, z2, z3, .val (.int (5 : Int32)), .val (.ref op), .val (.ref bz_1), .val (.int (1 : Int32))] [])) (fun tt kk => XS.ifNo X7.here hx rfl (hb hby at_179) rfl (XT.i0_eq_f hc10_179) kk) ?_
  refine own_via (G := T7.setTop (mkF m 184 #[z0, z1, z2, z3, .val (.int (5 : Int32)), .val (.ref op), .val (.ref bz_1), .val (.int (1 : Int32))] [(.ref bz_1)])) (fun tt kk => XS.aload X7.here hx rfl (hb hby at_182) rfl rfl kk) ?_
  refine own_via (G := T7.setTop (mkF m 185 #[z0, z1, z2, z3, .val (.int (5 : Int32)), .val (.ref op), .val (.ref bz_1), .val (.int (1 : Int32))] [(.int (1 : Int32)), (.ref bz_1)])) (fun tt kk => XS.iconst X7.here hx rfl (hb hby at_184) kk) ?_
  obtain ⟨cl11, Ar11, qc11, S11, NN11, H11, G11⟩ := id P0_1
  have in11 := inb_of (j := (1 : Int32)) S11 (own_inb (i := 1) (by decide) (by decide))
  have hat11 : cl11.slots[((1 : Int32)).toNatClampNeg]? = some (.int (Int32.ofNat ((own_out (own_e [v0, v1, v2, v3, v4]) (5 - 1) 1 0 (List.replicate 5 0)).getD 1 0))) := H11.at in11 (own_fget (own_out (own_e [v0, v1, v2, v3, v4]) (5 - 1) 1 0 (List.replicate 5 0)) (i := 1) (by decide))
  refine own_via (G := T7.setTop (mkF m 186 #[z0, z1, z2, z3, .val (.int (5 : Int32)), .val (.ref op), .val (.ref bz_1), .val (.int (1 : Int32))] [(.int (Int32.ofNat ((own_out (own_e [v0, v1, v2, v3, v4]) (5 - 1) 1 0 (List.replicate 5 0)).getD 1 0)))])) (fun tt kk => X7.iaload hx (j := (1 : Int32)) (v := (.int (Int32.ofNat ((own_out (own_e [v0, v1, v2, v3, v4]) (5 - 1) 1 0 (List.replicate 5 0)).getD 1 0)))) (own_eqh eh7 Ar11.1) (State.isArrayOf_alike hZ.alike Ar11.2.1) Ar11.2.2 in11 hat11 (g := (mkF m 185 #[z0, z1, z2, z3, .val (.int (5 : Int32)), .val (.ref op), .val (.ref bz_1), .val (.int (1 : Int32))] [(.int (1 : Int32)), (.ref bz_1)])) rfl rfl (hb hby at_185) tt kk) ?_
  refine own_via (G := T7.setTop (mkF m 188 #[z0, z1, z2, z3, .val (.int (5 : Int32)), .val (.ref op), .val (.ref bz_1), .val (.int (1 : Int32))] [(.ref op), (.int (Int32.ofNat ((own_out (own_e [v0, v1, v2, v3, v4]) (5 - 1) 1 0 (List.replicate 5 0)).getD 1 0)))])) (fun tt kk => XS.aload X7.here hx rfl (hb hby at_186) rfl rfl kk) ?_
  refine own_via (G := T7.setTop (mkF m 189 #[z0, z1, z2, z3, .val (.int (5 : Int32)), .val (.ref op), .val (.ref bz_1), .val (.int (1 : Int32))] [(.int (2 : Int32)), (.ref op), (.int (Int32.ofNat ((own_out (own_e [v0, v1, v2, v3, v4]) (5 - 1) 1 0 (List.replicate 5 0)).getD 1 0)))])) (fun tt kk => XS.iconst X7.here hx rfl (hb hby at_188) kk) ?_
  obtain ⟨_, _, ⟨T12, L12, k12, n12⟩, -, X12, ⟨Lc12, hQ12, l12, y12, z12⟩, st12⟩ := Jvm.LawKit.callS X7 hx (y := (⟨"com/example/clew/clew/KnuthMorrisPrattFailureFunctionPinLaw", "border", "([BI)I"⟩ : MethodName)) hown (mvT hZ (hw _ (List.mem_of_getElem? (i := 11) rfl))) (mvT hZ (hw _ (List.mem_of_getElem? (i := 12) rfl))) (mvT hZ (hw _ (List.mem_of_getElem? (i := 4) rfl))) (mvT hZ (hw _ (List.mem_of_getElem? (i := 13) rfl))) (by decide) (backOf (W := 1) (rm3 l Z a0 hw [] op kp 5 [v0, v1, v2, v3, v4] 2 T1.heap n0 Z1 VP0'1 rfl (by decide) (by decide)) hZ (hw _ (List.mem_of_getElem? (i := 13) rfl)) (hw _ (List.mem_of_getElem? (i := 4) rfl)) (by decide) (by decide)) (g := (mkF m 189 #[z0, z1, z2, z3, .val (.int (5 : Int32)), .val (.ref op), .val (.ref bz_1), .val (.int (1 : Int32))] [(.int (2 : Int32)), (.ref op), (.int (Int32.ofNat ((own_out (own_e [v0, v1, v2, v3, v4]) (5 - 1) 1 0 (List.replicate 5 0)).getD 1 0)))])) rfl (by rw [hml]; rfl) (argsL := [(.ref op), (.int (2 : Int32))]) (rest := [(.int (Int32.ofNat ((own_out (own_e [v0, v1, v2, v3, v4]) (5 - 1) 1 0 (List.replicate 5 0)).getD 1 0)))]) (lenOf pd_2 rfl) rfl (by show 2 * 0 + _ ≤ _; exact Nat.le_of_eq rfl) (hb hby at_189) (fun _ _ => ⟨rfl, eh7, (by decide : ((1 + 1) + 0) + 0 ≤ _), (by decide : ((5 + 6) + 0) + 0 ≤ _)⟩)
  dsimp only [Pt.U, Pt.locs, Pt.cells, Pt.slots] at X12 l12 y12 z12 st12 hQ12
  subst l12 y12 z12
  obtain ⟨rfl, Nq12, eh12⟩ := hQ12
  have N12 := Fr.app N7 Nq12
  refine own_via (G := T12.setTop (mkF m 192 #[z0, z1, z2, z3, .val (.int (5 : Int32)), .val (.ref op), .val (.ref bz_1), .val (.int (1 : Int32))] [(.int (Int32.ofNat (own_bd5 (own_e [v0, v1, v2, v3, v4]) 2))), (.int (Int32.ofNat ((own_out (own_e [v0, v1, v2, v3, v4]) (5 - 1) 1 0 (List.replicate 5 0)).getD 1 0)))])) (fun tt kk => st12 tt kk) ?_
  have hc13_192 : (Int32.ofNat ((own_out (own_e [v0, v1, v2, v3, v4]) (5 - 1) 1 0 (List.replicate 5 0)).getD 1 0)) = (Int32.ofNat (own_bd5 (own_e [v0, v1, v2, v3, v4]) 2)) := congrArg Int32.ofNat (own_law [v0, v1, v2, v3, v4] (Nat.le_of_ble_eq_true rfl) 1 (Nat.le_of_ble_eq_true rfl))
  refine own_via (G := T12.setTop (mkF m 195 #[z0, z1, z2, z3, .val (.int (5 : Int32)), .val (.ref op), .val (.ref bz_1), .val (.int (1 : Int32))] [])) (fun tt kk => XS.icmpNo X12.here hx rfl (hb hby at_192) rfl (XT.ii_ne_f hc13_192) kk) ?_
  refine own_via (G := T12.setTop (mkF m 196 #[z0, z1, z2, z3, .val (.int (5 : Int32)), .val (.ref op), .val (.ref bz_1), .val (.int (1 : Int32))] [(.int (1 : Int32))])) (fun tt kk => XS.iconst X12.here hx rfl (hb hby at_195) kk) ?_
  refine own_via (G := T12.setTop (mkF m 200 #[z0, z1, z2, z3, .val (.int (5 : Int32)), .val (.ref op), .val (.ref bz_1), .val (.int (1 : Int32))] [(.int (1 : Int32))])) (fun tt kk => XS.goto X12.here hx rfl (pc0 := 196) (pc' := 200) rfl (hb hby at_196) (by decide) (by decide) kk) ?_
  refine own_via (G := T12.setTop (mkF m 202 #[z0, z1, z2, z3, .val (.int (5 : Int32)), .val (.ref op), .val (.ref bz_1), .val (.int (1 : Int32))] [])) (fun tt kk => XS.istore X12.here hx rfl (hb hby at_200) rfl (l' := #[z0, z1, z2, z3, .val (.int (5 : Int32)), .val (.ref op), .val (.ref bz_1), .val (.int (1 : Int32))]) rfl kk) ?_
  refine own_via (G := T12.setTop (mkF m 204 #[z0, z1, z2, z3, .val (.int (5 : Int32)), .val (.ref op), .val (.ref bz_1), .val (.int (1 : Int32))] [(.int (5 : Int32))])) (fun tt kk => XS.iload X12.here hx rfl (hb hby at_202) rfl kk) ?_
  refine own_via (G := T12.setTop (mkF m 205 #[z0, z1, z2, z3, .val (.int (5 : Int32)), .val (.ref op), .val (.ref bz_1), .val (.int (1 : Int32))] [(.int (2 : Int32)), (.int (5 : Int32))])) (fun tt kk => XS.iconst X12.here hx rfl (hb hby at_204) kk) ?_
  have hc14_205 : (2 : Int32) < (5 : Int32) := (by decide)
  refine own_via (G := T12.setTop (mkF m 208 #[z0, z1, z2, z3, .val (.int (5 : Int32)), .val (.ref op), .val (.ref bz_1), .val (.int (1 : Int32))] [])) (fun tt kk => XS.icmpNo X12.here hx rfl (hb hby at_205) rfl (XT.ii_le_f hc14_205) kk) ?_
  refine own_via (G := T12.setTop (mkF m 210 #[z0, z1, z2, z3, .val (.int (5 : Int32)), .val (.ref op), .val (.ref bz_1), .val (.int (1 : Int32))] [(.int (1 : Int32))])) (fun tt kk => XS.iload X12.here hx rfl (hb hby at_208) rfl kk) ?_
  have hc15_210 : ¬ ((1 : Int32) = (0 : Int32)) := (by decide)
  refine own_via (G := T12.setTop (mkF m 213 #[z0, z1, z2, z3, .val (.int (5 : Int32)), .val (.ref op), .val (.ref bz_1), .val (.int (1 : Int32))] [])) (fun tt kk => XS.ifNo X12.here hx rfl (hb hby at_210) rfl (XT.i0_eq_f hc15_210) kk) ?_
  refine own_via (G := T12.setTop (mkF m 215 #[z0, z1, z2, z3, .val (.int (5 : Int32)), .val (.ref op), .val (.ref bz_1), .val (.int (1 : Int32))] [(.ref bz_1)])) (fun tt kk => XS.aload X12.here hx rfl (hb hby at_213) rfl rfl kk) ?_
  refine own_via (G := T12.setTop (mkF m 216 #[z0, z1, z2, z3, .val (.int (5 : Int32)), .val (.ref op), .val (.ref bz_1), .val (.int (1 : Int32))] [(.int (2 : Int32)), (.ref bz_1)])) (fun tt kk => XS.iconst X12.here hx rfl (hb hby at_215) kk) ?_
  obtain ⟨cl16, Ar16, qc16, S16, NN16, H16, G16⟩ := id P0_1
  have in16 := inb_of (j := (2 : Int32)) S16 (own_inb (i := 2) (by decide) (by decide))
  have hat16 : cl16.slots[((2 : Int32)).toNatClampNeg]? = some (.int (Int32.ofNat ((own_out (own_e [v0, v1, v2, v3, v4]) (5 - 1) 1 0 (List.replicate 5 0)).getD 2 0))) := H16.at in16 (own_fget (own_out (own_e [v0, v1, v2, v3, v4]) (5 - 1) 1 0 (List.replicate 5 0)) (i := 2) (by decide))
  refine own_via (G := T12.setTop (mkF m 217 #[z0, z1, z2, z3, .val (.int (5 : Int32)), .val (.ref op), .val (.ref bz_1), .val (.int (1 : Int32))] [(.int (Int32.ofNat ((own_out (own_e [v0, v1, v2, v3, v4]) (5 - 1) 1 0 (List.replicate 5 0)).getD 2 0)))])) (fun tt kk => X12.iaload hx (j := (2 : Int32)) (v := (.int (Int32.ofNat ((own_out (own_e [v0, v1, v2, v3, v4]) (5 - 1) 1 0 (List.replicate 5 0)).getD 2 0)))) (own_eqh eh12 Ar16.1) (State.isArrayOf_alike hZ.alike Ar16.2.1) Ar16.2.2 in16 hat16 (g := (mkF m 216 #[z0, z1, z2, z3, .val (.int (5 : Int32)), .val (.ref op), .val (.ref bz_1), .val (.int (1 : Int32))] [(.int (2 : Int32)), (.ref bz_1)])) rfl rfl (hb hby at_216) tt kk) ?_
  refine own_via (G := T12.setTop (mkF m 219 #[z0, z1, z2, z3, .val (.int (5 : Int32)), .val (.ref op), .val (.ref bz_1), .val (.int (1 : Int32))] [(.ref op), (.int (Int32.ofNat ((own_out (own_e [v0, v1, v2, v3, v4]) (5 - 1) 1 0 (List.replicate 5 0)).getD 2 0)))])) (fun tt kk => XS.aload X12.here hx rfl (hb hby at_217) rfl rfl kk) ?_
  refine own_via (G := T12.setTop (mkF m 220 #[z0, z1, z2, z3, .val (.int (5 : Int32)), .val (.ref op), .val (.ref bz_1), .val (.int (1 : Int32))] [(.int (3 : Int32)), (.ref op), (.int (Int32.ofNat ((own_out (own_e [v0, v1, v2, v3, v4]) (5 - 1) 1 0 (List.replicate 5 0)).getD 2 0)))])) (fun tt kk => XS.iconst X12.here hx rfl (hb hby at_219) kk) ?_
  obtain ⟨_, _, ⟨T17, L17, k17, n17⟩, -, X17, ⟨Lc17, hQ17, l17, y17, z17⟩, st17⟩ := Jvm.LawKit.callS X12 hx (y := (⟨"com/example/clew/clew/KnuthMorrisPrattFailureFunctionPinLaw", "border", "([BI)I"⟩ : MethodName)) hown (mvT hZ (hw _ (List.mem_of_getElem? (i := 11) rfl))) (mvT hZ (hw _ (List.mem_of_getElem? (i := 12) rfl))) (mvT hZ (hw _ (List.mem_of_getElem? (i := 4) rfl))) (mvT hZ (hw _ (List.mem_of_getElem? (i := 13) rfl))) (by decide) (backOf (W := 1) (rm3 l Z a0 hw [] op kp 5 [v0, v1, v2, v3, v4] 3 T1.heap n0 Z1 VP0'1 rfl (by decide) (by decide)) hZ (hw _ (List.mem_of_getElem? (i := 13) rfl)) (hw _ (List.mem_of_getElem? (i := 4) rfl)) (by decide) (by decide)) (g := (mkF m 220 #[z0, z1, z2, z3, .val (.int (5 : Int32)), .val (.ref op), .val (.ref bz_1), .val (.int (1 : Int32))] [(.int (3 : Int32)), (.ref op), (.int (Int32.ofNat ((own_out (own_e [v0, v1, v2, v3, v4]) (5 - 1) 1 0 (List.replicate 5 0)).getD 2 0)))])) rfl (by rw [hml]; rfl) (argsL := [(.ref op), (.int (3 : Int32))]) (rest := [(.int (Int32.ofNat ((own_out (own_e [v0, v1, v2, v3, v4]) (5 - 1) 1 0 (List.replicate 5 0)).getD 2 0)))]) (lenOf pd_2 rfl) rfl (by show 2 * 0 + _ ≤ _; exact Nat.le_of_eq rfl) (hb hby at_220) (fun _ _ => ⟨rfl, eh12, (by decide : (((1 + 1) + 0) + 0) + 0 ≤ _), (by decide : (((5 + 6) + 0) + 0) + 0 ≤ _)⟩)
  dsimp only [Pt.U, Pt.locs, Pt.cells, Pt.slots] at X17 l17 y17 z17 st17 hQ17
  subst l17 y17 z17
  obtain ⟨rfl, Nq17, eh17⟩ := hQ17
  have N17 := Fr.app N12 Nq17
  refine own_via (G := T17.setTop (mkF m 223 #[z0, z1, z2, z3, .val (.int (5 : Int32)), .val (.ref op), .val (.ref bz_1), .val (.int (1 : Int32))] [(.int (Int32.ofNat (own_bd5 (own_e [v0, v1, v2, v3, v4]) 3))), (.int (Int32.ofNat ((own_out (own_e [v0, v1, v2, v3, v4]) (5 - 1) 1 0 (List.replicate 5 0)).getD 2 0)))])) (fun tt kk => st17 tt kk) ?_
  have hc18_223 : (Int32.ofNat ((own_out (own_e [v0, v1, v2, v3, v4]) (5 - 1) 1 0 (List.replicate 5 0)).getD 2 0)) = (Int32.ofNat (own_bd5 (own_e [v0, v1, v2, v3, v4]) 3)) := congrArg Int32.ofNat (own_law [v0, v1, v2, v3, v4] (Nat.le_of_ble_eq_true rfl) 2 (Nat.le_of_ble_eq_true rfl))
  refine own_via (G := T17.setTop (mkF m 226 #[z0, z1, z2, z3, .val (.int (5 : Int32)), .val (.ref op), .val (.ref bz_1), .val (.int (1 : Int32))] [])) (fun tt kk => XS.icmpNo X17.here hx rfl (hb hby at_223) rfl (XT.ii_ne_f hc18_223) kk) ?_
  refine own_via (G := T17.setTop (mkF m 227 #[z0, z1, z2, z3, .val (.int (5 : Int32)), .val (.ref op), .val (.ref bz_1), .val (.int (1 : Int32))] [(.int (1 : Int32))])) (fun tt kk => XS.iconst X17.here hx rfl (hb hby at_226) kk) ?_
  refine own_via (G := T17.setTop (mkF m 231 #[z0, z1, z2, z3, .val (.int (5 : Int32)), .val (.ref op), .val (.ref bz_1), .val (.int (1 : Int32))] [(.int (1 : Int32))])) (fun tt kk => XS.goto X17.here hx rfl (pc0 := 227) (pc' := 231) rfl (hb hby at_227) (by decide) (by decide) kk) ?_
  refine own_via (G := T17.setTop (mkF m 233 #[z0, z1, z2, z3, .val (.int (5 : Int32)), .val (.ref op), .val (.ref bz_1), .val (.int (1 : Int32))] [])) (fun tt kk => XS.istore X17.here hx rfl (hb hby at_231) rfl (l' := #[z0, z1, z2, z3, .val (.int (5 : Int32)), .val (.ref op), .val (.ref bz_1), .val (.int (1 : Int32))]) rfl kk) ?_
  refine own_via (G := T17.setTop (mkF m 235 #[z0, z1, z2, z3, .val (.int (5 : Int32)), .val (.ref op), .val (.ref bz_1), .val (.int (1 : Int32))] [(.int (5 : Int32))])) (fun tt kk => XS.iload X17.here hx rfl (hb hby at_233) rfl kk) ?_
  refine own_via (G := T17.setTop (mkF m 236 #[z0, z1, z2, z3, .val (.int (5 : Int32)), .val (.ref op), .val (.ref bz_1), .val (.int (1 : Int32))] [(.int (3 : Int32)), (.int (5 : Int32))])) (fun tt kk => XS.iconst X17.here hx rfl (hb hby at_235) kk) ?_
  have hc19_236 : (3 : Int32) < (5 : Int32) := (by decide)
  refine own_via (G := T17.setTop (mkF m 239 #[z0, z1, z2, z3, .val (.int (5 : Int32)), .val (.ref op), .val (.ref bz_1), .val (.int (1 : Int32))] [])) (fun tt kk => XS.icmpNo X17.here hx rfl (hb hby at_236) rfl (XT.ii_le_f hc19_236) kk) ?_
  refine own_via (G := T17.setTop (mkF m 241 #[z0, z1, z2, z3, .val (.int (5 : Int32)), .val (.ref op), .val (.ref bz_1), .val (.int (1 : Int32))] [(.int (1 : Int32))])) (fun tt kk => XS.iload X17.here hx rfl (hb hby at_239) rfl kk) ?_
  have hc20_241 : ¬ ((1 : Int32) = (0 : Int32)) := (by decide)
  refine own_via (G := T17.setTop (mkF m 244 #[z0, z1, z2, z3, .val (.int (5 : Int32)), .val (.ref op), .val (.ref bz_1), .val (.int (1 : Int32))] [])) (fun tt kk => XS.ifNo X17.here hx rfl (hb hby at_241) rfl (XT.i0_eq_f hc20_241) kk) ?_
  refine own_via (G := T17.setTop (mkF m 246 #[z0, z1, z2, z3, .val (.int (5 : Int32)), .val (.ref op), .val (.ref bz_1), .val (.int (1 : Int32))] [(.ref bz_1)])) (fun tt kk => XS.aload X17.here hx rfl (hb hby at_244) rfl rfl kk) ?_
  refine own_via (G := T17.setTop (mkF m 247 #[z0, z1, z2, z3, .val (.int (5 : Int32)), .val (.ref op), .val (.ref bz_1), .val (.int (1 : Int32))] [(.int (3 : Int32)), (.ref bz_1)])) (fun tt kk => XS.iconst X17.here hx rfl (hb hby at_246) kk) ?_
  obtain ⟨cl21, Ar21, qc21, S21, NN21, H21, G21⟩ := id P0_1
  have in21 := inb_of (j := (3 : Int32)) S21 (own_inb (i := 3) (by decide) (by decide))
  have hat21 : cl21.slots[((3 : Int32)).toNatClampNeg]? = some (.int (Int32.ofNat ((own_out (own_e [v0, v1, v2, v3, v4]) (5 - 1) 1 0 (List.replicate 5 0)).getD 3 0))) := H21.at in21 (own_fget (own_out (own_e [v0, v1, v2, v3, v4]) (5 - 1) 1 0 (List.replicate 5 0)) (i := 3) (by decide))
  refine own_via (G := T17.setTop (mkF m 248 #[z0, z1, z2, z3, .val (.int (5 : Int32)), .val (.ref op), .val (.ref bz_1), .val (.int (1 : Int32))] [(.int (Int32.ofNat ((own_out (own_e [v0, v1, v2, v3, v4]) (5 - 1) 1 0 (List.replicate 5 0)).getD 3 0)))])) (fun tt kk => X17.iaload hx (j := (3 : Int32)) (v := (.int (Int32.ofNat ((own_out (own_e [v0, v1, v2, v3, v4]) (5 - 1) 1 0 (List.replicate 5 0)).getD 3 0)))) (own_eqh eh17 Ar21.1) (State.isArrayOf_alike hZ.alike Ar21.2.1) Ar21.2.2 in21 hat21 (g := (mkF m 247 #[z0, z1, z2, z3, .val (.int (5 : Int32)), .val (.ref op), .val (.ref bz_1), .val (.int (1 : Int32))] [(.int (3 : Int32)), (.ref bz_1)])) rfl rfl (hb hby at_247) tt kk) ?_
  refine own_via (G := T17.setTop (mkF m 250 #[z0, z1, z2, z3, .val (.int (5 : Int32)), .val (.ref op), .val (.ref bz_1), .val (.int (1 : Int32))] [(.ref op), (.int (Int32.ofNat ((own_out (own_e [v0, v1, v2, v3, v4]) (5 - 1) 1 0 (List.replicate 5 0)).getD 3 0)))])) (fun tt kk => XS.aload X17.here hx rfl (hb hby at_248) rfl rfl kk) ?_
  refine own_via (G := T17.setTop (mkF m 251 #[z0, z1, z2, z3, .val (.int (5 : Int32)), .val (.ref op), .val (.ref bz_1), .val (.int (1 : Int32))] [(.int (4 : Int32)), (.ref op), (.int (Int32.ofNat ((own_out (own_e [v0, v1, v2, v3, v4]) (5 - 1) 1 0 (List.replicate 5 0)).getD 3 0)))])) (fun tt kk => XS.iconst X17.here hx rfl (hb hby at_250) kk) ?_
  obtain ⟨_, _, ⟨T22, L22, k22, n22⟩, -, X22, ⟨Lc22, hQ22, l22, y22, z22⟩, st22⟩ := Jvm.LawKit.callS X17 hx (y := (⟨"com/example/clew/clew/KnuthMorrisPrattFailureFunctionPinLaw", "border", "([BI)I"⟩ : MethodName)) hown (mvT hZ (hw _ (List.mem_of_getElem? (i := 11) rfl))) (mvT hZ (hw _ (List.mem_of_getElem? (i := 12) rfl))) (mvT hZ (hw _ (List.mem_of_getElem? (i := 4) rfl))) (mvT hZ (hw _ (List.mem_of_getElem? (i := 13) rfl))) (by decide) (backOf (W := 1) (rm3 l Z a0 hw [] op kp 5 [v0, v1, v2, v3, v4] 4 T1.heap n0 Z1 VP0'1 rfl (by decide) (by decide)) hZ (hw _ (List.mem_of_getElem? (i := 13) rfl)) (hw _ (List.mem_of_getElem? (i := 4) rfl)) (by decide) (by decide)) (g := (mkF m 251 #[z0, z1, z2, z3, .val (.int (5 : Int32)), .val (.ref op), .val (.ref bz_1), .val (.int (1 : Int32))] [(.int (4 : Int32)), (.ref op), (.int (Int32.ofNat ((own_out (own_e [v0, v1, v2, v3, v4]) (5 - 1) 1 0 (List.replicate 5 0)).getD 3 0)))])) rfl (by rw [hml]; rfl) (argsL := [(.ref op), (.int (4 : Int32))]) (rest := [(.int (Int32.ofNat ((own_out (own_e [v0, v1, v2, v3, v4]) (5 - 1) 1 0 (List.replicate 5 0)).getD 3 0)))]) (lenOf pd_2 rfl) rfl (by show 2 * 0 + _ ≤ _; exact Nat.le_of_eq rfl) (hb hby at_251) (fun _ _ => ⟨rfl, eh17, (by decide : ((((1 + 1) + 0) + 0) + 0) + 0 ≤ _), (by decide : ((((5 + 6) + 0) + 0) + 0) + 0 ≤ _)⟩)
  dsimp only [Pt.U, Pt.locs, Pt.cells, Pt.slots] at X22 l22 y22 z22 st22 hQ22
  subst l22 y22 z22
  obtain ⟨rfl, Nq22, eh22⟩ := hQ22
  have N22 := Fr.app N17 Nq22
  refine own_via (G := T22.setTop (mkF m 254 #[z0, z1, z2, z3, .val (.int (5 : Int32)), .val (.ref op), .val (.ref bz_1), .val (.int (1 : Int32))] [(.int (Int32.ofNat (own_bd5 (own_e [v0, v1, v2, v3, v4]) 4))), (.int (Int32.ofNat ((own_out (own_e [v0, v1, v2, v3, v4]) (5 - 1) 1 0 (List.replicate 5 0)).getD 3 0)))])) (fun tt kk => st22 tt kk) ?_
  have hc23_254 : (Int32.ofNat ((own_out (own_e [v0, v1, v2, v3, v4]) (5 - 1) 1 0 (List.replicate 5 0)).getD 3 0)) = (Int32.ofNat (own_bd5 (own_e [v0, v1, v2, v3, v4]) 4)) := congrArg Int32.ofNat (own_law [v0, v1, v2, v3, v4] (Nat.le_of_ble_eq_true rfl) 3 (Nat.le_of_ble_eq_true rfl))
  refine own_via (G := T22.setTop (mkF m 257 #[z0, z1, z2, z3, .val (.int (5 : Int32)), .val (.ref op), .val (.ref bz_1), .val (.int (1 : Int32))] [])) (fun tt kk => XS.icmpNo X22.here hx rfl (hb hby at_254) rfl (XT.ii_ne_f hc23_254) kk) ?_
  refine own_via (G := T22.setTop (mkF m 258 #[z0, z1, z2, z3, .val (.int (5 : Int32)), .val (.ref op), .val (.ref bz_1), .val (.int (1 : Int32))] [(.int (1 : Int32))])) (fun tt kk => XS.iconst X22.here hx rfl (hb hby at_257) kk) ?_
  refine own_via (G := T22.setTop (mkF m 262 #[z0, z1, z2, z3, .val (.int (5 : Int32)), .val (.ref op), .val (.ref bz_1), .val (.int (1 : Int32))] [(.int (1 : Int32))])) (fun tt kk => XS.goto X22.here hx rfl (pc0 := 258) (pc' := 262) rfl (hb hby at_258) (by decide) (by decide) kk) ?_
  refine own_via (G := T22.setTop (mkF m 264 #[z0, z1, z2, z3, .val (.int (5 : Int32)), .val (.ref op), .val (.ref bz_1), .val (.int (1 : Int32))] [])) (fun tt kk => XS.istore X22.here hx rfl (hb hby at_262) rfl (l' := #[z0, z1, z2, z3, .val (.int (5 : Int32)), .val (.ref op), .val (.ref bz_1), .val (.int (1 : Int32))]) rfl kk) ?_
  refine own_via (G := T22.setTop (mkF m 266 #[z0, z1, z2, z3, .val (.int (5 : Int32)), .val (.ref op), .val (.ref bz_1), .val (.int (1 : Int32))] [(.int (5 : Int32))])) (fun tt kk => XS.iload X22.here hx rfl (hb hby at_264) rfl kk) ?_
  refine own_via (G := T22.setTop (mkF m 267 #[z0, z1, z2, z3, .val (.int (5 : Int32)), .val (.ref op), .val (.ref bz_1), .val (.int (1 : Int32))] [(.int (4 : Int32)), (.int (5 : Int32))])) (fun tt kk => XS.iconst X22.here hx rfl (hb hby at_266) kk) ?_
  have hc24_267 : (4 : Int32) < (5 : Int32) := (by decide)
  refine own_via (G := T22.setTop (mkF m 270 #[z0, z1, z2, z3, .val (.int (5 : Int32)), .val (.ref op), .val (.ref bz_1), .val (.int (1 : Int32))] [])) (fun tt kk => XS.icmpNo X22.here hx rfl (hb hby at_267) rfl (XT.ii_le_f hc24_267) kk) ?_
  refine own_via (G := T22.setTop (mkF m 272 #[z0, z1, z2, z3, .val (.int (5 : Int32)), .val (.ref op), .val (.ref bz_1), .val (.int (1 : Int32))] [(.int (1 : Int32))])) (fun tt kk => XS.iload X22.here hx rfl (hb hby at_270) rfl kk) ?_
  have hc25_272 : ¬ ((1 : Int32) = (0 : Int32)) := (by decide)
  refine own_via (G := T22.setTop (mkF m 275 #[z0, z1, z2, z3, .val (.int (5 : Int32)), .val (.ref op), .val (.ref bz_1), .val (.int (1 : Int32))] [])) (fun tt kk => XS.ifNo X22.here hx rfl (hb hby at_272) rfl (XT.i0_eq_f hc25_272) kk) ?_
  refine own_via (G := T22.setTop (mkF m 277 #[z0, z1, z2, z3, .val (.int (5 : Int32)), .val (.ref op), .val (.ref bz_1), .val (.int (1 : Int32))] [(.ref bz_1)])) (fun tt kk => XS.aload X22.here hx rfl (hb hby at_275) rfl rfl kk) ?_
  refine own_via (G := T22.setTop (mkF m 278 #[z0, z1, z2, z3, .val (.int (5 : Int32)), .val (.ref op), .val (.ref bz_1), .val (.int (1 : Int32))] [(.int (4 : Int32)), (.ref bz_1)])) (fun tt kk => XS.iconst X22.here hx rfl (hb hby at_277) kk) ?_
  obtain ⟨cl26, Ar26, qc26, S26, NN26, H26, G26⟩ := id P0_1
  have in26 := inb_of (j := (4 : Int32)) S26 (own_inb (i := 4) (by decide) (by decide))
  have hat26 : cl26.slots[((4 : Int32)).toNatClampNeg]? = some (.int (Int32.ofNat ((own_out (own_e [v0, v1, v2, v3, v4]) (5 - 1) 1 0 (List.replicate 5 0)).getD 4 0))) := H26.at in26 (own_fget (own_out (own_e [v0, v1, v2, v3, v4]) (5 - 1) 1 0 (List.replicate 5 0)) (i := 4) (by decide))
  refine own_via (G := T22.setTop (mkF m 279 #[z0, z1, z2, z3, .val (.int (5 : Int32)), .val (.ref op), .val (.ref bz_1), .val (.int (1 : Int32))] [(.int (Int32.ofNat ((own_out (own_e [v0, v1, v2, v3, v4]) (5 - 1) 1 0 (List.replicate 5 0)).getD 4 0)))])) (fun tt kk => X22.iaload hx (j := (4 : Int32)) (v := (.int (Int32.ofNat ((own_out (own_e [v0, v1, v2, v3, v4]) (5 - 1) 1 0 (List.replicate 5 0)).getD 4 0)))) (own_eqh eh22 Ar26.1) (State.isArrayOf_alike hZ.alike Ar26.2.1) Ar26.2.2 in26 hat26 (g := (mkF m 278 #[z0, z1, z2, z3, .val (.int (5 : Int32)), .val (.ref op), .val (.ref bz_1), .val (.int (1 : Int32))] [(.int (4 : Int32)), (.ref bz_1)])) rfl rfl (hb hby at_278) tt kk) ?_
  refine own_via (G := T22.setTop (mkF m 281 #[z0, z1, z2, z3, .val (.int (5 : Int32)), .val (.ref op), .val (.ref bz_1), .val (.int (1 : Int32))] [(.ref op), (.int (Int32.ofNat ((own_out (own_e [v0, v1, v2, v3, v4]) (5 - 1) 1 0 (List.replicate 5 0)).getD 4 0)))])) (fun tt kk => XS.aload X22.here hx rfl (hb hby at_279) rfl rfl kk) ?_
  refine own_via (G := T22.setTop (mkF m 282 #[z0, z1, z2, z3, .val (.int (5 : Int32)), .val (.ref op), .val (.ref bz_1), .val (.int (1 : Int32))] [(.int (5 : Int32)), (.ref op), (.int (Int32.ofNat ((own_out (own_e [v0, v1, v2, v3, v4]) (5 - 1) 1 0 (List.replicate 5 0)).getD 4 0)))])) (fun tt kk => XS.iconst X22.here hx rfl (hb hby at_281) kk) ?_
  obtain ⟨_, _, ⟨T27, L27, k27, n27⟩, -, X27, ⟨Lc27, hQ27, l27, y27, z27⟩, st27⟩ := Jvm.LawKit.callS X22 hx (y := (⟨"com/example/clew/clew/KnuthMorrisPrattFailureFunctionPinLaw", "border", "([BI)I"⟩ : MethodName)) hown (mvT hZ (hw _ (List.mem_of_getElem? (i := 11) rfl))) (mvT hZ (hw _ (List.mem_of_getElem? (i := 12) rfl))) (mvT hZ (hw _ (List.mem_of_getElem? (i := 4) rfl))) (mvT hZ (hw _ (List.mem_of_getElem? (i := 13) rfl))) (by decide) (backOf (W := 1) (rm3 l Z a0 hw [] op kp 5 [v0, v1, v2, v3, v4] 5 T1.heap n0 Z1 VP0'1 rfl (by decide) (by decide)) hZ (hw _ (List.mem_of_getElem? (i := 13) rfl)) (hw _ (List.mem_of_getElem? (i := 4) rfl)) (by decide) (by decide)) (g := (mkF m 282 #[z0, z1, z2, z3, .val (.int (5 : Int32)), .val (.ref op), .val (.ref bz_1), .val (.int (1 : Int32))] [(.int (5 : Int32)), (.ref op), (.int (Int32.ofNat ((own_out (own_e [v0, v1, v2, v3, v4]) (5 - 1) 1 0 (List.replicate 5 0)).getD 4 0)))])) rfl (by rw [hml]; rfl) (argsL := [(.ref op), (.int (5 : Int32))]) (rest := [(.int (Int32.ofNat ((own_out (own_e [v0, v1, v2, v3, v4]) (5 - 1) 1 0 (List.replicate 5 0)).getD 4 0)))]) (lenOf pd_2 rfl) rfl (by show 2 * 0 + _ ≤ _; exact Nat.le_of_eq rfl) (hb hby at_282) (fun _ _ => ⟨rfl, eh22, (by decide : (((((1 + 1) + 0) + 0) + 0) + 0) + 0 ≤ _), (by decide : (((((5 + 6) + 0) + 0) + 0) + 0) + 0 ≤ _)⟩)
  dsimp only [Pt.U, Pt.locs, Pt.cells, Pt.slots] at X27 l27 y27 z27 st27 hQ27
  subst l27 y27 z27
  obtain ⟨rfl, Nq27, eh27⟩ := hQ27
  have N27 := Fr.app N22 Nq27
  refine own_via (G := T27.setTop (mkF m 285 #[z0, z1, z2, z3, .val (.int (5 : Int32)), .val (.ref op), .val (.ref bz_1), .val (.int (1 : Int32))] [(.int (Int32.ofNat (own_bd5 (own_e [v0, v1, v2, v3, v4]) 5))), (.int (Int32.ofNat ((own_out (own_e [v0, v1, v2, v3, v4]) (5 - 1) 1 0 (List.replicate 5 0)).getD 4 0)))])) (fun tt kk => st27 tt kk) ?_
  have hc28_285 : (Int32.ofNat ((own_out (own_e [v0, v1, v2, v3, v4]) (5 - 1) 1 0 (List.replicate 5 0)).getD 4 0)) = (Int32.ofNat (own_bd5 (own_e [v0, v1, v2, v3, v4]) 5)) := congrArg Int32.ofNat (own_law [v0, v1, v2, v3, v4] (Nat.le_of_ble_eq_true rfl) 4 (Nat.le_of_ble_eq_true rfl))
  refine own_via (G := T27.setTop (mkF m 288 #[z0, z1, z2, z3, .val (.int (5 : Int32)), .val (.ref op), .val (.ref bz_1), .val (.int (1 : Int32))] [])) (fun tt kk => XS.icmpNo X27.here hx rfl (hb hby at_285) rfl (XT.ii_ne_f hc28_285) kk) ?_
  refine own_via (G := T27.setTop (mkF m 289 #[z0, z1, z2, z3, .val (.int (5 : Int32)), .val (.ref op), .val (.ref bz_1), .val (.int (1 : Int32))] [(.int (1 : Int32))])) (fun tt kk => XS.iconst X27.here hx rfl (hb hby at_288) kk) ?_
  refine own_via (G := T27.setTop (mkF m 293 #[z0, z1, z2, z3, .val (.int (5 : Int32)), .val (.ref op), .val (.ref bz_1), .val (.int (1 : Int32))] [(.int (1 : Int32))])) (fun tt kk => XS.goto X27.here hx rfl (pc0 := 289) (pc' := 293) rfl (hb hby at_289) (by decide) (by decide) kk) ?_
  refine own_via (G := T27.setTop (mkF m 295 #[z0, z1, z2, z3, .val (.int (5 : Int32)), .val (.ref op), .val (.ref bz_1), .val (.int (1 : Int32))] [])) (fun tt kk => XS.istore X27.here hx rfl (hb hby at_293) rfl (l' := #[z0, z1, z2, z3, .val (.int (5 : Int32)), .val (.ref op), .val (.ref bz_1), .val (.int (1 : Int32))]) rfl kk) ?_
  refine own_via (G := T27.setTop (mkF m 297 #[z0, z1, z2, z3, .val (.int (5 : Int32)), .val (.ref op), .val (.ref bz_1), .val (.int (1 : Int32))] [(.int (5 : Int32))])) (fun tt kk => XS.iload X27.here hx rfl (hb hby at_295) rfl kk) ?_
  refine own_via (G := T27.setTop (mkF m 298 #[z0, z1, z2, z3, .val (.int (5 : Int32)), .val (.ref op), .val (.ref bz_1), .val (.int (1 : Int32))] [(.int (5 : Int32)), (.int (5 : Int32))])) (fun tt kk => XS.iconst X27.here hx rfl (hb hby at_297) kk) ?_
  have hc29_298 : ¬ ((5 : Int32) < (5 : Int32)) := (by decide)
  refine own_via (G := T27.setTop (mkF m 327 #[z0, z1, z2, z3, .val (.int (5 : Int32)), .val (.ref op), .val (.ref bz_1), .val (.int (1 : Int32))] [])) (fun tt kk => XS.icmpYes X27.here hx rfl (pc0 := 298) (pc' := 327) rfl (hb hby at_298) rfl (XT.ii_le_t hc29_298) (by decide) (by decide) kk) ?_
  refine own_via (G := T27.setTop (mkF m 329 #[z0, z1, z2, z3, .val (.int (5 : Int32)), .val (.ref op), .val (.ref bz_1), .val (.int (1 : Int32))] [(.int (1 : Int32))])) (fun tt kk => XS.iload X27.here hx rfl (hb hby at_327) rfl kk) ?_
  exact own_fin X27 eh27 (v := some (.int (1 : Int32))) (fun h => by rw [hret] at h; cases h) hlk (fun fs hr => retN X27 hx (t := .boolean) hret (by simp) (hb hby at_329) hr) (show ((fun (v : Option Value) (h : Heap) (L : List Loc) => v = some (.int (1 : Int32)) ∧ Fr n0 L)) (some (.int (1 : Int32))) T1.heap _ from ⟨rfl, N27⟩) (by decide) (by decide)
set_option maxRecDepth 65536 in
set_option maxHeartbeats 40000000 in
theorem b0_116_6 {p : Program} {l : Launch} {e : Env} {s : State} {m : MethodId} {args : Array Value} {below : List Frame} {meth : Method} {c : Code} {T0 : State} {locs : List Loc} {Z : State} {a0 : Array Value} {h0 : Heap} {n0 : Nat} (z0 : Slot) (z1 : Slot) (z2 : Slot) (z3 : Slot) (op : Addr) (kp : ClassId) (v0 : Int32) (v1 : Int32) (v2 : Int32) (v3 : Int32) (v4 : Int32) (v5 : Int32)
    (C : own_C p s m meth c Z a0 code maxLocals "com/example/clew/clew/KnuthMorrisPrattFailureFunctionPinLaw" ret "law") (X0 : Stand p l e room_1 s m args below meth c T0 locs 1 6) (e0 : T0.heap = h0) (Z0 : n0 ≤ h0.size) (N0 : Fr n0 locs) (VP0 : Arv Z h0 op kp .byte (6 : Int32) [(.int v0), (.int v1), (.int v2), (.int v3), (.int v4), (.int v5)] (.int (0 : Int32))) (g_op : n0 ≤ op) :
    own_Go p.tables e below (T0.setTop (mkF m 116 #[z0, z1, z2, z3, .val (.int (6 : Int32)), .val (.ref op), .unset, .unset] [])) (own_K s (fun (v : Option Value) (h : Heap) (L : List Loc) => v = some (.int (1 : Int32)) ∧ Fr n0 L) room_1.cells room_1.slots) := by
  obtain ⟨hx, hZ, hw, hby, hml, hown, hret, hlk, hnm⟩ := C
  refine own_via (G := T0.setTop (mkF m 118 #[z0, z1, z2, z3, .val (.int (6 : Int32)), .val (.ref op), .unset, .unset] [(.ref op)])) (fun tt kk => XS.aload X0.here hx rfl (hb hby at_116) rfl rfl kk) ?_
  obtain ⟨_, _, ⟨T1, L1, k1, n1⟩, -, X1, ⟨Lc1, hQ1, l1, y1, z1⟩, st1⟩ := Jvm.LawKit.callS X0 hx (y := (⟨"com/example/clew/clew/KnuthMorrisPratt", "failureFunction", "([B)[I"⟩ : MethodName)) hown (mvT hZ (hw _ (List.mem_of_getElem? (i := 6) rfl))) (mvT hZ (hw _ (List.mem_of_getElem? (i := 7) rfl))) (mvT hZ (hw _ (List.mem_of_getElem? (i := 8) rfl))) (mvT hZ (hw _ (List.mem_of_getElem? (i := 9) rfl))) (by decide) (backOf (W := 0) (rm2 l Z a0 hw [] op kp 6 [v0, v1, v2, v3, v4, v5] h0 n0 Z0 VP0 rfl (by decide)) hZ (hw _ (List.mem_of_getElem? (i := 9) rfl)) (hw _ (List.mem_of_getElem? (i := 8) rfl)) (by decide) (by decide)) (g := (mkF m 118 #[z0, z1, z2, z3, .val (.int (6 : Int32)), .val (.ref op), .unset, .unset] [(.ref op)])) rfl (by rw [hml]; rfl) (argsL := [(.ref op)]) (rest := []) (lenOf pd_1 rfl) rfl (by show 2 * 0 + _ ≤ _; exact Nat.le_of_eq rfl) (hb hby at_118) (fun _ _ => ⟨rfl, e0, (by decide : 1 + 1 ≤ _), (by decide : 6 + 6 ≤ _)⟩)
  dsimp only [Pt.U, Pt.locs, Pt.cells, Pt.slots] at X1 l1 y1 z1 st1 hQ1
  subst l1 y1 z1
  obtain ⟨bz_1, kz_1, rfl, Nq1, K1q, fz_bz_1, P0_1⟩ := hQ1
  have N1 := Fr.app N0 Nq1
  have VP0'1 := VP0.keep K1q nin0
  have g_bz_1 : n0 ≤ bz_1 := Nat.le_trans Z0 fz_bz_1
  have ne_op_bz_1 : op ≠ bz_1 := Nat.ne_of_lt (Nat.lt_of_lt_of_le VP0.lt fz_bz_1)
  have Z1 : n0 ≤ T1.heap.size := Nat.le_trans Z0 K1q.1
  refine own_via (G := T1.setTop (mkF m 121 #[z0, z1, z2, z3, .val (.int (6 : Int32)), .val (.ref op), .unset, .unset] [(.ref bz_1)])) (fun tt kk => st1 tt kk) ?_
  refine own_via (G := T1.setTop (mkF m 123 #[z0, z1, z2, z3, .val (.int (6 : Int32)), .val (.ref op), .val (.ref bz_1), .unset] [])) (fun tt kk => XS.astore X1.here hx rfl (hb hby at_121) rfl rfl (l' := #[z0, z1, z2, z3, .val (.int (6 : Int32)), .val (.ref op), .val (.ref bz_1), .unset]) rfl kk) ?_
  refine own_via (G := T1.setTop (mkF m 125 #[z0, z1, z2, z3, .val (.int (6 : Int32)), .val (.ref op), .val (.ref bz_1), .unset] [(.ref bz_1)])) (fun tt kk => XS.aload X1.here hx rfl (hb hby at_123) rfl rfl kk) ?_
  refine own_via (G := T1.setTop (mkF m 128 #[z0, z1, z2, z3, .val (.int (6 : Int32)), .val (.ref op), .val (.ref bz_1), .unset] [])) (fun tt kk => XS.ifnullNo X1.here hx rfl (hb hby at_125) rfl kk) ?_
  refine own_via (G := T1.setTop (mkF m 130 #[z0, z1, z2, z3, .val (.int (6 : Int32)), .val (.ref op), .val (.ref bz_1), .unset] [(.ref bz_1)])) (fun tt kk => XS.aload X1.here hx rfl (hb hby at_128) rfl rfl kk) ?_
  obtain ⟨cl2, Ar2, -, S2, NN2, -, -⟩ := id P0_1
  refine own_via (G := T1.setTop (mkF m 131 #[z0, z1, z2, z3, .val (.int (6 : Int32)), .val (.ref op), .val (.ref bz_1), .unset] [(.int (Int32.ofNat 6))])) (fun tt kk => own_len X1 hx hZ rfl Ar2 S2 NN2 (g := (mkF m 130 #[z0, z1, z2, z3, .val (.int (6 : Int32)), .val (.ref op), .val (.ref bz_1), .unset] [(.ref bz_1)])) rfl rfl (hb hby at_130) kk) ?_
  refine own_via (G := T1.setTop (mkF m 133 #[z0, z1, z2, z3, .val (.int (6 : Int32)), .val (.ref op), .val (.ref bz_1), .unset] [(.int (6 : Int32)), (.int (Int32.ofNat 6))])) (fun tt kk => XS.iload X1.here hx rfl (hb hby at_131) rfl kk) ?_
  have hc3_133 : (Int32.ofNat 6) = (6 : Int32) := rfl
  refine own_via (G := T1.setTop (mkF m 138 #[z0, z1, z2, z3, .val (.int (6 : Int32)), .val (.ref op), .val (.ref bz_1), .unset] [])) (fun tt kk => XS.icmpYes X1.here hx rfl (pc0 := 133) (pc' := 138) rfl (hb hby at_133) rfl (XT.ii_eq_t hc3_133) (by decide) (by decide) kk) ?_
  refine own_via (G := T1.setTop (mkF m 139 #[z0, z1, z2, z3, .val (.int (6 : Int32)), .val (.ref op), .val (.ref bz_1), .unset] [(.int (1 : Int32))])) (fun tt kk => XS.iconst X1.here hx rfl (hb hby at_138) kk) ?_
  refine own_via (G := T1.setTop (mkF m 141 #[z0, z1, z2, z3, .val (.int (6 : Int32)), .val (.ref op), .val (.ref bz_1), .val (.int (1 : Int32))] [])) (fun tt kk => XS.istore X1.here hx rfl (hb hby at_139) rfl (l' := #[z0, z1, z2, z3, .val (.int (6 : Int32)), .val (.ref op), .val (.ref bz_1), .val (.int (1 : Int32))]) rfl kk) ?_
  refine own_via (G := T1.setTop (mkF m 143 #[z0, z1, z2, z3, .val (.int (6 : Int32)), .val (.ref op), .val (.ref bz_1), .val (.int (1 : Int32))] [(.int (6 : Int32))])) (fun tt kk => XS.iload X1.here hx rfl (hb hby at_141) rfl kk) ?_
  have hc4_143 : (0 : Int32) < (6 : Int32) := (by decide)
  refine own_via (G := T1.setTop (mkF m 146 #[z0, z1, z2, z3, .val (.int (6 : Int32)), .val (.ref op), .val (.ref bz_1), .val (.int (1 : Int32))] [])) (fun tt kk => XS.ifNo X1.here hx rfl (hb hby at_143) rfl (XT.i0_le_f hc4_143) kk) ?_
  refine own_via (G := T1.setTop (mkF m 148 #[z0, z1, z2, z3, .val (.int (6 : Int32)), .val (.ref op), .val (.ref bz_1), .val (.int (1 : Int32))] [(.int (1 : Int32))])) (fun tt kk => XS.iload X1.here hx rfl (hb hby at_146) rfl kk) ?_
  have hc5_148 : ¬ ((1 : Int32) = (0 : Int32)) := (by decide)
  refine own_via (G := T1.setTop (mkF m 151 #[z0, z1, z2, z3, .val (.int (6 : Int32)), .val (.ref op), .val (.ref bz_1), .val (.int (1 : Int32))] [])) (fun tt kk => XS.ifNo X1.here hx rfl (hb hby at_148) rfl (XT.i0_eq_f hc5_148) kk) ?_
  refine own_via (G := T1.setTop (mkF m 153 #[z0, z1, z2, z3, .val (.int (6 : Int32)), .val (.ref op), .val (.ref bz_1), .val (.int (1 : Int32))] [(.ref bz_1)])) (fun tt kk => XS.aload X1.here hx rfl (hb hby at_151) rfl rfl kk) ?_
  refine own_via (G := T1.setTop (mkF m 154 #[z0, z1, z2, z3, .val (.int (6 : Int32)), .val (.ref op), .val (.ref bz_1), .val (.int (1 : Int32))] [(.int (0 : Int32)), (.ref bz_1)])) (fun tt kk => XS.iconst X1.here hx rfl (hb hby at_153) kk) ?_
  obtain ⟨cl6, Ar6, qc6, S6, NN6, H6, G6⟩ := id P0_1
  have in6 := inb_of (j := (0 : Int32)) S6 (own_inb (i := 0) (by decide) (by decide))
  have hat6 : cl6.slots[((0 : Int32)).toNatClampNeg]? = some (.int (Int32.ofNat ((own_out (own_e [v0, v1, v2, v3, v4, v5]) (6 - 1) 1 0 (List.replicate 6 0)).getD 0 0))) := H6.at in6 (own_fget (own_out (own_e [v0, v1, v2, v3, v4, v5]) (6 - 1) 1 0 (List.replicate 6 0)) (i := 0) (by decide))
  refine own_via (G := T1.setTop (mkF m 155 #[z0, z1, z2, z3, .val (.int (6 : Int32)), .val (.ref op), .val (.ref bz_1), .val (.int (1 : Int32))] [(.int (Int32.ofNat ((own_out (own_e [v0, v1, v2, v3, v4, v5]) (6 - 1) 1 0 (List.replicate 6 0)).getD 0 0)))])) (fun tt kk => X1.iaload hx (j := (0 : Int32)) (v := (.int (Int32.ofNat ((own_out (own_e [v0, v1, v2, v3, v4, v5]) (6 - 1) 1 0 (List.replicate 6 0)).getD 0 0)))) (own_eqh rfl Ar6.1) (State.isArrayOf_alike hZ.alike Ar6.2.1) Ar6.2.2 in6 hat6 (g := (mkF m 154 #[z0, z1, z2, z3, .val (.int (6 : Int32)), .val (.ref op), .val (.ref bz_1), .val (.int (1 : Int32))] [(.int (0 : Int32)), (.ref bz_1)])) rfl rfl (hb hby at_154) tt kk) ?_
  refine own_via (G := T1.setTop (mkF m 157 #[z0, z1, z2, z3, .val (.int (6 : Int32)), .val (.ref op), .val (.ref bz_1), .val (.int (1 : Int32))] [(.ref op), (.int (Int32.ofNat ((own_out (own_e [v0, v1, v2, v3, v4, v5]) (6 - 1) 1 0 (List.replicate 6 0)).getD 0 0)))])) (fun tt kk => XS.aload X1.here hx rfl (hb hby at_155) rfl rfl kk) ?_
  refine own_via (G := T1.setTop (mkF m 158 #[z0, z1, z2, z3, .val (.int (6 : Int32)), .val (.ref op), .val (.ref bz_1), .val (.int (1 : Int32))] [(.int (1 : Int32)), (.ref op), (.int (Int32.ofNat ((own_out (own_e [v0, v1, v2, v3, v4, v5]) (6 - 1) 1 0 (List.replicate 6 0)).getD 0 0)))])) (fun tt kk => XS.iconst X1.here hx rfl (hb hby at_157) kk) ?_
  obtain ⟨_, _, ⟨T7, L7, k7, n7⟩, -, X7, ⟨Lc7, hQ7, l7, y7, z7⟩, st7⟩ := Jvm.LawKit.callS X1 hx (y := (⟨"com/example/clew/clew/KnuthMorrisPrattFailureFunctionPinLaw", "border", "([BI)I"⟩ : MethodName)) hown (mvT hZ (hw _ (List.mem_of_getElem? (i := 11) rfl))) (mvT hZ (hw _ (List.mem_of_getElem? (i := 12) rfl))) (mvT hZ (hw _ (List.mem_of_getElem? (i := 4) rfl))) (mvT hZ (hw _ (List.mem_of_getElem? (i := 13) rfl))) (by decide) (backOf (W := 1) (rm3 l Z a0 hw [] op kp 6 [v0, v1, v2, v3, v4, v5] 1 T1.heap n0 Z1 VP0'1 rfl (by decide) (by decide)) hZ (hw _ (List.mem_of_getElem? (i := 13) rfl)) (hw _ (List.mem_of_getElem? (i := 4) rfl)) (by decide) (by decide)) (g := (mkF m 158 #[z0, z1, z2, z3, .val (.int (6 : Int32)), .val (.ref op), .val (.ref bz_1), .val (.int (1 : Int32))] [(.int (1 : Int32)), (.ref op), (.int (Int32.ofNat ((own_out (own_e [v0, v1, v2, v3, v4, v5]) (6 - 1) 1 0 (List.replicate 6 0)).getD 0 0)))])) rfl (by rw [hml]; rfl) (argsL := [(.ref op), (.int (1 : Int32))]) (rest := [(.int (Int32.ofNat ((own_out (own_e [v0, v1, v2, v3, v4, v5]) (6 - 1) 1 0 (List.replicate 6 0)).getD 0 0)))]) (lenOf pd_2 rfl) rfl (by show 2 * 0 + _ ≤ _; exact Nat.le_of_eq rfl) (hb hby at_158) (fun _ _ => ⟨rfl, rfl, (by decide : (1 + 1) + 0 ≤ _), (by decide : (6 + 6) + 0 ≤ _)⟩)
  dsimp only [Pt.U, Pt.locs, Pt.cells, Pt.slots] at X7 l7 y7 z7 st7 hQ7
  subst l7 y7 z7
  obtain ⟨rfl, Nq7, eh7⟩ := hQ7
  have N7 := Fr.app N1 Nq7
  refine own_via (G := T7.setTop (mkF m 161 #[z0, z1, z2, z3, .val (.int (6 : Int32)), .val (.ref op), .val (.ref bz_1), .val (.int (1 : Int32))] [(.int (Int32.ofNat (own_bd5 (own_e [v0, v1, v2, v3, v4, v5]) 1))), (.int (Int32.ofNat ((own_out (own_e [v0, v1, v2, v3, v4, v5]) (6 - 1) 1 0 (List.replicate 6 0)).getD 0 0)))])) (fun tt kk => st7 tt kk) ?_
  have hc8_161 : (Int32.ofNat ((own_out (own_e [v0, v1, v2, v3, v4, v5]) (6 - 1) 1 0 (List.replicate 6 0)).getD 0 0)) = (Int32.ofNat (own_bd5 (own_e [v0, v1, v2, v3, v4, v5]) 1)) := congrArg Int32.ofNat (own_law [v0, v1, v2, v3, v4, v5] (Nat.le_of_ble_eq_true rfl) 0 (Nat.le_of_ble_eq_true rfl))
  refine own_via (G := T7.setTop (mkF m 164 #[z0, z1, z2, z3, .val (.int (6 : Int32)), .val (.ref op), .val (.ref bz_1), .val (.int (1 : Int32))] [])) (fun tt kk => XS.icmpNo X7.here hx rfl (hb hby at_161) rfl (XT.ii_ne_f hc8_161) kk) ?_
  refine own_via (G := T7.setTop (mkF m 165 #[z0, z1, z2, z3, .val (.int (6 : Int32)), .val (.ref op), .val (.ref bz_1), .val (.int (1 : Int32))] [(.int (1 : Int32))])) (fun tt kk => XS.iconst X7.here hx rfl (hb hby at_164) kk) ?_
  refine own_via (G := T7.setTop (mkF m 169 #[z0, z1, z2, z3, .val (.int (6 : Int32)), .val (.ref op), .val (.ref bz_1), .val (.int (1 : Int32))] [(.int (1 : Int32))])) (fun tt kk => XS.goto X7.here hx rfl (pc0 := 165) (pc' := 169) rfl (hb hby at_165) (by decide) (by decide) kk) ?_
  refine own_via (G := T7.setTop (mkF m 171 #[z0, z1, z2, z3, .val (.int (6 : Int32)), .val (.ref op), .val (.ref bz_1), .val (.int (1 : Int32))] [])) (fun tt kk => XS.istore X7.here hx rfl (hb hby at_169) rfl (l' := #[z0, z1, z2, z3, .val (.int (6 : Int32)), .val (.ref op), .val (.ref bz_1), .val (.int (1 : Int32))]) rfl kk) ?_
  refine own_via (G := T7.setTop (mkF m 173 #[z0, z1, z2, z3, .val (.int (6 : Int32)), .val (.ref op), .val (.ref bz_1), .val (.int (1 : Int32))] [(.int (6 : Int32))])) (fun tt kk => XS.iload X7.here hx rfl (hb hby at_171) rfl kk) ?_
  refine own_via (G := T7.setTop (mkF m 174 #[z0, z1, z2, z3, .val (.int (6 : Int32)), .val (.ref op), .val (.ref bz_1), .val (.int (1 : Int32))] [(.int (1 : Int32)), (.int (6 : Int32))])) (fun tt kk => XS.iconst X7.here hx rfl (hb hby at_173) kk) ?_
  have hc9_174 : (1 : Int32) < (6 : Int32) := (by decide)
  refine own_via (G := T7.setTop (mkF m 177 #[z0, z1, z2, z3, .val (.int (6 : Int32)), .val (.ref op), .val (.ref bz_1), .val (.int (1 : Int32))] [])) (fun tt kk => XS.icmpNo X7.here hx rfl (hb hby at_174) rfl (XT.ii_le_f hc9_174) kk) ?_
  refine own_via (G := T7.setTop (mkF m 179 #[z0, z1, z2, z3, .val (.int (6 : Int32)), .val (.ref op), .val (.ref bz_1), .val (.int (1 : Int32))] [(.int (1 : Int32))])) (fun tt kk => XS.iload X7.here hx rfl (hb hby at_177) rfl kk) ?_
  have hc10_179 : ¬ ((1 : Int32) = (0 : Int32)) := (by decide)
  refine own_via (G := T7.setTop (mkF m 182 #[z0, z1, z2, z3, .val (.int (6 : Int32)), .val (.ref op), .val (.ref bz_1), .val (.int (1 : Int32))] [])) (fun tt kk => XS.ifNo X7.here hx rfl (hb hby at_179) rfl (XT.i0_eq_f hc10_179) kk) ?_
  refine own_via (G := T7.setTop (mkF m 184 #[z0, z1, z2, z3, .val (.int (6 : Int32)), .val (.ref op), .val (.ref bz_1), .val (.int (1 : Int32))] [(.ref bz_1)])) (fun tt kk => XS.aload X7.here hx rfl (hb hby at_182) rfl rfl kk) ?_
  refine own_via (G := T7.setTop (mkF m 185 #[z0, z1, z2, z3, .val (.int (6 : Int32)), .val (.ref op), .val (.ref bz_1), .val (.int (1 : Int32))] [(.int (1 : Int32)), (.ref bz_1)])) (fun tt kk => XS.iconst X7.here hx rfl (hb hby at_184) kk) ?_
  obtain ⟨cl11, Ar11, qc11, S11, NN11, H11, G11⟩ := id P0_1
  have in11 := inb_of (j := (1 : Int32)) S11 (own_inb (i := 1) (by decide) (by decide))
  have hat11 : cl11.slots[((1 : Int32)).toNatClampNeg]? = some (.int (Int32.ofNat ((own_out (own_e [v0, v1, v2, v3, v4, v5]) (6 - 1) 1 0 (List.replicate 6 0)).getD 1 0))) := H11.at in11 (own_fget (own_out (own_e [v0, v1, v2, v3, v4, v5]) (6 - 1) 1 0 (List.replicate 6 0)) (i := 1) (by decide))
  refine own_via (G := T7.setTop (mkF m 186 #[z0, z1, z2, z3, .val (.int (6 : Int32)), .val (.ref op), .val (.ref bz_1), .val (.int (1 : Int32))] [(.int (Int32.ofNat ((own_out (own_e [v0, v1, v2, v3, v4, v5]) (6 - 1) 1 0 (List.replicate 6 0)).getD 1 0)))])) (fun tt kk => X7.iaload hx (j := (1 : Int32)) (v := (.int (Int32.ofNat ((own_out (own_e [v0, v1, v2, v3, v4, v5]) (6 - 1) 1 0 (List.replicate 6 0)).getD 1 0)))) (own_eqh eh7 Ar11.1) (State.isArrayOf_alike hZ.alike Ar11.2.1) Ar11.2.2 in11 hat11 (g := (mkF m 185 #[z0, z1, z2, z3, .val (.int (6 : Int32)), .val (.ref op), .val (.ref bz_1), .val (.int (1 : Int32))] [(.int (1 : Int32)), (.ref bz_1)])) rfl rfl (hb hby at_185) tt kk) ?_
  refine own_via (G := T7.setTop (mkF m 188 #[z0, z1, z2, z3, .val (.int (6 : Int32)), .val (.ref op), .val (.ref bz_1), .val (.int (1 : Int32))] [(.ref op), (.int (Int32.ofNat ((own_out (own_e [v0, v1, v2, v3, v4, v5]) (6 - 1) 1 0 (List.replicate 6 0)).getD 1 0)))])) (fun tt kk => XS.aload X7.here hx rfl (hb hby at_186) rfl rfl kk) ?_
  refine own_via (G := T7.setTop (mkF m 189 #[z0, z1, z2, z3, .val (.int (6 : Int32)), .val (.ref op), .val (.ref bz_1), .val (.int (1 : Int32))] [(.int (2 : Int32)), (.ref op), (.int (Int32.ofNat ((own_out (own_e [v0, v1, v2, v3, v4, v5]) (6 - 1) 1 0 (List.replicate 6 0)).getD 1 0)))])) (fun tt kk => XS.iconst X7.here hx rfl (hb hby at_188) kk) ?_
  obtain ⟨_, _, ⟨T12, L12, k12, n12⟩, -, X12, ⟨Lc12, hQ12, l12, y12, z12⟩, st12⟩ := Jvm.LawKit.callS X7 hx (y := (⟨"com/example/clew/clew/KnuthMorrisPrattFailureFunctionPinLaw", "border", "([BI)I"⟩ : MethodName)) hown (mvT hZ (hw _ (List.mem_of_getElem? (i := 11) rfl))) (mvT hZ (hw _ (List.mem_of_getElem? (i := 12) rfl))) (mvT hZ (hw _ (List.mem_of_getElem? (i := 4) rfl))) (mvT hZ (hw _ (List.mem_of_getElem? (i := 13) rfl))) (by decide) (backOf (W := 1) (rm3 l Z a0 hw [] op kp 6 [v0, v1, v2, v3, v4, v5] 2 T1.heap n0 Z1 VP0'1 rfl (by decide) (by decide)) hZ (hw _ (List.mem_of_getElem? (i := 13) rfl)) (hw _ (List.mem_of_getElem? (i := 4) rfl)) (by decide) (by decide)) (g := (mkF m 189 #[z0, z1, z2, z3, .val (.int (6 : Int32)), .val (.ref op), .val (.ref bz_1), .val (.int (1 : Int32))] [(.int (2 : Int32)), (.ref op), (.int (Int32.ofNat ((own_out (own_e [v0, v1, v2, v3, v4, v5]) (6 - 1) 1 0 (List.replicate 6 0)).getD 1 0)))])) rfl (by rw [hml]; rfl) (argsL := [(.ref op), (.int (2 : Int32))]) (rest := [(.int (Int32.ofNat ((own_out (own_e [v0, v1, v2, v3, v4, v5]) (6 - 1) 1 0 (List.replicate 6 0)).getD 1 0)))]) (lenOf pd_2 rfl) rfl (by show 2 * 0 + _ ≤ _; exact Nat.le_of_eq rfl) (hb hby at_189) (fun _ _ => ⟨rfl, eh7, (by decide : ((1 + 1) + 0) + 0 ≤ _), (by decide : ((6 + 6) + 0) + 0 ≤ _)⟩)
  dsimp only [Pt.U, Pt.locs, Pt.cells, Pt.slots] at X12 l12 y12 z12 st12 hQ12
  subst l12 y12 z12
  obtain ⟨rfl, Nq12, eh12⟩ := hQ12
  have N12 := Fr.app N7 Nq12
  refine own_via (G := T12.setTop (mkF m 192 #[z0, z1, z2, z3, .val (.int (6 : Int32)), .val (.ref op), .val (.ref bz_1), .val (.int (1 : Int32))] [(.int (Int32.ofNat (own_bd5 (own_e [v0, v1, v2, v3, v4, v5]) 2))), (.int (Int32.ofNat ((own_out (own_e [v0, v1, v2, v3, v4, v5]) (6 - 1) 1 0 (List.replicate 6 0)).getD 1 0)))])) (fun tt kk => st12 tt kk) ?_
  have hc13_192 : (Int32.ofNat ((own_out (own_e [v0, v1, v2, v3, v4, v5]) (6 - 1) 1 0 (List.replicate 6 0)).getD 1 0)) = (Int32.ofNat (own_bd5 (own_e [v0, v1, v2, v3, v4, v5]) 2)) := congrArg Int32.ofNat (own_law [v0, v1, v2, v3, v4, v5] (Nat.le_of_ble_eq_true rfl) 1 (Nat.le_of_ble_eq_true rfl))
  refine own_via (G := T12.setTop (mkF m 195 #[z0, z1, z2, z3, .val (.int (6 : Int32)), .val (.ref op), .val (.ref bz_1), .val (.int (1 : Int32))] [])) (fun tt kk => XS.icmpNo X12.here hx rfl (hb hby at_192) rfl (XT.ii_ne_f hc13_192) kk) ?_
  refine own_via (G := T12.setTop (mkF m 196 #[z0, z1, z2, z3, .val (.int (6 : Int32)), .val (.ref op), .val (.ref bz_1), .val (.int (1 : Int32))] [(.int (1 : Int32))])) (fun tt kk => XS.iconst X12.here hx rfl (hb hby at_195) kk) ?_
  refine own_via (G := T12.setTop (mkF m 200 #[z0, z1, z2, z3, .val (.int (6 : Int32)), .val (.ref op), .val (.ref bz_1), .val (.int (1 : Int32))] [(.int (1 : Int32))])) (fun tt kk => XS.goto X12.here hx rfl (pc0 := 196) (pc' := 200) rfl (hb hby at_196) (by decide) (by decide) kk) ?_
  refine own_via (G := T12.setTop (mkF m 202 #[z0, z1, z2, z3, .val (.int (6 : Int32)), .val (.ref op), .val (.ref bz_1), .val (.int (1 : Int32))] [])) (fun tt kk => XS.istore X12.here hx rfl (hb hby at_200) rfl (l' := #[z0, z1, z2, z3, .val (.int (6 : Int32)), .val (.ref op), .val (.ref bz_1), .val (.int (1 : Int32))]) rfl kk) ?_
  refine own_via (G := T12.setTop (mkF m 204 #[z0, z1, z2, z3, .val (.int (6 : Int32)), .val (.ref op), .val (.ref bz_1), .val (.int (1 : Int32))] [(.int (6 : Int32))])) (fun tt kk => XS.iload X12.here hx rfl (hb hby at_202) rfl kk) ?_
  refine own_via (G := T12.setTop (mkF m 205 #[z0, z1, z2, z3, .val (.int (6 : Int32)), .val (.ref op), .val (.ref bz_1), .val (.int (1 : Int32))] [(.int (2 : Int32)), (.int (6 : Int32))])) (fun tt kk => XS.iconst X12.here hx rfl (hb hby at_204) kk) ?_
  have hc14_205 : (2 : Int32) < (6 : Int32) := (by decide)
  refine own_via (G := T12.setTop (mkF m 208 #[z0, z1, z2, z3, .val (.int (6 : Int32)), .val (.ref op), .val (.ref bz_1), .val (.int (1 : Int32))] [])) (fun tt kk => XS.icmpNo X12.here hx rfl (hb hby at_205) rfl (XT.ii_le_f hc14_205) kk) ?_
  refine own_via (G := T12.setTop (mkF m 210 #[z0, z1, z2, z3, .val (.int (6 : Int32)), .val (.ref op), .val (.ref bz_1), .val (.int (1 : Int32))] [(.int (1 : Int32))])) (fun tt kk => XS.iload X12.here hx rfl (hb hby at_208) rfl kk) ?_
  have hc15_210 : ¬ ((1 : Int32) = (0 : Int32)) := (by decide)
  refine own_via (G := T12.setTop (mkF m 213 #[z0, z1, z2, z3, .val (.int (6 : Int32)), .val (.ref op), .val (.ref bz_1), .val (.int (1 : Int32))] [])) (fun tt kk => XS.ifNo X12.here hx rfl (hb hby at_210) rfl (XT.i0_eq_f hc15_210) kk) ?_
  refine own_via (G := T12.setTop (mkF m 215 #[z0, z1, z2, z3, .val (.int (6 : Int32)), .val (.ref op), .val (.ref bz_1), .val (.int (1 : Int32))] [(.ref bz_1)])) (fun tt kk => XS.aload X12.here hx rfl (hb hby at_213) rfl rfl kk) ?_
  refine own_via (G := T12.setTop (mkF m 216 #[z0, z1, z2, z3, .val (.int (6 : Int32)), .val (.ref op), .val (.ref bz_1), .val (.int (1 : Int32))] [(.int (2 : Int32)), (.ref bz_1)])) (fun tt kk => XS.iconst X12.here hx rfl (hb hby at_215) kk) ?_
  obtain ⟨cl16, Ar16, qc16, S16, NN16, H16, G16⟩ := id P0_1
  have in16 := inb_of (j := (2 : Int32)) S16 (own_inb (i := 2) (by decide) (by decide))
  have hat16 : cl16.slots[((2 : Int32)).toNatClampNeg]? = some (.int (Int32.ofNat ((own_out (own_e [v0, v1, v2, v3, v4, v5]) (6 - 1) 1 0 (List.replicate 6 0)).getD 2 0))) := H16.at in16 (own_fget (own_out (own_e [v0, v1, v2, v3, v4, v5]) (6 - 1) 1 0 (List.replicate 6 0)) (i := 2) (by decide))
  refine own_via (G := T12.setTop (mkF m 217 #[z0, z1, z2, z3, .val (.int (6 : Int32)), .val (.ref op), .val (.ref bz_1), .val (.int (1 : Int32))] [(.int (Int32.ofNat ((own_out (own_e [v0, v1, v2, v3, v4, v5]) (6 - 1) 1 0 (List.replicate 6 0)).getD 2 0)))])) (fun tt kk => X12.iaload hx (j := (2 : Int32)) (v := (.int (Int32.ofNat ((own_out (own_e [v0, v1, v2, v3, v4, v5]) (6 - 1) 1 0 (List.replicate 6 0)).getD 2 0)))) (own_eqh eh12 Ar16.1) (State.isArrayOf_alike hZ.alike Ar16.2.1) Ar16.2.2 in16 hat16 (g := (mkF m 216 #[z0, z1, z2, z3, .val (.int (6 : Int32)), .val (.ref op), .val (.ref bz_1), .val (.int (1 : Int32))] [(.int (2 : Int32)), (.ref bz_1)])) rfl rfl (hb hby at_216) tt kk) ?_
  refine own_via (G := T12.setTop (mkF m 219 #[z0, z1, z2, z3, .val (.int (6 : Int32)), .val (.ref op), .val (.ref bz_1), .val (.int (1 : Int32))] [(.ref op), (.int (Int32.ofNat ((own_out (own_e [v0, v1, v2, v3, v4, v5]) (6 - 1) 1 0 (List.replicate 6 0)).getD 2 0)))])) (fun tt kk => XS.aload X12.here hx rfl (hb hby at_217) rfl rfl kk) ?_
  refine own_via (G := T12.setTop (mkF m 220 #[z0, z1, z2, z3, .val (.int (6 : Int32)), .val (.ref op), .val (.ref bz_1), .val (.int (1 : Int32))] [(.int (3 : Int32)), (.ref op), (.int (Int32.ofNat ((own_out (own_e [v0, v1, v2, v3, v4, v5]) (6 - 1) 1 0 (List.replicate 6 0)).getD 2 0)))])) (fun tt kk => XS.iconst X12.here hx rfl (hb hby at_219) kk) ?_
  obtain ⟨_, _, ⟨T17, L17, k17, n17⟩, -, X17, ⟨Lc17, hQ17, l17, y17, z17⟩, st17⟩ := Jvm.LawKit.callS X12 hx (y := (⟨"com/example/clew/clew/KnuthMorrisPrattFailureFunctionPinLaw", "border", "([BI)I"⟩ : MethodName)) hown (mvT hZ (hw _ (List.mem_of_getElem? (i := 11) rfl))) (mvT hZ (hw _ (List.mem_of_getElem? (i := 12) rfl))) (mvT hZ (hw _ (List.mem_of_getElem? (i := 4) rfl))) (mvT hZ (hw _ (List.mem_of_getElem? (i := 13) rfl))) (by decide) (backOf (W := 1) (rm3 l Z a0 hw [] op kp 6 [v0, v1, v2, v3, v4, v5] 3 T1.heap n0 Z1 VP0'1 rfl (by decide) (by decide)) hZ (hw _ (List.mem_of_getElem? (i := 13) rfl)) (hw _ (List.mem_of_getElem? (i := 4) rfl)) (by decide) (by decide)) (g := (mkF m 220 #[z0, z1, z2, z3, .val (.int (6 : Int32)), .val (.ref op), .val (.ref bz_1), .val (.int (1 : Int32))] [(.int (3 : Int32)), (.ref op), (.int (Int32.ofNat ((own_out (own_e [v0, v1, v2, v3, v4, v5]) (6 - 1) 1 0 (List.replicate 6 0)).getD 2 0)))])) rfl (by rw [hml]; rfl) (argsL := [(.ref op), (.int (3 : Int32))]) (rest := [(.int (Int32.ofNat ((own_out (own_e [v0, v1, v2, v3, v4, v5]) (6 - 1) 1 0 (List.replicate 6 0)).getD 2 0)))]) (lenOf pd_2 rfl) rfl (by show 2 * 0 + _ ≤ _; exact Nat.le_of_eq rfl) (hb hby at_220) (fun _ _ => ⟨rfl, eh12, (by decide : (((1 + 1) + 0) + 0) + 0 ≤ _), (by decide : (((6 + 6) + 0) + 0) + 0 ≤ _)⟩)
  dsimp only [Pt.U, Pt.locs, Pt.cells, Pt.slots] at X17 l17 y17 z17 st17 hQ17
  subst l17 y17 z17
  obtain ⟨rfl, Nq17, eh17⟩ := hQ17
  have N17 := Fr.app N12 Nq17
  refine own_via (G := T17.setTop (mkF m 223 #[z0, z1, z2, z3, .val (.int (6 : Int32)), .val (.ref op), .val (.ref bz_1), .val (.int (1 : Int32))] [(.int (Int32.ofNat (own_bd5 (own_e [v0, v1, v2, v3, v4, v5]) 3))), (.int (Int32.ofNat ((own_out (own_e [v0, v1, v2, v3, v4, v5]) (6 - 1) 1 0 (List.replicate 6 0)).getD 2 0)))])) (fun tt kk => st17 tt kk) ?_
  have hc18_223 : (Int32.ofNat ((own_out (own_e [v0, v1, v2, v3, v4, v5]) (6 - 1) 1 0 (List.replicate 6 0)).getD 2 0)) = (Int32.ofNat (own_bd5 (own_e [v0, v1, v2, v3, v4, v5]) 3)) := congrArg Int32.ofNat (own_law [v0, v1, v2, v3, v4, v5] (Nat.le_of_ble_eq_true rfl) 2 (Nat.le_of_ble_eq_true rfl))
  refine own_via (G := T17.setTop (mkF m 226 #[z0, z1, z2, z3, .val (.int (6 : Int32)), .val (.ref op), .val (.ref bz_1), .val (.int (1 : Int32))] [])) (fun tt kk => XS.icmpNo X17.here hx rfl (hb hby at_223) rfl (XT.ii_ne_f hc18_223) kk) ?_
  refine own_via (G := T17.setTop (mkF m 227 #[z0, z1, z2, z3, .val (.int (6 : Int32)), .val (.ref op), .val (.ref bz_1), .val (.int (1 : Int32))] [(.int (1 : Int32))])) (fun tt kk => XS.iconst X17.here hx rfl (hb hby at_226) kk) ?_
  refine own_via (G := T17.setTop (mkF m 231 #[z0, z1, z2, z3, .val (.int (6 : Int32)), .val (.ref op), .val (.ref bz_1), .val (.int (1 : Int32))] [(.int (1 : Int32))])) (fun tt kk => XS.goto X17.here hx rfl (pc0 := 227) (pc' := 231) rfl (hb hby at_227) (by decide) (by decide) kk) ?_
  refine own_via (G := T17.setTop (mkF m 233 #[z0, z1, z2, z3, .val (.int (6 : Int32)), .val (.ref op), .val (.ref bz_1), .val (.int (1 : Int32))] [])) (fun tt kk => XS.istore X17.here hx rfl (hb hby at_231) rfl (l' := #[z0, z1, z2, z3, .val (.int (6 : Int32)), .val (.ref op), .val (.ref bz_1), .val (.int (1 : Int32))]) rfl kk) ?_
  refine own_via (G := T17.setTop (mkF m 235 #[z0, z1, z2, z3, .val (.int (6 : Int32)), .val (.ref op), .val (.ref bz_1), .val (.int (1 : Int32))] [(.int (6 : Int32))])) (fun tt kk => XS.iload X17.here hx rfl (hb hby at_233) rfl kk) ?_
  refine own_via (G := T17.setTop (mkF m 236 #[z0, z1, z2, z3, .val (.int (6 : Int32)), .val (.ref op), .val (.ref bz_1), .val (.int (1 : Int32))] [(.int (3 : Int32)), (.int (6 : Int32))])) (fun tt kk => XS.iconst X17.here hx rfl (hb hby at_235) kk) ?_
  have hc19_236 : (3 : Int32) < (6 : Int32) := (by decide)
  refine own_via (G := T17.setTop (mkF m 239 #[z0, z1, z2, z3, .val (.int (6 : Int32)), .val (.ref op), .val (.ref bz_1), .val (.int (1 : Int32))] [])) (fun tt kk => XS.icmpNo X17.here hx rfl (hb hby at_236) rfl (XT.ii_le_f hc19_236) kk) ?_
  refine own_via (G := T17.setTop (mkF m 241 #[z0, z1, z2, z3, .val (.int (6 : Int32)), .val (.ref op), .val (.ref bz_1), .val (.int (1 : Int32))] [(.int (1 : Int32))])) (fun tt kk => XS.iload X17.here hx rfl (hb hby at_239) rfl kk) ?_
  have hc20_241 : ¬ ((1 : Int32) = (0 : Int32)) := (by decide)
  refine own_via (G := T17.setTop (mkF m 244 #[z0, z1, z2, z3, .val (.int (6 : Int32)), .val (.ref op), .val (.ref bz_1), .val (.int (1 : Int32))] [])) (fun tt kk => XS.ifNo X17.here hx rfl (hb hby at_241) rfl (XT.i0_eq_f hc20_241) kk) ?_
  refine own_via (G := T17.setTop (mkF m 246 #[z0, z1, z2, z3, .val (.int (6 : Int32)), .val (.ref op), .val (.ref bz_1), .val (.int (1 : Int32))] [(.ref bz_1)])) (fun tt kk => XS.aload X17.here hx rfl (hb hby at_244) rfl rfl kk) ?_
  refine own_via (G := T17.setTop (mkF m 247 #[z0, z1, z2, z3, .val (.int (6 : Int32)), .val (.ref op), .val (.ref bz_1), .val (.int (1 : Int32))] [(.int (3 : Int32)), (.ref bz_1)])) (fun tt kk => XS.iconst X17.here hx rfl (hb hby at_246) kk) ?_
  obtain ⟨cl21, Ar21, qc21, S21, NN21, H21, G21⟩ := id P0_1
  have in21 := inb_of (j := (3 : Int32)) S21 (own_inb (i := 3) (by decide) (by decide))
  have hat21 : cl21.slots[((3 : Int32)).toNatClampNeg]? = some (.int (Int32.ofNat ((own_out (own_e [v0, v1, v2, v3, v4, v5]) (6 - 1) 1 0 (List.replicate 6 0)).getD 3 0))) := H21.at in21 (own_fget (own_out (own_e [v0, v1, v2, v3, v4, v5]) (6 - 1) 1 0 (List.replicate 6 0)) (i := 3) (by decide))
  refine own_via (G := T17.setTop (mkF m 248 #[z0, z1, z2, z3, .val (.int (6 : Int32)), .val (.ref op), .val (.ref bz_1), .val (.int (1 : Int32))] [(.int (Int32.ofNat ((own_out (own_e [v0, v1, v2, v3, v4, v5]) (6 - 1) 1 0 (List.replicate 6 0)).getD 3 0)))])) (fun tt kk => X17.iaload hx (j := (3 : Int32)) (v := (.int (Int32.ofNat ((own_out (own_e [v0, v1, v2, v3, v4, v5]) (6 - 1) 1 0 (List.replicate 6 0)).getD 3 0)))) (own_eqh eh17 Ar21.1) (State.isArrayOf_alike hZ.alike Ar21.2.1) Ar21.2.2 in21 hat21 (g := (mkF m 247 #[z0, z1, z2, z3, .val (.int (6 : Int32)), .val (.ref op), .val (.ref bz_1), .val (.int (1 : Int32))] [(.int (3 : Int32)), (.ref bz_1)])) rfl rfl (hb hby at_247) tt kk) ?_
  refine own_via (G := T17.setTop (mkF m 250 #[z0, z1, z2, z3, .val (.int (6 : Int32)), .val (.ref op), .val (.ref bz_1), .val (.int (1 : Int32))] [(.ref op), (.int (Int32.ofNat ((own_out (own_e [v0, v1, v2, v3, v4, v5]) (6 - 1) 1 0 (List.replicate 6 0)).getD 3 0)))])) (fun tt kk => XS.aload X17.here hx rfl (hb hby at_248) rfl rfl kk) ?_
  refine own_via (G := T17.setTop (mkF m 251 #[z0, z1, z2, z3, .val (.int (6 : Int32)), .val (.ref op), .val (.ref bz_1), .val (.int (1 : Int32))] [(.int (4 : Int32)), (.ref op), (.int (Int32.ofNat ((own_out (own_e [v0, v1, v2, v3, v4, v5]) (6 - 1) 1 0 (List.replicate 6 0)).getD 3 0)))])) (fun tt kk => XS.iconst X17.here hx rfl (hb hby at_250) kk) ?_
  obtain ⟨_, _, ⟨T22, L22, k22, n22⟩, -, X22, ⟨Lc22, hQ22, l22, y22, z22⟩, st22⟩ := Jvm.LawKit.callS X17 hx (y := (⟨"com/example/clew/clew/KnuthMorrisPrattFailureFunctionPinLaw", "border", "([BI)I"⟩ : MethodName)) hown (mvT hZ (hw _ (List.mem_of_getElem? (i := 11) rfl))) (mvT hZ (hw _ (List.mem_of_getElem? (i := 12) rfl))) (mvT hZ (hw _ (List.mem_of_getElem? (i := 4) rfl))) (mvT hZ (hw _ (List.mem_of_getElem? (i := 13) rfl))) (by decide) (backOf (W := 1) (rm3 l Z a0 hw [] op kp 6 [v0, v1, v2, v3, v4, v5] 4 T1.heap n0 Z1 VP0'1 rfl (by decide) (by decide)) hZ (hw _ (List.mem_of_getElem? (i := 13) rfl)) (hw _ (List.mem_of_getElem? (i := 4) rfl)) (by decide) (by decide)) (g := (mkF m 251 #[z0, z1, z2, z3, .val (.int (6 : Int32)), .val (.ref op), .val (.ref bz_1), .val (.int (1 : Int32))] [(.int (4 : Int32)), (.ref op), (.int (Int32.ofNat ((own_out (own_e [v0, v1, v2, v3, v4, v5]) (6 - 1) 1 0 (List.replicate 6 0)).getD 3 0)))])) rfl (by rw [hml]; rfl) (argsL := [(.ref op), (.int (4 : Int32))]) (rest := [(.int (Int32.ofNat ((own_out (own_e [v0, v1, v2, v3, v4, v5]) (6 - 1) 1 0 (List.replicate 6 0)).getD 3 0)))]) (lenOf pd_2 rfl) rfl (by show 2 * 0 + _ ≤ _; exact Nat.le_of_eq rfl) (hb hby at_251) (fun _ _ => ⟨rfl, eh17, (by decide : ((((1 + 1) + 0) + 0) + 0) + 0 ≤ _), (by decide : ((((6 + 6) + 0) + 0) + 0) + 0 ≤ _)⟩)
  dsimp only [Pt.U, Pt.locs, Pt.cells, Pt.slots] at X22 l22 y22 z22 st22 hQ22
  subst l22 y22 z22
  obtain ⟨rfl, Nq22, eh22⟩ := hQ22
  have N22 := Fr.app N17 Nq22
  refine own_via (G := T22.setTop (mkF m 254 #[z0, z1, z2, z3, .val (.int (6 : Int32)), .val (.ref op), .val (.ref bz_1), .val (.int (1 : Int32))] [(.int (Int32.ofNat (own_bd5 (own_e [v0, v1, v2, v3, v4, v5]) 4))), (.int (Int32.ofNat ((own_out (own_e [v0, v1, v2, v3, v4, v5]) (6 - 1) 1 0 (List.replicate 6 0)).getD 3 0)))])) (fun tt kk => st22 tt kk) ?_
  have hc23_254 : (Int32.ofNat ((own_out (own_e [v0, v1, v2, v3, v4, v5]) (6 - 1) 1 0 (List.replicate 6 0)).getD 3 0)) = (Int32.ofNat (own_bd5 (own_e [v0, v1, v2, v3, v4, v5]) 4)) := congrArg Int32.ofNat (own_law [v0, v1, v2, v3, v4, v5] (Nat.le_of_ble_eq_true rfl) 3 (Nat.le_of_ble_eq_true rfl))
  refine own_via (G := T22.setTop (mkF m 257 #[z0, z1, z2, z3, .val (.int (6 : Int32)), .val (.ref op), .val (.ref bz_1), .val (.int (1 : Int32))] [])) (fun tt kk => XS.icmpNo X22.here hx rfl (hb hby at_254) rfl (XT.ii_ne_f hc23_254) kk) ?_
  refine own_via (G := T22.setTop (mkF m 258 #[z0, z1, z2, z3, .val (.int (6 : Int32)), .val (.ref op), .val (.ref bz_1), .val (.int (1 : Int32))] [(.int (1 : Int32))])) (fun tt kk => XS.iconst X22.here hx rfl (hb hby at_257) kk) ?_
  refine own_via (G := T22.setTop (mkF m 262 #[z0, z1, z2, z3, .val (.int (6 : Int32)), .val (.ref op), .val (.ref bz_1), .val (.int (1 : Int32))] [(.int (1 : Int32))])) (fun tt kk => XS.goto X22.here hx rfl (pc0 := 258) (pc' := 262) rfl (hb hby at_258) (by decide) (by decide) kk) ?_
  refine own_via (G := T22.setTop (mkF m 264 #[z0, z1, z2, z3, .val (.int (6 : Int32)), .val (.ref op), .val (.ref bz_1), .val (.int (1 : Int32))] [])) (fun tt kk => XS.istore X22.here hx rfl (hb hby at_262) rfl (l' := #[z0, z1, z2, z3, .val (.int (6 : Int32)), .val (.ref op), .val (.ref bz_1), .val (.int (1 : Int32))]) rfl kk) ?_
  refine own_via (G := T22.setTop (mkF m 266 #[z0, z1, z2, z3, .val (.int (6 : Int32)), .val (.ref op), .val (.ref bz_1), .val (.int (1 : Int32))] [(.int (6 : Int32))])) (fun tt kk => XS.iload X22.here hx rfl (hb hby at_264) rfl kk) ?_
  refine own_via (G := T22.setTop (mkF m 267 #[z0, z1, z2, z3, .val (.int (6 : Int32)), .val (.ref op), .val (.ref bz_1), .val (.int (1 : Int32))] [(.int (4 : Int32)), (.int (6 : Int32))])) (fun tt kk => XS.iconst X22.here hx rfl (hb hby at_266) kk) ?_
  have hc24_267 : (4 : Int32) < (6 : Int32) := (by decide)
  refine own_via (G := T22.setTop (mkF m 270 #[z0, z1, z2, z3, .val (.int (6 : Int32)), .val (.ref op), .val (.ref bz_1), .val (.int (1 : Int32))] [])) (fun tt kk => XS.icmpNo X22.here hx rfl (hb hby at_267) rfl (XT.ii_le_f hc24_267) kk) ?_
  refine own_via (G := T22.setTop (mkF m 272 #[z0, z1, z2, z3, .val (.int (6 : Int32)), .val (.ref op), .val (.ref bz_1), .val (.int (1 : Int32))] [(.int (1 : Int32))])) (fun tt kk => XS.iload X22.here hx rfl (hb hby at_270) rfl kk) ?_
  have hc25_272 : ¬ ((1 : Int32) = (0 : Int32)) := (by decide)
  refine own_via (G := T22.setTop (mkF m 275 #[z0, z1, z2, z3, .val (.int (6 : Int32)), .val (.ref op), .val (.ref bz_1), .val (.int (1 : Int32))] [])) (fun tt kk => XS.ifNo X22.here hx rfl (hb hby at_272) rfl (XT.i0_eq_f hc25_272) kk) ?_
  refine own_via (G := T22.setTop (mkF m 277 #[z0, z1, z2, z3, .val (.int (6 : Int32)), .val (.ref op), .val (.ref bz_1), .val (.int (1 : Int32))] [(.ref bz_1)])) (fun tt kk => XS.aload X22.here hx rfl (hb hby at_275) rfl rfl kk) ?_
  refine own_via (G := T22.setTop (mkF m 278 #[z0, z1, z2, z3, .val (.int (6 : Int32)), .val (.ref op), .val (.ref bz_1), .val (.int (1 : Int32))] [(.int (4 : Int32)), (.ref bz_1)])) (fun tt kk => XS.iconst X22.here hx rfl (hb hby at_277) kk) ?_
  obtain ⟨cl26, Ar26, qc26, S26, NN26, H26, G26⟩ := id P0_1
  have in26 := inb_of (j := (4 : Int32)) S26 (own_inb (i := 4) (by decide) (by decide))
  have hat26 : cl26.slots[((4 : Int32)).toNatClampNeg]? = some (.int (Int32.ofNat ((own_out (own_e [v0, v1, v2, v3, v4, v5]) (6 - 1) 1 0 (List.replicate 6 0)).getD 4 0))) := H26.at in26 (own_fget (own_out (own_e [v0, v1, v2, v3, v4, v5]) (6 - 1) 1 0 (List.replicate 6 0)) (i := 4) (by decide))
  refine own_via (G := T22.setTop (mkF m 279 #[z0, z1, z2, z3, .val (.int (6 : Int32)), .val (.ref op), .val (.ref bz_1), .val (.int (1 : Int32))] [(.int (Int32.ofNat ((own_out (own_e [v0, v1, v2, v3, v4, v5]) (6 - 1) 1 0 (List.replicate 6 0)).getD 4 0)))])) (fun tt kk => X22.iaload hx (j := (4 : Int32)) (v := (.int (Int32.ofNat ((own_out (own_e [v0, v1, v2, v3, v4, v5]) (6 - 1) 1 0 (List.replicate 6 0)).getD 4 0)))) (own_eqh eh22 Ar26.1) (State.isArrayOf_alike hZ.alike Ar26.2.1) Ar26.2.2 in26 hat26 (g := (mkF m 278 #[z0, z1, z2, z3, .val (.int (6 : Int32)), .val (.ref op), .val (.ref bz_1), .val (.int (1 : Int32))] [(.int (4 : Int32)), (.ref bz_1)])) rfl rfl (hb hby at_278) tt kk) ?_
  refine own_via (G := T22.setTop (mkF m 281 #[z0, z1, z2, z3, .val (.int (6 : Int32)), .val (.ref op), .val (.ref bz_1), .val (.int (1 : Int32))] [(.ref op), (.int (Int32.ofNat ((own_out (own_e [v0, v1, v2, v3, v4, v5]) (6 - 1) 1 0 (List.replicate 6 0)).getD 4 0)))])) (fun tt kk => XS.aload X22.here hx rfl (hb hby at_279) rfl rfl kk) ?_
  refine own_via (G := T22.setTop (mkF m 282 #[z0, z1, z2, z3, .val (.int (6 : Int32)), .val (.ref op), .val (.ref bz_1), .val (.int (1 : Int32))] [(.int (5 : Int32)), (.ref op), (.int (Int32.ofNat ((own_out (own_e [v0, v1, v2, v3, v4, v5]) (6 - 1) 1 0 (List.replicate 6 0)).getD 4 0)))])) (fun tt kk => XS.iconst X22.here hx rfl (hb hby at_281) kk) ?_
  obtain ⟨_, _, ⟨T27, L27, k27, n27⟩, -, X27, ⟨Lc27, hQ27, l27, y27, z27⟩, st27⟩ := Jvm.LawKit.callS X22 hx (y := (⟨"com/example/clew/clew/KnuthMorrisPrattFailureFunctionPinLaw", "border", "([BI)I"⟩ : MethodName)) hown (mvT hZ (hw _ (List.mem_of_getElem? (i := 11) rfl))) (mvT hZ (hw _ (List.mem_of_getElem? (i := 12) rfl))) (mvT hZ (hw _ (List.mem_of_getElem? (i := 4) rfl))) (mvT hZ (hw _ (List.mem_of_getElem? (i := 13) rfl))) (by decide) (backOf (W := 1) (rm3 l Z a0 hw [] op kp 6 [v0, v1, v2, v3, v4, v5] 5 T1.heap n0 Z1 VP0'1 rfl (by decide) (by decide)) hZ (hw _ (List.mem_of_getElem? (i := 13) rfl)) (hw _ (List.mem_of_getElem? (i := 4) rfl)) (by decide) (by decide)) (g := (mkF m 282 #[z0, z1, z2, z3, .val (.int (6 : Int32)), .val (.ref op), .val (.ref bz_1), .val (.int (1 : Int32))] [(.int (5 : Int32)), (.ref op), (.int (Int32.ofNat ((own_out (own_e [v0, v1, v2, v3, v4, v5]) (6 - 1) 1 0 (List.replicate 6 0)).getD 4 0)))])) rfl (by rw [hml]; rfl) (argsL := [(.ref op), (.int (5 : Int32))]) (rest := [(.int (Int32.ofNat ((own_out (own_e [v0, v1, v2, v3, v4, v5]) (6 - 1) 1 0 (List.replicate 6 0)).getD 4 0)))]) (lenOf pd_2 rfl) rfl (by show 2 * 0 + _ ≤ _; exact Nat.le_of_eq rfl) (hb hby at_282) (fun _ _ => ⟨rfl, eh22, (by decide : (((((1 + 1) + 0) + 0) + 0) + 0) + 0 ≤ _), (by decide : (((((6 + 6) + 0) + 0) + 0) + 0) + 0 ≤ _)⟩)
  dsimp only [Pt.U, Pt.locs, Pt.cells, Pt.slots] at X27 l27 y27 z27 st27 hQ27
  subst l27 y27 z27
  obtain ⟨rfl, Nq27, eh27⟩ := hQ27
  have N27 := Fr.app N22 Nq27
  refine own_via (G := T27.setTop (mkF m 285 #[z0, z1, z2, z3, .val (.int (6 : Int32)), .val (.ref op), .val (.ref bz_1), .val (.int (1 : Int32))] [(.int (Int32.ofNat (own_bd5 (own_e [v0, v1, v2, v3, v4, v5]) 5))), (.int (Int32.ofNat ((own_out (own_e [v0, v1, v2, v3, v4, v5]) (6 - 1) 1 0 (List.replicate 6 0)).getD 4 0)))])) (fun tt kk => st27 tt kk) ?_
  have hc28_285 : (Int32.ofNat ((own_out (own_e [v0, v1, v2, v3, v4, v5]) (6 - 1) 1 0 (List.replicate 6 0)).getD 4 0)) = (Int32.ofNat (own_bd5 (own_e [v0, v1, v2, v3, v4, v5]) 5)) := congrArg Int32.ofNat (own_law [v0, v1, v2, v3, v4, v5] (Nat.le_of_ble_eq_true rfl) 4 (Nat.le_of_ble_eq_true rfl))
  refine own_via (G := T27.setTop (mkF m 288 #[z0, z1, z2, z3, .val (.int (6 : Int32)), .val (.ref op), .val (.ref bz_1), .val (.int (1 : Int32))] [])) (fun tt kk => XS.icmpNo X27.here hx rfl (hb hby at_285) rfl (XT.ii_ne_f hc28_285) kk) ?_
  refine own_via (G := T27.setTop (mkF m 289 #[z0, z1, z2, z3, .val (.int (6 : Int32)), .val (.ref op), .val (.ref bz_1), .val (.int (1 : Int32))] [(.int (1 : Int32))])) (fun tt kk => XS.iconst X27.here hx rfl (hb hby at_288) kk) ?_
  refine own_via (G := T27.setTop (mkF m 293 #[z0, z1, z2, z3, .val (.int (6 : Int32)), .val (.ref op), .val (.ref bz_1), .val (.int (1 : Int32))] [(.int (1 : Int32))])) (fun tt kk => XS.goto X27.here hx rfl (pc0 := 289) (pc' := 293) rfl (hb hby at_289) (by decide) (by decide) kk) ?_
  refine own_via (G := T27.setTop (mkF m 295 #[z0, z1, z2, z3, .val (.int (6 : Int32)), .val (.ref op), .val (.ref bz_1), .val (.int (1 : Int32))] [])) (fun tt kk => XS.istore X27.here hx rfl (hb hby at_293) rfl (l' := #[z0, z1, z2, z3, .val (.int (6 : Int32)), .val (.ref op), .val (.ref bz_1), .val (.int (1 : Int32))]) rfl kk) ?_
  refine own_via (G := T27.setTop (mkF m 297 #[z0, z1, z2, z3, .val (.int (6 : Int32)), .val (.ref op), .val (.ref bz_1), .val (.int (1 : Int32))] [(.int (6 : Int32))])) (fun tt kk => XS.iload X27.here hx rfl (hb hby at_295) rfl kk) ?_
  refine own_via (G := T27.setTop (mkF m 298 #[z0, z1, z2, z3, .val (.int (6 : Int32)), .val (.ref op), .val (.ref bz_1), .val (.int (1 : Int32))] [(.int (5 : Int32)), (.int (6 : Int32))])) (fun tt kk => XS.iconst X27.here hx rfl (hb hby at_297) kk) ?_
  have hc29_298 : (5 : Int32) < (6 : Int32) := (by decide)
  refine own_via (G := T27.setTop (mkF m 301 #[z0, z1, z2, z3, .val (.int (6 : Int32)), .val (.ref op), .val (.ref bz_1), .val (.int (1 : Int32))] [])) (fun tt kk => XS.icmpNo X27.here hx rfl (hb hby at_298) rfl (XT.ii_le_f hc29_298) kk) ?_
  refine own_via (G := T27.setTop (mkF m 303 #[z0, z1, z2, z3, .val (.int (6 : Int32)), .val (.ref op), .val (.ref bz_1), .val (.int (1 : Int32))] [(.int (1 : Int32))])) (fun tt kk => XS.iload X27.here hx rfl (hb hby at_301) rfl kk) ?_
  have hc30_303 : ¬ ((1 : Int32) = (0 : Int32)) := (by decide)
  refine own_via (G := T27.setTop (mkF m 306 #[z0, z1, z2, z3, .val (.int (6 : Int32)), .val (.ref op), .val (.ref bz_1), .val (.int (1 : Int32))] [])) (fun tt kk => XS.ifNo X27.here hx rfl (hb hby at_303) rfl (XT.i0_eq_f hc30_303) kk) ?_
  refine own_via (G := T27.setTop (mkF m 308 #[z0, z1, z2, z3, .val (.int (6 : Int32)), .val (.ref op), .val (.ref bz_1), .val (.int (1 : Int32))] [(.ref bz_1)])) (fun tt kk => XS.aload X27.here hx rfl (hb hby at_306) rfl rfl kk) ?_
  refine own_via (G := T27.setTop (mkF m 309 #[z0, z1, z2, z3, .val (.int (6 : Int32)), .val (.ref op), .val (.ref bz_1), .val (.int (1 : Int32))] [(.int (5 : Int32)), (.ref bz_1)])) (fun tt kk => XS.iconst X27.here hx rfl (hb hby at_308) kk) ?_
  obtain ⟨cl31, Ar31, qc31, S31, NN31, H31, G31⟩ := id P0_1
  have in31 := inb_of (j := (5 : Int32)) S31 (own_inb (i := 5) (by decide) (by decide))
  have hat31 : cl31.slots[((5 : Int32)).toNatClampNeg]? = some (.int (Int32.ofNat ((own_out (own_e [v0, v1, v2, v3, v4, v5]) (6 - 1) 1 0 (List.replicate 6 0)).getD 5 0))) := H31.at in31 (own_fget (own_out (own_e [v0, v1, v2, v3, v4, v5]) (6 - 1) 1 0 (List.replicate 6 0)) (i := 5) (by decide))
  refine own_via (G := T27.setTop (mkF m 310 #[z0, z1, z2, z3, .val (.int (6 : Int32)), .val (.ref op), .val (.ref bz_1), .val (.int (1 : Int32))] [(.int (Int32.ofNat ((own_out (own_e [v0, v1, v2, v3, v4, v5]) (6 - 1) 1 0 (List.replicate 6 0)).getD 5 0)))])) (fun tt kk => X27.iaload hx (j := (5 : Int32)) (v := (.int (Int32.ofNat ((own_out (own_e [v0, v1, v2, v3, v4, v5]) (6 - 1) 1 0 (List.replicate 6 0)).getD 5 0)))) (own_eqh eh27 Ar31.1) (State.isArrayOf_alike hZ.alike Ar31.2.1) Ar31.2.2 in31 hat31 (g := (mkF m 309 #[z0, z1, z2, z3, .val (.int (6 : Int32)), .val (.ref op), .val (.ref bz_1), .val (.int (1 : Int32))] [(.int (5 : Int32)), (.ref bz_1)])) rfl rfl (hb hby at_309) tt kk) ?_
  refine own_via (G := T27.setTop (mkF m 312 #[z0, z1, z2, z3, .val (.int (6 : Int32)), .val (.ref op), .val (.ref bz_1), .val (.int (1 : Int32))] [(.ref op), (.int (Int32.ofNat ((own_out (own_e [v0, v1, v2, v3, v4, v5]) (6 - 1) 1 0 (List.replicate 6 0)).getD 5 0)))])) (fun tt kk => XS.aload X27.here hx rfl (hb hby at_310) rfl rfl kk) ?_
  refine own_via (G := T27.setTop (mkF m 314 #[z0, z1, z2, z3, .val (.int (6 : Int32)), .val (.ref op), .val (.ref bz_1), .val (.int (1 : Int32))] [(.int (6 : Int32)), (.ref op), (.int (Int32.ofNat ((own_out (own_e [v0, v1, v2, v3, v4, v5]) (6 - 1) 1 0 (List.replicate 6 0)).getD 5 0)))])) (fun tt kk => XS.bipush X27.here hx rfl (hb hby at_312) kk) ?_
  obtain ⟨_, _, ⟨T32, L32, k32, n32⟩, -, X32, ⟨Lc32, hQ32, l32, y32, z32⟩, st32⟩ := Jvm.LawKit.callS X27 hx (y := (⟨"com/example/clew/clew/KnuthMorrisPrattFailureFunctionPinLaw", "border", "([BI)I"⟩ : MethodName)) hown (mvT hZ (hw _ (List.mem_of_getElem? (i := 11) rfl))) (mvT hZ (hw _ (List.mem_of_getElem? (i := 12) rfl))) (mvT hZ (hw _ (List.mem_of_getElem? (i := 4) rfl))) (mvT hZ (hw _ (List.mem_of_getElem? (i := 13) rfl))) (by decide) (backOf (W := 1) (rm3 l Z a0 hw [] op kp 6 [v0, v1, v2, v3, v4, v5] 6 T1.heap n0 Z1 VP0'1 rfl (by decide) (by decide)) hZ (hw _ (List.mem_of_getElem? (i := 13) rfl)) (hw _ (List.mem_of_getElem? (i := 4) rfl)) (by decide) (by decide)) (g := (mkF m 314 #[z0, z1, z2, z3, .val (.int (6 : Int32)), .val (.ref op), .val (.ref bz_1), .val (.int (1 : Int32))] [(.int (6 : Int32)), (.ref op), (.int (Int32.ofNat ((own_out (own_e [v0, v1, v2, v3, v4, v5]) (6 - 1) 1 0 (List.replicate 6 0)).getD 5 0)))])) rfl (by rw [hml]; rfl) (argsL := [(.ref op), (.int (6 : Int32))]) (rest := [(.int (Int32.ofNat ((own_out (own_e [v0, v1, v2, v3, v4, v5]) (6 - 1) 1 0 (List.replicate 6 0)).getD 5 0)))]) (lenOf pd_2 rfl) rfl (by show 2 * 0 + _ ≤ _; exact Nat.le_of_eq rfl) (hb hby at_314) (fun _ _ => ⟨rfl, eh27, (by decide : ((((((1 + 1) + 0) + 0) + 0) + 0) + 0) + 0 ≤ _), (by decide : ((((((6 + 6) + 0) + 0) + 0) + 0) + 0) + 0 ≤ _)⟩)
  dsimp only [Pt.U, Pt.locs, Pt.cells, Pt.slots] at X32 l32 y32 z32 st32 hQ32
  subst l32 y32 z32
  obtain ⟨rfl, Nq32, eh32⟩ := hQ32
  have N32 := Fr.app N27 Nq32
  refine own_via (G := T32.setTop (mkF m 317 #[z0, z1, z2, z3, .val (.int (6 : Int32)), .val (.ref op), .val (.ref bz_1), .val (.int (1 : Int32))] [(.int (Int32.ofNat (own_bd5 (own_e [v0, v1, v2, v3, v4, v5]) 6))), (.int (Int32.ofNat ((own_out (own_e [v0, v1, v2, v3, v4, v5]) (6 - 1) 1 0 (List.replicate 6 0)).getD 5 0)))])) (fun tt kk => st32 tt kk) ?_
  have hc33_317 : (Int32.ofNat ((own_out (own_e [v0, v1, v2, v3, v4, v5]) (6 - 1) 1 0 (List.replicate 6 0)).getD 5 0)) = (Int32.ofNat (own_bd5 (own_e [v0, v1, v2, v3, v4, v5]) 6)) := congrArg Int32.ofNat (own_law [v0, v1, v2, v3, v4, v5] (Nat.le_of_ble_eq_true rfl) 5 (Nat.le_of_ble_eq_true rfl))
  refine own_via (G := T32.setTop (mkF m 320 #[z0, z1, z2, z3, .val (.int (6 : Int32)), .val (.ref op), .val (.ref bz_1), .val (.int (1 : Int32))] [])) (fun tt kk => XS.icmpNo X32.here hx rfl (hb hby at_317) rfl (XT.ii_ne_f hc33_317) kk) ?_
  refine own_via (G := T32.setTop (mkF m 321 #[z0, z1, z2, z3, .val (.int (6 : Int32)), .val (.ref op), .val (.ref bz_1), .val (.int (1 : Int32))] [(.int (1 : Int32))])) (fun tt kk => XS.iconst X32.here hx rfl (hb hby at_320) kk) ?_
  refine own_via (G := T32.setTop (mkF m 325 #[z0, z1, z2, z3, .val (.int (6 : Int32)), .val (.ref op), .val (.ref bz_1), .val (.int (1 : Int32))] [(.int (1 : Int32))])) (fun tt kk => XS.goto X32.here hx rfl (pc0 := 321) (pc' := 325) rfl (hb hby at_321) (by decide) (by decide) kk) ?_
  refine own_via (G := T32.setTop (mkF m 327 #[z0, z1, z2, z3, .val (.int (6 : Int32)), .val (.ref op), .val (.ref bz_1), .val (.int (1 : Int32))] [])) (fun tt kk => XS.istore X32.here hx rfl (hb hby at_325) rfl (l' := #[z0, z1, z2, z3, .val (.int (6 : Int32)), .val (.ref op), .val (.ref bz_1), .val (.int (1 : Int32))]) rfl kk) ?_
  refine own_via (G := T32.setTop (mkF m 329 #[z0, z1, z2, z3, .val (.int (6 : Int32)), .val (.ref op), .val (.ref bz_1), .val (.int (1 : Int32))] [(.int (1 : Int32))])) (fun tt kk => XS.iload X32.here hx rfl (hb hby at_327) rfl kk) ?_
  exact own_fin X32 eh32 (v := some (.int (1 : Int32))) (fun h => by rw [hret] at h; cases h) hlk (fun fs hr => retN X32 hx (t := .boolean) hret (by simp) (hb hby at_329) hr) (show ((fun (v : Option Value) (h : Heap) (L : List Loc) => v = some (.int (1 : Int32)) ∧ Fr n0 L)) (some (.int (1 : Int32))) T1.heap _ from ⟨rfl, N32⟩) (by decide) (by decide)
def Q0 (Z : State) (is : Int32) (ix : Int32) (iy : Int32) (il : Int32) (h0 : Heap) (n0 : Nat) (v : Option Value) (h : Heap) (L : List Loc) : Prop := v = some (.int (1 : Int32)) ∧ Fr n0 L
theorem pd_3 : parseMethodDescriptor "(IIII)B" = some ⟨[.int, .int, .int, .int], some .byte⟩ := by decide +kernel
set_option maxRecDepth 65536 in
set_option maxHeartbeats 40000000 in
theorem b0 {p : Program} {l : Launch} {e : Env} {s : State} {m : MethodId} {args : Array Value} {below : List Frame} {meth : Method} {c : Code} {T0 : State} {locs : List Loc} {Z : State} {a0 : Array Value} {h0 : Heap} {n0 : Nat} (is : Int32) (ix : Int32) (iy : Int32) (il : Int32)
    (C : own_C p s m meth c Z a0 code maxLocals "com/example/clew/clew/KnuthMorrisPrattFailureFunctionPinLaw" ret "law") (X0 : Stand p l e room_1 s m args below meth c T0 locs 0 0) (e0 : T0.heap = h0) (Z0 : n0 ≤ h0.size) (N0 : Fr n0 locs) :
    own_Go p.tables e below (T0.setTop (mkF m 0 #[.val (.int is), .val (.int ix), .val (.int iy), .val (.int il), .unset, .unset, .unset, .unset] [])) (own_K s (fun (v : Option Value) (h : Heap) (L : List Loc) => Q0 Z is ix iy il h0 n0 v h L) room_1.cells room_1.slots) := by
  obtain ⟨hx, hZ, hw, hby, hml, hown, hret, hlk, hnm⟩ := C
  refine own_via (G := T0.setTop (mkF m 1 #[.val (.int is), .val (.int ix), .val (.int iy), .val (.int il), .unset, .unset, .unset, .unset] [(.int il)])) (fun tt kk => XS.iloadN X0.here hx rfl (hb hby at_0) rfl kk) ?_
  refine own_via (G := T0.setTop (mkF m 3 #[.val (.int is), .val (.int ix), .val (.int iy), .val (.int il), .unset, .unset, .unset, .unset] [(.int (2147483647 : Int32)), (.int il)])) (fun tt kk => X0.ldcI hx hown (mvT hZ (hw _ (List.mem_of_getElem? (i := 0) rfl))) (g := (mkF m 1 #[.val (.int is), .val (.int ix), .val (.int iy), .val (.int il), .unset, .unset, .unset, .unset] [(.int il)])) rfl (hb hby at_1) kk) ?_
  refine own_via (G := T0.setTop (mkF m 4 #[.val (.int is), .val (.int ix), .val (.int iy), .val (.int il), .unset, .unset, .unset, .unset] [(.int (il &&& (2147483647 : Int32)))])) (fun tt kk => XS.iand X0.here hx rfl (hb hby at_3) rfl kk) ?_
  refine own_via (G := T0.setTop (mkF m 6 #[.val (.int is), .val (.int ix), .val (.int iy), .val (.int il), .unset, .unset, .unset, .unset] [(.int (7 : Int32)), (.int (il &&& (2147483647 : Int32)))])) (fun tt kk => XS.bipush X0.here hx rfl (hb hby at_4) kk) ?_
  refine own_via (G := T0.setTop (mkF m 7 #[.val (.int is), .val (.int ix), .val (.int iy), .val (.int il), .unset, .unset, .unset, .unset] [(.int ((il &&& (2147483647 : Int32)) % (7 : Int32)))])) (fun tt kk => iremM X0 hx rfl (hb hby at_6) rfl (by decide) kk) ?_
  refine own_via (G := T0.setTop (mkF m 9 #[.val (.int is), .val (.int ix), .val (.int iy), .val (.int il), .val (.int ((il &&& (2147483647 : Int32)) % (7 : Int32))), .unset, .unset, .unset] [])) (fun tt kk => XS.istore X0.here hx rfl (hb hby at_7) rfl (l' := #[.val (.int is), .val (.int ix), .val (.int iy), .val (.int il), .val (.int ((il &&& (2147483647 : Int32)) % (7 : Int32))), .unset, .unset, .unset]) rfl kk) ?_
  rcases own_seven il with hN | hN | hN | hN | hN | hN | hN
  · rw [hN]
    refine own_via (G := T0.setTop (mkF m 11 #[.val (.int is), .val (.int ix), .val (.int iy), .val (.int il), .val (.int (0 : Int32)), .unset, .unset, .unset] [(.int (0 : Int32))])) (fun tt kk => XS.iload X0.here hx rfl (hb hby at_9) rfl kk) ?_
    obtain ⟨T1, h1, k1, X1, e1, E1, A1, st1⟩ := newP X0 hx hZ (hw _ (List.mem_of_getElem? (i := 1) rfl)) e0 (g := (mkF m 11 #[.val (.int is), .val (.int ix), .val (.int iy), .val (.int il), .val (.int (0 : Int32)), .unset, .unset, .unset] [(.int (0 : Int32))])) rfl (hb hby at_11) rfl (by decide) (cap := 0) (by decide) (by decide) (by decide) (by decide)
    obtain ⟨b1, g1⟩ : ∃ z, z = h0.size := ⟨_, rfl⟩
    rw [← g1] at A1 st1
    have g_b1 : n0 ≤ b1 := Nat.le_trans Z0 (Nat.le_of_eq g1.symm)
    have Z1 : n0 ≤ h1.size := Nat.le_trans Z0 E1.1
    have V_b1 : Arv Z h1 b1 k1 .byte (0 : Int32) [] (.int (0 : Int32)) := (Arv.new A1 (by decide)).pad (pad_rep [] (.int (0 : Int32)) 0)
    refine own_via (G := T1.setTop (mkF m 13 #[.val (.int is), .val (.int ix), .val (.int iy), .val (.int il), .val (.int (0 : Int32)), .unset, .unset, .unset] [(.ref b1)])) (fun tt kk => st1 tt kk) ?_
    refine own_via (G := T1.setTop (mkF m 15 #[.val (.int is), .val (.int ix), .val (.int iy), .val (.int il), .val (.int (0 : Int32)), .val (.ref b1), .unset, .unset] [])) (fun tt kk => XS.astore X1.here hx rfl (hb hby at_13) rfl rfl (l' := #[.val (.int is), .val (.int ix), .val (.int iy), .val (.int il), .val (.int (0 : Int32)), .val (.ref b1), .unset, .unset]) rfl kk) ?_
    refine own_via (G := T1.setTop (mkF m 17 #[.val (.int is), .val (.int ix), .val (.int iy), .val (.int il), .val (.int (0 : Int32)), .val (.ref b1), .unset, .unset] [(.int (0 : Int32))])) (fun tt kk => XS.iload X1.here hx rfl (hb hby at_15) rfl kk) ?_
    have hc2_17 : ¬ ((0 : Int32) < (0 : Int32)) := (by decide)
    refine own_via (G := T1.setTop (mkF m 31 #[.val (.int is), .val (.int ix), .val (.int iy), .val (.int il), .val (.int (0 : Int32)), .val (.ref b1), .unset, .unset] [])) (fun tt kk => XS.ifYes X1.here hx rfl (pc0 := 17) (pc' := 31) rfl (hb hby at_17) rfl (XT.i0_le_t hc2_17) (by decide) (by decide) kk) ?_
    refine own_via (G := T1.setTop (mkF m 33 #[.val (.int is), .val (.int ix), .val (.int iy), .val (.int il), .val (.int (0 : Int32)), .val (.ref b1), .unset, .unset] [(.int (0 : Int32))])) (fun tt kk => XS.iload X1.here hx rfl (hb hby at_31) rfl kk) ?_
    refine own_via (G := T1.setTop (mkF m 34 #[.val (.int is), .val (.int ix), .val (.int iy), .val (.int il), .val (.int (0 : Int32)), .val (.ref b1), .unset, .unset] [(.int (1 : Int32)), (.int (0 : Int32))])) (fun tt kk => XS.iconst X1.here hx rfl (hb hby at_33) kk) ?_
    have hc3_34 : ¬ ((1 : Int32) < (0 : Int32)) := (by decide)
    refine own_via (G := T1.setTop (mkF m 48 #[.val (.int is), .val (.int ix), .val (.int iy), .val (.int il), .val (.int (0 : Int32)), .val (.ref b1), .unset, .unset] [])) (fun tt kk => XS.icmpYes X1.here hx rfl (pc0 := 34) (pc' := 48) rfl (hb hby at_34) rfl (XT.ii_le_t hc3_34) (by decide) (by decide) kk) ?_
    refine own_via (G := T1.setTop (mkF m 50 #[.val (.int is), .val (.int ix), .val (.int iy), .val (.int il), .val (.int (0 : Int32)), .val (.ref b1), .unset, .unset] [(.int (0 : Int32))])) (fun tt kk => XS.iload X1.here hx rfl (hb hby at_48) rfl kk) ?_
    refine own_via (G := T1.setTop (mkF m 51 #[.val (.int is), .val (.int ix), .val (.int iy), .val (.int il), .val (.int (0 : Int32)), .val (.ref b1), .unset, .unset] [(.int (2 : Int32)), (.int (0 : Int32))])) (fun tt kk => XS.iconst X1.here hx rfl (hb hby at_50) kk) ?_
    have hc4_51 : ¬ ((2 : Int32) < (0 : Int32)) := (by decide)
    refine own_via (G := T1.setTop (mkF m 65 #[.val (.int is), .val (.int ix), .val (.int iy), .val (.int il), .val (.int (0 : Int32)), .val (.ref b1), .unset, .unset] [])) (fun tt kk => XS.icmpYes X1.here hx rfl (pc0 := 51) (pc' := 65) rfl (hb hby at_51) rfl (XT.ii_le_t hc4_51) (by decide) (by decide) kk) ?_
    refine own_via (G := T1.setTop (mkF m 67 #[.val (.int is), .val (.int ix), .val (.int iy), .val (.int il), .val (.int (0 : Int32)), .val (.ref b1), .unset, .unset] [(.int (0 : Int32))])) (fun tt kk => XS.iload X1.here hx rfl (hb hby at_65) rfl kk) ?_
    refine own_via (G := T1.setTop (mkF m 68 #[.val (.int is), .val (.int ix), .val (.int iy), .val (.int il), .val (.int (0 : Int32)), .val (.ref b1), .unset, .unset] [(.int (3 : Int32)), (.int (0 : Int32))])) (fun tt kk => XS.iconst X1.here hx rfl (hb hby at_67) kk) ?_
    have hc5_68 : ¬ ((3 : Int32) < (0 : Int32)) := (by decide)
    refine own_via (G := T1.setTop (mkF m 82 #[.val (.int is), .val (.int ix), .val (.int iy), .val (.int il), .val (.int (0 : Int32)), .val (.ref b1), .unset, .unset] [])) (fun tt kk => XS.icmpYes X1.here hx rfl (pc0 := 68) (pc' := 82) rfl (hb hby at_68) rfl (XT.ii_le_t hc5_68) (by decide) (by decide) kk) ?_
    refine own_via (G := T1.setTop (mkF m 84 #[.val (.int is), .val (.int ix), .val (.int iy), .val (.int il), .val (.int (0 : Int32)), .val (.ref b1), .unset, .unset] [(.int (0 : Int32))])) (fun tt kk => XS.iload X1.here hx rfl (hb hby at_82) rfl kk) ?_
    refine own_via (G := T1.setTop (mkF m 85 #[.val (.int is), .val (.int ix), .val (.int iy), .val (.int il), .val (.int (0 : Int32)), .val (.ref b1), .unset, .unset] [(.int (4 : Int32)), (.int (0 : Int32))])) (fun tt kk => XS.iconst X1.here hx rfl (hb hby at_84) kk) ?_
    have hc6_85 : ¬ ((4 : Int32) < (0 : Int32)) := (by decide)
    refine own_via (G := T1.setTop (mkF m 99 #[.val (.int is), .val (.int ix), .val (.int iy), .val (.int il), .val (.int (0 : Int32)), .val (.ref b1), .unset, .unset] [])) (fun tt kk => XS.icmpYes X1.here hx rfl (pc0 := 85) (pc' := 99) rfl (hb hby at_85) rfl (XT.ii_le_t hc6_85) (by decide) (by decide) kk) ?_
    refine own_via (G := T1.setTop (mkF m 101 #[.val (.int is), .val (.int ix), .val (.int iy), .val (.int il), .val (.int (0 : Int32)), .val (.ref b1), .unset, .unset] [(.int (0 : Int32))])) (fun tt kk => XS.iload X1.here hx rfl (hb hby at_99) rfl kk) ?_
    refine own_via (G := T1.setTop (mkF m 102 #[.val (.int is), .val (.int ix), .val (.int iy), .val (.int il), .val (.int (0 : Int32)), .val (.ref b1), .unset, .unset] [(.int (5 : Int32)), (.int (0 : Int32))])) (fun tt kk => XS.iconst X1.here hx rfl (hb hby at_101) kk) ?_
    have hc7_102 : ¬ ((5 : Int32) < (0 : Int32)) := (by decide)
    refine own_via (G := T1.setTop (mkF m 116 #[.val (.int is), .val (.int ix), .val (.int iy), .val (.int il), .val (.int (0 : Int32)), .val (.ref b1), .unset, .unset] [])) (fun tt kk => XS.icmpYes X1.here hx rfl (pc0 := 102) (pc' := 116) rfl (hb hby at_102) rfl (XT.ii_le_t hc7_102) (by decide) (by decide) kk) ?_
    exact b0_116_0 (.val (.int is)) (.val (.int ix)) (.val (.int iy)) (.val (.int il)) b1 k1  ⟨hx, hZ, hw, hby, hml, hown, hret, hlk, hnm⟩ X1 e1 Z1 N0 V_b1 g_b1
  · rw [hN]
    refine own_via (G := T0.setTop (mkF m 11 #[.val (.int is), .val (.int ix), .val (.int iy), .val (.int il), .val (.int (1 : Int32)), .unset, .unset, .unset] [(.int (1 : Int32))])) (fun tt kk => XS.iload X0.here hx rfl (hb hby at_9) rfl kk) ?_
    obtain ⟨T8, h8, k8, X8, e8, E8, A8, st8⟩ := newP X0 hx hZ (hw _ (List.mem_of_getElem? (i := 1) rfl)) e0 (g := (mkF m 11 #[.val (.int is), .val (.int ix), .val (.int iy), .val (.int il), .val (.int (1 : Int32)), .unset, .unset, .unset] [(.int (1 : Int32))])) rfl (hb hby at_11) rfl (by decide) (cap := 1) (by decide) (by decide) (by decide) (by decide)
    obtain ⟨b8, g8⟩ : ∃ z, z = h0.size := ⟨_, rfl⟩
    rw [← g8] at A8 st8
    have g_b8 : n0 ≤ b8 := Nat.le_trans Z0 (Nat.le_of_eq g8.symm)
    have Z8 : n0 ≤ h8.size := Nat.le_trans Z0 E8.1
    have V_b8 : Arv Z h8 b8 k8 .byte (1 : Int32) [(.int (0 : Int32))] (.int (0 : Int32)) := (Arv.new A8 (by decide)).pad (pad_rep [] (.int (0 : Int32)) 1)
    refine own_via (G := T8.setTop (mkF m 13 #[.val (.int is), .val (.int ix), .val (.int iy), .val (.int il), .val (.int (1 : Int32)), .unset, .unset, .unset] [(.ref b8)])) (fun tt kk => st8 tt kk) ?_
    refine own_via (G := T8.setTop (mkF m 15 #[.val (.int is), .val (.int ix), .val (.int iy), .val (.int il), .val (.int (1 : Int32)), .val (.ref b8), .unset, .unset] [])) (fun tt kk => XS.astore X8.here hx rfl (hb hby at_13) rfl rfl (l' := #[.val (.int is), .val (.int ix), .val (.int iy), .val (.int il), .val (.int (1 : Int32)), .val (.ref b8), .unset, .unset]) rfl kk) ?_
    refine own_via (G := T8.setTop (mkF m 17 #[.val (.int is), .val (.int ix), .val (.int iy), .val (.int il), .val (.int (1 : Int32)), .val (.ref b8), .unset, .unset] [(.int (1 : Int32))])) (fun tt kk => XS.iload X8.here hx rfl (hb hby at_15) rfl kk) ?_
    have hc9_17 : (0 : Int32) < (1 : Int32) := (by decide)
    refine own_via (G := T8.setTop (mkF m 20 #[.val (.int is), .val (.int ix), .val (.int iy), .val (.int il), .val (.int (1 : Int32)), .val (.ref b8), .unset, .unset] [])) (fun tt kk => XS.ifNo X8.here hx rfl (hb hby at_17) rfl (XT.i0_le_f hc9_17) kk) ?_
    refine own_via (G := T8.setTop (mkF m 22 #[.val (.int is), .val (.int ix), .val (.int iy), .val (.int il), .val (.int (1 : Int32)), .val (.ref b8), .unset, .unset] [(.ref b8)])) (fun tt kk => XS.aload X8.here hx rfl (hb hby at_20) rfl rfl kk) ?_
    refine own_via (G := T8.setTop (mkF m 23 #[.val (.int is), .val (.int ix), .val (.int iy), .val (.int il), .val (.int (1 : Int32)), .val (.ref b8), .unset, .unset] [(.int (0 : Int32)), (.ref b8)])) (fun tt kk => XS.iconst X8.here hx rfl (hb hby at_22) kk) ?_
    refine own_via (G := T8.setTop (mkF m 24 #[.val (.int is), .val (.int ix), .val (.int iy), .val (.int il), .val (.int (1 : Int32)), .val (.ref b8), .unset, .unset] [(.int is), (.int (0 : Int32)), (.ref b8)])) (fun tt kk => XS.iloadN X8.here hx rfl (hb hby at_23) rfl kk) ?_
    refine own_via (G := T8.setTop (mkF m 25 #[.val (.int is), .val (.int ix), .val (.int iy), .val (.int il), .val (.int (1 : Int32)), .val (.ref b8), .unset, .unset] [(.int (0 : Int32)), (.int is), (.int (0 : Int32)), (.ref b8)])) (fun tt kk => XS.iconst X8.here hx rfl (hb hby at_24) kk) ?_
    refine own_via (G := T8.setTop (mkF m 26 #[.val (.int is), .val (.int ix), .val (.int iy), .val (.int il), .val (.int (1 : Int32)), .val (.ref b8), .unset, .unset] [(.int ix), (.int (0 : Int32)), (.int is), (.int (0 : Int32)), (.ref b8)])) (fun tt kk => XS.iloadN X8.here hx rfl (hb hby at_25) rfl kk) ?_
    refine own_via (G := T8.setTop (mkF m 27 #[.val (.int is), .val (.int ix), .val (.int iy), .val (.int il), .val (.int (1 : Int32)), .val (.ref b8), .unset, .unset] [(.int iy), (.int ix), (.int (0 : Int32)), (.int is), (.int (0 : Int32)), (.ref b8)])) (fun tt kk => XS.iloadN X8.here hx rfl (hb hby at_26) rfl kk) ?_
    obtain ⟨_, _, ⟨T10, L10, k10, n10⟩, -, X10, ⟨Lc10, hQ10, l10, y10, z10⟩, st10⟩ := Jvm.LawKit.callS X8 hx (y := (⟨"com/example/clew/clew/KnuthMorrisPrattFailureFunctionPinLaw", "pick", "(IIII)B"⟩ : MethodName)) hown (mvT hZ (hw _ (List.mem_of_getElem? (i := 2) rfl))) (mvT hZ (hw _ (List.mem_of_getElem? (i := 3) rfl))) (mvT hZ (hw _ (List.mem_of_getElem? (i := 4) rfl))) (mvT hZ (hw _ (List.mem_of_getElem? (i := 5) rfl))) (by decide) (backOf (W := 2) (rm1 l Z a0 hw [] is (0 : Int32) ix iy h8 n0 Z8) hZ (hw _ (List.mem_of_getElem? (i := 5) rfl)) (hw _ (List.mem_of_getElem? (i := 4) rfl)) (by decide) (by decide)) (g := (mkF m 27 #[.val (.int is), .val (.int ix), .val (.int iy), .val (.int il), .val (.int (1 : Int32)), .val (.ref b8), .unset, .unset] [(.int iy), (.int ix), (.int (0 : Int32)), (.int is), (.int (0 : Int32)), (.ref b8)])) rfl (by rw [hml]; rfl) (argsL := [(.int is), (.int (0 : Int32)), (.int ix), (.int iy)]) (rest := [(.int (0 : Int32)), (.ref b8)]) (lenOf pd_3 rfl) rfl (by show 2 * 0 + _ ≤ _; exact Nat.le_of_eq rfl) (hb hby at_27) (fun _ _ => ⟨rfl, e8, (by decide : (0 + 1) + 0 ≤ _), (by decide : (0 + 1) + 0 ≤ _)⟩)
    dsimp only [Pt.U, Pt.locs, Pt.cells, Pt.slots] at X10 l10 y10 z10 st10 hQ10
    subst l10 y10 z10
    obtain ⟨rfl, Nq10, eh10⟩ := hQ10
    have N10 := Fr.app N0 Nq10
    refine own_via (G := T10.setTop (mkF m 30 #[.val (.int is), .val (.int ix), .val (.int iy), .val (.int il), .val (.int (1 : Int32)), .val (.ref b8), .unset, .unset] [(.int (own_pk is (0 : Int32) ix iy)), (.int (0 : Int32)), (.ref b8)])) (fun tt kk => st10 tt kk) ?_
    obtain ⟨cl11, Ar11, qc11, S11, NN11, H11, G11⟩ := id V_b8
    obtain ⟨T11, h11, X11, e11, W11, st11⟩ := stB X10 hx hZ eh10 Ar11 (j := (0 : Int32)) (inb_of S11 ⟨by decide, by decide⟩) (g := (mkF m 30 #[.val (.int is), .val (.int ix), .val (.int iy), .val (.int il), .val (.int (1 : Int32)), .val (.ref b8), .unset, .unset] [(.int (own_pk is (0 : Int32) ix iy)), (.int (0 : Int32)), (.ref b8)])) rfl rfl (hb hby at_30)
    have V_b8'11 : Arv Z h11 b8 k8 .byte (1 : Int32) [(.int (nar .byte (own_pk is (0 : Int32) ix iy)))] (.int (0 : Int32)) := Arv.set Ar11 qc11 S11 NN11 H11 G11 (fits_nar_byte _) W11 0 rfl (Nat.le_of_ble_eq_true rfl)
    have N11 := Fr.snoc X11 N10 g_b8
    have Z11 : n0 ≤ h11.size := Nat.le_trans Z8 (Keep.of_wr W11).1
    refine own_via (G := T11.setTop (mkF m 31 #[.val (.int is), .val (.int ix), .val (.int iy), .val (.int il), .val (.int (1 : Int32)), .val (.ref b8), .unset, .unset] [])) (fun tt kk => st11 tt kk) ?_
    refine own_via (G := T11.setTop (mkF m 33 #[.val (.int is), .val (.int ix), .val (.int iy), .val (.int il), .val (.int (1 : Int32)), .val (.ref b8), .unset, .unset] [(.int (1 : Int32))])) (fun tt kk => XS.iload X11.here hx rfl (hb hby at_31) rfl kk) ?_
    refine own_via (G := T11.setTop (mkF m 34 #[.val (.int is), .val (.int ix), .val (.int iy), .val (.int il), .val (.int (1 : Int32)), .val (.ref b8), .unset, .unset] [(.int (1 : Int32)), (.int (1 : Int32))])) (fun tt kk => XS.iconst X11.here hx rfl (hb hby at_33) kk) ?_
    have hc12_34 : ¬ ((1 : Int32) < (1 : Int32)) := (by decide)
    refine own_via (G := T11.setTop (mkF m 48 #[.val (.int is), .val (.int ix), .val (.int iy), .val (.int il), .val (.int (1 : Int32)), .val (.ref b8), .unset, .unset] [])) (fun tt kk => XS.icmpYes X11.here hx rfl (pc0 := 34) (pc' := 48) rfl (hb hby at_34) rfl (XT.ii_le_t hc12_34) (by decide) (by decide) kk) ?_
    refine own_via (G := T11.setTop (mkF m 50 #[.val (.int is), .val (.int ix), .val (.int iy), .val (.int il), .val (.int (1 : Int32)), .val (.ref b8), .unset, .unset] [(.int (1 : Int32))])) (fun tt kk => XS.iload X11.here hx rfl (hb hby at_48) rfl kk) ?_
    refine own_via (G := T11.setTop (mkF m 51 #[.val (.int is), .val (.int ix), .val (.int iy), .val (.int il), .val (.int (1 : Int32)), .val (.ref b8), .unset, .unset] [(.int (2 : Int32)), (.int (1 : Int32))])) (fun tt kk => XS.iconst X11.here hx rfl (hb hby at_50) kk) ?_
    have hc13_51 : ¬ ((2 : Int32) < (1 : Int32)) := (by decide)
    refine own_via (G := T11.setTop (mkF m 65 #[.val (.int is), .val (.int ix), .val (.int iy), .val (.int il), .val (.int (1 : Int32)), .val (.ref b8), .unset, .unset] [])) (fun tt kk => XS.icmpYes X11.here hx rfl (pc0 := 51) (pc' := 65) rfl (hb hby at_51) rfl (XT.ii_le_t hc13_51) (by decide) (by decide) kk) ?_
    refine own_via (G := T11.setTop (mkF m 67 #[.val (.int is), .val (.int ix), .val (.int iy), .val (.int il), .val (.int (1 : Int32)), .val (.ref b8), .unset, .unset] [(.int (1 : Int32))])) (fun tt kk => XS.iload X11.here hx rfl (hb hby at_65) rfl kk) ?_
    refine own_via (G := T11.setTop (mkF m 68 #[.val (.int is), .val (.int ix), .val (.int iy), .val (.int il), .val (.int (1 : Int32)), .val (.ref b8), .unset, .unset] [(.int (3 : Int32)), (.int (1 : Int32))])) (fun tt kk => XS.iconst X11.here hx rfl (hb hby at_67) kk) ?_
    have hc14_68 : ¬ ((3 : Int32) < (1 : Int32)) := (by decide)
    refine own_via (G := T11.setTop (mkF m 82 #[.val (.int is), .val (.int ix), .val (.int iy), .val (.int il), .val (.int (1 : Int32)), .val (.ref b8), .unset, .unset] [])) (fun tt kk => XS.icmpYes X11.here hx rfl (pc0 := 68) (pc' := 82) rfl (hb hby at_68) rfl (XT.ii_le_t hc14_68) (by decide) (by decide) kk) ?_
    refine own_via (G := T11.setTop (mkF m 84 #[.val (.int is), .val (.int ix), .val (.int iy), .val (.int il), .val (.int (1 : Int32)), .val (.ref b8), .unset, .unset] [(.int (1 : Int32))])) (fun tt kk => XS.iload X11.here hx rfl (hb hby at_82) rfl kk) ?_
    refine own_via (G := T11.setTop (mkF m 85 #[.val (.int is), .val (.int ix), .val (.int iy), .val (.int il), .val (.int (1 : Int32)), .val (.ref b8), .unset, .unset] [(.int (4 : Int32)), (.int (1 : Int32))])) (fun tt kk => XS.iconst X11.here hx rfl (hb hby at_84) kk) ?_
    have hc15_85 : ¬ ((4 : Int32) < (1 : Int32)) := (by decide)
    refine own_via (G := T11.setTop (mkF m 99 #[.val (.int is), .val (.int ix), .val (.int iy), .val (.int il), .val (.int (1 : Int32)), .val (.ref b8), .unset, .unset] [])) (fun tt kk => XS.icmpYes X11.here hx rfl (pc0 := 85) (pc' := 99) rfl (hb hby at_85) rfl (XT.ii_le_t hc15_85) (by decide) (by decide) kk) ?_
    refine own_via (G := T11.setTop (mkF m 101 #[.val (.int is), .val (.int ix), .val (.int iy), .val (.int il), .val (.int (1 : Int32)), .val (.ref b8), .unset, .unset] [(.int (1 : Int32))])) (fun tt kk => XS.iload X11.here hx rfl (hb hby at_99) rfl kk) ?_
    refine own_via (G := T11.setTop (mkF m 102 #[.val (.int is), .val (.int ix), .val (.int iy), .val (.int il), .val (.int (1 : Int32)), .val (.ref b8), .unset, .unset] [(.int (5 : Int32)), (.int (1 : Int32))])) (fun tt kk => XS.iconst X11.here hx rfl (hb hby at_101) kk) ?_
    have hc16_102 : ¬ ((5 : Int32) < (1 : Int32)) := (by decide)
    refine own_via (G := T11.setTop (mkF m 116 #[.val (.int is), .val (.int ix), .val (.int iy), .val (.int il), .val (.int (1 : Int32)), .val (.ref b8), .unset, .unset] [])) (fun tt kk => XS.icmpYes X11.here hx rfl (pc0 := 102) (pc' := 116) rfl (hb hby at_102) rfl (XT.ii_le_t hc16_102) (by decide) (by decide) kk) ?_
    exact b0_116_1 (.val (.int is)) (.val (.int ix)) (.val (.int iy)) (.val (.int il)) b8 k8 (nar .byte (own_pk is (0 : Int32) ix iy)) ⟨hx, hZ, hw, hby, hml, hown, hret, hlk, hnm⟩ X11 e11 Z11 N11 V_b8'11 g_b8
  · rw [hN]
    refine own_via (G := T0.setTop (mkF m 11 #[.val (.int is), .val (.int ix), .val (.int iy), .val (.int il), .val (.int (2 : Int32)), .unset, .unset, .unset] [(.int (2 : Int32))])) (fun tt kk => XS.iload X0.here hx rfl (hb hby at_9) rfl kk) ?_
    obtain ⟨T17, h17, k17, X17, e17, E17, A17, st17⟩ := newP X0 hx hZ (hw _ (List.mem_of_getElem? (i := 1) rfl)) e0 (g := (mkF m 11 #[.val (.int is), .val (.int ix), .val (.int iy), .val (.int il), .val (.int (2 : Int32)), .unset, .unset, .unset] [(.int (2 : Int32))])) rfl (hb hby at_11) rfl (by decide) (cap := 2) (by decide) (by decide) (by decide) (by decide)
    obtain ⟨b17, g17⟩ : ∃ z, z = h0.size := ⟨_, rfl⟩
    rw [← g17] at A17 st17
    have g_b17 : n0 ≤ b17 := Nat.le_trans Z0 (Nat.le_of_eq g17.symm)
    have Z17 : n0 ≤ h17.size := Nat.le_trans Z0 E17.1
    have V_b17 : Arv Z h17 b17 k17 .byte (2 : Int32) [(.int (0 : Int32)), (.int (0 : Int32))] (.int (0 : Int32)) := (Arv.new A17 (by decide)).pad (pad_rep [] (.int (0 : Int32)) 2)
    refine own_via (G := T17.setTop (mkF m 13 #[.val (.int is), .val (.int ix), .val (.int iy), .val (.int il), .val (.int (2 : Int32)), .unset, .unset, .unset] [(.ref b17)])) (fun tt kk => st17 tt kk) ?_
    refine own_via (G := T17.setTop (mkF m 15 #[.val (.int is), .val (.int ix), .val (.int iy), .val (.int il), .val (.int (2 : Int32)), .val (.ref b17), .unset, .unset] [])) (fun tt kk => XS.astore X17.here hx rfl (hb hby at_13) rfl rfl (l' := #[.val (.int is), .val (.int ix), .val (.int iy), .val (.int il), .val (.int (2 : Int32)), .val (.ref b17), .unset, .unset]) rfl kk) ?_
    refine own_via (G := T17.setTop (mkF m 17 #[.val (.int is), .val (.int ix), .val (.int iy), .val (.int il), .val (.int (2 : Int32)), .val (.ref b17), .unset, .unset] [(.int (2 : Int32))])) (fun tt kk => XS.iload X17.here hx rfl (hb hby at_15) rfl kk) ?_
    have hc18_17 : (0 : Int32) < (2 : Int32) := (by decide)
    refine own_via (G := T17.setTop (mkF m 20 #[.val (.int is), .val (.int ix), .val (.int iy), .val (.int il), .val (.int (2 : Int32)), .val (.ref b17), .unset, .unset] [])) (fun tt kk => XS.ifNo X17.here hx rfl (hb hby at_17) rfl (XT.i0_le_f hc18_17) kk) ?_
    refine own_via (G := T17.setTop (mkF m 22 #[.val (.int is), .val (.int ix), .val (.int iy), .val (.int il), .val (.int (2 : Int32)), .val (.ref b17), .unset, .unset] [(.ref b17)])) (fun tt kk => XS.aload X17.here hx rfl (hb hby at_20) rfl rfl kk) ?_
    refine own_via (G := T17.setTop (mkF m 23 #[.val (.int is), .val (.int ix), .val (.int iy), .val (.int il), .val (.int (2 : Int32)), .val (.ref b17), .unset, .unset] [(.int (0 : Int32)), (.ref b17)])) (fun tt kk => XS.iconst X17.here hx rfl (hb hby at_22) kk) ?_
    refine own_via (G := T17.setTop (mkF m 24 #[.val (.int is), .val (.int ix), .val (.int iy), .val (.int il), .val (.int (2 : Int32)), .val (.ref b17), .unset, .unset] [(.int is), (.int (0 : Int32)), (.ref b17)])) (fun tt kk => XS.iloadN X17.here hx rfl (hb hby at_23) rfl kk) ?_
    refine own_via (G := T17.setTop (mkF m 25 #[.val (.int is), .val (.int ix), .val (.int iy), .val (.int il), .val (.int (2 : Int32)), .val (.ref b17), .unset, .unset] [(.int (0 : Int32)), (.int is), (.int (0 : Int32)), (.ref b17)])) (fun tt kk => XS.iconst X17.here hx rfl (hb hby at_24) kk) ?_
    refine own_via (G := T17.setTop (mkF m 26 #[.val (.int is), .val (.int ix), .val (.int iy), .val (.int il), .val (.int (2 : Int32)), .val (.ref b17), .unset, .unset] [(.int ix), (.int (0 : Int32)), (.int is), (.int (0 : Int32)), (.ref b17)])) (fun tt kk => XS.iloadN X17.here hx rfl (hb hby at_25) rfl kk) ?_
    refine own_via (G := T17.setTop (mkF m 27 #[.val (.int is), .val (.int ix), .val (.int iy), .val (.int il), .val (.int (2 : Int32)), .val (.ref b17), .unset, .unset] [(.int iy), (.int ix), (.int (0 : Int32)), (.int is), (.int (0 : Int32)), (.ref b17)])) (fun tt kk => XS.iloadN X17.here hx rfl (hb hby at_26) rfl kk) ?_
    obtain ⟨_, _, ⟨T19, L19, k19, n19⟩, -, X19, ⟨Lc19, hQ19, l19, y19, z19⟩, st19⟩ := Jvm.LawKit.callS X17 hx (y := (⟨"com/example/clew/clew/KnuthMorrisPrattFailureFunctionPinLaw", "pick", "(IIII)B"⟩ : MethodName)) hown (mvT hZ (hw _ (List.mem_of_getElem? (i := 2) rfl))) (mvT hZ (hw _ (List.mem_of_getElem? (i := 3) rfl))) (mvT hZ (hw _ (List.mem_of_getElem? (i := 4) rfl))) (mvT hZ (hw _ (List.mem_of_getElem? (i := 5) rfl))) (by decide) (backOf (W := 2) (rm1 l Z a0 hw [] is (0 : Int32) ix iy h17 n0 Z17) hZ (hw _ (List.mem_of_getElem? (i := 5) rfl)) (hw _ (List.mem_of_getElem? (i := 4) rfl)) (by decide) (by decide)) (g := (mkF m 27 #[.val (.int is), .val (.int ix), .val (.int iy), .val (.int il), .val (.int (2 : Int32)), .val (.ref b17), .unset, .unset] [(.int iy), (.int ix), (.int (0 : Int32)), (.int is), (.int (0 : Int32)), (.ref b17)])) rfl (by rw [hml]; rfl) (argsL := [(.int is), (.int (0 : Int32)), (.int ix), (.int iy)]) (rest := [(.int (0 : Int32)), (.ref b17)]) (lenOf pd_3 rfl) rfl (by show 2 * 0 + _ ≤ _; exact Nat.le_of_eq rfl) (hb hby at_27) (fun _ _ => ⟨rfl, e17, (by decide : (0 + 1) + 0 ≤ _), (by decide : (0 + 2) + 0 ≤ _)⟩)
    dsimp only [Pt.U, Pt.locs, Pt.cells, Pt.slots] at X19 l19 y19 z19 st19 hQ19
    subst l19 y19 z19
    obtain ⟨rfl, Nq19, eh19⟩ := hQ19
    have N19 := Fr.app N0 Nq19
    refine own_via (G := T19.setTop (mkF m 30 #[.val (.int is), .val (.int ix), .val (.int iy), .val (.int il), .val (.int (2 : Int32)), .val (.ref b17), .unset, .unset] [(.int (own_pk is (0 : Int32) ix iy)), (.int (0 : Int32)), (.ref b17)])) (fun tt kk => st19 tt kk) ?_
    obtain ⟨cl20, Ar20, qc20, S20, NN20, H20, G20⟩ := id V_b17
    obtain ⟨T20, h20, X20, e20, W20, st20⟩ := stB X19 hx hZ eh19 Ar20 (j := (0 : Int32)) (inb_of S20 ⟨by decide, by decide⟩) (g := (mkF m 30 #[.val (.int is), .val (.int ix), .val (.int iy), .val (.int il), .val (.int (2 : Int32)), .val (.ref b17), .unset, .unset] [(.int (own_pk is (0 : Int32) ix iy)), (.int (0 : Int32)), (.ref b17)])) rfl rfl (hb hby at_30)
    have V_b17'20 : Arv Z h20 b17 k17 .byte (2 : Int32) [(.int (nar .byte (own_pk is (0 : Int32) ix iy))), (.int (0 : Int32))] (.int (0 : Int32)) := Arv.set Ar20 qc20 S20 NN20 H20 G20 (fits_nar_byte _) W20 0 rfl (Nat.le_of_ble_eq_true rfl)
    have N20 := Fr.snoc X20 N19 g_b17
    have Z20 : n0 ≤ h20.size := Nat.le_trans Z17 (Keep.of_wr W20).1
    refine own_via (G := T20.setTop (mkF m 31 #[.val (.int is), .val (.int ix), .val (.int iy), .val (.int il), .val (.int (2 : Int32)), .val (.ref b17), .unset, .unset] [])) (fun tt kk => st20 tt kk) ?_
    refine own_via (G := T20.setTop (mkF m 33 #[.val (.int is), .val (.int ix), .val (.int iy), .val (.int il), .val (.int (2 : Int32)), .val (.ref b17), .unset, .unset] [(.int (2 : Int32))])) (fun tt kk => XS.iload X20.here hx rfl (hb hby at_31) rfl kk) ?_
    refine own_via (G := T20.setTop (mkF m 34 #[.val (.int is), .val (.int ix), .val (.int iy), .val (.int il), .val (.int (2 : Int32)), .val (.ref b17), .unset, .unset] [(.int (1 : Int32)), (.int (2 : Int32))])) (fun tt kk => XS.iconst X20.here hx rfl (hb hby at_33) kk) ?_
    have hc21_34 : (1 : Int32) < (2 : Int32) := (by decide)
    refine own_via (G := T20.setTop (mkF m 37 #[.val (.int is), .val (.int ix), .val (.int iy), .val (.int il), .val (.int (2 : Int32)), .val (.ref b17), .unset, .unset] [])) (fun tt kk => XS.icmpNo X20.here hx rfl (hb hby at_34) rfl (XT.ii_le_f hc21_34) kk) ?_
    refine own_via (G := T20.setTop (mkF m 39 #[.val (.int is), .val (.int ix), .val (.int iy), .val (.int il), .val (.int (2 : Int32)), .val (.ref b17), .unset, .unset] [(.ref b17)])) (fun tt kk => XS.aload X20.here hx rfl (hb hby at_37) rfl rfl kk) ?_
    refine own_via (G := T20.setTop (mkF m 40 #[.val (.int is), .val (.int ix), .val (.int iy), .val (.int il), .val (.int (2 : Int32)), .val (.ref b17), .unset, .unset] [(.int (1 : Int32)), (.ref b17)])) (fun tt kk => XS.iconst X20.here hx rfl (hb hby at_39) kk) ?_
    refine own_via (G := T20.setTop (mkF m 41 #[.val (.int is), .val (.int ix), .val (.int iy), .val (.int il), .val (.int (2 : Int32)), .val (.ref b17), .unset, .unset] [(.int is), (.int (1 : Int32)), (.ref b17)])) (fun tt kk => XS.iloadN X20.here hx rfl (hb hby at_40) rfl kk) ?_
    refine own_via (G := T20.setTop (mkF m 42 #[.val (.int is), .val (.int ix), .val (.int iy), .val (.int il), .val (.int (2 : Int32)), .val (.ref b17), .unset, .unset] [(.int (1 : Int32)), (.int is), (.int (1 : Int32)), (.ref b17)])) (fun tt kk => XS.iconst X20.here hx rfl (hb hby at_41) kk) ?_
    refine own_via (G := T20.setTop (mkF m 43 #[.val (.int is), .val (.int ix), .val (.int iy), .val (.int il), .val (.int (2 : Int32)), .val (.ref b17), .unset, .unset] [(.int ix), (.int (1 : Int32)), (.int is), (.int (1 : Int32)), (.ref b17)])) (fun tt kk => XS.iloadN X20.here hx rfl (hb hby at_42) rfl kk) ?_
    refine own_via (G := T20.setTop (mkF m 44 #[.val (.int is), .val (.int ix), .val (.int iy), .val (.int il), .val (.int (2 : Int32)), .val (.ref b17), .unset, .unset] [(.int iy), (.int ix), (.int (1 : Int32)), (.int is), (.int (1 : Int32)), (.ref b17)])) (fun tt kk => XS.iloadN X20.here hx rfl (hb hby at_43) rfl kk) ?_
    obtain ⟨_, _, ⟨T22, L22, k22, n22⟩, -, X22, ⟨Lc22, hQ22, l22, y22, z22⟩, st22⟩ := Jvm.LawKit.callS X20 hx (y := (⟨"com/example/clew/clew/KnuthMorrisPrattFailureFunctionPinLaw", "pick", "(IIII)B"⟩ : MethodName)) hown (mvT hZ (hw _ (List.mem_of_getElem? (i := 2) rfl))) (mvT hZ (hw _ (List.mem_of_getElem? (i := 3) rfl))) (mvT hZ (hw _ (List.mem_of_getElem? (i := 4) rfl))) (mvT hZ (hw _ (List.mem_of_getElem? (i := 5) rfl))) (by decide) (backOf (W := 2) (rm1 l Z a0 hw [] is (1 : Int32) ix iy h20 n0 Z20) hZ (hw _ (List.mem_of_getElem? (i := 5) rfl)) (hw _ (List.mem_of_getElem? (i := 4) rfl)) (by decide) (by decide)) (g := (mkF m 44 #[.val (.int is), .val (.int ix), .val (.int iy), .val (.int il), .val (.int (2 : Int32)), .val (.ref b17), .unset, .unset] [(.int iy), (.int ix), (.int (1 : Int32)), (.int is), (.int (1 : Int32)), (.ref b17)])) rfl (by rw [hml]; rfl) (argsL := [(.int is), (.int (1 : Int32)), (.int ix), (.int iy)]) (rest := [(.int (1 : Int32)), (.ref b17)]) (lenOf pd_3 rfl) rfl (by show 2 * 0 + _ ≤ _; exact Nat.le_of_eq rfl) (hb hby at_44) (fun _ _ => ⟨rfl, e20, (by decide : ((0 + 1) + 0) + 0 ≤ _), (by decide : ((0 + 2) + 0) + 0 ≤ _)⟩)
    dsimp only [Pt.U, Pt.locs, Pt.cells, Pt.slots] at X22 l22 y22 z22 st22 hQ22
    subst l22 y22 z22
    obtain ⟨rfl, Nq22, eh22⟩ := hQ22
    have N22 := Fr.app N20 Nq22
    refine own_via (G := T22.setTop (mkF m 47 #[.val (.int is), .val (.int ix), .val (.int iy), .val (.int il), .val (.int (2 : Int32)), .val (.ref b17), .unset, .unset] [(.int (own_pk is (1 : Int32) ix iy)), (.int (1 : Int32)), (.ref b17)])) (fun tt kk => st22 tt kk) ?_
    obtain ⟨cl23, Ar23, qc23, S23, NN23, H23, G23⟩ := id V_b17'20
    obtain ⟨T23, h23, X23, e23, W23, st23⟩ := stB X22 hx hZ eh22 Ar23 (j := (1 : Int32)) (inb_of S23 ⟨by decide, by decide⟩) (g := (mkF m 47 #[.val (.int is), .val (.int ix), .val (.int iy), .val (.int il), .val (.int (2 : Int32)), .val (.ref b17), .unset, .unset] [(.int (own_pk is (1 : Int32) ix iy)), (.int (1 : Int32)), (.ref b17)])) rfl rfl (hb hby at_47)
    have V_b17'23 : Arv Z h23 b17 k17 .byte (2 : Int32) [(.int (nar .byte (own_pk is (0 : Int32) ix iy))), (.int (nar .byte (own_pk is (1 : Int32) ix iy)))] (.int (0 : Int32)) := Arv.set Ar23 qc23 S23 NN23 H23 G23 (fits_nar_byte _) W23 1 rfl (Nat.le_of_ble_eq_true rfl)
    have N23 := Fr.snoc X23 N22 g_b17
    have Z23 : n0 ≤ h23.size := Nat.le_trans Z20 (Keep.of_wr W23).1
    refine own_via (G := T23.setTop (mkF m 48 #[.val (.int is), .val (.int ix), .val (.int iy), .val (.int il), .val (.int (2 : Int32)), .val (.ref b17), .unset, .unset] [])) (fun tt kk => st23 tt kk) ?_
    refine own_via (G := T23.setTop (mkF m 50 #[.val (.int is), .val (.int ix), .val (.int iy), .val (.int il), .val (.int (2 : Int32)), .val (.ref b17), .unset, .unset] [(.int (2 : Int32))])) (fun tt kk => XS.iload X23.here hx rfl (hb hby at_48) rfl kk) ?_
    refine own_via (G := T23.setTop (mkF m 51 #[.val (.int is), .val (.int ix), .val (.int iy), .val (.int il), .val (.int (2 : Int32)), .val (.ref b17), .unset, .unset] [(.int (2 : Int32)), (.int (2 : Int32))])) (fun tt kk => XS.iconst X23.here hx rfl (hb hby at_50) kk) ?_
    have hc24_51 : ¬ ((2 : Int32) < (2 : Int32)) := (by decide)
    refine own_via (G := T23.setTop (mkF m 65 #[.val (.int is), .val (.int ix), .val (.int iy), .val (.int il), .val (.int (2 : Int32)), .val (.ref b17), .unset, .unset] [])) (fun tt kk => XS.icmpYes X23.here hx rfl (pc0 := 51) (pc' := 65) rfl (hb hby at_51) rfl (XT.ii_le_t hc24_51) (by decide) (by decide) kk) ?_
    refine own_via (G := T23.setTop (mkF m 67 #[.val (.int is), .val (.int ix), .val (.int iy), .val (.int il), .val (.int (2 : Int32)), .val (.ref b17), .unset, .unset] [(.int (2 : Int32))])) (fun tt kk => XS.iload X23.here hx rfl (hb hby at_65) rfl kk) ?_
    refine own_via (G := T23.setTop (mkF m 68 #[.val (.int is), .val (.int ix), .val (.int iy), .val (.int il), .val (.int (2 : Int32)), .val (.ref b17), .unset, .unset] [(.int (3 : Int32)), (.int (2 : Int32))])) (fun tt kk => XS.iconst X23.here hx rfl (hb hby at_67) kk) ?_
    have hc25_68 : ¬ ((3 : Int32) < (2 : Int32)) := (by decide)
    refine own_via (G := T23.setTop (mkF m 82 #[.val (.int is), .val (.int ix), .val (.int iy), .val (.int il), .val (.int (2 : Int32)), .val (.ref b17), .unset, .unset] [])) (fun tt kk => XS.icmpYes X23.here hx rfl (pc0 := 68) (pc' := 82) rfl (hb hby at_68) rfl (XT.ii_le_t hc25_68) (by decide) (by decide) kk) ?_
    refine own_via (G := T23.setTop (mkF m 84 #[.val (.int is), .val (.int ix), .val (.int iy), .val (.int il), .val (.int (2 : Int32)), .val (.ref b17), .unset, .unset] [(.int (2 : Int32))])) (fun tt kk => XS.iload X23.here hx rfl (hb hby at_82) rfl kk) ?_
    refine own_via (G := T23.setTop (mkF m 85 #[.val (.int is), .val (.int ix), .val (.int iy), .val (.int il), .val (.int (2 : Int32)), .val (.ref b17), .unset, .unset] [(.int (4 : Int32)), (.int (2 : Int32))])) (fun tt kk => XS.iconst X23.here hx rfl (hb hby at_84) kk) ?_
    have hc26_85 : ¬ ((4 : Int32) < (2 : Int32)) := (by decide)
    refine own_via (G := T23.setTop (mkF m 99 #[.val (.int is), .val (.int ix), .val (.int iy), .val (.int il), .val (.int (2 : Int32)), .val (.ref b17), .unset, .unset] [])) (fun tt kk => XS.icmpYes X23.here hx rfl (pc0 := 85) (pc' := 99) rfl (hb hby at_85) rfl (XT.ii_le_t hc26_85) (by decide) (by decide) kk) ?_
    refine own_via (G := T23.setTop (mkF m 101 #[.val (.int is), .val (.int ix), .val (.int iy), .val (.int il), .val (.int (2 : Int32)), .val (.ref b17), .unset, .unset] [(.int (2 : Int32))])) (fun tt kk => XS.iload X23.here hx rfl (hb hby at_99) rfl kk) ?_
    refine own_via (G := T23.setTop (mkF m 102 #[.val (.int is), .val (.int ix), .val (.int iy), .val (.int il), .val (.int (2 : Int32)), .val (.ref b17), .unset, .unset] [(.int (5 : Int32)), (.int (2 : Int32))])) (fun tt kk => XS.iconst X23.here hx rfl (hb hby at_101) kk) ?_
    have hc27_102 : ¬ ((5 : Int32) < (2 : Int32)) := (by decide)
    refine own_via (G := T23.setTop (mkF m 116 #[.val (.int is), .val (.int ix), .val (.int iy), .val (.int il), .val (.int (2 : Int32)), .val (.ref b17), .unset, .unset] [])) (fun tt kk => XS.icmpYes X23.here hx rfl (pc0 := 102) (pc' := 116) rfl (hb hby at_102) rfl (XT.ii_le_t hc27_102) (by decide) (by decide) kk) ?_
    exact b0_116_2 (.val (.int is)) (.val (.int ix)) (.val (.int iy)) (.val (.int il)) b17 k17 (nar .byte (own_pk is (0 : Int32) ix iy)) (nar .byte (own_pk is (1 : Int32) ix iy)) ⟨hx, hZ, hw, hby, hml, hown, hret, hlk, hnm⟩ X23 e23 Z23 N23 V_b17'23 g_b17
  · rw [hN]
    refine own_via (G := T0.setTop (mkF m 11 #[.val (.int is), .val (.int ix), .val (.int iy), .val (.int il), .val (.int (3 : Int32)), .unset, .unset, .unset] [(.int (3 : Int32))])) (fun tt kk => XS.iload X0.here hx rfl (hb hby at_9) rfl kk) ?_
    obtain ⟨T28, h28, k28, X28, e28, E28, A28, st28⟩ := newP X0 hx hZ (hw _ (List.mem_of_getElem? (i := 1) rfl)) e0 (g := (mkF m 11 #[.val (.int is), .val (.int ix), .val (.int iy), .val (.int il), .val (.int (3 : Int32)), .unset, .unset, .unset] [(.int (3 : Int32))])) rfl (hb hby at_11) rfl (by decide) (cap := 3) (by decide) (by decide) (by decide) (by decide)
    obtain ⟨b28, g28⟩ : ∃ z, z = h0.size := ⟨_, rfl⟩
    rw [← g28] at A28 st28
    have g_b28 : n0 ≤ b28 := Nat.le_trans Z0 (Nat.le_of_eq g28.symm)
    have Z28 : n0 ≤ h28.size := Nat.le_trans Z0 E28.1
    have V_b28 : Arv Z h28 b28 k28 .byte (3 : Int32) [(.int (0 : Int32)), (.int (0 : Int32)), (.int (0 : Int32))] (.int (0 : Int32)) := (Arv.new A28 (by decide)).pad (pad_rep [] (.int (0 : Int32)) 3)
    refine own_via (G := T28.setTop (mkF m 13 #[.val (.int is), .val (.int ix), .val (.int iy), .val (.int il), .val (.int (3 : Int32)), .unset, .unset, .unset] [(.ref b28)])) (fun tt kk => st28 tt kk) ?_
    refine own_via (G := T28.setTop (mkF m 15 #[.val (.int is), .val (.int ix), .val (.int iy), .val (.int il), .val (.int (3 : Int32)), .val (.ref b28), .unset, .unset] [])) (fun tt kk => XS.astore X28.here hx rfl (hb hby at_13) rfl rfl (l' := #[.val (.int is), .val (.int ix), .val (.int iy), .val (.int il), .val (.int (3 : Int32)), .val (.ref b28), .unset, .unset]) rfl kk) ?_
    refine own_via (G := T28.setTop (mkF m 17 #[.val (.int is), .val (.int ix), .val (.int iy), .val (.int il), .val (.int (3 : Int32)), .val (.ref b28), .unset, .unset] [(.int (3 : Int32))])) (fun tt kk => XS.iload X28.here hx rfl (hb hby at_15) rfl kk) ?_
    have hc29_17 : (0 : Int32) < (3 : Int32) := (by decide)
    refine own_via (G := T28.setTop (mkF m 20 #[.val (.int is), .val (.int ix), .val (.int iy), .val (.int il), .val (.int (3 : Int32)), .val (.ref b28), .unset, .unset] [])) (fun tt kk => XS.ifNo X28.here hx rfl (hb hby at_17) rfl (XT.i0_le_f hc29_17) kk) ?_
    refine own_via (G := T28.setTop (mkF m 22 #[.val (.int is), .val (.int ix), .val (.int iy), .val (.int il), .val (.int (3 : Int32)), .val (.ref b28), .unset, .unset] [(.ref b28)])) (fun tt kk => XS.aload X28.here hx rfl (hb hby at_20) rfl rfl kk) ?_
    refine own_via (G := T28.setTop (mkF m 23 #[.val (.int is), .val (.int ix), .val (.int iy), .val (.int il), .val (.int (3 : Int32)), .val (.ref b28), .unset, .unset] [(.int (0 : Int32)), (.ref b28)])) (fun tt kk => XS.iconst X28.here hx rfl (hb hby at_22) kk) ?_
    refine own_via (G := T28.setTop (mkF m 24 #[.val (.int is), .val (.int ix), .val (.int iy), .val (.int il), .val (.int (3 : Int32)), .val (.ref b28), .unset, .unset] [(.int is), (.int (0 : Int32)), (.ref b28)])) (fun tt kk => XS.iloadN X28.here hx rfl (hb hby at_23) rfl kk) ?_
    refine own_via (G := T28.setTop (mkF m 25 #[.val (.int is), .val (.int ix), .val (.int iy), .val (.int il), .val (.int (3 : Int32)), .val (.ref b28), .unset, .unset] [(.int (0 : Int32)), (.int is), (.int (0 : Int32)), (.ref b28)])) (fun tt kk => XS.iconst X28.here hx rfl (hb hby at_24) kk) ?_
    refine own_via (G := T28.setTop (mkF m 26 #[.val (.int is), .val (.int ix), .val (.int iy), .val (.int il), .val (.int (3 : Int32)), .val (.ref b28), .unset, .unset] [(.int ix), (.int (0 : Int32)), (.int is), (.int (0 : Int32)), (.ref b28)])) (fun tt kk => XS.iloadN X28.here hx rfl (hb hby at_25) rfl kk) ?_
    refine own_via (G := T28.setTop (mkF m 27 #[.val (.int is), .val (.int ix), .val (.int iy), .val (.int il), .val (.int (3 : Int32)), .val (.ref b28), .unset, .unset] [(.int iy), (.int ix), (.int (0 : Int32)), (.int is), (.int (0 : Int32)), (.ref b28)])) (fun tt kk => XS.iloadN X28.here hx rfl (hb hby at_26) rfl kk) ?_
    obtain ⟨_, _, ⟨T30, L30, k30, n30⟩, -, X30, ⟨Lc30, hQ30, l30, y30, z30⟩, st30⟩ := Jvm.LawKit.callS X28 hx (y := (⟨"com/example/clew/clew/KnuthMorrisPrattFailureFunctionPinLaw", "pick", "(IIII)B"⟩ : MethodName)) hown (mvT hZ (hw _ (List.mem_of_getElem? (i := 2) rfl))) (mvT hZ (hw _ (List.mem_of_getElem? (i := 3) rfl))) (mvT hZ (hw _ (List.mem_of_getElem? (i := 4) rfl))) (mvT hZ (hw _ (List.mem_of_getElem? (i := 5) rfl))) (by decide) (backOf (W := 2) (rm1 l Z a0 hw [] is (0 : Int32) ix iy h28 n0 Z28) hZ (hw _ (List.mem_of_getElem? (i := 5) rfl)) (hw _ (List.mem_of_getElem? (i := 4) rfl)) (by decide) (by decide)) (g := (mkF m 27 #[.val (.int is), .val (.int ix), .val (.int iy), .val (.int il), .val (.int (3 : Int32)), .val (.ref b28), .unset, .unset] [(.int iy), (.int ix), (.int (0 : Int32)), (.int is), (.int (0 : Int32)), (.ref b28)])) rfl (by rw [hml]; rfl) (argsL := [(.int is), (.int (0 : Int32)), (.int ix), (.int iy)]) (rest := [(.int (0 : Int32)), (.ref b28)]) (lenOf pd_3 rfl) rfl (by show 2 * 0 + _ ≤ _; exact Nat.le_of_eq rfl) (hb hby at_27) (fun _ _ => ⟨rfl, e28, (by decide : (0 + 1) + 0 ≤ _), (by decide : (0 + 3) + 0 ≤ _)⟩)
    dsimp only [Pt.U, Pt.locs, Pt.cells, Pt.slots] at X30 l30 y30 z30 st30 hQ30
    subst l30 y30 z30
    obtain ⟨rfl, Nq30, eh30⟩ := hQ30
    have N30 := Fr.app N0 Nq30
    refine own_via (G := T30.setTop (mkF m 30 #[.val (.int is), .val (.int ix), .val (.int iy), .val (.int il), .val (.int (3 : Int32)), .val (.ref b28), .unset, .unset] [(.int (own_pk is (0 : Int32) ix iy)), (.int (0 : Int32)), (.ref b28)])) (fun tt kk => st30 tt kk) ?_
    obtain ⟨cl31, Ar31, qc31, S31, NN31, H31, G31⟩ := id V_b28
    obtain ⟨T31, h31, X31, e31, W31, st31⟩ := stB X30 hx hZ eh30 Ar31 (j := (0 : Int32)) (inb_of S31 ⟨by decide, by decide⟩) (g := (mkF m 30 #[.val (.int is), .val (.int ix), .val (.int iy), .val (.int il), .val (.int (3 : Int32)), .val (.ref b28), .unset, .unset] [(.int (own_pk is (0 : Int32) ix iy)), (.int (0 : Int32)), (.ref b28)])) rfl rfl (hb hby at_30)
    have V_b28'31 : Arv Z h31 b28 k28 .byte (3 : Int32) [(.int (nar .byte (own_pk is (0 : Int32) ix iy))), (.int (0 : Int32)), (.int (0 : Int32))] (.int (0 : Int32)) := Arv.set Ar31 qc31 S31 NN31 H31 G31 (fits_nar_byte _) W31 0 rfl (Nat.le_of_ble_eq_true rfl)
    have N31 := Fr.snoc X31 N30 g_b28
    have Z31 : n0 ≤ h31.size := Nat.le_trans Z28 (Keep.of_wr W31).1
    refine own_via (G := T31.setTop (mkF m 31 #[.val (.int is), .val (.int ix), .val (.int iy), .val (.int il), .val (.int (3 : Int32)), .val (.ref b28), .unset, .unset] [])) (fun tt kk => st31 tt kk) ?_
    refine own_via (G := T31.setTop (mkF m 33 #[.val (.int is), .val (.int ix), .val (.int iy), .val (.int il), .val (.int (3 : Int32)), .val (.ref b28), .unset, .unset] [(.int (3 : Int32))])) (fun tt kk => XS.iload X31.here hx rfl (hb hby at_31) rfl kk) ?_
    refine own_via (G := T31.setTop (mkF m 34 #[.val (.int is), .val (.int ix), .val (.int iy), .val (.int il), .val (.int (3 : Int32)), .val (.ref b28), .unset, .unset] [(.int (1 : Int32)), (.int (3 : Int32))])) (fun tt kk => XS.iconst X31.here hx rfl (hb hby at_33) kk) ?_
    have hc32_34 : (1 : Int32) < (3 : Int32) := (by decide)
    refine own_via (G := T31.setTop (mkF m 37 #[.val (.int is), .val (.int ix), .val (.int iy), .val (.int il), .val (.int (3 : Int32)), .val (.ref b28), .unset, .unset] [])) (fun tt kk => XS.icmpNo X31.here hx rfl (hb hby at_34) rfl (XT.ii_le_f hc32_34) kk) ?_
    refine own_via (G := T31.setTop (mkF m 39 #[.val (.int is), .val (.int ix), .val (.int iy), .val (.int il), .val (.int (3 : Int32)), .val (.ref b28), .unset, .unset] [(.ref b28)])) (fun tt kk => XS.aload X31.here hx rfl (hb hby at_37) rfl rfl kk) ?_
    refine own_via (G := T31.setTop (mkF m 40 #[.val (.int is), .val (.int ix), .val (.int iy), .val (.int il), .val (.int (3 : Int32)), .val (.ref b28), .unset, .unset] [(.int (1 : Int32)), (.ref b28)])) (fun tt kk => XS.iconst X31.here hx rfl (hb hby at_39) kk) ?_
    refine own_via (G := T31.setTop (mkF m 41 #[.val (.int is), .val (.int ix), .val (.int iy), .val (.int il), .val (.int (3 : Int32)), .val (.ref b28), .unset, .unset] [(.int is), (.int (1 : Int32)), (.ref b28)])) (fun tt kk => XS.iloadN X31.here hx rfl (hb hby at_40) rfl kk) ?_
    refine own_via (G := T31.setTop (mkF m 42 #[.val (.int is), .val (.int ix), .val (.int iy), .val (.int il), .val (.int (3 : Int32)), .val (.ref b28), .unset, .unset] [(.int (1 : Int32)), (.int is), (.int (1 : Int32)), (.ref b28)])) (fun tt kk => XS.iconst X31.here hx rfl (hb hby at_41) kk) ?_
    refine own_via (G := T31.setTop (mkF m 43 #[.val (.int is), .val (.int ix), .val (.int iy), .val (.int il), .val (.int (3 : Int32)), .val (.ref b28), .unset, .unset] [(.int ix), (.int (1 : Int32)), (.int is), (.int (1 : Int32)), (.ref b28)])) (fun tt kk => XS.iloadN X31.here hx rfl (hb hby at_42) rfl kk) ?_
    refine own_via (G := T31.setTop (mkF m 44 #[.val (.int is), .val (.int ix), .val (.int iy), .val (.int il), .val (.int (3 : Int32)), .val (.ref b28), .unset, .unset] [(.int iy), (.int ix), (.int (1 : Int32)), (.int is), (.int (1 : Int32)), (.ref b28)])) (fun tt kk => XS.iloadN X31.here hx rfl (hb hby at_43) rfl kk) ?_
    obtain ⟨_, _, ⟨T33, L33, k33, n33⟩, -, X33, ⟨Lc33, hQ33, l33, y33, z33⟩, st33⟩ := Jvm.LawKit.callS X31 hx (y := (⟨"com/example/clew/clew/KnuthMorrisPrattFailureFunctionPinLaw", "pick", "(IIII)B"⟩ : MethodName)) hown (mvT hZ (hw _ (List.mem_of_getElem? (i := 2) rfl))) (mvT hZ (hw _ (List.mem_of_getElem? (i := 3) rfl))) (mvT hZ (hw _ (List.mem_of_getElem? (i := 4) rfl))) (mvT hZ (hw _ (List.mem_of_getElem? (i := 5) rfl))) (by decide) (backOf (W := 2) (rm1 l Z a0 hw [] is (1 : Int32) ix iy h31 n0 Z31) hZ (hw _ (List.mem_of_getElem? (i := 5) rfl)) (hw _ (List.mem_of_getElem? (i := 4) rfl)) (by decide) (by decide)) (g := (mkF m 44 #[.val (.int is), .val (.int ix), .val (.int iy), .val (.int il), .val (.int (3 : Int32)), .val (.ref b28), .unset, .unset] [(.int iy), (.int ix), (.int (1 : Int32)), (.int is), (.int (1 : Int32)), (.ref b28)])) rfl (by rw [hml]; rfl) (argsL := [(.int is), (.int (1 : Int32)), (.int ix), (.int iy)]) (rest := [(.int (1 : Int32)), (.ref b28)]) (lenOf pd_3 rfl) rfl (by show 2 * 0 + _ ≤ _; exact Nat.le_of_eq rfl) (hb hby at_44) (fun _ _ => ⟨rfl, e31, (by decide : ((0 + 1) + 0) + 0 ≤ _), (by decide : ((0 + 3) + 0) + 0 ≤ _)⟩)
    dsimp only [Pt.U, Pt.locs, Pt.cells, Pt.slots] at X33 l33 y33 z33 st33 hQ33
    subst l33 y33 z33
    obtain ⟨rfl, Nq33, eh33⟩ := hQ33
    have N33 := Fr.app N31 Nq33
    refine own_via (G := T33.setTop (mkF m 47 #[.val (.int is), .val (.int ix), .val (.int iy), .val (.int il), .val (.int (3 : Int32)), .val (.ref b28), .unset, .unset] [(.int (own_pk is (1 : Int32) ix iy)), (.int (1 : Int32)), (.ref b28)])) (fun tt kk => st33 tt kk) ?_
    obtain ⟨cl34, Ar34, qc34, S34, NN34, H34, G34⟩ := id V_b28'31
    obtain ⟨T34, h34, X34, e34, W34, st34⟩ := stB X33 hx hZ eh33 Ar34 (j := (1 : Int32)) (inb_of S34 ⟨by decide, by decide⟩) (g := (mkF m 47 #[.val (.int is), .val (.int ix), .val (.int iy), .val (.int il), .val (.int (3 : Int32)), .val (.ref b28), .unset, .unset] [(.int (own_pk is (1 : Int32) ix iy)), (.int (1 : Int32)), (.ref b28)])) rfl rfl (hb hby at_47)
    have V_b28'34 : Arv Z h34 b28 k28 .byte (3 : Int32) [(.int (nar .byte (own_pk is (0 : Int32) ix iy))), (.int (nar .byte (own_pk is (1 : Int32) ix iy))), (.int (0 : Int32))] (.int (0 : Int32)) := Arv.set Ar34 qc34 S34 NN34 H34 G34 (fits_nar_byte _) W34 1 rfl (Nat.le_of_ble_eq_true rfl)
    have N34 := Fr.snoc X34 N33 g_b28
    have Z34 : n0 ≤ h34.size := Nat.le_trans Z31 (Keep.of_wr W34).1
    refine own_via (G := T34.setTop (mkF m 48 #[.val (.int is), .val (.int ix), .val (.int iy), .val (.int il), .val (.int (3 : Int32)), .val (.ref b28), .unset, .unset] [])) (fun tt kk => st34 tt kk) ?_
    refine own_via (G := T34.setTop (mkF m 50 #[.val (.int is), .val (.int ix), .val (.int iy), .val (.int il), .val (.int (3 : Int32)), .val (.ref b28), .unset, .unset] [(.int (3 : Int32))])) (fun tt kk => XS.iload X34.here hx rfl (hb hby at_48) rfl kk) ?_
    refine own_via (G := T34.setTop (mkF m 51 #[.val (.int is), .val (.int ix), .val (.int iy), .val (.int il), .val (.int (3 : Int32)), .val (.ref b28), .unset, .unset] [(.int (2 : Int32)), (.int (3 : Int32))])) (fun tt kk => XS.iconst X34.here hx rfl (hb hby at_50) kk) ?_
    have hc35_51 : (2 : Int32) < (3 : Int32) := (by decide)
    refine own_via (G := T34.setTop (mkF m 54 #[.val (.int is), .val (.int ix), .val (.int iy), .val (.int il), .val (.int (3 : Int32)), .val (.ref b28), .unset, .unset] [])) (fun tt kk => XS.icmpNo X34.here hx rfl (hb hby at_51) rfl (XT.ii_le_f hc35_51) kk) ?_
    refine own_via (G := T34.setTop (mkF m 56 #[.val (.int is), .val (.int ix), .val (.int iy), .val (.int il), .val (.int (3 : Int32)), .val (.ref b28), .unset, .unset] [(.ref b28)])) (fun tt kk => XS.aload X34.here hx rfl (hb hby at_54) rfl rfl kk) ?_
    refine own_via (G := T34.setTop (mkF m 57 #[.val (.int is), .val (.int ix), .val (.int iy), .val (.int il), .val (.int (3 : Int32)), .val (.ref b28), .unset, .unset] [(.int (2 : Int32)), (.ref b28)])) (fun tt kk => XS.iconst X34.here hx rfl (hb hby at_56) kk) ?_
    refine own_via (G := T34.setTop (mkF m 58 #[.val (.int is), .val (.int ix), .val (.int iy), .val (.int il), .val (.int (3 : Int32)), .val (.ref b28), .unset, .unset] [(.int is), (.int (2 : Int32)), (.ref b28)])) (fun tt kk => XS.iloadN X34.here hx rfl (hb hby at_57) rfl kk) ?_
    refine own_via (G := T34.setTop (mkF m 59 #[.val (.int is), .val (.int ix), .val (.int iy), .val (.int il), .val (.int (3 : Int32)), .val (.ref b28), .unset, .unset] [(.int (2 : Int32)), (.int is), (.int (2 : Int32)), (.ref b28)])) (fun tt kk => XS.iconst X34.here hx rfl (hb hby at_58) kk) ?_
    refine own_via (G := T34.setTop (mkF m 60 #[.val (.int is), .val (.int ix), .val (.int iy), .val (.int il), .val (.int (3 : Int32)), .val (.ref b28), .unset, .unset] [(.int ix), (.int (2 : Int32)), (.int is), (.int (2 : Int32)), (.ref b28)])) (fun tt kk => XS.iloadN X34.here hx rfl (hb hby at_59) rfl kk) ?_
    refine own_via (G := T34.setTop (mkF m 61 #[.val (.int is), .val (.int ix), .val (.int iy), .val (.int il), .val (.int (3 : Int32)), .val (.ref b28), .unset, .unset] [(.int iy), (.int ix), (.int (2 : Int32)), (.int is), (.int (2 : Int32)), (.ref b28)])) (fun tt kk => XS.iloadN X34.here hx rfl (hb hby at_60) rfl kk) ?_
    obtain ⟨_, _, ⟨T36, L36, k36, n36⟩, -, X36, ⟨Lc36, hQ36, l36, y36, z36⟩, st36⟩ := Jvm.LawKit.callS X34 hx (y := (⟨"com/example/clew/clew/KnuthMorrisPrattFailureFunctionPinLaw", "pick", "(IIII)B"⟩ : MethodName)) hown (mvT hZ (hw _ (List.mem_of_getElem? (i := 2) rfl))) (mvT hZ (hw _ (List.mem_of_getElem? (i := 3) rfl))) (mvT hZ (hw _ (List.mem_of_getElem? (i := 4) rfl))) (mvT hZ (hw _ (List.mem_of_getElem? (i := 5) rfl))) (by decide) (backOf (W := 2) (rm1 l Z a0 hw [] is (2 : Int32) ix iy h34 n0 Z34) hZ (hw _ (List.mem_of_getElem? (i := 5) rfl)) (hw _ (List.mem_of_getElem? (i := 4) rfl)) (by decide) (by decide)) (g := (mkF m 61 #[.val (.int is), .val (.int ix), .val (.int iy), .val (.int il), .val (.int (3 : Int32)), .val (.ref b28), .unset, .unset] [(.int iy), (.int ix), (.int (2 : Int32)), (.int is), (.int (2 : Int32)), (.ref b28)])) rfl (by rw [hml]; rfl) (argsL := [(.int is), (.int (2 : Int32)), (.int ix), (.int iy)]) (rest := [(.int (2 : Int32)), (.ref b28)]) (lenOf pd_3 rfl) rfl (by show 2 * 0 + _ ≤ _; exact Nat.le_of_eq rfl) (hb hby at_61) (fun _ _ => ⟨rfl, e34, (by decide : (((0 + 1) + 0) + 0) + 0 ≤ _), (by decide : (((0 + 3) + 0) + 0) + 0 ≤ _)⟩)
    dsimp only [Pt.U, Pt.locs, Pt.cells, Pt.slots] at X36 l36 y36 z36 st36 hQ36
    subst l36 y36 z36
    obtain ⟨rfl, Nq36, eh36⟩ := hQ36
    have N36 := Fr.app N34 Nq36
    refine own_via (G := T36.setTop (mkF m 64 #[.val (.int is), .val (.int ix), .val (.int iy), .val (.int il), .val (.int (3 : Int32)), .val (.ref b28), .unset, .unset] [(.int (own_pk is (2 : Int32) ix iy)), (.int (2 : Int32)), (.ref b28)])) (fun tt kk => st36 tt kk) ?_
    obtain ⟨cl37, Ar37, qc37, S37, NN37, H37, G37⟩ := id V_b28'34
    obtain ⟨T37, h37, X37, e37, W37, st37⟩ := stB X36 hx hZ eh36 Ar37 (j := (2 : Int32)) (inb_of S37 ⟨by decide, by decide⟩) (g := (mkF m 64 #[.val (.int is), .val (.int ix), .val (.int iy), .val (.int il), .val (.int (3 : Int32)), .val (.ref b28), .unset, .unset] [(.int (own_pk is (2 : Int32) ix iy)), (.int (2 : Int32)), (.ref b28)])) rfl rfl (hb hby at_64)
    have V_b28'37 : Arv Z h37 b28 k28 .byte (3 : Int32) [(.int (nar .byte (own_pk is (0 : Int32) ix iy))), (.int (nar .byte (own_pk is (1 : Int32) ix iy))), (.int (nar .byte (own_pk is (2 : Int32) ix iy)))] (.int (0 : Int32)) := Arv.set Ar37 qc37 S37 NN37 H37 G37 (fits_nar_byte _) W37 2 rfl (Nat.le_of_ble_eq_true rfl)
    have N37 := Fr.snoc X37 N36 g_b28
    have Z37 : n0 ≤ h37.size := Nat.le_trans Z34 (Keep.of_wr W37).1
    refine own_via (G := T37.setTop (mkF m 65 #[.val (.int is), .val (.int ix), .val (.int iy), .val (.int il), .val (.int (3 : Int32)), .val (.ref b28), .unset, .unset] [])) (fun tt kk => st37 tt kk) ?_
    refine own_via (G := T37.setTop (mkF m 67 #[.val (.int is), .val (.int ix), .val (.int iy), .val (.int il), .val (.int (3 : Int32)), .val (.ref b28), .unset, .unset] [(.int (3 : Int32))])) (fun tt kk => XS.iload X37.here hx rfl (hb hby at_65) rfl kk) ?_
    refine own_via (G := T37.setTop (mkF m 68 #[.val (.int is), .val (.int ix), .val (.int iy), .val (.int il), .val (.int (3 : Int32)), .val (.ref b28), .unset, .unset] [(.int (3 : Int32)), (.int (3 : Int32))])) (fun tt kk => XS.iconst X37.here hx rfl (hb hby at_67) kk) ?_
    have hc38_68 : ¬ ((3 : Int32) < (3 : Int32)) := (by decide)
    refine own_via (G := T37.setTop (mkF m 82 #[.val (.int is), .val (.int ix), .val (.int iy), .val (.int il), .val (.int (3 : Int32)), .val (.ref b28), .unset, .unset] [])) (fun tt kk => XS.icmpYes X37.here hx rfl (pc0 := 68) (pc' := 82) rfl (hb hby at_68) rfl (XT.ii_le_t hc38_68) (by decide) (by decide) kk) ?_
    refine own_via (G := T37.setTop (mkF m 84 #[.val (.int is), .val (.int ix), .val (.int iy), .val (.int il), .val (.int (3 : Int32)), .val (.ref b28), .unset, .unset] [(.int (3 : Int32))])) (fun tt kk => XS.iload X37.here hx rfl (hb hby at_82) rfl kk) ?_
    refine own_via (G := T37.setTop (mkF m 85 #[.val (.int is), .val (.int ix), .val (.int iy), .val (.int il), .val (.int (3 : Int32)), .val (.ref b28), .unset, .unset] [(.int (4 : Int32)), (.int (3 : Int32))])) (fun tt kk => XS.iconst X37.here hx rfl (hb hby at_84) kk) ?_
    have hc39_85 : ¬ ((4 : Int32) < (3 : Int32)) := (by decide)
    refine own_via (G := T37.setTop (mkF m 99 #[.val (.int is), .val (.int ix), .val (.int iy), .val (.int il), .val (.int (3 : Int32)), .val (.ref b28), .unset, .unset] [])) (fun tt kk => XS.icmpYes X37.here hx rfl (pc0 := 85) (pc' := 99) rfl (hb hby at_85) rfl (XT.ii_le_t hc39_85) (by decide) (by decide) kk) ?_
    refine own_via (G := T37.setTop (mkF m 101 #[.val (.int is), .val (.int ix), .val (.int iy), .val (.int il), .val (.int (3 : Int32)), .val (.ref b28), .unset, .unset] [(.int (3 : Int32))])) (fun tt kk => XS.iload X37.here hx rfl (hb hby at_99) rfl kk) ?_
    refine own_via (G := T37.setTop (mkF m 102 #[.val (.int is), .val (.int ix), .val (.int iy), .val (.int il), .val (.int (3 : Int32)), .val (.ref b28), .unset, .unset] [(.int (5 : Int32)), (.int (3 : Int32))])) (fun tt kk => XS.iconst X37.here hx rfl (hb hby at_101) kk) ?_
    have hc40_102 : ¬ ((5 : Int32) < (3 : Int32)) := (by decide)
    refine own_via (G := T37.setTop (mkF m 116 #[.val (.int is), .val (.int ix), .val (.int iy), .val (.int il), .val (.int (3 : Int32)), .val (.ref b28), .unset, .unset] [])) (fun tt kk => XS.icmpYes X37.here hx rfl (pc0 := 102) (pc' := 116) rfl (hb hby at_102) rfl (XT.ii_le_t hc40_102) (by decide) (by decide) kk) ?_
    exact b0_116_3 (.val (.int is)) (.val (.int ix)) (.val (.int iy)) (.val (.int il)) b28 k28 (nar .byte (own_pk is (0 : Int32) ix iy)) (nar .byte (own_pk is (1 : Int32) ix iy)) (nar .byte (own_pk is (2 : Int32) ix iy)) ⟨hx, hZ, hw, hby, hml, hown, hret, hlk, hnm⟩ X37 e37 Z37 N37 V_b28'37 g_b28
  · rw [hN]
    refine own_via (G := T0.setTop (mkF m 11 #[.val (.int is), .val (.int ix), .val (.int iy), .val (.int il), .val (.int (4 : Int32)), .unset, .unset, .unset] [(.int (4 : Int32))])) (fun tt kk => XS.iload X0.here hx rfl (hb hby at_9) rfl kk) ?_
    obtain ⟨T41, h41, k41, X41, e41, E41, A41, st41⟩ := newP X0 hx hZ (hw _ (List.mem_of_getElem? (i := 1) rfl)) e0 (g := (mkF m 11 #[.val (.int is), .val (.int ix), .val (.int iy), .val (.int il), .val (.int (4 : Int32)), .unset, .unset, .unset] [(.int (4 : Int32))])) rfl (hb hby at_11) rfl (by decide) (cap := 4) (by decide) (by decide) (by decide) (by decide)
    obtain ⟨b41, g41⟩ : ∃ z, z = h0.size := ⟨_, rfl⟩
    rw [← g41] at A41 st41
    have g_b41 : n0 ≤ b41 := Nat.le_trans Z0 (Nat.le_of_eq g41.symm)
    have Z41 : n0 ≤ h41.size := Nat.le_trans Z0 E41.1
    have V_b41 : Arv Z h41 b41 k41 .byte (4 : Int32) [(.int (0 : Int32)), (.int (0 : Int32)), (.int (0 : Int32)), (.int (0 : Int32))] (.int (0 : Int32)) := (Arv.new A41 (by decide)).pad (pad_rep [] (.int (0 : Int32)) 4)
    refine own_via (G := T41.setTop (mkF m 13 #[.val (.int is), .val (.int ix), .val (.int iy), .val (.int il), .val (.int (4 : Int32)), .unset, .unset, .unset] [(.ref b41)])) (fun tt kk => st41 tt kk) ?_
    refine own_via (G := T41.setTop (mkF m 15 #[.val (.int is), .val (.int ix), .val (.int iy), .val (.int il), .val (.int (4 : Int32)), .val (.ref b41), .unset, .unset] [])) (fun tt kk => XS.astore X41.here hx rfl (hb hby at_13) rfl rfl (l' := #[.val (.int is), .val (.int ix), .val (.int iy), .val (.int il), .val (.int (4 : Int32)), .val (.ref b41), .unset, .unset]) rfl kk) ?_
    refine own_via (G := T41.setTop (mkF m 17 #[.val (.int is), .val (.int ix), .val (.int iy), .val (.int il), .val (.int (4 : Int32)), .val (.ref b41), .unset, .unset] [(.int (4 : Int32))])) (fun tt kk => XS.iload X41.here hx rfl (hb hby at_15) rfl kk) ?_
    have hc42_17 : (0 : Int32) < (4 : Int32) := (by decide)
    refine own_via (G := T41.setTop (mkF m 20 #[.val (.int is), .val (.int ix), .val (.int iy), .val (.int il), .val (.int (4 : Int32)), .val (.ref b41), .unset, .unset] [])) (fun tt kk => XS.ifNo X41.here hx rfl (hb hby at_17) rfl (XT.i0_le_f hc42_17) kk) ?_
    refine own_via (G := T41.setTop (mkF m 22 #[.val (.int is), .val (.int ix), .val (.int iy), .val (.int il), .val (.int (4 : Int32)), .val (.ref b41), .unset, .unset] [(.ref b41)])) (fun tt kk => XS.aload X41.here hx rfl (hb hby at_20) rfl rfl kk) ?_
    refine own_via (G := T41.setTop (mkF m 23 #[.val (.int is), .val (.int ix), .val (.int iy), .val (.int il), .val (.int (4 : Int32)), .val (.ref b41), .unset, .unset] [(.int (0 : Int32)), (.ref b41)])) (fun tt kk => XS.iconst X41.here hx rfl (hb hby at_22) kk) ?_
    refine own_via (G := T41.setTop (mkF m 24 #[.val (.int is), .val (.int ix), .val (.int iy), .val (.int il), .val (.int (4 : Int32)), .val (.ref b41), .unset, .unset] [(.int is), (.int (0 : Int32)), (.ref b41)])) (fun tt kk => XS.iloadN X41.here hx rfl (hb hby at_23) rfl kk) ?_
    refine own_via (G := T41.setTop (mkF m 25 #[.val (.int is), .val (.int ix), .val (.int iy), .val (.int il), .val (.int (4 : Int32)), .val (.ref b41), .unset, .unset] [(.int (0 : Int32)), (.int is), (.int (0 : Int32)), (.ref b41)])) (fun tt kk => XS.iconst X41.here hx rfl (hb hby at_24) kk) ?_
    refine own_via (G := T41.setTop (mkF m 26 #[.val (.int is), .val (.int ix), .val (.int iy), .val (.int il), .val (.int (4 : Int32)), .val (.ref b41), .unset, .unset] [(.int ix), (.int (0 : Int32)), (.int is), (.int (0 : Int32)), (.ref b41)])) (fun tt kk => XS.iloadN X41.here hx rfl (hb hby at_25) rfl kk) ?_
    refine own_via (G := T41.setTop (mkF m 27 #[.val (.int is), .val (.int ix), .val (.int iy), .val (.int il), .val (.int (4 : Int32)), .val (.ref b41), .unset, .unset] [(.int iy), (.int ix), (.int (0 : Int32)), (.int is), (.int (0 : Int32)), (.ref b41)])) (fun tt kk => XS.iloadN X41.here hx rfl (hb hby at_26) rfl kk) ?_
    obtain ⟨_, _, ⟨T43, L43, k43, n43⟩, -, X43, ⟨Lc43, hQ43, l43, y43, z43⟩, st43⟩ := Jvm.LawKit.callS X41 hx (y := (⟨"com/example/clew/clew/KnuthMorrisPrattFailureFunctionPinLaw", "pick", "(IIII)B"⟩ : MethodName)) hown (mvT hZ (hw _ (List.mem_of_getElem? (i := 2) rfl))) (mvT hZ (hw _ (List.mem_of_getElem? (i := 3) rfl))) (mvT hZ (hw _ (List.mem_of_getElem? (i := 4) rfl))) (mvT hZ (hw _ (List.mem_of_getElem? (i := 5) rfl))) (by decide) (backOf (W := 2) (rm1 l Z a0 hw [] is (0 : Int32) ix iy h41 n0 Z41) hZ (hw _ (List.mem_of_getElem? (i := 5) rfl)) (hw _ (List.mem_of_getElem? (i := 4) rfl)) (by decide) (by decide)) (g := (mkF m 27 #[.val (.int is), .val (.int ix), .val (.int iy), .val (.int il), .val (.int (4 : Int32)), .val (.ref b41), .unset, .unset] [(.int iy), (.int ix), (.int (0 : Int32)), (.int is), (.int (0 : Int32)), (.ref b41)])) rfl (by rw [hml]; rfl) (argsL := [(.int is), (.int (0 : Int32)), (.int ix), (.int iy)]) (rest := [(.int (0 : Int32)), (.ref b41)]) (lenOf pd_3 rfl) rfl (by show 2 * 0 + _ ≤ _; exact Nat.le_of_eq rfl) (hb hby at_27) (fun _ _ => ⟨rfl, e41, (by decide : (0 + 1) + 0 ≤ _), (by decide : (0 + 4) + 0 ≤ _)⟩)
    dsimp only [Pt.U, Pt.locs, Pt.cells, Pt.slots] at X43 l43 y43 z43 st43 hQ43
    subst l43 y43 z43
    obtain ⟨rfl, Nq43, eh43⟩ := hQ43
    have N43 := Fr.app N0 Nq43
    refine own_via (G := T43.setTop (mkF m 30 #[.val (.int is), .val (.int ix), .val (.int iy), .val (.int il), .val (.int (4 : Int32)), .val (.ref b41), .unset, .unset] [(.int (own_pk is (0 : Int32) ix iy)), (.int (0 : Int32)), (.ref b41)])) (fun tt kk => st43 tt kk) ?_
    obtain ⟨cl44, Ar44, qc44, S44, NN44, H44, G44⟩ := id V_b41
    obtain ⟨T44, h44, X44, e44, W44, st44⟩ := stB X43 hx hZ eh43 Ar44 (j := (0 : Int32)) (inb_of S44 ⟨by decide, by decide⟩) (g := (mkF m 30 #[.val (.int is), .val (.int ix), .val (.int iy), .val (.int il), .val (.int (4 : Int32)), .val (.ref b41), .unset, .unset] [(.int (own_pk is (0 : Int32) ix iy)), (.int (0 : Int32)), (.ref b41)])) rfl rfl (hb hby at_30)
    have V_b41'44 : Arv Z h44 b41 k41 .byte (4 : Int32) [(.int (nar .byte (own_pk is (0 : Int32) ix iy))), (.int (0 : Int32)), (.int (0 : Int32)), (.int (0 : Int32))] (.int (0 : Int32)) := Arv.set Ar44 qc44 S44 NN44 H44 G44 (fits_nar_byte _) W44 0 rfl (Nat.le_of_ble_eq_true rfl)
    have N44 := Fr.snoc X44 N43 g_b41
    have Z44 : n0 ≤ h44.size := Nat.le_trans Z41 (Keep.of_wr W44).1
    refine own_via (G := T44.setTop (mkF m 31 #[.val (.int is), .val (.int ix), .val (.int iy), .val (.int il), .val (.int (4 : Int32)), .val (.ref b41), .unset, .unset] [])) (fun tt kk => st44 tt kk) ?_
    refine own_via (G := T44.setTop (mkF m 33 #[.val (.int is), .val (.int ix), .val (.int iy), .val (.int il), .val (.int (4 : Int32)), .val (.ref b41), .unset, .unset] [(.int (4 : Int32))])) (fun tt kk => XS.iload X44.here hx rfl (hb hby at_31) rfl kk) ?_
    refine own_via (G := T44.setTop (mkF m 34 #[.val (.int is), .val (.int ix), .val (.int iy), .val (.int il), .val (.int (4 : Int32)), .val (.ref b41), .unset, .unset] [(.int (1 : Int32)), (.int (4 : Int32))])) (fun tt kk => XS.iconst X44.here hx rfl (hb hby at_33) kk) ?_
    have hc45_34 : (1 : Int32) < (4 : Int32) := (by decide)
    refine own_via (G := T44.setTop (mkF m 37 #[.val (.int is), .val (.int ix), .val (.int iy), .val (.int il), .val (.int (4 : Int32)), .val (.ref b41), .unset, .unset] [])) (fun tt kk => XS.icmpNo X44.here hx rfl (hb hby at_34) rfl (XT.ii_le_f hc45_34) kk) ?_
    refine own_via (G := T44.setTop (mkF m 39 #[.val (.int is), .val (.int ix), .val (.int iy), .val (.int il), .val (.int (4 : Int32)), .val (.ref b41), .unset, .unset] [(.ref b41)])) (fun tt kk => XS.aload X44.here hx rfl (hb hby at_37) rfl rfl kk) ?_
    refine own_via (G := T44.setTop (mkF m 40 #[.val (.int is), .val (.int ix), .val (.int iy), .val (.int il), .val (.int (4 : Int32)), .val (.ref b41), .unset, .unset] [(.int (1 : Int32)), (.ref b41)])) (fun tt kk => XS.iconst X44.here hx rfl (hb hby at_39) kk) ?_
    refine own_via (G := T44.setTop (mkF m 41 #[.val (.int is), .val (.int ix), .val (.int iy), .val (.int il), .val (.int (4 : Int32)), .val (.ref b41), .unset, .unset] [(.int is), (.int (1 : Int32)), (.ref b41)])) (fun tt kk => XS.iloadN X44.here hx rfl (hb hby at_40) rfl kk) ?_
    refine own_via (G := T44.setTop (mkF m 42 #[.val (.int is), .val (.int ix), .val (.int iy), .val (.int il), .val (.int (4 : Int32)), .val (.ref b41), .unset, .unset] [(.int (1 : Int32)), (.int is), (.int (1 : Int32)), (.ref b41)])) (fun tt kk => XS.iconst X44.here hx rfl (hb hby at_41) kk) ?_
    refine own_via (G := T44.setTop (mkF m 43 #[.val (.int is), .val (.int ix), .val (.int iy), .val (.int il), .val (.int (4 : Int32)), .val (.ref b41), .unset, .unset] [(.int ix), (.int (1 : Int32)), (.int is), (.int (1 : Int32)), (.ref b41)])) (fun tt kk => XS.iloadN X44.here hx rfl (hb hby at_42) rfl kk) ?_
    refine own_via (G := T44.setTop (mkF m 44 #[.val (.int is), .val (.int ix), .val (.int iy), .val (.int il), .val (.int (4 : Int32)), .val (.ref b41), .unset, .unset] [(.int iy), (.int ix), (.int (1 : Int32)), (.int is), (.int (1 : Int32)), (.ref b41)])) (fun tt kk => XS.iloadN X44.here hx rfl (hb hby at_43) rfl kk) ?_
    obtain ⟨_, _, ⟨T46, L46, k46, n46⟩, -, X46, ⟨Lc46, hQ46, l46, y46, z46⟩, st46⟩ := Jvm.LawKit.callS X44 hx (y := (⟨"com/example/clew/clew/KnuthMorrisPrattFailureFunctionPinLaw", "pick", "(IIII)B"⟩ : MethodName)) hown (mvT hZ (hw _ (List.mem_of_getElem? (i := 2) rfl))) (mvT hZ (hw _ (List.mem_of_getElem? (i := 3) rfl))) (mvT hZ (hw _ (List.mem_of_getElem? (i := 4) rfl))) (mvT hZ (hw _ (List.mem_of_getElem? (i := 5) rfl))) (by decide) (backOf (W := 2) (rm1 l Z a0 hw [] is (1 : Int32) ix iy h44 n0 Z44) hZ (hw _ (List.mem_of_getElem? (i := 5) rfl)) (hw _ (List.mem_of_getElem? (i := 4) rfl)) (by decide) (by decide)) (g := (mkF m 44 #[.val (.int is), .val (.int ix), .val (.int iy), .val (.int il), .val (.int (4 : Int32)), .val (.ref b41), .unset, .unset] [(.int iy), (.int ix), (.int (1 : Int32)), (.int is), (.int (1 : Int32)), (.ref b41)])) rfl (by rw [hml]; rfl) (argsL := [(.int is), (.int (1 : Int32)), (.int ix), (.int iy)]) (rest := [(.int (1 : Int32)), (.ref b41)]) (lenOf pd_3 rfl) rfl (by show 2 * 0 + _ ≤ _; exact Nat.le_of_eq rfl) (hb hby at_44) (fun _ _ => ⟨rfl, e44, (by decide : ((0 + 1) + 0) + 0 ≤ _), (by decide : ((0 + 4) + 0) + 0 ≤ _)⟩)
    dsimp only [Pt.U, Pt.locs, Pt.cells, Pt.slots] at X46 l46 y46 z46 st46 hQ46
    subst l46 y46 z46
    obtain ⟨rfl, Nq46, eh46⟩ := hQ46
    have N46 := Fr.app N44 Nq46
    refine own_via (G := T46.setTop (mkF m 47 #[.val (.int is), .val (.int ix), .val (.int iy), .val (.int il), .val (.int (4 : Int32)), .val (.ref b41), .unset, .unset] [(.int (own_pk is (1 : Int32) ix iy)), (.int (1 : Int32)), (.ref b41)])) (fun tt kk => st46 tt kk) ?_
    obtain ⟨cl47, Ar47, qc47, S47, NN47, H47, G47⟩ := id V_b41'44
    obtain ⟨T47, h47, X47, e47, W47, st47⟩ := stB X46 hx hZ eh46 Ar47 (j := (1 : Int32)) (inb_of S47 ⟨by decide, by decide⟩) (g := (mkF m 47 #[.val (.int is), .val (.int ix), .val (.int iy), .val (.int il), .val (.int (4 : Int32)), .val (.ref b41), .unset, .unset] [(.int (own_pk is (1 : Int32) ix iy)), (.int (1 : Int32)), (.ref b41)])) rfl rfl (hb hby at_47)
    have V_b41'47 : Arv Z h47 b41 k41 .byte (4 : Int32) [(.int (nar .byte (own_pk is (0 : Int32) ix iy))), (.int (nar .byte (own_pk is (1 : Int32) ix iy))), (.int (0 : Int32)), (.int (0 : Int32))] (.int (0 : Int32)) := Arv.set Ar47 qc47 S47 NN47 H47 G47 (fits_nar_byte _) W47 1 rfl (Nat.le_of_ble_eq_true rfl)
    have N47 := Fr.snoc X47 N46 g_b41
    have Z47 : n0 ≤ h47.size := Nat.le_trans Z44 (Keep.of_wr W47).1
    refine own_via (G := T47.setTop (mkF m 48 #[.val (.int is), .val (.int ix), .val (.int iy), .val (.int il), .val (.int (4 : Int32)), .val (.ref b41), .unset, .unset] [])) (fun tt kk => st47 tt kk) ?_
    refine own_via (G := T47.setTop (mkF m 50 #[.val (.int is), .val (.int ix), .val (.int iy), .val (.int il), .val (.int (4 : Int32)), .val (.ref b41), .unset, .unset] [(.int (4 : Int32))])) (fun tt kk => XS.iload X47.here hx rfl (hb hby at_48) rfl kk) ?_
    refine own_via (G := T47.setTop (mkF m 51 #[.val (.int is), .val (.int ix), .val (.int iy), .val (.int il), .val (.int (4 : Int32)), .val (.ref b41), .unset, .unset] [(.int (2 : Int32)), (.int (4 : Int32))])) (fun tt kk => XS.iconst X47.here hx rfl (hb hby at_50) kk) ?_
    have hc48_51 : (2 : Int32) < (4 : Int32) := (by decide)
    refine own_via (G := T47.setTop (mkF m 54 #[.val (.int is), .val (.int ix), .val (.int iy), .val (.int il), .val (.int (4 : Int32)), .val (.ref b41), .unset, .unset] [])) (fun tt kk => XS.icmpNo X47.here hx rfl (hb hby at_51) rfl (XT.ii_le_f hc48_51) kk) ?_
    refine own_via (G := T47.setTop (mkF m 56 #[.val (.int is), .val (.int ix), .val (.int iy), .val (.int il), .val (.int (4 : Int32)), .val (.ref b41), .unset, .unset] [(.ref b41)])) (fun tt kk => XS.aload X47.here hx rfl (hb hby at_54) rfl rfl kk) ?_
    refine own_via (G := T47.setTop (mkF m 57 #[.val (.int is), .val (.int ix), .val (.int iy), .val (.int il), .val (.int (4 : Int32)), .val (.ref b41), .unset, .unset] [(.int (2 : Int32)), (.ref b41)])) (fun tt kk => XS.iconst X47.here hx rfl (hb hby at_56) kk) ?_
    refine own_via (G := T47.setTop (mkF m 58 #[.val (.int is), .val (.int ix), .val (.int iy), .val (.int il), .val (.int (4 : Int32)), .val (.ref b41), .unset, .unset] [(.int is), (.int (2 : Int32)), (.ref b41)])) (fun tt kk => XS.iloadN X47.here hx rfl (hb hby at_57) rfl kk) ?_
    refine own_via (G := T47.setTop (mkF m 59 #[.val (.int is), .val (.int ix), .val (.int iy), .val (.int il), .val (.int (4 : Int32)), .val (.ref b41), .unset, .unset] [(.int (2 : Int32)), (.int is), (.int (2 : Int32)), (.ref b41)])) (fun tt kk => XS.iconst X47.here hx rfl (hb hby at_58) kk) ?_
    refine own_via (G := T47.setTop (mkF m 60 #[.val (.int is), .val (.int ix), .val (.int iy), .val (.int il), .val (.int (4 : Int32)), .val (.ref b41), .unset, .unset] [(.int ix), (.int (2 : Int32)), (.int is), (.int (2 : Int32)), (.ref b41)])) (fun tt kk => XS.iloadN X47.here hx rfl (hb hby at_59) rfl kk) ?_
    refine own_via (G := T47.setTop (mkF m 61 #[.val (.int is), .val (.int ix), .val (.int iy), .val (.int il), .val (.int (4 : Int32)), .val (.ref b41), .unset, .unset] [(.int iy), (.int ix), (.int (2 : Int32)), (.int is), (.int (2 : Int32)), (.ref b41)])) (fun tt kk => XS.iloadN X47.here hx rfl (hb hby at_60) rfl kk) ?_
    obtain ⟨_, _, ⟨T49, L49, k49, n49⟩, -, X49, ⟨Lc49, hQ49, l49, y49, z49⟩, st49⟩ := Jvm.LawKit.callS X47 hx (y := (⟨"com/example/clew/clew/KnuthMorrisPrattFailureFunctionPinLaw", "pick", "(IIII)B"⟩ : MethodName)) hown (mvT hZ (hw _ (List.mem_of_getElem? (i := 2) rfl))) (mvT hZ (hw _ (List.mem_of_getElem? (i := 3) rfl))) (mvT hZ (hw _ (List.mem_of_getElem? (i := 4) rfl))) (mvT hZ (hw _ (List.mem_of_getElem? (i := 5) rfl))) (by decide) (backOf (W := 2) (rm1 l Z a0 hw [] is (2 : Int32) ix iy h47 n0 Z47) hZ (hw _ (List.mem_of_getElem? (i := 5) rfl)) (hw _ (List.mem_of_getElem? (i := 4) rfl)) (by decide) (by decide)) (g := (mkF m 61 #[.val (.int is), .val (.int ix), .val (.int iy), .val (.int il), .val (.int (4 : Int32)), .val (.ref b41), .unset, .unset] [(.int iy), (.int ix), (.int (2 : Int32)), (.int is), (.int (2 : Int32)), (.ref b41)])) rfl (by rw [hml]; rfl) (argsL := [(.int is), (.int (2 : Int32)), (.int ix), (.int iy)]) (rest := [(.int (2 : Int32)), (.ref b41)]) (lenOf pd_3 rfl) rfl (by show 2 * 0 + _ ≤ _; exact Nat.le_of_eq rfl) (hb hby at_61) (fun _ _ => ⟨rfl, e47, (by decide : (((0 + 1) + 0) + 0) + 0 ≤ _), (by decide : (((0 + 4) + 0) + 0) + 0 ≤ _)⟩)
    dsimp only [Pt.U, Pt.locs, Pt.cells, Pt.slots] at X49 l49 y49 z49 st49 hQ49
    subst l49 y49 z49
    obtain ⟨rfl, Nq49, eh49⟩ := hQ49
    have N49 := Fr.app N47 Nq49
    refine own_via (G := T49.setTop (mkF m 64 #[.val (.int is), .val (.int ix), .val (.int iy), .val (.int il), .val (.int (4 : Int32)), .val (.ref b41), .unset, .unset] [(.int (own_pk is (2 : Int32) ix iy)), (.int (2 : Int32)), (.ref b41)])) (fun tt kk => st49 tt kk) ?_
    obtain ⟨cl50, Ar50, qc50, S50, NN50, H50, G50⟩ := id V_b41'47
    obtain ⟨T50, h50, X50, e50, W50, st50⟩ := stB X49 hx hZ eh49 Ar50 (j := (2 : Int32)) (inb_of S50 ⟨by decide, by decide⟩) (g := (mkF m 64 #[.val (.int is), .val (.int ix), .val (.int iy), .val (.int il), .val (.int (4 : Int32)), .val (.ref b41), .unset, .unset] [(.int (own_pk is (2 : Int32) ix iy)), (.int (2 : Int32)), (.ref b41)])) rfl rfl (hb hby at_64)
    have V_b41'50 : Arv Z h50 b41 k41 .byte (4 : Int32) [(.int (nar .byte (own_pk is (0 : Int32) ix iy))), (.int (nar .byte (own_pk is (1 : Int32) ix iy))), (.int (nar .byte (own_pk is (2 : Int32) ix iy))), (.int (0 : Int32))] (.int (0 : Int32)) := Arv.set Ar50 qc50 S50 NN50 H50 G50 (fits_nar_byte _) W50 2 rfl (Nat.le_of_ble_eq_true rfl)
    have N50 := Fr.snoc X50 N49 g_b41
    have Z50 : n0 ≤ h50.size := Nat.le_trans Z47 (Keep.of_wr W50).1
    refine own_via (G := T50.setTop (mkF m 65 #[.val (.int is), .val (.int ix), .val (.int iy), .val (.int il), .val (.int (4 : Int32)), .val (.ref b41), .unset, .unset] [])) (fun tt kk => st50 tt kk) ?_
    refine own_via (G := T50.setTop (mkF m 67 #[.val (.int is), .val (.int ix), .val (.int iy), .val (.int il), .val (.int (4 : Int32)), .val (.ref b41), .unset, .unset] [(.int (4 : Int32))])) (fun tt kk => XS.iload X50.here hx rfl (hb hby at_65) rfl kk) ?_
    refine own_via (G := T50.setTop (mkF m 68 #[.val (.int is), .val (.int ix), .val (.int iy), .val (.int il), .val (.int (4 : Int32)), .val (.ref b41), .unset, .unset] [(.int (3 : Int32)), (.int (4 : Int32))])) (fun tt kk => XS.iconst X50.here hx rfl (hb hby at_67) kk) ?_
    have hc51_68 : (3 : Int32) < (4 : Int32) := (by decide)
    refine own_via (G := T50.setTop (mkF m 71 #[.val (.int is), .val (.int ix), .val (.int iy), .val (.int il), .val (.int (4 : Int32)), .val (.ref b41), .unset, .unset] [])) (fun tt kk => XS.icmpNo X50.here hx rfl (hb hby at_68) rfl (XT.ii_le_f hc51_68) kk) ?_
    refine own_via (G := T50.setTop (mkF m 73 #[.val (.int is), .val (.int ix), .val (.int iy), .val (.int il), .val (.int (4 : Int32)), .val (.ref b41), .unset, .unset] [(.ref b41)])) (fun tt kk => XS.aload X50.here hx rfl (hb hby at_71) rfl rfl kk) ?_
    refine own_via (G := T50.setTop (mkF m 74 #[.val (.int is), .val (.int ix), .val (.int iy), .val (.int il), .val (.int (4 : Int32)), .val (.ref b41), .unset, .unset] [(.int (3 : Int32)), (.ref b41)])) (fun tt kk => XS.iconst X50.here hx rfl (hb hby at_73) kk) ?_
    refine own_via (G := T50.setTop (mkF m 75 #[.val (.int is), .val (.int ix), .val (.int iy), .val (.int il), .val (.int (4 : Int32)), .val (.ref b41), .unset, .unset] [(.int is), (.int (3 : Int32)), (.ref b41)])) (fun tt kk => XS.iloadN X50.here hx rfl (hb hby at_74) rfl kk) ?_
    refine own_via (G := T50.setTop (mkF m 76 #[.val (.int is), .val (.int ix), .val (.int iy), .val (.int il), .val (.int (4 : Int32)), .val (.ref b41), .unset, .unset] [(.int (3 : Int32)), (.int is), (.int (3 : Int32)), (.ref b41)])) (fun tt kk => XS.iconst X50.here hx rfl (hb hby at_75) kk) ?_
    refine own_via (G := T50.setTop (mkF m 77 #[.val (.int is), .val (.int ix), .val (.int iy), .val (.int il), .val (.int (4 : Int32)), .val (.ref b41), .unset, .unset] [(.int ix), (.int (3 : Int32)), (.int is), (.int (3 : Int32)), (.ref b41)])) (fun tt kk => XS.iloadN X50.here hx rfl (hb hby at_76) rfl kk) ?_
    refine own_via (G := T50.setTop (mkF m 78 #[.val (.int is), .val (.int ix), .val (.int iy), .val (.int il), .val (.int (4 : Int32)), .val (.ref b41), .unset, .unset] [(.int iy), (.int ix), (.int (3 : Int32)), (.int is), (.int (3 : Int32)), (.ref b41)])) (fun tt kk => XS.iloadN X50.here hx rfl (hb hby at_77) rfl kk) ?_
    obtain ⟨_, _, ⟨T52, L52, k52, n52⟩, -, X52, ⟨Lc52, hQ52, l52, y52, z52⟩, st52⟩ := Jvm.LawKit.callS X50 hx (y := (⟨"com/example/clew/clew/KnuthMorrisPrattFailureFunctionPinLaw", "pick", "(IIII)B"⟩ : MethodName)) hown (mvT hZ (hw _ (List.mem_of_getElem? (i := 2) rfl))) (mvT hZ (hw _ (List.mem_of_getElem? (i := 3) rfl))) (mvT hZ (hw _ (List.mem_of_getElem? (i := 4) rfl))) (mvT hZ (hw _ (List.mem_of_getElem? (i := 5) rfl))) (by decide) (backOf (W := 2) (rm1 l Z a0 hw [] is (3 : Int32) ix iy h50 n0 Z50) hZ (hw _ (List.mem_of_getElem? (i := 5) rfl)) (hw _ (List.mem_of_getElem? (i := 4) rfl)) (by decide) (by decide)) (g := (mkF m 78 #[.val (.int is), .val (.int ix), .val (.int iy), .val (.int il), .val (.int (4 : Int32)), .val (.ref b41), .unset, .unset] [(.int iy), (.int ix), (.int (3 : Int32)), (.int is), (.int (3 : Int32)), (.ref b41)])) rfl (by rw [hml]; rfl) (argsL := [(.int is), (.int (3 : Int32)), (.int ix), (.int iy)]) (rest := [(.int (3 : Int32)), (.ref b41)]) (lenOf pd_3 rfl) rfl (by show 2 * 0 + _ ≤ _; exact Nat.le_of_eq rfl) (hb hby at_78) (fun _ _ => ⟨rfl, e50, (by decide : ((((0 + 1) + 0) + 0) + 0) + 0 ≤ _), (by decide : ((((0 + 4) + 0) + 0) + 0) + 0 ≤ _)⟩)
    dsimp only [Pt.U, Pt.locs, Pt.cells, Pt.slots] at X52 l52 y52 z52 st52 hQ52
    subst l52 y52 z52
    obtain ⟨rfl, Nq52, eh52⟩ := hQ52
    have N52 := Fr.app N50 Nq52
    refine own_via (G := T52.setTop (mkF m 81 #[.val (.int is), .val (.int ix), .val (.int iy), .val (.int il), .val (.int (4 : Int32)), .val (.ref b41), .unset, .unset] [(.int (own_pk is (3 : Int32) ix iy)), (.int (3 : Int32)), (.ref b41)])) (fun tt kk => st52 tt kk) ?_
    obtain ⟨cl53, Ar53, qc53, S53, NN53, H53, G53⟩ := id V_b41'50
    obtain ⟨T53, h53, X53, e53, W53, st53⟩ := stB X52 hx hZ eh52 Ar53 (j := (3 : Int32)) (inb_of S53 ⟨by decide, by decide⟩) (g := (mkF m 81 #[.val (.int is), .val (.int ix), .val (.int iy), .val (.int il), .val (.int (4 : Int32)), .val (.ref b41), .unset, .unset] [(.int (own_pk is (3 : Int32) ix iy)), (.int (3 : Int32)), (.ref b41)])) rfl rfl (hb hby at_81)
    have V_b41'53 : Arv Z h53 b41 k41 .byte (4 : Int32) [(.int (nar .byte (own_pk is (0 : Int32) ix iy))), (.int (nar .byte (own_pk is (1 : Int32) ix iy))), (.int (nar .byte (own_pk is (2 : Int32) ix iy))), (.int (nar .byte (own_pk is (3 : Int32) ix iy)))] (.int (0 : Int32)) := Arv.set Ar53 qc53 S53 NN53 H53 G53 (fits_nar_byte _) W53 3 rfl (Nat.le_of_ble_eq_true rfl)
    have N53 := Fr.snoc X53 N52 g_b41
    have Z53 : n0 ≤ h53.size := Nat.le_trans Z50 (Keep.of_wr W53).1
    refine own_via (G := T53.setTop (mkF m 82 #[.val (.int is), .val (.int ix), .val (.int iy), .val (.int il), .val (.int (4 : Int32)), .val (.ref b41), .unset, .unset] [])) (fun tt kk => st53 tt kk) ?_
    refine own_via (G := T53.setTop (mkF m 84 #[.val (.int is), .val (.int ix), .val (.int iy), .val (.int il), .val (.int (4 : Int32)), .val (.ref b41), .unset, .unset] [(.int (4 : Int32))])) (fun tt kk => XS.iload X53.here hx rfl (hb hby at_82) rfl kk) ?_
    refine own_via (G := T53.setTop (mkF m 85 #[.val (.int is), .val (.int ix), .val (.int iy), .val (.int il), .val (.int (4 : Int32)), .val (.ref b41), .unset, .unset] [(.int (4 : Int32)), (.int (4 : Int32))])) (fun tt kk => XS.iconst X53.here hx rfl (hb hby at_84) kk) ?_
    have hc54_85 : ¬ ((4 : Int32) < (4 : Int32)) := (by decide)
    refine own_via (G := T53.setTop (mkF m 99 #[.val (.int is), .val (.int ix), .val (.int iy), .val (.int il), .val (.int (4 : Int32)), .val (.ref b41), .unset, .unset] [])) (fun tt kk => XS.icmpYes X53.here hx rfl (pc0 := 85) (pc' := 99) rfl (hb hby at_85) rfl (XT.ii_le_t hc54_85) (by decide) (by decide) kk) ?_
    refine own_via (G := T53.setTop (mkF m 101 #[.val (.int is), .val (.int ix), .val (.int iy), .val (.int il), .val (.int (4 : Int32)), .val (.ref b41), .unset, .unset] [(.int (4 : Int32))])) (fun tt kk => XS.iload X53.here hx rfl (hb hby at_99) rfl kk) ?_
    refine own_via (G := T53.setTop (mkF m 102 #[.val (.int is), .val (.int ix), .val (.int iy), .val (.int il), .val (.int (4 : Int32)), .val (.ref b41), .unset, .unset] [(.int (5 : Int32)), (.int (4 : Int32))])) (fun tt kk => XS.iconst X53.here hx rfl (hb hby at_101) kk) ?_
    have hc55_102 : ¬ ((5 : Int32) < (4 : Int32)) := (by decide)
    refine own_via (G := T53.setTop (mkF m 116 #[.val (.int is), .val (.int ix), .val (.int iy), .val (.int il), .val (.int (4 : Int32)), .val (.ref b41), .unset, .unset] [])) (fun tt kk => XS.icmpYes X53.here hx rfl (pc0 := 102) (pc' := 116) rfl (hb hby at_102) rfl (XT.ii_le_t hc55_102) (by decide) (by decide) kk) ?_
    exact b0_116_4 (.val (.int is)) (.val (.int ix)) (.val (.int iy)) (.val (.int il)) b41 k41 (nar .byte (own_pk is (0 : Int32) ix iy)) (nar .byte (own_pk is (1 : Int32) ix iy)) (nar .byte (own_pk is (2 : Int32) ix iy)) (nar .byte (own_pk is (3 : Int32) ix iy)) ⟨hx, hZ, hw, hby, hml, hown, hret, hlk, hnm⟩ X53 e53 Z53 N53 V_b41'53 g_b41
  · rw [hN]
    refine own_via (G := T0.setTop (mkF m 11 #[.val (.int is), .val (.int ix), .val (.int iy), .val (.int il), .val (.int (5 : Int32)), .unset, .unset, .unset] [(.int (5 : Int32))])) (fun tt kk => XS.iload X0.here hx rfl (hb hby at_9) rfl kk) ?_
    obtain ⟨T56, h56, k56, X56, e56, E56, A56, st56⟩ := newP X0 hx hZ (hw _ (List.mem_of_getElem? (i := 1) rfl)) e0 (g := (mkF m 11 #[.val (.int is), .val (.int ix), .val (.int iy), .val (.int il), .val (.int (5 : Int32)), .unset, .unset, .unset] [(.int (5 : Int32))])) rfl (hb hby at_11) rfl (by decide) (cap := 5) (by decide) (by decide) (by decide) (by decide)
    obtain ⟨b56, g56⟩ : ∃ z, z = h0.size := ⟨_, rfl⟩
    rw [← g56] at A56 st56
    have g_b56 : n0 ≤ b56 := Nat.le_trans Z0 (Nat.le_of_eq g56.symm)
    have Z56 : n0 ≤ h56.size := Nat.le_trans Z0 E56.1
    have V_b56 : Arv Z h56 b56 k56 .byte (5 : Int32) [(.int (0 : Int32)), (.int (0 : Int32)), (.int (0 : Int32)), (.int (0 : Int32)), (.int (0 : Int32))] (.int (0 : Int32)) := (Arv.new A56 (by decide)).pad (pad_rep [] (.int (0 : Int32)) 5)
    refine own_via (G := T56.setTop (mkF m 13 #[.val (.int is), .val (.int ix), .val (.int iy), .val (.int il), .val (.int (5 : Int32)), .unset, .unset, .unset] [(.ref b56)])) (fun tt kk => st56 tt kk) ?_
    refine own_via (G := T56.setTop (mkF m 15 #[.val (.int is), .val (.int ix), .val (.int iy), .val (.int il), .val (.int (5 : Int32)), .val (.ref b56), .unset, .unset] [])) (fun tt kk => XS.astore X56.here hx rfl (hb hby at_13) rfl rfl (l' := #[.val (.int is), .val (.int ix), .val (.int iy), .val (.int il), .val (.int (5 : Int32)), .val (.ref b56), .unset, .unset]) rfl kk) ?_
    refine own_via (G := T56.setTop (mkF m 17 #[.val (.int is), .val (.int ix), .val (.int iy), .val (.int il), .val (.int (5 : Int32)), .val (.ref b56), .unset, .unset] [(.int (5 : Int32))])) (fun tt kk => XS.iload X56.here hx rfl (hb hby at_15) rfl kk) ?_
    have hc57_17 : (0 : Int32) < (5 : Int32) := (by decide)
    refine own_via (G := T56.setTop (mkF m 20 #[.val (.int is), .val (.int ix), .val (.int iy), .val (.int il), .val (.int (5 : Int32)), .val (.ref b56), .unset, .unset] [])) (fun tt kk => XS.ifNo X56.here hx rfl (hb hby at_17) rfl (XT.i0_le_f hc57_17) kk) ?_
    refine own_via (G := T56.setTop (mkF m 22 #[.val (.int is), .val (.int ix), .val (.int iy), .val (.int il), .val (.int (5 : Int32)), .val (.ref b56), .unset, .unset] [(.ref b56)])) (fun tt kk => XS.aload X56.here hx rfl (hb hby at_20) rfl rfl kk) ?_
    refine own_via (G := T56.setTop (mkF m 23 #[.val (.int is), .val (.int ix), .val (.int iy), .val (.int il), .val (.int (5 : Int32)), .val (.ref b56), .unset, .unset] [(.int (0 : Int32)), (.ref b56)])) (fun tt kk => XS.iconst X56.here hx rfl (hb hby at_22) kk) ?_
    refine own_via (G := T56.setTop (mkF m 24 #[.val (.int is), .val (.int ix), .val (.int iy), .val (.int il), .val (.int (5 : Int32)), .val (.ref b56), .unset, .unset] [(.int is), (.int (0 : Int32)), (.ref b56)])) (fun tt kk => XS.iloadN X56.here hx rfl (hb hby at_23) rfl kk) ?_
    refine own_via (G := T56.setTop (mkF m 25 #[.val (.int is), .val (.int ix), .val (.int iy), .val (.int il), .val (.int (5 : Int32)), .val (.ref b56), .unset, .unset] [(.int (0 : Int32)), (.int is), (.int (0 : Int32)), (.ref b56)])) (fun tt kk => XS.iconst X56.here hx rfl (hb hby at_24) kk) ?_
    refine own_via (G := T56.setTop (mkF m 26 #[.val (.int is), .val (.int ix), .val (.int iy), .val (.int il), .val (.int (5 : Int32)), .val (.ref b56), .unset, .unset] [(.int ix), (.int (0 : Int32)), (.int is), (.int (0 : Int32)), (.ref b56)])) (fun tt kk => XS.iloadN X56.here hx rfl (hb hby at_25) rfl kk) ?_
    refine own_via (G := T56.setTop (mkF m 27 #[.val (.int is), .val (.int ix), .val (.int iy), .val (.int il), .val (.int (5 : Int32)), .val (.ref b56), .unset, .unset] [(.int iy), (.int ix), (.int (0 : Int32)), (.int is), (.int (0 : Int32)), (.ref b56)])) (fun tt kk => XS.iloadN X56.here hx rfl (hb hby at_26) rfl kk) ?_
    obtain ⟨_, _, ⟨T58, L58, k58, n58⟩, -, X58, ⟨Lc58, hQ58, l58, y58, z58⟩, st58⟩ := Jvm.LawKit.callS X56 hx (y := (⟨"com/example/clew/clew/KnuthMorrisPrattFailureFunctionPinLaw", "pick", "(IIII)B"⟩ : MethodName)) hown (mvT hZ (hw _ (List.mem_of_getElem? (i := 2) rfl))) (mvT hZ (hw _ (List.mem_of_getElem? (i := 3) rfl))) (mvT hZ (hw _ (List.mem_of_getElem? (i := 4) rfl))) (mvT hZ (hw _ (List.mem_of_getElem? (i := 5) rfl))) (by decide) (backOf (W := 2) (rm1 l Z a0 hw [] is (0 : Int32) ix iy h56 n0 Z56) hZ (hw _ (List.mem_of_getElem? (i := 5) rfl)) (hw _ (List.mem_of_getElem? (i := 4) rfl)) (by decide) (by decide)) (g := (mkF m 27 #[.val (.int is), .val (.int ix), .val (.int iy), .val (.int il), .val (.int (5 : Int32)), .val (.ref b56), .unset, .unset] [(.int iy), (.int ix), (.int (0 : Int32)), (.int is), (.int (0 : Int32)), (.ref b56)])) rfl (by rw [hml]; rfl) (argsL := [(.int is), (.int (0 : Int32)), (.int ix), (.int iy)]) (rest := [(.int (0 : Int32)), (.ref b56)]) (lenOf pd_3 rfl) rfl (by show 2 * 0 + _ ≤ _; exact Nat.le_of_eq rfl) (hb hby at_27) (fun _ _ => ⟨rfl, e56, (by decide : (0 + 1) + 0 ≤ _), (by decide : (0 + 5) + 0 ≤ _)⟩)
    dsimp only [Pt.U, Pt.locs, Pt.cells, Pt.slots] at X58 l58 y58 z58 st58 hQ58
    subst l58 y58 z58
    obtain ⟨rfl, Nq58, eh58⟩ := hQ58
    have N58 := Fr.app N0 Nq58
    refine own_via (G := T58.setTop (mkF m 30 #[.val (.int is), .val (.int ix), .val (.int iy), .val (.int il), .val (.int (5 : Int32)), .val (.ref b56), .unset, .unset] [(.int (own_pk is (0 : Int32) ix iy)), (.int (0 : Int32)), (.ref b56)])) (fun tt kk => st58 tt kk) ?_
    obtain ⟨cl59, Ar59, qc59, S59, NN59, H59, G59⟩ := id V_b56
    obtain ⟨T59, h59, X59, e59, W59, st59⟩ := stB X58 hx hZ eh58 Ar59 (j := (0 : Int32)) (inb_of S59 ⟨by decide, by decide⟩) (g := (mkF m 30 #[.val (.int is), .val (.int ix), .val (.int iy), .val (.int il), .val (.int (5 : Int32)), .val (.ref b56), .unset, .unset] [(.int (own_pk is (0 : Int32) ix iy)), (.int (0 : Int32)), (.ref b56)])) rfl rfl (hb hby at_30)
    have V_b56'59 : Arv Z h59 b56 k56 .byte (5 : Int32) [(.int (nar .byte (own_pk is (0 : Int32) ix iy))), (.int (0 : Int32)), (.int (0 : Int32)), (.int (0 : Int32)), (.int (0 : Int32))] (.int (0 : Int32)) := Arv.set Ar59 qc59 S59 NN59 H59 G59 (fits_nar_byte _) W59 0 rfl (Nat.le_of_ble_eq_true rfl)
    have N59 := Fr.snoc X59 N58 g_b56
    have Z59 : n0 ≤ h59.size := Nat.le_trans Z56 (Keep.of_wr W59).1
    refine own_via (G := T59.setTop (mkF m 31 #[.val (.int is), .val (.int ix), .val (.int iy), .val (.int il), .val (.int (5 : Int32)), .val (.ref b56), .unset, .unset] [])) (fun tt kk => st59 tt kk) ?_
    refine own_via (G := T59.setTop (mkF m 33 #[.val (.int is), .val (.int ix), .val (.int iy), .val (.int il), .val (.int (5 : Int32)), .val (.ref b56), .unset, .unset] [(.int (5 : Int32))])) (fun tt kk => XS.iload X59.here hx rfl (hb hby at_31) rfl kk) ?_
    refine own_via (G := T59.setTop (mkF m 34 #[.val (.int is), .val (.int ix), .val (.int iy), .val (.int il), .val (.int (5 : Int32)), .val (.ref b56), .unset, .unset] [(.int (1 : Int32)), (.int (5 : Int32))])) (fun tt kk => XS.iconst X59.here hx rfl (hb hby at_33) kk) ?_
    have hc60_34 : (1 : Int32) < (5 : Int32) := (by decide)
    refine own_via (G := T59.setTop (mkF m 37 #[.val (.int is), .val (.int ix), .val (.int iy), .val (.int il), .val (.int (5 : Int32)), .val (.ref b56), .unset, .unset] [])) (fun tt kk => XS.icmpNo X59.here hx rfl (hb hby at_34) rfl (XT.ii_le_f hc60_34) kk) ?_
    refine own_via (G := T59.setTop (mkF m 39 #[.val (.int is), .val (.int ix), .val (.int iy), .val (.int il), .val (.int (5 : Int32)), .val (.ref b56), .unset, .unset] [(.ref b56)])) (fun tt kk => XS.aload X59.here hx rfl (hb hby at_37) rfl rfl kk) ?_
    refine own_via (G := T59.setTop (mkF m 40 #[.val (.int is), .val (.int ix), .val (.int iy), .val (.int il), .val (.int (5 : Int32)), .val (.ref b56), .unset, .unset] [(.int (1 : Int32)), (.ref b56)])) (fun tt kk => XS.iconst X59.here hx rfl (hb hby at_39) kk) ?_
    refine own_via (G := T59.setTop (mkF m 41 #[.val (.int is), .val (.int ix), .val (.int iy), .val (.int il), .val (.int (5 : Int32)), .val (.ref b56), .unset, .unset] [(.int is), (.int (1 : Int32)), (.ref b56)])) (fun tt kk => XS.iloadN X59.here hx rfl (hb hby at_40) rfl kk) ?_
    refine own_via (G := T59.setTop (mkF m 42 #[.val (.int is), .val (.int ix), .val (.int iy), .val (.int il), .val (.int (5 : Int32)), .val (.ref b56), .unset, .unset] [(.int (1 : Int32)), (.int is), (.int (1 : Int32)), (.ref b56)])) (fun tt kk => XS.iconst X59.here hx rfl (hb hby at_41) kk) ?_
    refine own_via (G := T59.setTop (mkF m 43 #[.val (.int is), .val (.int ix), .val (.int iy), .val (.int il), .val (.int (5 : Int32)), .val (.ref b56), .unset, .unset] [(.int ix), (.int (1 : Int32)), (.int is), (.int (1 : Int32)), (.ref b56)])) (fun tt kk => XS.iloadN X59.here hx rfl (hb hby at_42) rfl kk) ?_
    refine own_via (G := T59.setTop (mkF m 44 #[.val (.int is), .val (.int ix), .val (.int iy), .val (.int il), .val (.int (5 : Int32)), .val (.ref b56), .unset, .unset] [(.int iy), (.int ix), (.int (1 : Int32)), (.int is), (.int (1 : Int32)), (.ref b56)])) (fun tt kk => XS.iloadN X59.here hx rfl (hb hby at_43) rfl kk) ?_
    obtain ⟨_, _, ⟨T61, L61, k61, n61⟩, -, X61, ⟨Lc61, hQ61, l61, y61, z61⟩, st61⟩ := Jvm.LawKit.callS X59 hx (y := (⟨"com/example/clew/clew/KnuthMorrisPrattFailureFunctionPinLaw", "pick", "(IIII)B"⟩ : MethodName)) hown (mvT hZ (hw _ (List.mem_of_getElem? (i := 2) rfl))) (mvT hZ (hw _ (List.mem_of_getElem? (i := 3) rfl))) (mvT hZ (hw _ (List.mem_of_getElem? (i := 4) rfl))) (mvT hZ (hw _ (List.mem_of_getElem? (i := 5) rfl))) (by decide) (backOf (W := 2) (rm1 l Z a0 hw [] is (1 : Int32) ix iy h59 n0 Z59) hZ (hw _ (List.mem_of_getElem? (i := 5) rfl)) (hw _ (List.mem_of_getElem? (i := 4) rfl)) (by decide) (by decide)) (g := (mkF m 44 #[.val (.int is), .val (.int ix), .val (.int iy), .val (.int il), .val (.int (5 : Int32)), .val (.ref b56), .unset, .unset] [(.int iy), (.int ix), (.int (1 : Int32)), (.int is), (.int (1 : Int32)), (.ref b56)])) rfl (by rw [hml]; rfl) (argsL := [(.int is), (.int (1 : Int32)), (.int ix), (.int iy)]) (rest := [(.int (1 : Int32)), (.ref b56)]) (lenOf pd_3 rfl) rfl (by show 2 * 0 + _ ≤ _; exact Nat.le_of_eq rfl) (hb hby at_44) (fun _ _ => ⟨rfl, e59, (by decide : ((0 + 1) + 0) + 0 ≤ _), (by decide : ((0 + 5) + 0) + 0 ≤ _)⟩)
    dsimp only [Pt.U, Pt.locs, Pt.cells, Pt.slots] at X61 l61 y61 z61 st61 hQ61
    subst l61 y61 z61
    obtain ⟨rfl, Nq61, eh61⟩ := hQ61
    have N61 := Fr.app N59 Nq61
    refine own_via (G := T61.setTop (mkF m 47 #[.val (.int is), .val (.int ix), .val (.int iy), .val (.int il), .val (.int (5 : Int32)), .val (.ref b56), .unset, .unset] [(.int (own_pk is (1 : Int32) ix iy)), (.int (1 : Int32)), (.ref b56)])) (fun tt kk => st61 tt kk) ?_
    obtain ⟨cl62, Ar62, qc62, S62, NN62, H62, G62⟩ := id V_b56'59
    obtain ⟨T62, h62, X62, e62, W62, st62⟩ := stB X61 hx hZ eh61 Ar62 (j := (1 : Int32)) (inb_of S62 ⟨by decide, by decide⟩) (g := (mkF m 47 #[.val (.int is), .val (.int ix), .val (.int iy), .val (.int il), .val (.int (5 : Int32)), .val (.ref b56), .unset, .unset] [(.int (own_pk is (1 : Int32) ix iy)), (.int (1 : Int32)), (.ref b56)])) rfl rfl (hb hby at_47)
    have V_b56'62 : Arv Z h62 b56 k56 .byte (5 : Int32) [(.int (nar .byte (own_pk is (0 : Int32) ix iy))), (.int (nar .byte (own_pk is (1 : Int32) ix iy))), (.int (0 : Int32)), (.int (0 : Int32)), (.int (0 : Int32))] (.int (0 : Int32)) := Arv.set Ar62 qc62 S62 NN62 H62 G62 (fits_nar_byte _) W62 1 rfl (Nat.le_of_ble_eq_true rfl)
    have N62 := Fr.snoc X62 N61 g_b56
    have Z62 : n0 ≤ h62.size := Nat.le_trans Z59 (Keep.of_wr W62).1
    refine own_via (G := T62.setTop (mkF m 48 #[.val (.int is), .val (.int ix), .val (.int iy), .val (.int il), .val (.int (5 : Int32)), .val (.ref b56), .unset, .unset] [])) (fun tt kk => st62 tt kk) ?_
    refine own_via (G := T62.setTop (mkF m 50 #[.val (.int is), .val (.int ix), .val (.int iy), .val (.int il), .val (.int (5 : Int32)), .val (.ref b56), .unset, .unset] [(.int (5 : Int32))])) (fun tt kk => XS.iload X62.here hx rfl (hb hby at_48) rfl kk) ?_
    refine own_via (G := T62.setTop (mkF m 51 #[.val (.int is), .val (.int ix), .val (.int iy), .val (.int il), .val (.int (5 : Int32)), .val (.ref b56), .unset, .unset] [(.int (2 : Int32)), (.int (5 : Int32))])) (fun tt kk => XS.iconst X62.here hx rfl (hb hby at_50) kk) ?_
    have hc63_51 : (2 : Int32) < (5 : Int32) := (by decide)
    refine own_via (G := T62.setTop (mkF m 54 #[.val (.int is), .val (.int ix), .val (.int iy), .val (.int il), .val (.int (5 : Int32)), .val (.ref b56), .unset, .unset] [])) (fun tt kk => XS.icmpNo X62.here hx rfl (hb hby at_51) rfl (XT.ii_le_f hc63_51) kk) ?_
    refine own_via (G := T62.setTop (mkF m 56 #[.val (.int is), .val (.int ix), .val (.int iy), .val (.int il), .val (.int (5 : Int32)), .val (.ref b56), .unset, .unset] [(.ref b56)])) (fun tt kk => XS.aload X62.here hx rfl (hb hby at_54) rfl rfl kk) ?_
    refine own_via (G := T62.setTop (mkF m 57 #[.val (.int is), .val (.int ix), .val (.int iy), .val (.int il), .val (.int (5 : Int32)), .val (.ref b56), .unset, .unset] [(.int (2 : Int32)), (.ref b56)])) (fun tt kk => XS.iconst X62.here hx rfl (hb hby at_56) kk) ?_
    refine own_via (G := T62.setTop (mkF m 58 #[.val (.int is), .val (.int ix), .val (.int iy), .val (.int il), .val (.int (5 : Int32)), .val (.ref b56), .unset, .unset] [(.int is), (.int (2 : Int32)), (.ref b56)])) (fun tt kk => XS.iloadN X62.here hx rfl (hb hby at_57) rfl kk) ?_
    refine own_via (G := T62.setTop (mkF m 59 #[.val (.int is), .val (.int ix), .val (.int iy), .val (.int il), .val (.int (5 : Int32)), .val (.ref b56), .unset, .unset] [(.int (2 : Int32)), (.int is), (.int (2 : Int32)), (.ref b56)])) (fun tt kk => XS.iconst X62.here hx rfl (hb hby at_58) kk) ?_
    refine own_via (G := T62.setTop (mkF m 60 #[.val (.int is), .val (.int ix), .val (.int iy), .val (.int il), .val (.int (5 : Int32)), .val (.ref b56), .unset, .unset] [(.int ix), (.int (2 : Int32)), (.int is), (.int (2 : Int32)), (.ref b56)])) (fun tt kk => XS.iloadN X62.here hx rfl (hb hby at_59) rfl kk) ?_
    refine own_via (G := T62.setTop (mkF m 61 #[.val (.int is), .val (.int ix), .val (.int iy), .val (.int il), .val (.int (5 : Int32)), .val (.ref b56), .unset, .unset] [(.int iy), (.int ix), (.int (2 : Int32)), (.int is), (.int (2 : Int32)), (.ref b56)])) (fun tt kk => XS.iloadN X62.here hx rfl (hb hby at_60) rfl kk) ?_
    obtain ⟨_, _, ⟨T64, L64, k64, n64⟩, -, X64, ⟨Lc64, hQ64, l64, y64, z64⟩, st64⟩ := Jvm.LawKit.callS X62 hx (y := (⟨"com/example/clew/clew/KnuthMorrisPrattFailureFunctionPinLaw", "pick", "(IIII)B"⟩ : MethodName)) hown (mvT hZ (hw _ (List.mem_of_getElem? (i := 2) rfl))) (mvT hZ (hw _ (List.mem_of_getElem? (i := 3) rfl))) (mvT hZ (hw _ (List.mem_of_getElem? (i := 4) rfl))) (mvT hZ (hw _ (List.mem_of_getElem? (i := 5) rfl))) (by decide) (backOf (W := 2) (rm1 l Z a0 hw [] is (2 : Int32) ix iy h62 n0 Z62) hZ (hw _ (List.mem_of_getElem? (i := 5) rfl)) (hw _ (List.mem_of_getElem? (i := 4) rfl)) (by decide) (by decide)) (g := (mkF m 61 #[.val (.int is), .val (.int ix), .val (.int iy), .val (.int il), .val (.int (5 : Int32)), .val (.ref b56), .unset, .unset] [(.int iy), (.int ix), (.int (2 : Int32)), (.int is), (.int (2 : Int32)), (.ref b56)])) rfl (by rw [hml]; rfl) (argsL := [(.int is), (.int (2 : Int32)), (.int ix), (.int iy)]) (rest := [(.int (2 : Int32)), (.ref b56)]) (lenOf pd_3 rfl) rfl (by show 2 * 0 + _ ≤ _; exact Nat.le_of_eq rfl) (hb hby at_61) (fun _ _ => ⟨rfl, e62, (by decide : (((0 + 1) + 0) + 0) + 0 ≤ _), (by decide : (((0 + 5) + 0) + 0) + 0 ≤ _)⟩)
    dsimp only [Pt.U, Pt.locs, Pt.cells, Pt.slots] at X64 l64 y64 z64 st64 hQ64
    subst l64 y64 z64
    obtain ⟨rfl, Nq64, eh64⟩ := hQ64
    have N64 := Fr.app N62 Nq64
    refine own_via (G := T64.setTop (mkF m 64 #[.val (.int is), .val (.int ix), .val (.int iy), .val (.int il), .val (.int (5 : Int32)), .val (.ref b56), .unset, .unset] [(.int (own_pk is (2 : Int32) ix iy)), (.int (2 : Int32)), (.ref b56)])) (fun tt kk => st64 tt kk) ?_
    obtain ⟨cl65, Ar65, qc65, S65, NN65, H65, G65⟩ := id V_b56'62
    obtain ⟨T65, h65, X65, e65, W65, st65⟩ := stB X64 hx hZ eh64 Ar65 (j := (2 : Int32)) (inb_of S65 ⟨by decide, by decide⟩) (g := (mkF m 64 #[.val (.int is), .val (.int ix), .val (.int iy), .val (.int il), .val (.int (5 : Int32)), .val (.ref b56), .unset, .unset] [(.int (own_pk is (2 : Int32) ix iy)), (.int (2 : Int32)), (.ref b56)])) rfl rfl (hb hby at_64)
    have V_b56'65 : Arv Z h65 b56 k56 .byte (5 : Int32) [(.int (nar .byte (own_pk is (0 : Int32) ix iy))), (.int (nar .byte (own_pk is (1 : Int32) ix iy))), (.int (nar .byte (own_pk is (2 : Int32) ix iy))), (.int (0 : Int32)), (.int (0 : Int32))] (.int (0 : Int32)) := Arv.set Ar65 qc65 S65 NN65 H65 G65 (fits_nar_byte _) W65 2 rfl (Nat.le_of_ble_eq_true rfl)
    have N65 := Fr.snoc X65 N64 g_b56
    have Z65 : n0 ≤ h65.size := Nat.le_trans Z62 (Keep.of_wr W65).1
    refine own_via (G := T65.setTop (mkF m 65 #[.val (.int is), .val (.int ix), .val (.int iy), .val (.int il), .val (.int (5 : Int32)), .val (.ref b56), .unset, .unset] [])) (fun tt kk => st65 tt kk) ?_
    refine own_via (G := T65.setTop (mkF m 67 #[.val (.int is), .val (.int ix), .val (.int iy), .val (.int il), .val (.int (5 : Int32)), .val (.ref b56), .unset, .unset] [(.int (5 : Int32))])) (fun tt kk => XS.iload X65.here hx rfl (hb hby at_65) rfl kk) ?_
    refine own_via (G := T65.setTop (mkF m 68 #[.val (.int is), .val (.int ix), .val (.int iy), .val (.int il), .val (.int (5 : Int32)), .val (.ref b56), .unset, .unset] [(.int (3 : Int32)), (.int (5 : Int32))])) (fun tt kk => XS.iconst X65.here hx rfl (hb hby at_67) kk) ?_
    have hc66_68 : (3 : Int32) < (5 : Int32) := (by decide)
    refine own_via (G := T65.setTop (mkF m 71 #[.val (.int is), .val (.int ix), .val (.int iy), .val (.int il), .val (.int (5 : Int32)), .val (.ref b56), .unset, .unset] [])) (fun tt kk => XS.icmpNo X65.here hx rfl (hb hby at_68) rfl (XT.ii_le_f hc66_68) kk) ?_
    refine own_via (G := T65.setTop (mkF m 73 #[.val (.int is), .val (.int ix), .val (.int iy), .val (.int il), .val (.int (5 : Int32)), .val (.ref b56), .unset, .unset] [(.ref b56)])) (fun tt kk => XS.aload X65.here hx rfl (hb hby at_71) rfl rfl kk) ?_
    refine own_via (G := T65.setTop (mkF m 74 #[.val (.int is), .val (.int ix), .val (.int iy), .val (.int il), .val (.int (5 : Int32)), .val (.ref b56), .unset, .unset] [(.int (3 : Int32)), (.ref b56)])) (fun tt kk => XS.iconst X65.here hx rfl (hb hby at_73) kk) ?_
    refine own_via (G := T65.setTop (mkF m 75 #[.val (.int is), .val (.int ix), .val (.int iy), .val (.int il), .val (.int (5 : Int32)), .val (.ref b56), .unset, .unset] [(.int is), (.int (3 : Int32)), (.ref b56)])) (fun tt kk => XS.iloadN X65.here hx rfl (hb hby at_74) rfl kk) ?_
    refine own_via (G := T65.setTop (mkF m 76 #[.val (.int is), .val (.int ix), .val (.int iy), .val (.int il), .val (.int (5 : Int32)), .val (.ref b56), .unset, .unset] [(.int (3 : Int32)), (.int is), (.int (3 : Int32)), (.ref b56)])) (fun tt kk => XS.iconst X65.here hx rfl (hb hby at_75) kk) ?_
    refine own_via (G := T65.setTop (mkF m 77 #[.val (.int is), .val (.int ix), .val (.int iy), .val (.int il), .val (.int (5 : Int32)), .val (.ref b56), .unset, .unset] [(.int ix), (.int (3 : Int32)), (.int is), (.int (3 : Int32)), (.ref b56)])) (fun tt kk => XS.iloadN X65.here hx rfl (hb hby at_76) rfl kk) ?_
    refine own_via (G := T65.setTop (mkF m 78 #[.val (.int is), .val (.int ix), .val (.int iy), .val (.int il), .val (.int (5 : Int32)), .val (.ref b56), .unset, .unset] [(.int iy), (.int ix), (.int (3 : Int32)), (.int is), (.int (3 : Int32)), (.ref b56)])) (fun tt kk => XS.iloadN X65.here hx rfl (hb hby at_77) rfl kk) ?_
    obtain ⟨_, _, ⟨T67, L67, k67, n67⟩, -, X67, ⟨Lc67, hQ67, l67, y67, z67⟩, st67⟩ := Jvm.LawKit.callS X65 hx (y := (⟨"com/example/clew/clew/KnuthMorrisPrattFailureFunctionPinLaw", "pick", "(IIII)B"⟩ : MethodName)) hown (mvT hZ (hw _ (List.mem_of_getElem? (i := 2) rfl))) (mvT hZ (hw _ (List.mem_of_getElem? (i := 3) rfl))) (mvT hZ (hw _ (List.mem_of_getElem? (i := 4) rfl))) (mvT hZ (hw _ (List.mem_of_getElem? (i := 5) rfl))) (by decide) (backOf (W := 2) (rm1 l Z a0 hw [] is (3 : Int32) ix iy h65 n0 Z65) hZ (hw _ (List.mem_of_getElem? (i := 5) rfl)) (hw _ (List.mem_of_getElem? (i := 4) rfl)) (by decide) (by decide)) (g := (mkF m 78 #[.val (.int is), .val (.int ix), .val (.int iy), .val (.int il), .val (.int (5 : Int32)), .val (.ref b56), .unset, .unset] [(.int iy), (.int ix), (.int (3 : Int32)), (.int is), (.int (3 : Int32)), (.ref b56)])) rfl (by rw [hml]; rfl) (argsL := [(.int is), (.int (3 : Int32)), (.int ix), (.int iy)]) (rest := [(.int (3 : Int32)), (.ref b56)]) (lenOf pd_3 rfl) rfl (by show 2 * 0 + _ ≤ _; exact Nat.le_of_eq rfl) (hb hby at_78) (fun _ _ => ⟨rfl, e65, (by decide : ((((0 + 1) + 0) + 0) + 0) + 0 ≤ _), (by decide : ((((0 + 5) + 0) + 0) + 0) + 0 ≤ _)⟩)
    dsimp only [Pt.U, Pt.locs, Pt.cells, Pt.slots] at X67 l67 y67 z67 st67 hQ67
    subst l67 y67 z67
    obtain ⟨rfl, Nq67, eh67⟩ := hQ67
    have N67 := Fr.app N65 Nq67
    refine own_via (G := T67.setTop (mkF m 81 #[.val (.int is), .val (.int ix), .val (.int iy), .val (.int il), .val (.int (5 : Int32)), .val (.ref b56), .unset, .unset] [(.int (own_pk is (3 : Int32) ix iy)), (.int (3 : Int32)), (.ref b56)])) (fun tt kk => st67 tt kk) ?_
    obtain ⟨cl68, Ar68, qc68, S68, NN68, H68, G68⟩ := id V_b56'65
    obtain ⟨T68, h68, X68, e68, W68, st68⟩ := stB X67 hx hZ eh67 Ar68 (j := (3 : Int32)) (inb_of S68 ⟨by decide, by decide⟩) (g := (mkF m 81 #[.val (.int is), .val (.int ix), .val (.int iy), .val (.int il), .val (.int (5 : Int32)), .val (.ref b56), .unset, .unset] [(.int (own_pk is (3 : Int32) ix iy)), (.int (3 : Int32)), (.ref b56)])) rfl rfl (hb hby at_81)
    have V_b56'68 : Arv Z h68 b56 k56 .byte (5 : Int32) [(.int (nar .byte (own_pk is (0 : Int32) ix iy))), (.int (nar .byte (own_pk is (1 : Int32) ix iy))), (.int (nar .byte (own_pk is (2 : Int32) ix iy))), (.int (nar .byte (own_pk is (3 : Int32) ix iy))), (.int (0 : Int32))] (.int (0 : Int32)) := Arv.set Ar68 qc68 S68 NN68 H68 G68 (fits_nar_byte _) W68 3 rfl (Nat.le_of_ble_eq_true rfl)
    have N68 := Fr.snoc X68 N67 g_b56
    have Z68 : n0 ≤ h68.size := Nat.le_trans Z65 (Keep.of_wr W68).1
    refine own_via (G := T68.setTop (mkF m 82 #[.val (.int is), .val (.int ix), .val (.int iy), .val (.int il), .val (.int (5 : Int32)), .val (.ref b56), .unset, .unset] [])) (fun tt kk => st68 tt kk) ?_
    refine own_via (G := T68.setTop (mkF m 84 #[.val (.int is), .val (.int ix), .val (.int iy), .val (.int il), .val (.int (5 : Int32)), .val (.ref b56), .unset, .unset] [(.int (5 : Int32))])) (fun tt kk => XS.iload X68.here hx rfl (hb hby at_82) rfl kk) ?_
    refine own_via (G := T68.setTop (mkF m 85 #[.val (.int is), .val (.int ix), .val (.int iy), .val (.int il), .val (.int (5 : Int32)), .val (.ref b56), .unset, .unset] [(.int (4 : Int32)), (.int (5 : Int32))])) (fun tt kk => XS.iconst X68.here hx rfl (hb hby at_84) kk) ?_
    have hc69_85 : (4 : Int32) < (5 : Int32) := (by decide)
    refine own_via (G := T68.setTop (mkF m 88 #[.val (.int is), .val (.int ix), .val (.int iy), .val (.int il), .val (.int (5 : Int32)), .val (.ref b56), .unset, .unset] [])) (fun tt kk => XS.icmpNo X68.here hx rfl (hb hby at_85) rfl (XT.ii_le_f hc69_85) kk) ?_
    refine own_via (G := T68.setTop (mkF m 90 #[.val (.int is), .val (.int ix), .val (.int iy), .val (.int il), .val (.int (5 : Int32)), .val (.ref b56), .unset, .unset] [(.ref b56)])) (fun tt kk => XS.aload X68.here hx rfl (hb hby at_88) rfl rfl kk) ?_
    refine own_via (G := T68.setTop (mkF m 91 #[.val (.int is), .val (.int ix), .val (.int iy), .val (.int il), .val (.int (5 : Int32)), .val (.ref b56), .unset, .unset] [(.int (4 : Int32)), (.ref b56)])) (fun tt kk => XS.iconst X68.here hx rfl (hb hby at_90) kk) ?_
    refine own_via (G := T68.setTop (mkF m 92 #[.val (.int is), .val (.int ix), .val (.int iy), .val (.int il), .val (.int (5 : Int32)), .val (.ref b56), .unset, .unset] [(.int is), (.int (4 : Int32)), (.ref b56)])) (fun tt kk => XS.iloadN X68.here hx rfl (hb hby at_91) rfl kk) ?_
    refine own_via (G := T68.setTop (mkF m 93 #[.val (.int is), .val (.int ix), .val (.int iy), .val (.int il), .val (.int (5 : Int32)), .val (.ref b56), .unset, .unset] [(.int (4 : Int32)), (.int is), (.int (4 : Int32)), (.ref b56)])) (fun tt kk => XS.iconst X68.here hx rfl (hb hby at_92) kk) ?_
    refine own_via (G := T68.setTop (mkF m 94 #[.val (.int is), .val (.int ix), .val (.int iy), .val (.int il), .val (.int (5 : Int32)), .val (.ref b56), .unset, .unset] [(.int ix), (.int (4 : Int32)), (.int is), (.int (4 : Int32)), (.ref b56)])) (fun tt kk => XS.iloadN X68.here hx rfl (hb hby at_93) rfl kk) ?_
    refine own_via (G := T68.setTop (mkF m 95 #[.val (.int is), .val (.int ix), .val (.int iy), .val (.int il), .val (.int (5 : Int32)), .val (.ref b56), .unset, .unset] [(.int iy), (.int ix), (.int (4 : Int32)), (.int is), (.int (4 : Int32)), (.ref b56)])) (fun tt kk => XS.iloadN X68.here hx rfl (hb hby at_94) rfl kk) ?_
    obtain ⟨_, _, ⟨T70, L70, k70, n70⟩, -, X70, ⟨Lc70, hQ70, l70, y70, z70⟩, st70⟩ := Jvm.LawKit.callS X68 hx (y := (⟨"com/example/clew/clew/KnuthMorrisPrattFailureFunctionPinLaw", "pick", "(IIII)B"⟩ : MethodName)) hown (mvT hZ (hw _ (List.mem_of_getElem? (i := 2) rfl))) (mvT hZ (hw _ (List.mem_of_getElem? (i := 3) rfl))) (mvT hZ (hw _ (List.mem_of_getElem? (i := 4) rfl))) (mvT hZ (hw _ (List.mem_of_getElem? (i := 5) rfl))) (by decide) (backOf (W := 2) (rm1 l Z a0 hw [] is (4 : Int32) ix iy h68 n0 Z68) hZ (hw _ (List.mem_of_getElem? (i := 5) rfl)) (hw _ (List.mem_of_getElem? (i := 4) rfl)) (by decide) (by decide)) (g := (mkF m 95 #[.val (.int is), .val (.int ix), .val (.int iy), .val (.int il), .val (.int (5 : Int32)), .val (.ref b56), .unset, .unset] [(.int iy), (.int ix), (.int (4 : Int32)), (.int is), (.int (4 : Int32)), (.ref b56)])) rfl (by rw [hml]; rfl) (argsL := [(.int is), (.int (4 : Int32)), (.int ix), (.int iy)]) (rest := [(.int (4 : Int32)), (.ref b56)]) (lenOf pd_3 rfl) rfl (by show 2 * 0 + _ ≤ _; exact Nat.le_of_eq rfl) (hb hby at_95) (fun _ _ => ⟨rfl, e68, (by decide : (((((0 + 1) + 0) + 0) + 0) + 0) + 0 ≤ _), (by decide : (((((0 + 5) + 0) + 0) + 0) + 0) + 0 ≤ _)⟩)
    dsimp only [Pt.U, Pt.locs, Pt.cells, Pt.slots] at X70 l70 y70 z70 st70 hQ70
    subst l70 y70 z70
    obtain ⟨rfl, Nq70, eh70⟩ := hQ70
    have N70 := Fr.app N68 Nq70
    refine own_via (G := T70.setTop (mkF m 98 #[.val (.int is), .val (.int ix), .val (.int iy), .val (.int il), .val (.int (5 : Int32)), .val (.ref b56), .unset, .unset] [(.int (own_pk is (4 : Int32) ix iy)), (.int (4 : Int32)), (.ref b56)])) (fun tt kk => st70 tt kk) ?_
    obtain ⟨cl71, Ar71, qc71, S71, NN71, H71, G71⟩ := id V_b56'68
    obtain ⟨T71, h71, X71, e71, W71, st71⟩ := stB X70 hx hZ eh70 Ar71 (j := (4 : Int32)) (inb_of S71 ⟨by decide, by decide⟩) (g := (mkF m 98 #[.val (.int is), .val (.int ix), .val (.int iy), .val (.int il), .val (.int (5 : Int32)), .val (.ref b56), .unset, .unset] [(.int (own_pk is (4 : Int32) ix iy)), (.int (4 : Int32)), (.ref b56)])) rfl rfl (hb hby at_98)
    have V_b56'71 : Arv Z h71 b56 k56 .byte (5 : Int32) [(.int (nar .byte (own_pk is (0 : Int32) ix iy))), (.int (nar .byte (own_pk is (1 : Int32) ix iy))), (.int (nar .byte (own_pk is (2 : Int32) ix iy))), (.int (nar .byte (own_pk is (3 : Int32) ix iy))), (.int (nar .byte (own_pk is (4 : Int32) ix iy)))] (.int (0 : Int32)) := Arv.set Ar71 qc71 S71 NN71 H71 G71 (fits_nar_byte _) W71 4 rfl (Nat.le_of_ble_eq_true rfl)
    have N71 := Fr.snoc X71 N70 g_b56
    have Z71 : n0 ≤ h71.size := Nat.le_trans Z68 (Keep.of_wr W71).1
    refine own_via (G := T71.setTop (mkF m 99 #[.val (.int is), .val (.int ix), .val (.int iy), .val (.int il), .val (.int (5 : Int32)), .val (.ref b56), .unset, .unset] [])) (fun tt kk => st71 tt kk) ?_
    refine own_via (G := T71.setTop (mkF m 101 #[.val (.int is), .val (.int ix), .val (.int iy), .val (.int il), .val (.int (5 : Int32)), .val (.ref b56), .unset, .unset] [(.int (5 : Int32))])) (fun tt kk => XS.iload X71.here hx rfl (hb hby at_99) rfl kk) ?_
    refine own_via (G := T71.setTop (mkF m 102 #[.val (.int is), .val (.int ix), .val (.int iy), .val (.int il), .val (.int (5 : Int32)), .val (.ref b56), .unset, .unset] [(.int (5 : Int32)), (.int (5 : Int32))])) (fun tt kk => XS.iconst X71.here hx rfl (hb hby at_101) kk) ?_
    have hc72_102 : ¬ ((5 : Int32) < (5 : Int32)) := (by decide)
    refine own_via (G := T71.setTop (mkF m 116 #[.val (.int is), .val (.int ix), .val (.int iy), .val (.int il), .val (.int (5 : Int32)), .val (.ref b56), .unset, .unset] [])) (fun tt kk => XS.icmpYes X71.here hx rfl (pc0 := 102) (pc' := 116) rfl (hb hby at_102) rfl (XT.ii_le_t hc72_102) (by decide) (by decide) kk) ?_
    exact b0_116_5 (.val (.int is)) (.val (.int ix)) (.val (.int iy)) (.val (.int il)) b56 k56 (nar .byte (own_pk is (0 : Int32) ix iy)) (nar .byte (own_pk is (1 : Int32) ix iy)) (nar .byte (own_pk is (2 : Int32) ix iy)) (nar .byte (own_pk is (3 : Int32) ix iy)) (nar .byte (own_pk is (4 : Int32) ix iy)) ⟨hx, hZ, hw, hby, hml, hown, hret, hlk, hnm⟩ X71 e71 Z71 N71 V_b56'71 g_b56
  · rw [hN]
    refine own_via (G := T0.setTop (mkF m 11 #[.val (.int is), .val (.int ix), .val (.int iy), .val (.int il), .val (.int (6 : Int32)), .unset, .unset, .unset] [(.int (6 : Int32))])) (fun tt kk => XS.iload X0.here hx rfl (hb hby at_9) rfl kk) ?_
    obtain ⟨T73, h73, k73, X73, e73, E73, A73, st73⟩ := newP X0 hx hZ (hw _ (List.mem_of_getElem? (i := 1) rfl)) e0 (g := (mkF m 11 #[.val (.int is), .val (.int ix), .val (.int iy), .val (.int il), .val (.int (6 : Int32)), .unset, .unset, .unset] [(.int (6 : Int32))])) rfl (hb hby at_11) rfl (by decide) (cap := 6) (by decide) (by decide) (by decide) (by decide)
    obtain ⟨b73, g73⟩ : ∃ z, z = h0.size := ⟨_, rfl⟩
    rw [← g73] at A73 st73
    have g_b73 : n0 ≤ b73 := Nat.le_trans Z0 (Nat.le_of_eq g73.symm)
    have Z73 : n0 ≤ h73.size := Nat.le_trans Z0 E73.1
    have V_b73 : Arv Z h73 b73 k73 .byte (6 : Int32) [(.int (0 : Int32)), (.int (0 : Int32)), (.int (0 : Int32)), (.int (0 : Int32)), (.int (0 : Int32)), (.int (0 : Int32))] (.int (0 : Int32)) := (Arv.new A73 (by decide)).pad (pad_rep [] (.int (0 : Int32)) 6)
    refine own_via (G := T73.setTop (mkF m 13 #[.val (.int is), .val (.int ix), .val (.int iy), .val (.int il), .val (.int (6 : Int32)), .unset, .unset, .unset] [(.ref b73)])) (fun tt kk => st73 tt kk) ?_
    refine own_via (G := T73.setTop (mkF m 15 #[.val (.int is), .val (.int ix), .val (.int iy), .val (.int il), .val (.int (6 : Int32)), .val (.ref b73), .unset, .unset] [])) (fun tt kk => XS.astore X73.here hx rfl (hb hby at_13) rfl rfl (l' := #[.val (.int is), .val (.int ix), .val (.int iy), .val (.int il), .val (.int (6 : Int32)), .val (.ref b73), .unset, .unset]) rfl kk) ?_
    refine own_via (G := T73.setTop (mkF m 17 #[.val (.int is), .val (.int ix), .val (.int iy), .val (.int il), .val (.int (6 : Int32)), .val (.ref b73), .unset, .unset] [(.int (6 : Int32))])) (fun tt kk => XS.iload X73.here hx rfl (hb hby at_15) rfl kk) ?_
    have hc74_17 : (0 : Int32) < (6 : Int32) := (by decide)
    refine own_via (G := T73.setTop (mkF m 20 #[.val (.int is), .val (.int ix), .val (.int iy), .val (.int il), .val (.int (6 : Int32)), .val (.ref b73), .unset, .unset] [])) (fun tt kk => XS.ifNo X73.here hx rfl (hb hby at_17) rfl (XT.i0_le_f hc74_17) kk) ?_
    refine own_via (G := T73.setTop (mkF m 22 #[.val (.int is), .val (.int ix), .val (.int iy), .val (.int il), .val (.int (6 : Int32)), .val (.ref b73), .unset, .unset] [(.ref b73)])) (fun tt kk => XS.aload X73.here hx rfl (hb hby at_20) rfl rfl kk) ?_
    refine own_via (G := T73.setTop (mkF m 23 #[.val (.int is), .val (.int ix), .val (.int iy), .val (.int il), .val (.int (6 : Int32)), .val (.ref b73), .unset, .unset] [(.int (0 : Int32)), (.ref b73)])) (fun tt kk => XS.iconst X73.here hx rfl (hb hby at_22) kk) ?_
    refine own_via (G := T73.setTop (mkF m 24 #[.val (.int is), .val (.int ix), .val (.int iy), .val (.int il), .val (.int (6 : Int32)), .val (.ref b73), .unset, .unset] [(.int is), (.int (0 : Int32)), (.ref b73)])) (fun tt kk => XS.iloadN X73.here hx rfl (hb hby at_23) rfl kk) ?_
    refine own_via (G := T73.setTop (mkF m 25 #[.val (.int is), .val (.int ix), .val (.int iy), .val (.int il), .val (.int (6 : Int32)), .val (.ref b73), .unset, .unset] [(.int (0 : Int32)), (.int is), (.int (0 : Int32)), (.ref b73)])) (fun tt kk => XS.iconst X73.here hx rfl (hb hby at_24) kk) ?_
    refine own_via (G := T73.setTop (mkF m 26 #[.val (.int is), .val (.int ix), .val (.int iy), .val (.int il), .val (.int (6 : Int32)), .val (.ref b73), .unset, .unset] [(.int ix), (.int (0 : Int32)), (.int is), (.int (0 : Int32)), (.ref b73)])) (fun tt kk => XS.iloadN X73.here hx rfl (hb hby at_25) rfl kk) ?_
    refine own_via (G := T73.setTop (mkF m 27 #[.val (.int is), .val (.int ix), .val (.int iy), .val (.int il), .val (.int (6 : Int32)), .val (.ref b73), .unset, .unset] [(.int iy), (.int ix), (.int (0 : Int32)), (.int is), (.int (0 : Int32)), (.ref b73)])) (fun tt kk => XS.iloadN X73.here hx rfl (hb hby at_26) rfl kk) ?_
    obtain ⟨_, _, ⟨T75, L75, k75, n75⟩, -, X75, ⟨Lc75, hQ75, l75, y75, z75⟩, st75⟩ := Jvm.LawKit.callS X73 hx (y := (⟨"com/example/clew/clew/KnuthMorrisPrattFailureFunctionPinLaw", "pick", "(IIII)B"⟩ : MethodName)) hown (mvT hZ (hw _ (List.mem_of_getElem? (i := 2) rfl))) (mvT hZ (hw _ (List.mem_of_getElem? (i := 3) rfl))) (mvT hZ (hw _ (List.mem_of_getElem? (i := 4) rfl))) (mvT hZ (hw _ (List.mem_of_getElem? (i := 5) rfl))) (by decide) (backOf (W := 2) (rm1 l Z a0 hw [] is (0 : Int32) ix iy h73 n0 Z73) hZ (hw _ (List.mem_of_getElem? (i := 5) rfl)) (hw _ (List.mem_of_getElem? (i := 4) rfl)) (by decide) (by decide)) (g := (mkF m 27 #[.val (.int is), .val (.int ix), .val (.int iy), .val (.int il), .val (.int (6 : Int32)), .val (.ref b73), .unset, .unset] [(.int iy), (.int ix), (.int (0 : Int32)), (.int is), (.int (0 : Int32)), (.ref b73)])) rfl (by rw [hml]; rfl) (argsL := [(.int is), (.int (0 : Int32)), (.int ix), (.int iy)]) (rest := [(.int (0 : Int32)), (.ref b73)]) (lenOf pd_3 rfl) rfl (by show 2 * 0 + _ ≤ _; exact Nat.le_of_eq rfl) (hb hby at_27) (fun _ _ => ⟨rfl, e73, (by decide : (0 + 1) + 0 ≤ _), (by decide : (0 + 6) + 0 ≤ _)⟩)
    dsimp only [Pt.U, Pt.locs, Pt.cells, Pt.slots] at X75 l75 y75 z75 st75 hQ75
    subst l75 y75 z75
    obtain ⟨rfl, Nq75, eh75⟩ := hQ75
    have N75 := Fr.app N0 Nq75
    refine own_via (G := T75.setTop (mkF m 30 #[.val (.int is), .val (.int ix), .val (.int iy), .val (.int il), .val (.int (6 : Int32)), .val (.ref b73), .unset, .unset] [(.int (own_pk is (0 : Int32) ix iy)), (.int (0 : Int32)), (.ref b73)])) (fun tt kk => st75 tt kk) ?_
    obtain ⟨cl76, Ar76, qc76, S76, NN76, H76, G76⟩ := id V_b73
    obtain ⟨T76, h76, X76, e76, W76, st76⟩ := stB X75 hx hZ eh75 Ar76 (j := (0 : Int32)) (inb_of S76 ⟨by decide, by decide⟩) (g := (mkF m 30 #[.val (.int is), .val (.int ix), .val (.int iy), .val (.int il), .val (.int (6 : Int32)), .val (.ref b73), .unset, .unset] [(.int (own_pk is (0 : Int32) ix iy)), (.int (0 : Int32)), (.ref b73)])) rfl rfl (hb hby at_30)
    have V_b73'76 : Arv Z h76 b73 k73 .byte (6 : Int32) [(.int (nar .byte (own_pk is (0 : Int32) ix iy))), (.int (0 : Int32)), (.int (0 : Int32)), (.int (0 : Int32)), (.int (0 : Int32)), (.int (0 : Int32))] (.int (0 : Int32)) := Arv.set Ar76 qc76 S76 NN76 H76 G76 (fits_nar_byte _) W76 0 rfl (Nat.le_of_ble_eq_true rfl)
    have N76 := Fr.snoc X76 N75 g_b73
    have Z76 : n0 ≤ h76.size := Nat.le_trans Z73 (Keep.of_wr W76).1
    refine own_via (G := T76.setTop (mkF m 31 #[.val (.int is), .val (.int ix), .val (.int iy), .val (.int il), .val (.int (6 : Int32)), .val (.ref b73), .unset, .unset] [])) (fun tt kk => st76 tt kk) ?_
    refine own_via (G := T76.setTop (mkF m 33 #[.val (.int is), .val (.int ix), .val (.int iy), .val (.int il), .val (.int (6 : Int32)), .val (.ref b73), .unset, .unset] [(.int (6 : Int32))])) (fun tt kk => XS.iload X76.here hx rfl (hb hby at_31) rfl kk) ?_
    refine own_via (G := T76.setTop (mkF m 34 #[.val (.int is), .val (.int ix), .val (.int iy), .val (.int il), .val (.int (6 : Int32)), .val (.ref b73), .unset, .unset] [(.int (1 : Int32)), (.int (6 : Int32))])) (fun tt kk => XS.iconst X76.here hx rfl (hb hby at_33) kk) ?_
    have hc77_34 : (1 : Int32) < (6 : Int32) := (by decide)
    refine own_via (G := T76.setTop (mkF m 37 #[.val (.int is), .val (.int ix), .val (.int iy), .val (.int il), .val (.int (6 : Int32)), .val (.ref b73), .unset, .unset] [])) (fun tt kk => XS.icmpNo X76.here hx rfl (hb hby at_34) rfl (XT.ii_le_f hc77_34) kk) ?_
    refine own_via (G := T76.setTop (mkF m 39 #[.val (.int is), .val (.int ix), .val (.int iy), .val (.int il), .val (.int (6 : Int32)), .val (.ref b73), .unset, .unset] [(.ref b73)])) (fun tt kk => XS.aload X76.here hx rfl (hb hby at_37) rfl rfl kk) ?_
    refine own_via (G := T76.setTop (mkF m 40 #[.val (.int is), .val (.int ix), .val (.int iy), .val (.int il), .val (.int (6 : Int32)), .val (.ref b73), .unset, .unset] [(.int (1 : Int32)), (.ref b73)])) (fun tt kk => XS.iconst X76.here hx rfl (hb hby at_39) kk) ?_
    refine own_via (G := T76.setTop (mkF m 41 #[.val (.int is), .val (.int ix), .val (.int iy), .val (.int il), .val (.int (6 : Int32)), .val (.ref b73), .unset, .unset] [(.int is), (.int (1 : Int32)), (.ref b73)])) (fun tt kk => XS.iloadN X76.here hx rfl (hb hby at_40) rfl kk) ?_
    refine own_via (G := T76.setTop (mkF m 42 #[.val (.int is), .val (.int ix), .val (.int iy), .val (.int il), .val (.int (6 : Int32)), .val (.ref b73), .unset, .unset] [(.int (1 : Int32)), (.int is), (.int (1 : Int32)), (.ref b73)])) (fun tt kk => XS.iconst X76.here hx rfl (hb hby at_41) kk) ?_
    refine own_via (G := T76.setTop (mkF m 43 #[.val (.int is), .val (.int ix), .val (.int iy), .val (.int il), .val (.int (6 : Int32)), .val (.ref b73), .unset, .unset] [(.int ix), (.int (1 : Int32)), (.int is), (.int (1 : Int32)), (.ref b73)])) (fun tt kk => XS.iloadN X76.here hx rfl (hb hby at_42) rfl kk) ?_
    refine own_via (G := T76.setTop (mkF m 44 #[.val (.int is), .val (.int ix), .val (.int iy), .val (.int il), .val (.int (6 : Int32)), .val (.ref b73), .unset, .unset] [(.int iy), (.int ix), (.int (1 : Int32)), (.int is), (.int (1 : Int32)), (.ref b73)])) (fun tt kk => XS.iloadN X76.here hx rfl (hb hby at_43) rfl kk) ?_
    obtain ⟨_, _, ⟨T78, L78, k78, n78⟩, -, X78, ⟨Lc78, hQ78, l78, y78, z78⟩, st78⟩ := Jvm.LawKit.callS X76 hx (y := (⟨"com/example/clew/clew/KnuthMorrisPrattFailureFunctionPinLaw", "pick", "(IIII)B"⟩ : MethodName)) hown (mvT hZ (hw _ (List.mem_of_getElem? (i := 2) rfl))) (mvT hZ (hw _ (List.mem_of_getElem? (i := 3) rfl))) (mvT hZ (hw _ (List.mem_of_getElem? (i := 4) rfl))) (mvT hZ (hw _ (List.mem_of_getElem? (i := 5) rfl))) (by decide) (backOf (W := 2) (rm1 l Z a0 hw [] is (1 : Int32) ix iy h76 n0 Z76) hZ (hw _ (List.mem_of_getElem? (i := 5) rfl)) (hw _ (List.mem_of_getElem? (i := 4) rfl)) (by decide) (by decide)) (g := (mkF m 44 #[.val (.int is), .val (.int ix), .val (.int iy), .val (.int il), .val (.int (6 : Int32)), .val (.ref b73), .unset, .unset] [(.int iy), (.int ix), (.int (1 : Int32)), (.int is), (.int (1 : Int32)), (.ref b73)])) rfl (by rw [hml]; rfl) (argsL := [(.int is), (.int (1 : Int32)), (.int ix), (.int iy)]) (rest := [(.int (1 : Int32)), (.ref b73)]) (lenOf pd_3 rfl) rfl (by show 2 * 0 + _ ≤ _; exact Nat.le_of_eq rfl) (hb hby at_44) (fun _ _ => ⟨rfl, e76, (by decide : ((0 + 1) + 0) + 0 ≤ _), (by decide : ((0 + 6) + 0) + 0 ≤ _)⟩)
    dsimp only [Pt.U, Pt.locs, Pt.cells, Pt.slots] at X78 l78 y78 z78 st78 hQ78
    subst l78 y78 z78
    obtain ⟨rfl, Nq78, eh78⟩ := hQ78
    have N78 := Fr.app N76 Nq78
    refine own_via (G := T78.setTop (mkF m 47 #[.val (.int is), .val (.int ix), .val (.int iy), .val (.int il), .val (.int (6 : Int32)), .val (.ref b73), .unset, .unset] [(.int (own_pk is (1 : Int32) ix iy)), (.int (1 : Int32)), (.ref b73)])) (fun tt kk => st78 tt kk) ?_
    obtain ⟨cl79, Ar79, qc79, S79, NN79, H79, G79⟩ := id V_b73'76
    obtain ⟨T79, h79, X79, e79, W79, st79⟩ := stB X78 hx hZ eh78 Ar79 (j := (1 : Int32)) (inb_of S79 ⟨by decide, by decide⟩) (g := (mkF m 47 #[.val (.int is), .val (.int ix), .val (.int iy), .val (.int il), .val (.int (6 : Int32)), .val (.ref b73), .unset, .unset] [(.int (own_pk is (1 : Int32) ix iy)), (.int (1 : Int32)), (.ref b73)])) rfl rfl (hb hby at_47)
    have V_b73'79 : Arv Z h79 b73 k73 .byte (6 : Int32) [(.int (nar .byte (own_pk is (0 : Int32) ix iy))), (.int (nar .byte (own_pk is (1 : Int32) ix iy))), (.int (0 : Int32)), (.int (0 : Int32)), (.int (0 : Int32)), (.int (0 : Int32))] (.int (0 : Int32)) := Arv.set Ar79 qc79 S79 NN79 H79 G79 (fits_nar_byte _) W79 1 rfl (Nat.le_of_ble_eq_true rfl)
    have N79 := Fr.snoc X79 N78 g_b73
    have Z79 : n0 ≤ h79.size := Nat.le_trans Z76 (Keep.of_wr W79).1
    refine own_via (G := T79.setTop (mkF m 48 #[.val (.int is), .val (.int ix), .val (.int iy), .val (.int il), .val (.int (6 : Int32)), .val (.ref b73), .unset, .unset] [])) (fun tt kk => st79 tt kk) ?_
    refine own_via (G := T79.setTop (mkF m 50 #[.val (.int is), .val (.int ix), .val (.int iy), .val (.int il), .val (.int (6 : Int32)), .val (.ref b73), .unset, .unset] [(.int (6 : Int32))])) (fun tt kk => XS.iload X79.here hx rfl (hb hby at_48) rfl kk) ?_
    refine own_via (G := T79.setTop (mkF m 51 #[.val (.int is), .val (.int ix), .val (.int iy), .val (.int il), .val (.int (6 : Int32)), .val (.ref b73), .unset, .unset] [(.int (2 : Int32)), (.int (6 : Int32))])) (fun tt kk => XS.iconst X79.here hx rfl (hb hby at_50) kk) ?_
    have hc80_51 : (2 : Int32) < (6 : Int32) := (by decide)
    refine own_via (G := T79.setTop (mkF m 54 #[.val (.int is), .val (.int ix), .val (.int iy), .val (.int il), .val (.int (6 : Int32)), .val (.ref b73), .unset, .unset] [])) (fun tt kk => XS.icmpNo X79.here hx rfl (hb hby at_51) rfl (XT.ii_le_f hc80_51) kk) ?_
    refine own_via (G := T79.setTop (mkF m 56 #[.val (.int is), .val (.int ix), .val (.int iy), .val (.int il), .val (.int (6 : Int32)), .val (.ref b73), .unset, .unset] [(.ref b73)])) (fun tt kk => XS.aload X79.here hx rfl (hb hby at_54) rfl rfl kk) ?_
    refine own_via (G := T79.setTop (mkF m 57 #[.val (.int is), .val (.int ix), .val (.int iy), .val (.int il), .val (.int (6 : Int32)), .val (.ref b73), .unset, .unset] [(.int (2 : Int32)), (.ref b73)])) (fun tt kk => XS.iconst X79.here hx rfl (hb hby at_56) kk) ?_
    refine own_via (G := T79.setTop (mkF m 58 #[.val (.int is), .val (.int ix), .val (.int iy), .val (.int il), .val (.int (6 : Int32)), .val (.ref b73), .unset, .unset] [(.int is), (.int (2 : Int32)), (.ref b73)])) (fun tt kk => XS.iloadN X79.here hx rfl (hb hby at_57) rfl kk) ?_
    refine own_via (G := T79.setTop (mkF m 59 #[.val (.int is), .val (.int ix), .val (.int iy), .val (.int il), .val (.int (6 : Int32)), .val (.ref b73), .unset, .unset] [(.int (2 : Int32)), (.int is), (.int (2 : Int32)), (.ref b73)])) (fun tt kk => XS.iconst X79.here hx rfl (hb hby at_58) kk) ?_
    refine own_via (G := T79.setTop (mkF m 60 #[.val (.int is), .val (.int ix), .val (.int iy), .val (.int il), .val (.int (6 : Int32)), .val (.ref b73), .unset, .unset] [(.int ix), (.int (2 : Int32)), (.int is), (.int (2 : Int32)), (.ref b73)])) (fun tt kk => XS.iloadN X79.here hx rfl (hb hby at_59) rfl kk) ?_
    refine own_via (G := T79.setTop (mkF m 61 #[.val (.int is), .val (.int ix), .val (.int iy), .val (.int il), .val (.int (6 : Int32)), .val (.ref b73), .unset, .unset] [(.int iy), (.int ix), (.int (2 : Int32)), (.int is), (.int (2 : Int32)), (.ref b73)])) (fun tt kk => XS.iloadN X79.here hx rfl (hb hby at_60) rfl kk) ?_
    obtain ⟨_, _, ⟨T81, L81, k81, n81⟩, -, X81, ⟨Lc81, hQ81, l81, y81, z81⟩, st81⟩ := Jvm.LawKit.callS X79 hx (y := (⟨"com/example/clew/clew/KnuthMorrisPrattFailureFunctionPinLaw", "pick", "(IIII)B"⟩ : MethodName)) hown (mvT hZ (hw _ (List.mem_of_getElem? (i := 2) rfl))) (mvT hZ (hw _ (List.mem_of_getElem? (i := 3) rfl))) (mvT hZ (hw _ (List.mem_of_getElem? (i := 4) rfl))) (mvT hZ (hw _ (List.mem_of_getElem? (i := 5) rfl))) (by decide) (backOf (W := 2) (rm1 l Z a0 hw [] is (2 : Int32) ix iy h79 n0 Z79) hZ (hw _ (List.mem_of_getElem? (i := 5) rfl)) (hw _ (List.mem_of_getElem? (i := 4) rfl)) (by decide) (by decide)) (g := (mkF m 61 #[.val (.int is), .val (.int ix), .val (.int iy), .val (.int il), .val (.int (6 : Int32)), .val (.ref b73), .unset, .unset] [(.int iy), (.int ix), (.int (2 : Int32)), (.int is), (.int (2 : Int32)), (.ref b73)])) rfl (by rw [hml]; rfl) (argsL := [(.int is), (.int (2 : Int32)), (.int ix), (.int iy)]) (rest := [(.int (2 : Int32)), (.ref b73)]) (lenOf pd_3 rfl) rfl (by show 2 * 0 + _ ≤ _; exact Nat.le_of_eq rfl) (hb hby at_61) (fun _ _ => ⟨rfl, e79, (by decide : (((0 + 1) + 0) + 0) + 0 ≤ _), (by decide : (((0 + 6) + 0) + 0) + 0 ≤ _)⟩)
    dsimp only [Pt.U, Pt.locs, Pt.cells, Pt.slots] at X81 l81 y81 z81 st81 hQ81
    subst l81 y81 z81
    obtain ⟨rfl, Nq81, eh81⟩ := hQ81
    have N81 := Fr.app N79 Nq81
    refine own_via (G := T81.setTop (mkF m 64 #[.val (.int is), .val (.int ix), .val (.int iy), .val (.int il), .val (.int (6 : Int32)), .val (.ref b73), .unset, .unset] [(.int (own_pk is (2 : Int32) ix iy)), (.int (2 : Int32)), (.ref b73)])) (fun tt kk => st81 tt kk) ?_
    obtain ⟨cl82, Ar82, qc82, S82, NN82, H82, G82⟩ := id V_b73'79
    obtain ⟨T82, h82, X82, e82, W82, st82⟩ := stB X81 hx hZ eh81 Ar82 (j := (2 : Int32)) (inb_of S82 ⟨by decide, by decide⟩) (g := (mkF m 64 #[.val (.int is), .val (.int ix), .val (.int iy), .val (.int il), .val (.int (6 : Int32)), .val (.ref b73), .unset, .unset] [(.int (own_pk is (2 : Int32) ix iy)), (.int (2 : Int32)), (.ref b73)])) rfl rfl (hb hby at_64)
    have V_b73'82 : Arv Z h82 b73 k73 .byte (6 : Int32) [(.int (nar .byte (own_pk is (0 : Int32) ix iy))), (.int (nar .byte (own_pk is (1 : Int32) ix iy))), (.int (nar .byte (own_pk is (2 : Int32) ix iy))), (.int (0 : Int32)), (.int (0 : Int32)), (.int (0 : Int32))] (.int (0 : Int32)) := Arv.set Ar82 qc82 S82 NN82 H82 G82 (fits_nar_byte _) W82 2 rfl (Nat.le_of_ble_eq_true rfl)
    have N82 := Fr.snoc X82 N81 g_b73
    have Z82 : n0 ≤ h82.size := Nat.le_trans Z79 (Keep.of_wr W82).1
    refine own_via (G := T82.setTop (mkF m 65 #[.val (.int is), .val (.int ix), .val (.int iy), .val (.int il), .val (.int (6 : Int32)), .val (.ref b73), .unset, .unset] [])) (fun tt kk => st82 tt kk) ?_
    refine own_via (G := T82.setTop (mkF m 67 #[.val (.int is), .val (.int ix), .val (.int iy), .val (.int il), .val (.int (6 : Int32)), .val (.ref b73), .unset, .unset] [(.int (6 : Int32))])) (fun tt kk => XS.iload X82.here hx rfl (hb hby at_65) rfl kk) ?_
    refine own_via (G := T82.setTop (mkF m 68 #[.val (.int is), .val (.int ix), .val (.int iy), .val (.int il), .val (.int (6 : Int32)), .val (.ref b73), .unset, .unset] [(.int (3 : Int32)), (.int (6 : Int32))])) (fun tt kk => XS.iconst X82.here hx rfl (hb hby at_67) kk) ?_
    have hc83_68 : (3 : Int32) < (6 : Int32) := (by decide)
    refine own_via (G := T82.setTop (mkF m 71 #[.val (.int is), .val (.int ix), .val (.int iy), .val (.int il), .val (.int (6 : Int32)), .val (.ref b73), .unset, .unset] [])) (fun tt kk => XS.icmpNo X82.here hx rfl (hb hby at_68) rfl (XT.ii_le_f hc83_68) kk) ?_
    refine own_via (G := T82.setTop (mkF m 73 #[.val (.int is), .val (.int ix), .val (.int iy), .val (.int il), .val (.int (6 : Int32)), .val (.ref b73), .unset, .unset] [(.ref b73)])) (fun tt kk => XS.aload X82.here hx rfl (hb hby at_71) rfl rfl kk) ?_
    refine own_via (G := T82.setTop (mkF m 74 #[.val (.int is), .val (.int ix), .val (.int iy), .val (.int il), .val (.int (6 : Int32)), .val (.ref b73), .unset, .unset] [(.int (3 : Int32)), (.ref b73)])) (fun tt kk => XS.iconst X82.here hx rfl (hb hby at_73) kk) ?_
    refine own_via (G := T82.setTop (mkF m 75 #[.val (.int is), .val (.int ix), .val (.int iy), .val (.int il), .val (.int (6 : Int32)), .val (.ref b73), .unset, .unset] [(.int is), (.int (3 : Int32)), (.ref b73)])) (fun tt kk => XS.iloadN X82.here hx rfl (hb hby at_74) rfl kk) ?_
    refine own_via (G := T82.setTop (mkF m 76 #[.val (.int is), .val (.int ix), .val (.int iy), .val (.int il), .val (.int (6 : Int32)), .val (.ref b73), .unset, .unset] [(.int (3 : Int32)), (.int is), (.int (3 : Int32)), (.ref b73)])) (fun tt kk => XS.iconst X82.here hx rfl (hb hby at_75) kk) ?_
    refine own_via (G := T82.setTop (mkF m 77 #[.val (.int is), .val (.int ix), .val (.int iy), .val (.int il), .val (.int (6 : Int32)), .val (.ref b73), .unset, .unset] [(.int ix), (.int (3 : Int32)), (.int is), (.int (3 : Int32)), (.ref b73)])) (fun tt kk => XS.iloadN X82.here hx rfl (hb hby at_76) rfl kk) ?_
    refine own_via (G := T82.setTop (mkF m 78 #[.val (.int is), .val (.int ix), .val (.int iy), .val (.int il), .val (.int (6 : Int32)), .val (.ref b73), .unset, .unset] [(.int iy), (.int ix), (.int (3 : Int32)), (.int is), (.int (3 : Int32)), (.ref b73)])) (fun tt kk => XS.iloadN X82.here hx rfl (hb hby at_77) rfl kk) ?_
    obtain ⟨_, _, ⟨T84, L84, k84, n84⟩, -, X84, ⟨Lc84, hQ84, l84, y84, z84⟩, st84⟩ := Jvm.LawKit.callS X82 hx (y := (⟨"com/example/clew/clew/KnuthMorrisPrattFailureFunctionPinLaw", "pick", "(IIII)B"⟩ : MethodName)) hown (mvT hZ (hw _ (List.mem_of_getElem? (i := 2) rfl))) (mvT hZ (hw _ (List.mem_of_getElem? (i := 3) rfl))) (mvT hZ (hw _ (List.mem_of_getElem? (i := 4) rfl))) (mvT hZ (hw _ (List.mem_of_getElem? (i := 5) rfl))) (by decide) (backOf (W := 2) (rm1 l Z a0 hw [] is (3 : Int32) ix iy h82 n0 Z82) hZ (hw _ (List.mem_of_getElem? (i := 5) rfl)) (hw _ (List.mem_of_getElem? (i := 4) rfl)) (by decide) (by decide)) (g := (mkF m 78 #[.val (.int is), .val (.int ix), .val (.int iy), .val (.int il), .val (.int (6 : Int32)), .val (.ref b73), .unset, .unset] [(.int iy), (.int ix), (.int (3 : Int32)), (.int is), (.int (3 : Int32)), (.ref b73)])) rfl (by rw [hml]; rfl) (argsL := [(.int is), (.int (3 : Int32)), (.int ix), (.int iy)]) (rest := [(.int (3 : Int32)), (.ref b73)]) (lenOf pd_3 rfl) rfl (by show 2 * 0 + _ ≤ _; exact Nat.le_of_eq rfl) (hb hby at_78) (fun _ _ => ⟨rfl, e82, (by decide : ((((0 + 1) + 0) + 0) + 0) + 0 ≤ _), (by decide : ((((0 + 6) + 0) + 0) + 0) + 0 ≤ _)⟩)
    dsimp only [Pt.U, Pt.locs, Pt.cells, Pt.slots] at X84 l84 y84 z84 st84 hQ84
    subst l84 y84 z84
    obtain ⟨rfl, Nq84, eh84⟩ := hQ84
    have N84 := Fr.app N82 Nq84
    refine own_via (G := T84.setTop (mkF m 81 #[.val (.int is), .val (.int ix), .val (.int iy), .val (.int il), .val (.int (6 : Int32)), .val (.ref b73), .unset, .unset] [(.int (own_pk is (3 : Int32) ix iy)), (.int (3 : Int32)), (.ref b73)])) (fun tt kk => st84 tt kk) ?_
    obtain ⟨cl85, Ar85, qc85, S85, NN85, H85, G85⟩ := id V_b73'82
    obtain ⟨T85, h85, X85, e85, W85, st85⟩ := stB X84 hx hZ eh84 Ar85 (j := (3 : Int32)) (inb_of S85 ⟨by decide, by decide⟩) (g := (mkF m 81 #[.val (.int is), .val (.int ix), .val (.int iy), .val (.int il), .val (.int (6 : Int32)), .val (.ref b73), .unset, .unset] [(.int (own_pk is (3 : Int32) ix iy)), (.int (3 : Int32)), (.ref b73)])) rfl rfl (hb hby at_81)
    have V_b73'85 : Arv Z h85 b73 k73 .byte (6 : Int32) [(.int (nar .byte (own_pk is (0 : Int32) ix iy))), (.int (nar .byte (own_pk is (1 : Int32) ix iy))), (.int (nar .byte (own_pk is (2 : Int32) ix iy))), (.int (nar .byte (own_pk is (3 : Int32) ix iy))), (.int (0 : Int32)), (.int (0 : Int32))] (.int (0 : Int32)) := Arv.set Ar85 qc85 S85 NN85 H85 G85 (fits_nar_byte _) W85 3 rfl (Nat.le_of_ble_eq_true rfl)
    have N85 := Fr.snoc X85 N84 g_b73
    have Z85 : n0 ≤ h85.size := Nat.le_trans Z82 (Keep.of_wr W85).1
    refine own_via (G := T85.setTop (mkF m 82 #[.val (.int is), .val (.int ix), .val (.int iy), .val (.int il), .val (.int (6 : Int32)), .val (.ref b73), .unset, .unset] [])) (fun tt kk => st85 tt kk) ?_
    refine own_via (G := T85.setTop (mkF m 84 #[.val (.int is), .val (.int ix), .val (.int iy), .val (.int il), .val (.int (6 : Int32)), .val (.ref b73), .unset, .unset] [(.int (6 : Int32))])) (fun tt kk => XS.iload X85.here hx rfl (hb hby at_82) rfl kk) ?_
    refine own_via (G := T85.setTop (mkF m 85 #[.val (.int is), .val (.int ix), .val (.int iy), .val (.int il), .val (.int (6 : Int32)), .val (.ref b73), .unset, .unset] [(.int (4 : Int32)), (.int (6 : Int32))])) (fun tt kk => XS.iconst X85.here hx rfl (hb hby at_84) kk) ?_
    have hc86_85 : (4 : Int32) < (6 : Int32) := (by decide)
    refine own_via (G := T85.setTop (mkF m 88 #[.val (.int is), .val (.int ix), .val (.int iy), .val (.int il), .val (.int (6 : Int32)), .val (.ref b73), .unset, .unset] [])) (fun tt kk => XS.icmpNo X85.here hx rfl (hb hby at_85) rfl (XT.ii_le_f hc86_85) kk) ?_
    refine own_via (G := T85.setTop (mkF m 90 #[.val (.int is), .val (.int ix), .val (.int iy), .val (.int il), .val (.int (6 : Int32)), .val (.ref b73), .unset, .unset] [(.ref b73)])) (fun tt kk => XS.aload X85.here hx rfl (hb hby at_88) rfl rfl kk) ?_
    refine own_via (G := T85.setTop (mkF m 91 #[.val (.int is), .val (.int ix), .val (.int iy), .val (.int il), .val (.int (6 : Int32)), .val (.ref b73), .unset, .unset] [(.int (4 : Int32)), (.ref b73)])) (fun tt kk => XS.iconst X85.here hx rfl (hb hby at_90) kk) ?_
    refine own_via (G := T85.setTop (mkF m 92 #[.val (.int is), .val (.int ix), .val (.int iy), .val (.int il), .val (.int (6 : Int32)), .val (.ref b73), .unset, .unset] [(.int is), (.int (4 : Int32)), (.ref b73)])) (fun tt kk => XS.iloadN X85.here hx rfl (hb hby at_91) rfl kk) ?_
    refine own_via (G := T85.setTop (mkF m 93 #[.val (.int is), .val (.int ix), .val (.int iy), .val (.int il), .val (.int (6 : Int32)), .val (.ref b73), .unset, .unset] [(.int (4 : Int32)), (.int is), (.int (4 : Int32)), (.ref b73)])) (fun tt kk => XS.iconst X85.here hx rfl (hb hby at_92) kk) ?_
    refine own_via (G := T85.setTop (mkF m 94 #[.val (.int is), .val (.int ix), .val (.int iy), .val (.int il), .val (.int (6 : Int32)), .val (.ref b73), .unset, .unset] [(.int ix), (.int (4 : Int32)), (.int is), (.int (4 : Int32)), (.ref b73)])) (fun tt kk => XS.iloadN X85.here hx rfl (hb hby at_93) rfl kk) ?_
    refine own_via (G := T85.setTop (mkF m 95 #[.val (.int is), .val (.int ix), .val (.int iy), .val (.int il), .val (.int (6 : Int32)), .val (.ref b73), .unset, .unset] [(.int iy), (.int ix), (.int (4 : Int32)), (.int is), (.int (4 : Int32)), (.ref b73)])) (fun tt kk => XS.iloadN X85.here hx rfl (hb hby at_94) rfl kk) ?_
    obtain ⟨_, _, ⟨T87, L87, k87, n87⟩, -, X87, ⟨Lc87, hQ87, l87, y87, z87⟩, st87⟩ := Jvm.LawKit.callS X85 hx (y := (⟨"com/example/clew/clew/KnuthMorrisPrattFailureFunctionPinLaw", "pick", "(IIII)B"⟩ : MethodName)) hown (mvT hZ (hw _ (List.mem_of_getElem? (i := 2) rfl))) (mvT hZ (hw _ (List.mem_of_getElem? (i := 3) rfl))) (mvT hZ (hw _ (List.mem_of_getElem? (i := 4) rfl))) (mvT hZ (hw _ (List.mem_of_getElem? (i := 5) rfl))) (by decide) (backOf (W := 2) (rm1 l Z a0 hw [] is (4 : Int32) ix iy h85 n0 Z85) hZ (hw _ (List.mem_of_getElem? (i := 5) rfl)) (hw _ (List.mem_of_getElem? (i := 4) rfl)) (by decide) (by decide)) (g := (mkF m 95 #[.val (.int is), .val (.int ix), .val (.int iy), .val (.int il), .val (.int (6 : Int32)), .val (.ref b73), .unset, .unset] [(.int iy), (.int ix), (.int (4 : Int32)), (.int is), (.int (4 : Int32)), (.ref b73)])) rfl (by rw [hml]; rfl) (argsL := [(.int is), (.int (4 : Int32)), (.int ix), (.int iy)]) (rest := [(.int (4 : Int32)), (.ref b73)]) (lenOf pd_3 rfl) rfl (by show 2 * 0 + _ ≤ _; exact Nat.le_of_eq rfl) (hb hby at_95) (fun _ _ => ⟨rfl, e85, (by decide : (((((0 + 1) + 0) + 0) + 0) + 0) + 0 ≤ _), (by decide : (((((0 + 6) + 0) + 0) + 0) + 0) + 0 ≤ _)⟩)
    dsimp only [Pt.U, Pt.locs, Pt.cells, Pt.slots] at X87 l87 y87 z87 st87 hQ87
    subst l87 y87 z87
    obtain ⟨rfl, Nq87, eh87⟩ := hQ87
    have N87 := Fr.app N85 Nq87
    refine own_via (G := T87.setTop (mkF m 98 #[.val (.int is), .val (.int ix), .val (.int iy), .val (.int il), .val (.int (6 : Int32)), .val (.ref b73), .unset, .unset] [(.int (own_pk is (4 : Int32) ix iy)), (.int (4 : Int32)), (.ref b73)])) (fun tt kk => st87 tt kk) ?_
    obtain ⟨cl88, Ar88, qc88, S88, NN88, H88, G88⟩ := id V_b73'85
    obtain ⟨T88, h88, X88, e88, W88, st88⟩ := stB X87 hx hZ eh87 Ar88 (j := (4 : Int32)) (inb_of S88 ⟨by decide, by decide⟩) (g := (mkF m 98 #[.val (.int is), .val (.int ix), .val (.int iy), .val (.int il), .val (.int (6 : Int32)), .val (.ref b73), .unset, .unset] [(.int (own_pk is (4 : Int32) ix iy)), (.int (4 : Int32)), (.ref b73)])) rfl rfl (hb hby at_98)
    have V_b73'88 : Arv Z h88 b73 k73 .byte (6 : Int32) [(.int (nar .byte (own_pk is (0 : Int32) ix iy))), (.int (nar .byte (own_pk is (1 : Int32) ix iy))), (.int (nar .byte (own_pk is (2 : Int32) ix iy))), (.int (nar .byte (own_pk is (3 : Int32) ix iy))), (.int (nar .byte (own_pk is (4 : Int32) ix iy))), (.int (0 : Int32))] (.int (0 : Int32)) := Arv.set Ar88 qc88 S88 NN88 H88 G88 (fits_nar_byte _) W88 4 rfl (Nat.le_of_ble_eq_true rfl)
    have N88 := Fr.snoc X88 N87 g_b73
    have Z88 : n0 ≤ h88.size := Nat.le_trans Z85 (Keep.of_wr W88).1
    refine own_via (G := T88.setTop (mkF m 99 #[.val (.int is), .val (.int ix), .val (.int iy), .val (.int il), .val (.int (6 : Int32)), .val (.ref b73), .unset, .unset] [])) (fun tt kk => st88 tt kk) ?_
    refine own_via (G := T88.setTop (mkF m 101 #[.val (.int is), .val (.int ix), .val (.int iy), .val (.int il), .val (.int (6 : Int32)), .val (.ref b73), .unset, .unset] [(.int (6 : Int32))])) (fun tt kk => XS.iload X88.here hx rfl (hb hby at_99) rfl kk) ?_
    refine own_via (G := T88.setTop (mkF m 102 #[.val (.int is), .val (.int ix), .val (.int iy), .val (.int il), .val (.int (6 : Int32)), .val (.ref b73), .unset, .unset] [(.int (5 : Int32)), (.int (6 : Int32))])) (fun tt kk => XS.iconst X88.here hx rfl (hb hby at_101) kk) ?_
    have hc89_102 : (5 : Int32) < (6 : Int32) := (by decide)
    refine own_via (G := T88.setTop (mkF m 105 #[.val (.int is), .val (.int ix), .val (.int iy), .val (.int il), .val (.int (6 : Int32)), .val (.ref b73), .unset, .unset] [])) (fun tt kk => XS.icmpNo X88.here hx rfl (hb hby at_102) rfl (XT.ii_le_f hc89_102) kk) ?_
    refine own_via (G := T88.setTop (mkF m 107 #[.val (.int is), .val (.int ix), .val (.int iy), .val (.int il), .val (.int (6 : Int32)), .val (.ref b73), .unset, .unset] [(.ref b73)])) (fun tt kk => XS.aload X88.here hx rfl (hb hby at_105) rfl rfl kk) ?_
    refine own_via (G := T88.setTop (mkF m 108 #[.val (.int is), .val (.int ix), .val (.int iy), .val (.int il), .val (.int (6 : Int32)), .val (.ref b73), .unset, .unset] [(.int (5 : Int32)), (.ref b73)])) (fun tt kk => XS.iconst X88.here hx rfl (hb hby at_107) kk) ?_
    refine own_via (G := T88.setTop (mkF m 109 #[.val (.int is), .val (.int ix), .val (.int iy), .val (.int il), .val (.int (6 : Int32)), .val (.ref b73), .unset, .unset] [(.int is), (.int (5 : Int32)), (.ref b73)])) (fun tt kk => XS.iloadN X88.here hx rfl (hb hby at_108) rfl kk) ?_
    refine own_via (G := T88.setTop (mkF m 110 #[.val (.int is), .val (.int ix), .val (.int iy), .val (.int il), .val (.int (6 : Int32)), .val (.ref b73), .unset, .unset] [(.int (5 : Int32)), (.int is), (.int (5 : Int32)), (.ref b73)])) (fun tt kk => XS.iconst X88.here hx rfl (hb hby at_109) kk) ?_
    refine own_via (G := T88.setTop (mkF m 111 #[.val (.int is), .val (.int ix), .val (.int iy), .val (.int il), .val (.int (6 : Int32)), .val (.ref b73), .unset, .unset] [(.int ix), (.int (5 : Int32)), (.int is), (.int (5 : Int32)), (.ref b73)])) (fun tt kk => XS.iloadN X88.here hx rfl (hb hby at_110) rfl kk) ?_
    refine own_via (G := T88.setTop (mkF m 112 #[.val (.int is), .val (.int ix), .val (.int iy), .val (.int il), .val (.int (6 : Int32)), .val (.ref b73), .unset, .unset] [(.int iy), (.int ix), (.int (5 : Int32)), (.int is), (.int (5 : Int32)), (.ref b73)])) (fun tt kk => XS.iloadN X88.here hx rfl (hb hby at_111) rfl kk) ?_
    obtain ⟨_, _, ⟨T90, L90, k90, n90⟩, -, X90, ⟨Lc90, hQ90, l90, y90, z90⟩, st90⟩ := Jvm.LawKit.callS X88 hx (y := (⟨"com/example/clew/clew/KnuthMorrisPrattFailureFunctionPinLaw", "pick", "(IIII)B"⟩ : MethodName)) hown (mvT hZ (hw _ (List.mem_of_getElem? (i := 2) rfl))) (mvT hZ (hw _ (List.mem_of_getElem? (i := 3) rfl))) (mvT hZ (hw _ (List.mem_of_getElem? (i := 4) rfl))) (mvT hZ (hw _ (List.mem_of_getElem? (i := 5) rfl))) (by decide) (backOf (W := 2) (rm1 l Z a0 hw [] is (5 : Int32) ix iy h88 n0 Z88) hZ (hw _ (List.mem_of_getElem? (i := 5) rfl)) (hw _ (List.mem_of_getElem? (i := 4) rfl)) (by decide) (by decide)) (g := (mkF m 112 #[.val (.int is), .val (.int ix), .val (.int iy), .val (.int il), .val (.int (6 : Int32)), .val (.ref b73), .unset, .unset] [(.int iy), (.int ix), (.int (5 : Int32)), (.int is), (.int (5 : Int32)), (.ref b73)])) rfl (by rw [hml]; rfl) (argsL := [(.int is), (.int (5 : Int32)), (.int ix), (.int iy)]) (rest := [(.int (5 : Int32)), (.ref b73)]) (lenOf pd_3 rfl) rfl (by show 2 * 0 + _ ≤ _; exact Nat.le_of_eq rfl) (hb hby at_112) (fun _ _ => ⟨rfl, e88, (by decide : ((((((0 + 1) + 0) + 0) + 0) + 0) + 0) + 0 ≤ _), (by decide : ((((((0 + 6) + 0) + 0) + 0) + 0) + 0) + 0 ≤ _)⟩)
    dsimp only [Pt.U, Pt.locs, Pt.cells, Pt.slots] at X90 l90 y90 z90 st90 hQ90
    subst l90 y90 z90
    obtain ⟨rfl, Nq90, eh90⟩ := hQ90
    have N90 := Fr.app N88 Nq90
    refine own_via (G := T90.setTop (mkF m 115 #[.val (.int is), .val (.int ix), .val (.int iy), .val (.int il), .val (.int (6 : Int32)), .val (.ref b73), .unset, .unset] [(.int (own_pk is (5 : Int32) ix iy)), (.int (5 : Int32)), (.ref b73)])) (fun tt kk => st90 tt kk) ?_
    obtain ⟨cl91, Ar91, qc91, S91, NN91, H91, G91⟩ := id V_b73'88
    obtain ⟨T91, h91, X91, e91, W91, st91⟩ := stB X90 hx hZ eh90 Ar91 (j := (5 : Int32)) (inb_of S91 ⟨by decide, by decide⟩) (g := (mkF m 115 #[.val (.int is), .val (.int ix), .val (.int iy), .val (.int il), .val (.int (6 : Int32)), .val (.ref b73), .unset, .unset] [(.int (own_pk is (5 : Int32) ix iy)), (.int (5 : Int32)), (.ref b73)])) rfl rfl (hb hby at_115)
    have V_b73'91 : Arv Z h91 b73 k73 .byte (6 : Int32) [(.int (nar .byte (own_pk is (0 : Int32) ix iy))), (.int (nar .byte (own_pk is (1 : Int32) ix iy))), (.int (nar .byte (own_pk is (2 : Int32) ix iy))), (.int (nar .byte (own_pk is (3 : Int32) ix iy))), (.int (nar .byte (own_pk is (4 : Int32) ix iy))), (.int (nar .byte (own_pk is (5 : Int32) ix iy)))] (.int (0 : Int32)) := Arv.set Ar91 qc91 S91 NN91 H91 G91 (fits_nar_byte _) W91 5 rfl (Nat.le_of_ble_eq_true rfl)
    have N91 := Fr.snoc X91 N90 g_b73
    have Z91 : n0 ≤ h91.size := Nat.le_trans Z88 (Keep.of_wr W91).1
    refine own_via (G := T91.setTop (mkF m 116 #[.val (.int is), .val (.int ix), .val (.int iy), .val (.int il), .val (.int (6 : Int32)), .val (.ref b73), .unset, .unset] [])) (fun tt kk => st91 tt kk) ?_
    exact b0_116_6 (.val (.int is)) (.val (.int ix)) (.val (.int iy)) (.val (.int il)) b73 k73 (nar .byte (own_pk is (0 : Int32) ix iy)) (nar .byte (own_pk is (1 : Int32) ix iy)) (nar .byte (own_pk is (2 : Int32) ix iy)) (nar .byte (own_pk is (3 : Int32) ix iy)) (nar .byte (own_pk is (4 : Int32) ix iy)) (nar .byte (own_pk is (5 : Int32) ix iy)) ⟨hx, hZ, hw, hby, hml, hown, hret, hlk, hnm⟩ X91 e91 Z91 N91 V_b73'91 g_b73
theorem ef_0 (m : MethodId) (is : Int32) (ix : Int32) (iy : Int32) (il : Int32) : entryFrame m #[(.int is), (.int ix), (.int iy), (.int il)] maxLocals = mkF m 0 #[.val (.int is), .val (.int ix), .val (.int iy), .val (.int il), .unset, .unset, .unset, .unset] [] := by first | (simp [entryFrame, mkF, argsToLocals, Value.category, maxLocals]; done) | rfl
set_option maxRecDepth 65536 in
set_option maxHeartbeats 40000000 in
theorem rm0 (l : Launch) (Z : State) (a0 : Array Value) (hw : ∀ d ∈ tables_1, d.before a0 Z = true) (ws : List Jvm.Cond) (is : Int32) (ix : Int32) (iy : Int32) (il : Int32) (h0 : Heap) (n0 : Nat) (Z0 : n0 ≤ h0.size) :
    MetFree l x (head1 (Jvm.Cond.code x code maxLocals ret :: ws) room_1) (fun a U => a = #[(.int is), (.int ix), (.int iy), (.int il)] ∧ Z.Warmed39 U.vm ∧ U.heap = h0) (fun _ _ _ _ _ => True) (fun _ U o U' => ∃ v L, o = .returned v ∧ Q0 Z is ix iy il h0 n0 v U'.heap L ∧ FrameEnd U o U' L room_1.cells room_1.slots) := by
  refine MetFree.of_bodySF (plainFor_of_name pn_0) hisR ?_
  intro p e s m args below meth c s₁ Bd hml0 hP hK
  obtain ⟨rfl, hZ, hh⟩ := hP
  have e0 : s₁.heap = h0 := by rw [← hh, Bd.state]; rfl
  rw [ef_0 m is ix iy il]
  exact b0 is ix iy il ⟨Bd.exec, hZ, hw, Bd.bytes, hml0, findClass_of_methodNamed Bd.named, Bd.returns, Bd.notSynchronized, (name_of_methodNamed Bd.named Bd.method).1⟩ (Stand.of_body Bd) e0 Z0 (Fr.nil n0)
set_option maxRecDepth 65536 in
set_option maxHeartbeats 40000000 in
theorem comes_1 {Post : Tables → Env → Array Value → State → Outcome → State → Prop} (hpost : ∀ tb e args s v u, (limb_1_1.after args s (.returned v) u = true ∧ limb_1_2.after args s (.returned v) u = true ∧ True) → FrameEnd s (.returned v) u (Jvm.fieldLocs frame_1_writes args s ++ Jvm.arrayLocs frame_1_arrays args s ++ Jvm.staticLocs frame_1_statics s) 16 128 → Post tb e args s (.returned v) u) :
    ArmFor flags0 classFile x code maxLocals ret World_1 tables_1 room_1 Calls_1 rest_1 Pre_1 Post := by
  intro l hfl _ _ p e ha hc hk s m args below hf hA hF happ hP
  obtain ⟨hcalls, hrest, hpre⟩ := hP
  obtain ⟨-, -, -, hnamed, -, -, -, hat⟩ := (Spec.applies_iff hf).mp happ
  obtain ⟨hg, hn⟩ := and_e (Cond.before_iff.mp (show (Jvm.Cond.and given_1 narrow_1).before args s = true from hpre))
  obtain ⟨hcount, r0⟩ := and_e hg
  obtain ⟨ha0, r1⟩ := and_e r0
  obtain ⟨ha1, r2⟩ := and_e r1
  obtain ⟨ha2, r3⟩ := and_e r2
  obtain ⟨w0, w1, w2, w3, rfl⟩ : ∃ w0 w1 w2 w3 : Value, args = #[w0, w1, w2, w3] := by
    have hs : args.size = 4 := by simpa [Cond.value, given_1] using hcount
    obtain ⟨L⟩ := args
    match L, hs with
    | [w0, w1, w2, w3], _ => exact ⟨w0, w1, w2, w3, rfl⟩
  have hw := fun d (hd : d ∈ tables_1) => atoms_spec (ws := Jvm.Cond.code x code maxLocals ret :: tables_1) hat d (List.mem_cons_of_mem _ hd)
  obtain ⟨i0, ei0⟩ := is_v ha0
  obtain rfl : w0 = (.int i0) := Option.some.inj ei0
  obtain ⟨i1, ei1⟩ := is_v ha1
  obtain rfl : w1 = (.int i1) := Option.some.inj ei1
  obtain ⟨i2, ei2⟩ := is_v ha2
  obtain rfl : w2 = (.int i2) := Option.some.inj ei2
  obtain ⟨i3, ei3⟩ := is_v r3
  obtain rfl : w3 = (.int i3) := Option.some.inj ei3
  obtain ⟨n, o, h1, h2, h3, _, L, rfl, ⟨rfl, N⟩, hq⟩ := rm0 l s _ hw tables_1 i0 i1 i2 i3 s.heap s.heap.size (Nat.le_refl _) p e ha hc hk s m _ below hf ((Spec.applies_iff_loose hf).mp happ).1 ⟨rfl, State.Warmed39.refl s, rfl⟩ trivial
  refine ⟨n, _, h1, h2, h3, hpost _ _ _ _ _ _ ⟨Cond.after_iff.mpr rfl, Cond.after_iff.mpr (eq_i res_at (Term.int_eval (1)) rfl), trivial⟩ ⟨hq.1, hq.2.1, (hq.2.2.sift fun y hy => Or.inr (N y hy)).mono (by decide) (by decide)⟩⟩
theorem main_1_1 : Claimed_1_1 := comes_1 fun _ _ _ _ _ _ h hF => ⟨h.1, hF⟩
theorem main_1_2 : Claimed_1_2 := comes_1 fun _ _ _ _ _ _ h hF => ⟨h.2.1, hF⟩
end Jvm.Pilot.@@N@@
namespace Jvm.Pilot.@@N@@
open Jvm Jvm.ClassFile Sem Op Lib Jvm.Free Jvm.Stand Jvm.Pilot.@@N@@.Jvm.D
/-! MADE BY PROGRAM (witnessworld.py) out of the Statement's table words and the real class files: 10 classes; the members and pool entries that the words name. The judged class is class 1, her method 1. -/
namespace start1
open Jvm.ClassFile
def u (s : String) : CpInfo := .utf8 (stringToUtf16 s)
/-- a pool by its gaps: so many unusable entries, then the entry; so many at the end -/
def gap : Nat → List CpInfo → List CpInfo
  | 0, r => r
  | n + 1, r => .unusable :: gap n r
def poolList (es : List (Nat × CpInfo)) (last : Nat) : List CpInfo := es.foldr (fun e r => gap e.1 (e.2 :: r)) (gap last [])
def pool (es : List (Nat × CpInfo)) (last : Nat) : Array CpInfo := ⟨poolList es last⟩
def fileOf (pool : Array CpInfo) (this : Nat) (attrs : Array Attribute := #[]) (ms : Array MethodInfo := #[]) (fl : Nat := 33) (sup : Nat := 0) (ifs : Array Nat := #[]) (fds : Array FieldInfo := #[]) : ClassFile where
  minorVersion := 0
  majorVersion := 65
  constantPool := pool
  accessFlags := fl
  thisClass := this
  superClass := sup
  interfaces := ifs
  fields := fds
  methods := ms
  attributes := attrs
def plain (name : String) (sup : Option ClassId) : Class where
  name := name
  kind := .ordinary
  loader := none
  accessFlags := 33
  super := sup
  interfaces := #[]
  cf := none
  fields := #[]
  methods := #[]
  instanceTypes := #[]
  staticTypes := #[]
  resolved := #[]
  callSites := []
  init := .initialized
  statics := none
  mirror := none

def pool0 : Array CpInfo := pool [(5, u "<init>"), (0, u "()V"), (1, .class_ 10), (1, u "java/lang/Object")] 113

def k0m0 : Method := { name := "<init>", desc := "()V", sig := { parameters := [], returnType := none }, accessFlags := 1, code := none }
/-- java/lang/Object -/
def k0 : Class := { plain "java/lang/Object" none with
  accessFlags := 33
  interfaces := #[]
  cf := some (fileOf pool0 8 #[] #[{ accessFlags := 1, nameIndex := 5, descriptorIndex := 6, attributes := #[] }] 33 0 #[] #[])
  fields := #[]
  methods := #[k0m0]
  instanceTypes := #[]
  staticTypes := #[]
  resolved := Array.replicate 124 none
  statics := none }

def pool1 : Array CpInfo := pool [(2, .class_ 4), (1, u "java/lang/Object"), (0, u "<init>"), (0, u "()V"), (0, .integer 2147483647), (0, .methodref 9 10), (0, .class_ 11), (0, .nameAndType 12 13), (0, u "com/example/clew/clew/KnuthMorrisPrattFailureFunctionPinLaw"), (0, u "pick"), (0, u "(IIII)B"), (0, .methodref 15 16), (0, .class_ 17), (0, .nameAndType 18 19), (0, u "com/example/clew/clew/KnuthMorrisPratt"), (0, u "failureFunction"), (0, u "([B)[I"), (0, .methodref 9 21), (0, .nameAndType 22 23), (0, u "border"), (0, u "([BI)I"), (0, .methodref 9 25), (0, .nameAndType 26 27), (0, u "isBorder"), (0, u "([BII)Z"), (2, u "law"), (0, u "(IIII)Z")] 7

def k1m0 : Method := { name := "<init>", desc := "()V", sig := { parameters := [], returnType := none }, accessFlags := 1, code := none }
def k1c1 : Code := { maxStack := 6, maxLocals := 8, code := code, exceptionTable := #[], attributes := #[] }
def k1m1 : Method := { name := "law", desc := "(IIII)Z", sig := { parameters := [.int, .int, .int, .int], returnType := some .boolean }, accessFlags := 9, code := some k1c1 }
def k1c2 : Code := { maxStack := 3, maxLocals := 5, code := method_3_code, exceptionTable := #[], attributes := #[] }
def k1m2 : Method := { name := "pick", desc := "(IIII)B", sig := { parameters := [.int, .int, .int, .int], returnType := some .byte }, accessFlags := 10, code := some k1c2 }
def k1c3 : Code := { maxStack := 4, maxLocals := 4, code := method_4_code, exceptionTable := #[], attributes := #[] }
def k1m3 : Method := { name := "isBorder", desc := "([BII)Z", sig := { parameters := [(.array .byte), .int, .int], returnType := some .boolean }, accessFlags := 10, code := some k1c3 }
def k1c4 : Code := { maxStack := 3, maxLocals := 2, code := method_5_code, exceptionTable := #[], attributes := #[] }
def k1m4 : Method := { name := "border", desc := "([BI)I", sig := { parameters := [(.array .byte), .int], returnType := some .int }, accessFlags := 10, code := some k1c4 }
/-- com/example/clew/clew/KnuthMorrisPrattFailureFunctionPinLaw -/
def k1 : Class := { plain "com/example/clew/clew/KnuthMorrisPrattFailureFunctionPinLaw" (some 0) with
  accessFlags := 49
  interfaces := #[]
  cf := some (fileOf pool1 9 #[] #[{ accessFlags := 1, nameIndex := 5, descriptorIndex := 6, attributes := #[] }, { accessFlags := 9, nameIndex := 30, descriptorIndex := 31, attributes := #[] }, { accessFlags := 10, nameIndex := 12, descriptorIndex := 13, attributes := #[] }, { accessFlags := 10, nameIndex := 26, descriptorIndex := 27, attributes := #[] }, { accessFlags := 10, nameIndex := 22, descriptorIndex := 23, attributes := #[] }] 49 2 #[] #[])
  fields := #[]
  methods := #[k1m0, k1m1, k1m2, k1m3, k1m4]
  instanceTypes := #[]
  staticTypes := #[]
  resolved := Array.replicate 39 none
  statics := none }

def pool2 : Array CpInfo := pool [(2, .class_ 4), (1, u "java/lang/Object"), (3, .class_ 10), (1, u "com/example/clew/clew/Search"), (5, u "[B"), (4, u "pattern"), (40, .class_ 63), (0, u "com/example/clew/clew/Search$First"), (13, .class_ 78), (0, u "com/example/clew/clew/Search$Offsets"), (11, .class_ 91), (0, u "com/example/clew/clew/Search$Counter"), (70, .class_ 163), (0, u "com/example/clew/clew/Search$1"), (32, .class_ 197), (0, u "com/example/clew/clew/Search$OneText"), (0, .class_ 199), (0, u "com/example/clew/clew/Search$StateWalk")] 37

/-- com/example/clew/clew/Search -/
def k2 : Class := { plain "com/example/clew/clew/Search" (some 0) with
  accessFlags := 1057
  interfaces := #[]
  cf := some (fileOf pool2 8 #[.nestMembers #[77, 62, 90, 196, 198, 162]] #[] 1057 2 #[] #[{ accessFlags := 16, nameIndex := 21, descriptorIndex := 16, attributes := #[] }])
  fields := #[{ name := "pattern", type := (.array .byte), accessFlags := 16, slot := 0, constantValue := 0 }]
  methods := #[]
  instanceTypes := #[(.array .byte)]
  staticTypes := #[]
  resolved := Array.replicate 237 none
  statics := none }

def pool3 : Array CpInfo := pool [(2, .class_ 4), (1, u "com/example/clew/clew/Search"), (3, .class_ 10), (1, u "com/example/clew/clew/KnuthMorrisPratt"), (4, u "failureFunction"), (0, u "([B)[I"), (2, u "failure"), (0, u "[I")] 70

def k3c0 : Code := { maxStack := 3, maxLocals := 4, code := prog_22_method_2_code, exceptionTable := #[], attributes := #[] }
def k3m0 : Method := { name := "failureFunction", desc := "([B)[I", sig := { parameters := [(.array .byte)], returnType := some (.array .int) }, accessFlags := 8, code := some k3c0 }
/-- com/example/clew/clew/KnuthMorrisPratt -/
def k3 : Class := { plain "com/example/clew/clew/KnuthMorrisPratt" (some 2) with
  accessFlags := 33
  interfaces := #[]
  cf := some (fileOf pool3 8 #[] #[{ accessFlags := 8, nameIndex := 15, descriptorIndex := 16, attributes := #[] }] 33 2 #[] #[{ accessFlags := 18, nameIndex := 19, descriptorIndex := 20, attributes := #[] }])
  fields := #[{ name := "failure", type := (.array .int), accessFlags := 18, slot := 1, constantValue := 0 }]
  methods := #[k3m0]
  instanceTypes := #[(.array .byte), (.array .int)]
  staticTypes := #[]
  resolved := Array.replicate 91 none
  statics := none }

def pool4 : Array CpInfo := pool [(1, u "java/lang/Cloneable"), (0, .class_ 1), (0, u "java/lang/Object"), (0, .class_ 3)] 3

/-- java/lang/Cloneable -/
def k4 : Class := { plain "java/lang/Cloneable" (some 0) with
  accessFlags := 1537
  interfaces := #[]
  cf := some (fileOf pool4 2 #[] #[] 1537 4 #[] #[])
  fields := #[]
  methods := #[]
  instanceTypes := #[]
  staticTypes := #[]
  resolved := Array.replicate 8 none
  statics := none }

def pool5 : Array CpInfo := pool [(1, u "java/io/Serializable"), (0, .class_ 1), (0, u "java/lang/Object"), (0, .class_ 3)] 3

/-- java/io/Serializable -/
def k5 : Class := { plain "java/io/Serializable" (some 0) with
  accessFlags := 1537
  interfaces := #[]
  cf := some (fileOf pool5 2 #[] #[] 1537 4 #[] #[])
  fields := #[]
  methods := #[]
  instanceTypes := #[]
  staticTypes := #[]
  resolved := Array.replicate 8 none
  statics := none }

/-- the primitive byte -/
def k6 : Class := { plain "byte" none with kind := .primitive 'B', accessFlags := 0x411 }
/-- [B -/
def k7 : Class := { plain "[B" (some 0) with kind := .array 6 .byte, interfaces := #[4, 5], accessFlags := 1041 }

/-- the primitive int -/
def k8 : Class := { plain "int" none with kind := .primitive 'I', accessFlags := 0x411 }
/-- [I -/
def k9 : Class := { plain "[I" (some 0) with kind := .array 8 .int, interfaces := #[4, 5], accessFlags := 1041 }

def heap : Heap := #[]
def classes : Array Class := #[k0, k1, k2, k3, k4, k5, k6, k7, k8, k9]
def interned : List (Array UInt16 × Addr) := []
def slotsUsed : Nat := 0
def theMethod : MethodId := ⟨1, 1⟩
def args0 : Array Value := #[.int 5, .int 6, .int 7, .int 4]
def aboutOver (below : List Frame) : State where
  vm := { classes := classes, interned := interned.toArray }
  heap := heap
  slotsUsed := slotsUsed
  threads := #[{ frames := .invoking theMethod args0 :: below }]
def below0 : List Frame := [.native { method := ⟨0, 0⟩, args := #[] }]
def about1 : State := aboutOver below0
def p0 : Program := .bare "" "" ""
def e0 : Env := launch0.env 0 0 0
theorem w_frames : about1.frames = Frame.invoking theMethod args0 :: below0 := rfl
set_option maxRecDepth 65536 in
theorem w_args : argsFit about1.vm theMethod args0 = true := by decide +kernel
set_option maxRecDepth 65536 in
theorem w_heap : heapFits about1 = true := by decide +kernel
set_option maxRecDepth 65536 in
theorem w_runnable : about1.curStatus? = some .runnable := by decide +kernel
set_option maxRecDepth 65536 in
theorem w_alone : about1.alone = true := by decide +kernel
set_option maxRecDepth 65536 in
theorem w_named : about1.methodNamed? x = some theMethod := by decide +kernel
set_option maxRecDepth 65536 in
theorem w_hears : about1.hears theMethod below0 = true := by decide +kernel
set_option maxRecDepth 65536 in
theorem w_ripe : about1.ripe theMethod args0 below0 = true := by decide +kernel
theorem w_running : about1.status = .running := rfl
set_option maxRecDepth 65536 in
theorem w_room : about1.hasRoom e0.platform room_1 = true :=
  launch0.hasRoom_least _ room_1 (by decide +kernel) (by decide +kernel) (by decide +kernel) (by decide +kernel) (by decide +kernel) (by decide +kernel)
theorem allAtoms_all (ts : List Jvm.Cond) (a : Array Jvm.Value) (st : Jvm.State) : (allAtoms ts).before a st = ts.all (fun c => c.before a st) := by
  induction ts with
  | nil => rfl
  | cons c t ih =>
    show (Jvm.Cond.and c (allAtoms t)).before a st = _
    rw [Jvm.Cond.before_and, ih, List.all_cons]
def words1 : List Jvm.Cond := Jvm.Cond.code x code maxLocals ret :: tables_1
/-- a 'code' word, met by the world's own term for the bytes: nothing is compared byte by byte -/
theorem code_word {y : MethodName} {bytes : ByteArray} {mx : Nat} {rt : Option FieldType} {a : Array Value} {s : State} {m : MethodId} {meth : Method} {c : Code} (h1 : s.methodNamed? y = some m) (h2 : s.vm.method? m = some meth) (h3 : meth.code = some c) (h4 : c.code = bytes)
    (h5 : (c.maxLocals == mx && c.exceptionTable.isEmpty && decide (c.maxStack ≤ mostOperands) && decide (meth.sig.returnType = rt) && !meth.locks && decide (parseMethodDescriptor y.desc = some meth.sig)) = true) : (Jvm.Cond.code y bytes mx rt).before a s = true := by
  simp only [Bool.and_eq_true, beq_iff_eq, Bool.not_eq_true', decide_eq_true_eq] at h5
  obtain ⟨⟨⟨⟨⟨g1, g2⟩, g3⟩, g4⟩, g5⟩, g6⟩ := h5
  simp [Cond.before, Cond.holds, Cond.value, h1, h2, h3, h4, g1, g2, g3, g4, g5, g6]
def isCode : Jvm.Cond → Bool
  | .code _ _ _ _ => true
  | _ => false
theorem all_split {L : List Jvm.Cond} {P : Jvm.Cond → Bool} (h1 : L.all (fun c => isCode c || P c) = true) (h2 : ∀ c ∈ L.filter isCode, P c = true) : L.all P = true := by
  refine List.all_eq_true.mpr fun c hc => ?_
  have h := List.all_eq_true.mp h1 c hc
  rcases Bool.eq_false_or_eq_true (isCode c) with hi | hi
  · exact h2 c (List.mem_filter.mpr ⟨hc, hi⟩)
  · simpa [hi] using h
set_option maxRecDepth 65536 in
theorem w_c0 : (Jvm.Cond.code x code maxLocals ret).before args0 about1 = true := code_word (m := ⟨1, 1⟩) (meth := k1m1) (c := k1c1) (by decide +kernel) rfl rfl rfl (by decide +kernel)
set_option maxRecDepth 65536 in
theorem w_c1 : (Jvm.Cond.code ({ cls := "com/example/clew/clew/KnuthMorrisPrattFailureFunctionPinLaw", name := "pick", desc := "(IIII)B" } : Jvm.MethodName) method_3_code (5 : Nat) (Option.some Jvm.ClassFile.FieldType.byte)).before args0 about1 = true := code_word (m := ⟨1, 2⟩) (meth := k1m2) (c := k1c2) (by decide +kernel) rfl rfl rfl (by decide +kernel)
set_option maxRecDepth 65536 in
theorem w_c2 : (Jvm.Cond.code ({ cls := "com/example/clew/clew/KnuthMorrisPratt", name := "failureFunction", desc := "([B)[I" } : Jvm.MethodName) prog_22_method_2_code (4 : Nat) (Option.some (Jvm.ClassFile.FieldType.array Jvm.ClassFile.FieldType.int))).before args0 about1 = true := code_word (m := ⟨3, 0⟩) (meth := k3m0) (c := k3c0) (by decide +kernel) rfl rfl rfl (by decide +kernel)
set_option maxRecDepth 65536 in
theorem w_c3 : (Jvm.Cond.code ({ cls := "com/example/clew/clew/KnuthMorrisPrattFailureFunctionPinLaw", name := "border", desc := "([BI)I" } : Jvm.MethodName) method_5_code (2 : Nat) (Option.some Jvm.ClassFile.FieldType.int)).before args0 about1 = true := code_word (m := ⟨1, 4⟩) (meth := k1m4) (c := k1c4) (by decide +kernel) rfl rfl rfl (by decide +kernel)
set_option maxRecDepth 65536 in
theorem w_c4 : (Jvm.Cond.code ({ cls := "com/example/clew/clew/KnuthMorrisPrattFailureFunctionPinLaw", name := "isBorder", desc := "([BII)Z" } : Jvm.MethodName) method_4_code (4 : Nat) (Option.some Jvm.ClassFile.FieldType.boolean)).before args0 about1 = true := code_word (m := ⟨1, 3⟩) (meth := k1m3) (c := k1c3) (by decide +kernel) rfl rfl rfl (by decide +kernel)
def codes1 : List Jvm.Cond := [Jvm.Cond.code x code maxLocals ret, Jvm.Cond.code ({ cls := "com/example/clew/clew/KnuthMorrisPrattFailureFunctionPinLaw", name := "pick", desc := "(IIII)B" } : Jvm.MethodName) method_3_code (5 : Nat) (Option.some Jvm.ClassFile.FieldType.byte), Jvm.Cond.code ({ cls := "com/example/clew/clew/KnuthMorrisPratt", name := "failureFunction", desc := "([B)[I" } : Jvm.MethodName) prog_22_method_2_code (4 : Nat) (Option.some (Jvm.ClassFile.FieldType.array Jvm.ClassFile.FieldType.int)), Jvm.Cond.code ({ cls := "com/example/clew/clew/KnuthMorrisPrattFailureFunctionPinLaw", name := "border", desc := "([BI)I" } : Jvm.MethodName) method_5_code (2 : Nat) (Option.some Jvm.ClassFile.FieldType.int), Jvm.Cond.code ({ cls := "com/example/clew/clew/KnuthMorrisPrattFailureFunctionPinLaw", name := "isBorder", desc := "([BII)Z" } : Jvm.MethodName) method_4_code (4 : Nat) (Option.some Jvm.ClassFile.FieldType.boolean)]
set_option maxRecDepth 65536 in
theorem codes_eq : words1.filter isCode = codes1 := rfl
theorem w_codes : ∀ c ∈ words1.filter isCode, c.before args0 about1 = true := by
  rw [codes_eq]
  intro c hc
  simp only [codes1, List.mem_cons, List.not_mem_nil, or_false] at hc
  rcases hc with rfl | rfl | rfl | rfl | rfl
  · exact w_c0
  · exact w_c1
  · exact w_c2
  · exact w_c3
  · exact w_c4
set_option maxRecDepth 65536 in
theorem w_t1 : words1.all (fun c => isCode c || c.before args0 about1) = true := by decide +kernel
theorem w_tables : (allAtoms (Jvm.Cond.code x code maxLocals ret :: tables_1)).before args0 about1 = true := by
  rw [allAtoms_all]
  show words1.all (fun c => c.before args0 about1) = true
  refine all_split ?_ w_codes
  rw [w_t1]
set_option maxRecDepth 65536 in
theorem w_case : (Jvm.Cond.and given_1 narrow_1).before args0 about1 = true := by decide +kernel
theorem w_applies : (headSpec (Jvm.Cond.code x code maxLocals ret :: tables_1) room_1).applies x e0.platform about1 = true :=
  (Spec.applies_iff w_frames).mpr ⟨w_running, w_runnable, w_alone, w_named, w_hears, w_ripe, w_room, w_tables⟩
theorem atStart : AtStart classFile x code maxLocals ret World_1 tables_1 room_1 Calls_1 rest_1 Pre_1 launch0 p0 e0 about1 theMethod args0 below0 :=
  ⟨lists_1, trivial, launch0.admits_env _ _ _, launch0.least_env, fairChoices_fair.cas, fairChoices_fair.clock, w_frames, w_args, w_heap, w_applies, trivial, trivial, w_case⟩
end start1
theorem witness_1 : WitnessClaimed_1 := ⟨start1.p0, start1.e0, start1.about1, start1.theMethod, start1.args0, start1.below0, start1.atStart⟩
end Jvm.Pilot.@@N@@
