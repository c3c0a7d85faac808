import JvmDerived
import JvmDerived.Pilot.@@N@@Statement
import JvmDerived.Pilot.@@N@@Code
set_option linter.unusedVariables false
set_option linter.unusedSimpArgs false
@@BLOCK:NumsL.lean.txt@@
@@BLOCK:LamKit.lean.txt@@
namespace Jvm.RoadKit
open Sem ClassFile Op Lib Jvm.Stand Jvm.Free Jvm.LawKit
section New
variable {p : Program} {l : Launch} {e : Env} {R : Room} {s : State} {m : MethodId} {args : Array Value} {below : List Frame} {meth : Method} {c : Code} {T : State} {locs : List Loc} {cells slots : Nat}
theorem retI (X : Stand p l e R s m args below meth c T locs cells slots) (hx : p.tables.exec = Jvm.exec) {pc : Nat} {Ls : Array Slot} {z : Int32} {rest : List Value} (hret : meth.sig.returnType = some .int) (hd : decode c.code pc = .ok (.ireturn, 1)) {fs : List Frame}
    (hl : ∀ (f : JFrame) (acts : List Action), f.method = m → f.locked = none → f.entered = [] → (doReturn e (T.setTop f) acts (some (.int z))).1 = T.setFrames fs) : Steps p.tables e below (T.setTop (mkF m pc Ls (.int z :: rest))) (T.setFrames fs) := by
  have hm' : T.vm.method? m = some meth := X.method'
  have hn : narrow .int (.int z) = .int z := rfl
  show Steps p.tables e below (T.setTop { method := m, pc := pc, locals := Ls, stack := _ :: rest, locked := none }) _
  jvm_step X.here [X.here.top, hx, hd, hm', hret, hn]
  first | (intro acts; rw [hl _ acts rfl rfl rfl]) | rw [hl _ _ rfl rfl rfl]
  exact Steps.refl _
end New
end Jvm.RoadKit
namespace Jvm.Pilot.@@N@@
open Jvm Jvm.ClassFile Sem Op Lib Jvm.Free Jvm.Stand Jvm.LawKit Jvm.RoadKit Bundle Jvm.Pilot.@@N@@.Jvm.D
/-- from F on the run comes to the method's end, and K holds there -/
def own_Go (tb : Tables) (e : Env) (below : List Frame) (F : State) (K : Outcome → State → Prop) : Prop := ∃ t o, Steps tb e below F t ∧ t.status = .running ∧ Ended t below o ∧ K o t
theorem own_via {tb : Tables} {e : Env} {below : List Frame} {F G : State} {K : Outcome → State → Prop} (h : ∀ t, Steps tb e below G t → Steps tb e below F t) (k : own_Go tb e below G K) : own_Go tb e below F K := by
  obtain ⟨t, o, h1, h2⟩ := k
  exact ⟨t, o, h t h1, h2⟩
theorem vs {tb : Tables} {e : Env} {below : List Frame} {T : State} {m : MethodId} {pc : Nat} {L : Array Slot} {S : List Value} {K : Outcome → State → Prop} (T' : State) (pc' : Nat) (S' : List Value) (h : ∀ t, Steps tb e below (T'.setTop (mkF m pc' L S')) t → Steps tb e below (T.setTop (mkF m pc L S)) t) (k : own_Go tb e below (T'.setTop (mkF m pc' L S')) K) : own_Go tb e below (T.setTop (mkF m pc L S)) K := own_via h k
abbrev vr (a : Addr) : Slot := .val (.ref a)
abbrev vi (x : Int32) : Slot := .val (.int x)
theorem ww {Z : State} {a0 : Array Value} (hw : ∀ d ∈ tables_1, d.before a0 Z = true) (i : Nat) {d : Jvm.Cond} (h : tables_1[i]? = some d) : d.before a0 Z = true := hw d (List.mem_of_getElem? h)
abbrev dq (b : ByteArray) (pc : Nat) (i : Instr) (n : Nat) : Prop := decode b pc = .ok (i, n)
theorem vv {tb : Tables} {e : Env} {below : List Frame} {F : State} {K : Outcome → State → Prop} (T : State) (m : MethodId) (pc : Nat) (L : Array Slot) (S : List Value) (h : ∀ t, Steps tb e below (T.setTop (mkF m pc L S)) t → Steps tb e below F t) (k : own_Go tb e below (T.setTop (mkF m pc L S)) K) : own_Go tb e below F K := own_via h k
set_option maxRecDepth 65536
set_option maxHeartbeats 40000000
abbrev cb0 := jdk_52_method_3_code
abbrev cb1 := jdk_52_method_2_code
abbrev cb2 := jdk_52_method_6_code
abbrev cb3 := jdk_52_method_4_code
abbrev cb4 := jdk_52_method_5_code
abbrev cb5 := jdk_52_method_14_code
abbrev cb6 := jdk_52_method_21_code
abbrev cb7 := jdk_52_method_16_code
abbrev cb8 := jdk_52_method_15_code
abbrev cb9 := jdk_42_method_149_code
abbrev cb10 := jdk_42_method_3_code
abbrev cb11 := jdk_42_method_154_code
abbrev cb12 := jdk_42_method_152_code
abbrev cb13 := jdk_42_method_54_code
abbrev cb14 := jdk_41_method_12_code
abbrev cb15 := jdk_41_method_13_code
abbrev cb16 := jdk_42_method_158_code
abbrev cb17 := jdk_42_method_157_code
abbrev cb18 := jdk_52_method_94_code
abbrev cb19 := jdk_43_method_49_code
abbrev cb20 := jdk_43_method_11_code
abbrev cb21 := jdk_52_method_26_code
abbrev cb22 := jdk_43_method_9_code
abbrev cb23 := jdk_52_method_13_code
abbrev cb24 := jdk_42_method_129_code
abbrev cb25 := jdk_42_method_61_code
abbrev cb26 := jdk_29_method_65_code
abbrev cb27 := jdk_29_method_69_code
abbrev cb28 := jdk_29_method_59_code
abbrev cb29 := jdk_33_method_47_code
abbrev cb30 := prog_7_method_1_code
abbrev cb31 := prog_7_method_4_code
abbrev cb32 := prog_7_method_3_code
abbrev cb33 := prog_7_method_2_code
abbrev cb34 := prog_6_method_11_code
abbrev cb35 := prog_13_method_1_code
abbrev cb36 := prog_13_method_2_code
abbrev cb37 := prog_6_method_2_code
abbrev cb38 := prog_6_method_3_code
abbrev cb39 := prog_6_method_4_code
abbrev cb40 := prog_6_method_1_code
abbrev cb41 := method_3_code
abbrev cb42 := method_4_code
abbrev cb43 := method_5_code
abbrev cb44 := method_6_code
abbrev cb45 := method_7_code
variable {p : Program} {l : Launch} {e : Env} {s : State} {m : MethodId} {args : Array Value} {below : List Frame} {meth : Method} {c : Code} {T0 : State} {locs : List Loc} {Z : State} {a0 : Array Value} {h0 : Heap} {n0 : Nat}
/-- what is asked at the end: it has returned, Q holds of the value, the heap and what was written -/
def own_K (s : State) (Q : Option Value → Heap → List Loc → Prop) (kc ks : Nat) (o : Outcome) (t : State) : Prop := ∃ v L, o = .returned v ∧ Q v t.heap L ∧ FrameEnd s o t L kc ks
/-- what a walk knows of its method all along -/
def own_C (p : Program) (s : State) (m : MethodId) (meth : Method) (c : Code) (Z : State) (a0 : Array Value) (bytes : ByteArray) (ml : Nat) (cls : String) (rt : Option FieldType) (nme : String) : Prop :=
  p.tables.exec = Jvm.exec ∧ Z.Warmed39 s.vm ∧ (∀ d ∈ tables_1, d.before a0 Z = true) ∧ c.code = bytes ∧ c.maxLocals = ml ∧ s.vm.findClass cls = some m.cls ∧ meth.sig.returnType = rt ∧ meth.locks = false ∧ meth.name = nme
theorem own_fin {p : Program} {l : Launch} {e : Env} {R : Room} {s : State} {m : MethodId} {args : Array Value} {below : List Frame} {meth : Method} {c : Code} {T : State} {locs : List Loc} {cells slots : Nat} (X : Stand p l e R s m args below meth c T locs cells slots) {F : State} {h : Heap} (eh : T.heap = h) {v : Option Value} {Q : Option Value → Heap → List Loc → Prop} {kc ks : Nat} (hv : meth.sig.returnType = none → v = none) (hlk : meth.locks = false)
    (hstep : ∀ fs, (∀ (f : JFrame) (acts : List Action), f.method = m → f.locked = none → f.entered = [] → (doReturn e (T.setTop f) acts v).1 = T.setFrames fs) → Steps p.tables e below F (T.setFrames fs)) (q : Q v h locs) (hc : cells ≤ kc) (hs : slots ≤ ks) : own_Go p.tables e below F (own_K s Q kc ks) := by
  obtain ⟨fs, hr, hrun, hended, hW, hsame⟩ := X.leave (v := v) hv hlk
  subst eh
  exact ⟨_, _, hstep fs hr, hrun, hended, _, _, rfl, q, ⟨_, rfl⟩, hW, hsame.mono hc hs⟩
theorem own_eqh {T : State} {h : Heap} (e : T.heap = h) {a : Addr} {c : Cell} (q : h[a]? = some c) : T.heap[a]? = some c := by rw [e]; exact q
theorem own_len {p : Program} {l : Launch} {e : Env} {R : Room} {s : State} {m : MethodId} {args : Array Value} {below : List Frame} {meth : Method} {c : Code} {T : State} {locs : List Loc} {cells slots : Nat} {Z : State} {h : Heap} (X : Stand p l e R s m args below meth c T locs cells slots) (hx : p.tables.exec = Jvm.exec) (hZ : Z.Warmed39 s.vm) (eT : T.heap = h) {a : Addr} {cl : Cell} {ty : FieldType} {n : Int32} (A : Arr Z h a cl ty) (S : cl.slots.size = n.toNatClampNeg) (N : ¬ n < 0)
    {g : JFrame} (hg : g.method = m) {rest : List Value} (hs : g.stack = .ref a :: rest) (hd : decode c.code g.pc = .ok (.arraylength, 1)) {t : State} (k : Steps p.tables e below (T.setTop { g with pc := g.pc + 1, stack := .int n :: rest }) t) : Steps p.tables e below (T.setTop g) t := by
  refine X.arraylength hx (by rw [eT]; exact A.1) (State.isArrayOf_alike hZ.alike A.2.1) hg hs hd _ ?_
  rw [len_of S N]
  exact k
def own_obj (h : Heap) (x : Addr) : Prop := ∃ c : Cell, h[x]? = some c ∧ c.vm.isStatics = false
theorem own_objE {Z : State} {h : Heap} {a : Addr} {C : String} (F : Exa Z h a C) : own_obj h a := by obtain ⟨c, _, h1, -, -, h4, -⟩ := F; exact ⟨c, h1, h4⟩
theorem own_objF {Z : State} {h : Heap} {a : Addr} {C n d : String} {v : Value} (F : Fld Z h a C n d v) : own_obj h a := by obtain ⟨c, _, _, _, _, h1, -, -, -, h4, -⟩ := F; exact ⟨c, h1, h4⟩
theorem own_objV {Z : State} {h : Heap} {a : Addr} {k : ClassId} {ty : FieldType} {n : Int32} {vs : List Value} {d : Value} (F : Arv Z h a k ty n vs d) : own_obj h a := by obtain ⟨c, A, -⟩ := F; exact ⟨c, A.1, A.plain⟩
theorem own_stakeep {Z : State} {h h' : Heap} {C n d : String} {w : Value} {ws : List Addr} (F : Sta Z h C n d w) (K : Keep h h' ws) (q : ∀ x ∈ ws, own_obj h x) : Sta Z h' C n d w := by
  obtain ⟨cf, i, k, f, st, cell, h1, h2, h3, h4, h5, h6, h7⟩ := F
  refine ⟨cf, i, k, f, st, cell, h1, h2, h3, h4, K.2.1 st cell h5 fun z => ?_, h6, h7⟩
  obtain ⟨c, c1, c2⟩ := q st z
  cases h5.symm.trans c1
  rw [h6] at c2; cases c2
theorem own_ti {i : Nat} (h : i ≤ 100) : (Int32.ofNat i).toInt = (i : Int) := Int32.toInt_ofNat_of_lt (by omega)
theorem own_lti {i n : Nat} (hi : i ≤ 100) (hn : n ≤ 100) : Int32.ofNat i < Int32.ofNat n ↔ i < n := by
  rw [Int32.lt_iff_toInt_lt, own_ti hi, own_ti hn]; omega
theorem own_lt {i n : Nat} (h : i < n) (hn : n ≤ 100) : Int32.ofNat i < Int32.ofNat n := (own_lti (by omega) hn).mpr h
theorem own_nlt {i n : Nat} (h : ¬ i < n) (hi : i ≤ 100) (hn : n ≤ 100) : ¬ Int32.ofNat i < Int32.ofNat n := fun q => h ((own_lti hi hn).mp q)
theorem own_inb {i n : Nat} (h : i < n) (hn : n ≤ 100) : ¬ Int32.ofNat i < 0 ∧ Int32.ofNat i < Int32.ofNat n := ⟨by
  rw [Int32.lt_iff_toInt_lt, own_ti (by omega)]; have k : (0 : Int32).toInt = 0 := rfl; omega, own_lt h hn⟩
theorem own_cl {i : Nat} (h : i ≤ 100) : (Int32.ofNat i).toNatClampNeg = i := by
  simp only [Int32.toNatClampNeg]; rw [own_ti h]; omega
theorem own_sub {k j : Nat} (h : j ≤ k) : Int32.ofNat k - Int32.ofNat j = Int32.ofNat (k - j) := by
  have e : k = (k - j) + j := by omega
  have e2 : Int32.ofNat k = Int32.ofNat (k - j) + Int32.ofNat j := by rw [← Int32.ofNat_add, ← e]
  rw [e2, Int32.add_sub_cancel]
theorem own_one (k : Nat) : Int32.ofNat k + (1 : Int32) = Int32.ofNat (k + 1) := (Int32.ofNat_add k 1).symm
theorem own_addn (a j : Nat) : Int32.ofNat a + Int32.ofNat j = Int32.ofNat (a + j) := (Int32.ofNat_add a j).symm
theorem own_oinj {i j : Nat} (hi : i ≤ 100) (hj : j ≤ 100) : Int32.ofNat i = Int32.ofNat j ↔ i = j := by
  constructor
  · intro q
    have := congrArg Int32.toInt q
    rw [own_ti hi, own_ti hj] at this; omega
  · intro q; rw [q]
theorem own_shl1 {i : Nat} (h : i ≤ 50) : Int32.ofNat i <<< ((1 : Int32) &&& 31) = Int32.ofNat (2 * i) := by
  apply Int32.toInt_inj.mp
  have e := own_ti (i := i) (by omega)
  rw [Jvm.Kit.i32_shl _ _ (k := 1) (by decide) (by omega) (by omega), e, own_ti (by omega)]; omega
theorem own_shr1 {i : Nat} (h : i ≤ 50) : Int32.ofNat (2 * i) >>> ((1 : Int32) &&& 31) = Int32.ofNat i := by
  apply Int32.toInt_inj.mp
  rw [Jvm.Kit.i32_shr _ _ (k := 1) (by decide), own_ti (by omega), own_ti (by omega)]; omega
def own_iv (cs : List Int32) : List Value := cs.map Value.int
theorem own_ivget (cs : List Int32) {i : Nat} (h : i ≤ 100) : (own_iv cs).getD (Int32.ofNat i).toNatClampNeg (.int (0 : Int32)) = .int (cs.getD i 0) := by
  rw [own_cl h]
  unfold own_iv
  simp only [List.getD_eq_getElem?_getD, List.getElem?_map]
  cases cs[i]? <;> rfl
theorem own_ivset (cs : List Int32) (i : Nat) (x : Int32) : (own_iv cs).set i (.int x) = own_iv (cs.set i x) := by
  unfold own_iv; rw [List.map_set]
theorem own_ivlen (cs : List Int32) : (own_iv cs).length = cs.length := by unfold own_iv; simp
theorem own_ivrep (n : Nat) : own_iv (List.replicate n 0) = List.replicate n (Value.int (0 : Int32)) := by
  unfold own_iv; rw [List.map_replicate]
/-- the two bytes of a char -/
def own_lo (x : Int32) : Int32 := nar .byte ((x >>> ((0 : Int32) &&& 31)).toInt8.toInt32)
def own_hi (x : Int32) : Int32 := nar .byte ((x >>> ((8 : Int32) &&& 31)).toInt8.toInt32)
def own_gch (x y : Int32) : Int32 := nar .char (((x &&& (255 : Int32)) <<< ((0 : Int32) &&& 31)) ||| ((y &&& (255 : Int32)) <<< ((8 : Int32) &&& 31))).toUInt32.toUInt16.toUInt32.toInt32
def own_lat (x : Int32) : Int32 := nar .byte (x.toInt8.toInt32)
/-- it is a char -/
def own_ch (x : Int32) : Prop := nar .char x = x

def own_utf (cs : List Int32) : List Int32 := cs.flatMap fun x => [own_lo x, own_hi x]
def own_puts (cs : List Int32) : Nat → List Int32 → List Int32
  | 0, bs => bs
  | i + 1, bs => ((own_puts cs i bs).set (2 * i) (own_lo (cs.getD i 0))).set (2 * i + 1) (own_hi (cs.getD i 0))
theorem own_putslen (cs : List Int32) (i : Nat) (bs : List Int32) : (own_puts cs i bs).length = bs.length := by
  induction i with
  | zero => rfl
  | succ i ih => show (((own_puts cs i bs).set _ _).set _ _).length = _; rw [List.length_set, List.length_set, ih]
theorem own_putsall (cs : List Int32) (h : cs.length ≤ 4) : own_puts cs cs.length (List.replicate (2 * cs.length) 0) = own_utf cs := by
  match cs, h with
  | [], _ => rfl
  | [a], _ => rfl
  | [a, b], _ => rfl
  | [a, b, c], _ => rfl
  | [a, b, c, d], _ => rfl
  | _ :: _ :: _ :: _ :: _ :: _, h => simp at h
def own_lats (cs : List Int32) : Nat → List Int32 → List Int32
  | 0, bs => bs
  | i + 1, bs => (own_lats cs i bs).set i (own_lat (cs.getD i 0))
theorem own_latslen (cs : List Int32) (i : Nat) (bs : List Int32) : (own_lats cs i bs).length = bs.length := by
  induction i with
  | zero => rfl
  | succ i ih => show ((own_lats cs i bs).set _ _).length = _; rw [List.length_set, ih]
theorem own_latsall (cs : List Int32) (h : cs.length ≤ 4) : own_lats cs cs.length (List.replicate cs.length 0) = cs.map own_lat := by
  match cs, h with
  | [], _ => rfl
  | [a], _ => rfl
  | [a, b], _ => rfl
  | [a, b, c], _ => rfl
  | [a, b, c, d], _ => rfl
  | _ :: _ :: _ :: _ :: _ :: _, h => simp at h
/-- what the inner compress leaves -/
def own_cr (cs : List Int32) (n k : Nat) (vz : List Int32) : Prop := (k < n ∧ (255 : Int32) < cs.getD k 0) ∨ (k = n ∧ vz = cs.map own_lat ∧ ∀ j, j < n → ¬ (255 : Int32) < cs.getD j 0)
/-- how a String holds its chars -/
def own_enc (cs : List Int32) (cd : Int32) (ln : Nat) (bs : List Int32) : Prop := (cd = 0 ∧ ln = cs.length ∧ bs = cs.map own_lat ∧ ∀ j, j < cs.length → ¬ (255 : Int32) < cs.getD j 0) ∨ (cd = 1 ∧ ln = 2 * cs.length ∧ bs = own_utf cs)
theorem own_big {n : Nat} (h : n ≤ 4) : Int32.ofNat n < (1073741823 : Int32) := by
  rw [Int32.lt_iff_toInt_lt, own_ti (by omega)]; have k : (1073741823 : Int32).toInt = 1073741823 := rfl; omega
def Q41 (Z : State) (n : Nat) (h0 : Heap) (n0 : Nat) (v : Option Value) (h : Heap) (L : List Loc) : Prop := v = some (.int (Int32.ofNat (2 * n))) ∧ Fr n0 L ∧ h = h0
theorem d41_0 : dq cb0 0 (.iload_n 0) 1 := by decide +kernel
theorem d41_1 : dq cb0 1 (.ifCond .ge 11) 3 := by decide +kernel
theorem d41_12 : dq cb0 12 (.iload_n 0) 1 := by decide +kernel
theorem d41_13 : dq cb0 13 (.ldc 20) 2 := by decide +kernel
theorem d41_15 : dq cb0 15 (.if_icmp .lt 40) 3 := by decide +kernel
theorem d41_55 : dq cb0 55 (.iload_n 0) 1 := by decide +kernel
theorem d41_56 : dq cb0 56 (.iconst 1) 1 := by decide +kernel
theorem d41_57 : dq cb0 57 .ishl 1 := by decide +kernel
theorem d41_58 : dq cb0 58 .ireturn 1 := by decide +kernel
theorem b41  (n : Nat)
    (C : own_C p s m meth c Z a0 jdk_52_method_3_code 1 "java/lang/StringUTF16" (some .int) "newBytesLength") (X0 : Stand p l e ({ frames := 0, cells := 0, slots := 0, locals := 0 } : Room) s m args below meth c T0 locs 0 0) (e0 : T0.heap = h0) (Z0 : n0 ≤ h0.size) (N0 : Fr n0 locs) (hn : n ≤ 4) :
    own_Go p.tables e below (T0.setTop (mkF m 0 #[vi (Int32.ofNat n)] [])) (own_K s (fun (v : Option Value) (h : Heap) (L : List Loc) => Q41 Z n h0 n0 v h L) ({ frames := 0, cells := 0, slots := 0, locals := 0 } : Room).cells ({ frames := 0, cells := 0, slots := 0, locals := 0 } : Room).slots) := by
  obtain ⟨hx, hZ, hw, hby, hml, hown, hret, hlk, hnm⟩ := C
  refine vs T0 1 [(.int (Int32.ofNat n))] (fun t k => XS.iloadN X0.here hx rfl (hb hby d41_0) rfl k) ?_
  have hc1_1 : ¬ ((Int32.ofNat n) < (0 : Int32)) := own_nlt (n := 0) (by omega) (by omega) (by omega)
  refine vs T0 12 [] (fun t k => XS.ifYes X0.here hx rfl (pc0 := 1) (pc' := 12) rfl (hb hby d41_1) rfl (XT.i0_ge_t hc1_1) (by decide) (by decide) k) ?_
  refine vs T0 13 [(.int (Int32.ofNat n))] (fun t k => XS.iloadN X0.here hx rfl (hb hby d41_12) rfl k) ?_
  refine vs T0 15 [(.int (1073741823 : Int32)), (.int (Int32.ofNat n))] (fun t k => X0.ldcI hx hown (mvT hZ (ww hw 228 rfl)) (g := (mkF m 13 #[vi (Int32.ofNat n)] [(.int (Int32.ofNat n))])) rfl (hb hby d41_13) k) ?_
  have hc2_15 : (Int32.ofNat n) < (1073741823 : Int32) := own_big hn
  refine vs T0 55 [] (fun t k => XS.icmpYes X0.here hx rfl (pc0 := 15) (pc' := 55) rfl (hb hby d41_15) rfl (XT.ii_lt_t hc2_15) (by decide) (by decide) k) ?_
  refine vs T0 56 [(.int (Int32.ofNat n))] (fun t k => XS.iloadN X0.here hx rfl (hb hby d41_55) rfl k) ?_
  refine vs T0 57 [(.int (1 : Int32)), (.int (Int32.ofNat n))] (fun t k => XS.iconst X0.here hx rfl (hb hby d41_56) k) ?_
  refine vs T0 58 [(.int ((Int32.ofNat n) <<< ((1 : Int32) &&& 31)))] (fun t k => XT.ishl X0.here hx rfl (hb hby d41_57) rfl k) ?_
  exact own_fin X0 e0 (v := some (.int ((Int32.ofNat n) <<< ((1 : Int32) &&& 31)))) (fun h => by rw [hret] at h; cases h) hlk (fun fs hr => retI X0 hx hret (hb hby d41_58) hr) (show ((fun (v : Option Value) (h : Heap) (L : List Loc) => Q41 Z n h0 n0 v h L)) (some (.int ((Int32.ofNat n) <<< ((1 : Int32) &&& 31)))) h0 _ from ⟨(congrArg (fun z => some (Value.int z)) (own_shl1 (by omega))), N0, rfl⟩) (by decide) (by decide)
theorem pn_0 : plainName "java/lang/StringUTF16" = true := by first | (simp [plainName, overriddenIn]; done) | decide +kernel
theorem ef_41 (m : MethodId) (n : Nat) : entryFrame m #[(.int (Int32.ofNat n))] 1 = mkF m 0 #[vi (Int32.ofNat n)] [] := by first | (simp [entryFrame, mkF, argsToLocals, Value.category, maxLocals]; done) | rfl
theorem rm41 (l : Launch) (Z : State) (a0 : Array Value) (hw : ∀ d ∈ tables_1, d.before a0 Z = true) (ws : List Jvm.Cond) (n : Nat) (h0 : Heap) (n0 : Nat) (Z0 : n0 ≤ h0.size) (hn : n ≤ 4) :
    MetFree l (⟨"java/lang/StringUTF16", "newBytesLength", "(I)I"⟩ : MethodName) (head1 (Jvm.Cond.code (⟨"java/lang/StringUTF16", "newBytesLength", "(I)I"⟩ : MethodName) jdk_52_method_3_code 1 (some .int) :: ws) ({ frames := 0, cells := 0, slots := 0, locals := 0 } : Room)) (fun a U => a = #[(.int (Int32.ofNat n))] ∧ Z.Warmed39 U.vm ∧ U.heap = h0) (fun _ _ _ _ _ => True) (fun _ U o U' => ∃ v L, o = .returned v ∧ Q41 Z n h0 n0 v U'.heap L ∧ FrameEnd U o U' L ({ frames := 0, cells := 0, slots := 0, locals := 0 } : Room).cells ({ frames := 0, cells := 0, slots := 0, locals := 0 } : Room).slots) := by
  refine MetFree.of_bodySF (plainFor_of_name pn_0) hisR ?_
  intro p e s m args below meth c s₁ Bd hml0 hP hK
  obtain ⟨rfl, hZ, hh⟩ := hP
  have e0 : s₁.heap = h0 := by rw [← hh, Bd.state]; rfl
  rw [ef_41 m n]
  exact b41 n ⟨Bd.exec, hZ, hw, Bd.bytes, hml0, findClass_of_methodNamed Bd.named, Bd.returns, Bd.notSynchronized, (name_of_methodNamed Bd.named Bd.method).1⟩ (Stand.of_body Bd) e0 Z0 (Fr.nil n0) hn
def Q40 (Z : State) (n : Nat) (h0 : Heap) (n0 : Nat) (v : Option Value) (h : Heap) (L : List Loc) : Prop := ∃ bz : Addr, ∃ kz : ClassId, v = some (.ref bz) ∧ Fr n0 L ∧ Keep h0 h [] ∧ h0.size ≤ bz ∧ Arv Z h bz kz .byte (Int32.ofNat (2 * n)) (own_iv (List.replicate (2 * n) 0)) (.int (0 : Int32))
theorem d40_0 : dq cb1 0 (.iload_n 0) 1 := by decide +kernel
theorem d40_1 : dq cb1 1 (.invokestatic 11) 3 := by decide +kernel
theorem pd_0 : parseMethodDescriptor "(I)I" = some ⟨[.int], some .int⟩ := by decide +kernel
theorem d40_4 : dq cb1 4 (.newarray .byte) 2 := by decide +kernel
theorem d40_6 : dq cb1 6 .areturn 1 := by decide +kernel
theorem b40  (n : Nat)
    (C : own_C p s m meth c Z a0 jdk_52_method_2_code 1 "java/lang/StringUTF16" (some (.array .byte)) "newBytesFor") (X0 : Stand p l e ({ frames := 1, cells := 1, slots := 8, locals := 12 } : Room) s m args below meth c T0 locs 0 0) (e0 : T0.heap = h0) (Z0 : n0 ≤ h0.size) (N0 : Fr n0 locs) (hn : n ≤ 4) :
    own_Go p.tables e below (T0.setTop (mkF m 0 #[vi (Int32.ofNat n)] [])) (own_K s (fun (v : Option Value) (h : Heap) (L : List Loc) => Q40 Z n h0 n0 v h L) ({ frames := 1, cells := 1, slots := 8, locals := 12 } : Room).cells ({ frames := 1, cells := 1, slots := 8, locals := 12 } : Room).slots) := by
  obtain ⟨hx, hZ, hw, hby, hml, hown, hret, hlk, hnm⟩ := C
  refine vs T0 1 [(.int (Int32.ofNat n))] (fun t k => XS.iloadN X0.here hx rfl (hb hby d40_0) rfl k) ?_
  obtain ⟨_, _, ⟨T1, L1, k1, n1⟩, -, X1, ⟨Lc1, hQ1, l1, y1, z1⟩, st1⟩ := Jvm.LawKit.callS X0 hx (y := (⟨"java/lang/StringUTF16", "newBytesLength", "(I)I"⟩ : MethodName)) hown (mvT hZ (ww hw 225 rfl)) (mvT hZ (ww hw 226 rfl)) (mvT hZ (ww hw 17 rfl)) (mvT hZ (ww hw 227 rfl)) (by decide) (backOf (W := 0) (rm41 l Z a0 hw [] n h0 n0 Z0 hn) hZ (ww hw 227 rfl) (ww hw 17 rfl) (by decide) (by decide)) (g := (mkF m 1 #[vi (Int32.ofNat n)] [(.int (Int32.ofNat n))])) rfl (by rw [hml]; rfl) (argsL := [(.int (Int32.ofNat n))]) (rest := []) (lenOf pd_0 rfl) rfl (by show 2 * 0 + _ ≤ _; exact Nat.le_of_eq rfl) (hb hby d40_1) (fun _ _ => ⟨rfl, e0, (by decide : 0 + 0 ≤ _), (by decide : 0 + 0 ≤ _)⟩)
  dsimp only [Pt.U, Pt.locs, Pt.cells, Pt.slots] at X1 l1 y1 z1 st1 hQ1
  subst l1 y1 z1
  obtain ⟨rfl, Nq1, eh1⟩ := hQ1
  have N1 := Fr.app N0 Nq1
  refine vs T1 4 [(.int (Int32.ofNat (2 * n)))] (fun t k => st1 t k) ?_
  obtain ⟨T2, h2, k2, X2, e2, E2, A2, st2⟩ := newP X1 hx hZ (ww hw 19 rfl) eh1 (g := (mkF m 4 #[vi (Int32.ofNat n)] [(.int (Int32.ofNat (2 * n)))])) rfl (hb hby d40_4) rfl (own_inb (i := 2 * n) (n := 2 * n + 1) (by omega) (by omega)).1 (cap := 8) (by rw [own_cl (by omega)]; omega) (by decide) (by decide) (by decide)
  obtain ⟨b2, g2⟩ : ∃ z, z = h0.size := ⟨_, rfl⟩
  rw [← g2] at A2 st2
  have g_b2 : n0 ≤ b2 := Nat.le_trans Z0 (Nat.le_of_eq g2.symm)
  have sz_b2 : h0.size ≤ b2 := Nat.le_trans ((Keep.refl h0 [])).1 (Nat.le_of_eq g2.symm)
  have K2 := ((Keep.refl h0 [])).ext E2
  have Z2 : n0 ≤ h2.size := Nat.le_trans Z0 E2.1
  have V_b2 : Arv Z h2 b2 k2 .byte (Int32.ofNat (2 * n)) (own_iv (List.replicate (2 * n) 0)) (.int (0 : Int32)) := ((Arv.new A2 (own_inb (i := 2 * n) (n := 2 * n + 1) (by omega) (by omega)).1)).pad (by intro i; rw [own_ivrep]; exact pad_rep [] _ (2 * n) i)
  refine vs T2 6 [(.ref b2)] (fun t k => st2 t k) ?_
  exact own_fin X2 e2 (v := some (.ref b2)) (fun h => by rw [hret] at h; cases h) hlk (fun fs hr => X2.areturnOut hx rfl hret rfl (hb hby d40_6) hr) (show ((fun (v : Option Value) (h : Heap) (L : List Loc) => Q40 Z n h0 n0 v h L)) (some (.ref b2)) h2 _ from ⟨b2, k2, rfl, N1, K2, sz_b2, (V_b2)⟩) (by decide) (by decide)
theorem ef_40 (m : MethodId) (n : Nat) : entryFrame m #[(.int (Int32.ofNat n))] 1 = mkF m 0 #[vi (Int32.ofNat n)] [] := by first | (simp [entryFrame, mkF, argsToLocals, Value.category, maxLocals]; done) | rfl
theorem rm40 (l : Launch) (Z : State) (a0 : Array Value) (hw : ∀ d ∈ tables_1, d.before a0 Z = true) (ws : List Jvm.Cond) (n : Nat) (h0 : Heap) (n0 : Nat) (Z0 : n0 ≤ h0.size) (hn : n ≤ 4) :
    MetFree l (⟨"java/lang/StringUTF16", "newBytesFor", "(I)[B"⟩ : MethodName) (head1 (Jvm.Cond.code (⟨"java/lang/StringUTF16", "newBytesFor", "(I)[B"⟩ : MethodName) jdk_52_method_2_code 1 (some (.array .byte)) :: ws) ({ frames := 1, cells := 1, slots := 8, locals := 12 } : Room)) (fun a U => a = #[(.int (Int32.ofNat n))] ∧ Z.Warmed39 U.vm ∧ U.heap = h0) (fun _ _ _ _ _ => True) (fun _ U o U' => ∃ v L, o = .returned v ∧ Q40 Z n h0 n0 v U'.heap L ∧ FrameEnd U o U' L ({ frames := 1, cells := 1, slots := 8, locals := 12 } : Room).cells ({ frames := 1, cells := 1, slots := 8, locals := 12 } : Room).slots) := by
  refine MetFree.of_bodySF (plainFor_of_name pn_0) hisR ?_
  intro p e s m args below meth c s₁ Bd hml0 hP hK
  obtain ⟨rfl, hZ, hh⟩ := hP
  have e0 : s₁.heap = h0 := by rw [← hh, Bd.state]; rfl
  rw [ef_40 m n]
  exact b40 n ⟨Bd.exec, hZ, hw, Bd.bytes, hml0, findClass_of_methodNamed Bd.named, Bd.returns, Bd.notSynchronized, (name_of_methodNamed Bd.named Bd.method).1⟩ (Stand.of_body Bd) e0 Z0 (Fr.nil n0) hn
def Q46 (Z : State) (ob : Addr) (kb : ClassId) (ln : Nat) (bs : List Int32) (n : Nat) (h0 : Heap) (n0 : Nat) (v : Option Value) (h : Heap) (L : List Loc) : Prop := v = some (.int (Int32.ofNat n)) ∧ Fr n0 L ∧ h = h0
theorem d46_0 : dq cb2 0 (.aload_n 0) 1 := by decide +kernel
theorem d46_1 : dq cb2 1 .arraylength 1 := by decide +kernel
theorem d46_2 : dq cb2 2 (.iconst 1) 1 := by decide +kernel
theorem d46_3 : dq cb2 3 .ishr 1 := by decide +kernel
theorem d46_4 : dq cb2 4 .ireturn 1 := by decide +kernel
theorem b46  (ob : Addr) (kb : ClassId) (ln : Nat) (bs : List Int32) (n : Nat)
    (C : own_C p s m meth c Z a0 jdk_52_method_6_code 1 "java/lang/StringUTF16" (some .int) "length") (X0 : Stand p l e ({ frames := 0, cells := 0, slots := 0, locals := 0 } : Room) s m args below meth c T0 locs 0 0) (e0 : T0.heap = h0) (Z0 : n0 ≤ h0.size) (N0 : Fr n0 locs) (VB : Arv Z h0 ob kb .byte (Int32.ofNat ln) (own_iv bs) (.int (0 : Int32))) (hl : ln = 2 * n) (hn : n ≤ 4) :
    own_Go p.tables e below (T0.setTop (mkF m 0 #[vr ob] [])) (own_K s (fun (v : Option Value) (h : Heap) (L : List Loc) => Q46 Z ob kb ln bs n h0 n0 v h L) ({ frames := 0, cells := 0, slots := 0, locals := 0 } : Room).cells ({ frames := 0, cells := 0, slots := 0, locals := 0 } : Room).slots) := by
  obtain ⟨hx, hZ, hw, hby, hml, hown, hret, hlk, hnm⟩ := C
  refine vs T0 1 [(.ref ob)] (fun t k => XS.aloadN X0.here hx rfl (hb hby d46_0) rfl rfl k) ?_
  obtain ⟨cl1, Ar1, -, S1, NN1, -, -⟩ := id VB
  refine vs T0 2 [(.int (Int32.ofNat ln))] (fun t k => own_len X0 hx hZ e0 Ar1 S1 NN1 (g := (mkF m 1 #[vr ob] [(.ref ob)])) rfl rfl (hb hby d46_1) k) ?_
  refine vs T0 3 [(.int (1 : Int32)), (.int (Int32.ofNat ln))] (fun t k => XS.iconst X0.here hx rfl (hb hby d46_2) k) ?_
  refine vs T0 4 [(.int ((Int32.ofNat ln) >>> ((1 : Int32) &&& 31)))] (fun t k => XT.ishr X0.here hx rfl (hb hby d46_3) rfl k) ?_
  exact own_fin X0 e0 (v := some (.int ((Int32.ofNat ln) >>> ((1 : Int32) &&& 31)))) (fun h => by rw [hret] at h; cases h) hlk (fun fs hr => retI X0 hx hret (hb hby d46_4) hr) (show ((fun (v : Option Value) (h : Heap) (L : List Loc) => Q46 Z ob kb ln bs n h0 n0 v h L)) (some (.int ((Int32.ofNat ln) >>> ((1 : Int32) &&& 31)))) h0 _ from ⟨(by subst hl; exact congrArg (fun z => some (Value.int z)) (own_shr1 (by omega))), N0, rfl⟩) (by decide) (by decide)
theorem ef_46 (m : MethodId) (ob : Addr) : entryFrame m #[(.ref ob)] 1 = mkF m 0 #[vr ob] [] := by first | (simp [entryFrame, mkF, argsToLocals, Value.category, maxLocals]; done) | rfl
theorem rm46 (l : Launch) (Z : State) (a0 : Array Value) (hw : ∀ d ∈ tables_1, d.before a0 Z = true) (ws : List Jvm.Cond) (ob : Addr) (kb : ClassId) (ln : Nat) (bs : List Int32) (n : Nat) (h0 : Heap) (n0 : Nat) (Z0 : n0 ≤ h0.size) (VB : Arv Z h0 ob kb .byte (Int32.ofNat ln) (own_iv bs) (.int (0 : Int32))) (hl : ln = 2 * n) (hn : n ≤ 4) :
    MetFree l (⟨"java/lang/StringUTF16", "length", "([B)I"⟩ : MethodName) (head1 (Jvm.Cond.code (⟨"java/lang/StringUTF16", "length", "([B)I"⟩ : MethodName) jdk_52_method_6_code 1 (some .int) :: ws) ({ frames := 0, cells := 0, slots := 0, locals := 0 } : Room)) (fun a U => a = #[(.ref ob)] ∧ Z.Warmed39 U.vm ∧ U.heap = h0) (fun _ _ _ _ _ => True) (fun _ U o U' => ∃ v L, o = .returned v ∧ Q46 Z ob kb ln bs n h0 n0 v U'.heap L ∧ FrameEnd U o U' L ({ frames := 0, cells := 0, slots := 0, locals := 0 } : Room).cells ({ frames := 0, cells := 0, slots := 0, locals := 0 } : Room).slots) := by
  refine MetFree.of_bodySF (plainFor_of_name pn_0) hisR ?_
  intro p e s m args below meth c s₁ Bd hml0 hP hK
  obtain ⟨rfl, hZ, hh⟩ := hP
  have e0 : s₁.heap = h0 := by rw [← hh, Bd.state]; rfl
  rw [ef_46 m ob]
  exact b46 ob kb ln bs n ⟨Bd.exec, hZ, hw, Bd.bytes, hml0, findClass_of_methodNamed Bd.named, Bd.returns, Bd.notSynchronized, (name_of_methodNamed Bd.named Bd.method).1⟩ (Stand.of_body Bd) e0 Z0 (Fr.nil n0) VB hl hn
def Q42 (Z : State) (ob : Addr) (kb : ClassId) (ln : Nat) (bs : List Int32) (i : Nat) (ch : Int32) (h0 : Heap) (n0 : Nat) (v : Option Value) (h : Heap) (L : List Loc) : Prop := v = none ∧ Fr n0 L ∧ Keep h0 h [ob] ∧ Arv Z h ob kb .byte (Int32.ofNat ln) (own_iv ((bs.set (2 * i) (own_lo ch)).set (2 * i + 1) (own_hi ch))) (.int (0 : Int32))
theorem d42_0 : dq cb3 0 (.getstatic 44) 3 := by decide +kernel
theorem d42_3 : dq cb3 3 (.ifCond .ne 25) 3 := by decide +kernel
theorem d42_28 : dq cb3 28 (.iload_n 1) 1 := by decide +kernel
theorem d42_29 : dq cb3 29 (.iconst 1) 1 := by decide +kernel
theorem d42_30 : dq cb3 30 .ishl 1 := by decide +kernel
theorem d42_31 : dq cb3 31 (.istore_n 1) 1 := by decide +kernel
theorem d42_32 : dq cb3 32 (.aload_n 0) 1 := by decide +kernel
theorem d42_33 : dq cb3 33 (.iload_n 1) 1 := by decide +kernel
theorem d42_34 : dq cb3 34 (.iinc 1 1) 3 := by decide +kernel
theorem d42_37 : dq cb3 37 (.iload_n 2) 1 := by decide +kernel
theorem d42_38 : dq cb3 38 (.getstatic 59) 3 := by decide +kernel
theorem d42_41 : dq cb3 41 .ishr 1 := by decide +kernel
theorem d42_42 : dq cb3 42 .i2b 1 := by decide +kernel
theorem d42_43 : dq cb3 43 .bastore 1 := by decide +kernel
theorem d42_44 : dq cb3 44 (.aload_n 0) 1 := by decide +kernel
theorem d42_45 : dq cb3 45 (.iload_n 1) 1 := by decide +kernel
theorem d42_46 : dq cb3 46 (.iload_n 2) 1 := by decide +kernel
theorem d42_47 : dq cb3 47 (.getstatic 63) 3 := by decide +kernel
theorem d42_50 : dq cb3 50 .ishr 1 := by decide +kernel
theorem d42_51 : dq cb3 51 .i2b 1 := by decide +kernel
theorem d42_52 : dq cb3 52 .bastore 1 := by decide +kernel
theorem d42_53 : dq cb3 53 .return_ 1 := by decide +kernel
theorem b42  (ob : Addr) (kb : ClassId) (ln : Nat) (bs : List Int32) (i : Nat) (ch : Int32)
    (C : own_C p s m meth c Z a0 jdk_52_method_4_code 3 "java/lang/StringUTF16" none "putChar") (X0 : Stand p l e ({ frames := 0, cells := 0, slots := 0, locals := 0 } : Room) s m args below meth c T0 locs 0 0) (e0 : T0.heap = h0) (Z0 : n0 ≤ h0.size) (N0 : Fr n0 locs) (VB : Arv Z h0 ob kb .byte (Int32.ofNat ln) (own_iv bs) (.int (0 : Int32))) (SA : Sta Z h0 "java/lang/StringUTF16" "$assertionsDisabled" "Z" (.int (1 : Int32))) (SH : Sta Z h0 "java/lang/StringUTF16" "HI_BYTE_SHIFT" "I" (.int (0 : Int32))) (SL : Sta Z h0 "java/lang/StringUTF16" "LO_BYTE_SHIFT" "I" (.int (8 : Int32))) (g_ob : n0 ≤ ob) (hl : bs.length = ln) (hi : 2 * i + 1 < ln) (hl8 : ln ≤ 8) :
    own_Go p.tables e below (T0.setTop (mkF m 0 #[vr ob, vi (Int32.ofNat i), vi ch] [])) (own_K s (fun (v : Option Value) (h : Heap) (L : List Loc) => Q42 Z ob kb ln bs i ch h0 n0 v h L) ({ frames := 0, cells := 0, slots := 0, locals := 0 } : Room).cells ({ frames := 0, cells := 0, slots := 0, locals := 0 } : Room).slots) := by
  obtain ⟨hx, hZ, hw, hby, hml, hown, hret, hlk, hnm⟩ := C
  obtain ⟨T1, X1, e1, st1⟩ := getS2 X0 hx hZ hown (host := "") (Or.inl (ww hw 232 rfl)) Via.refl e0 SA (g := (mkF m 0 #[vr ob, vi (Int32.ofNat i), vi ch] [])) rfl (hb hby d42_0)
  refine vs T1 3 [(.int (1 : Int32))] (fun t k => st1 t k) ?_
  have hc2_3 : ¬ ((1 : Int32) = (0 : Int32)) := (by decide)
  refine vs T1 28 [] (fun t k => XS.ifYes X1.here hx rfl (pc0 := 3) (pc' := 28) rfl (hb hby d42_3) rfl (XT.i0_ne_t hc2_3) (by decide) (by decide) k) ?_
  refine vs T1 29 [(.int (Int32.ofNat i))] (fun t k => XS.iloadN X1.here hx rfl (hb hby d42_28) rfl k) ?_
  refine vs T1 30 [(.int (1 : Int32)), (.int (Int32.ofNat i))] (fun t k => XS.iconst X1.here hx rfl (hb hby d42_29) k) ?_
  refine vs T1 31 [(.int ((Int32.ofNat i) <<< ((1 : Int32) &&& 31)))] (fun t k => XT.ishl X1.here hx rfl (hb hby d42_30) rfl k) ?_
  refine vv T1 m 32 #[vr ob, vi ((Int32.ofNat i) <<< ((1 : Int32) &&& 31)), vi ch] [] (fun t k => XS.istoreN X1.here hx rfl (hb hby d42_31) rfl (l' := #[vr ob, vi ((Int32.ofNat i) <<< ((1 : Int32) &&& 31)), vi ch]) rfl k) ?_
  rw [own_shl1 (by omega)]
  refine vs T1 33 [(.ref ob)] (fun t k => XS.aloadN X1.here hx rfl (hb hby d42_32) rfl rfl k) ?_
  refine vs T1 34 [(.int (Int32.ofNat (2 * i))), (.ref ob)] (fun t k => XS.iloadN X1.here hx rfl (hb hby d42_33) rfl k) ?_
  refine vv T1 m 37 #[vr ob, vi ((Int32.ofNat (2 * i)) + (1 : Int32)), vi ch] [(.int (Int32.ofNat (2 * i))), (.ref ob)] (fun t k => XS.iinc X1.here hx rfl (hb hby d42_34) rfl (l' := #[vr ob, vi ((Int32.ofNat (2 * i)) + (1 : Int32)), vi ch]) rfl k) ?_
  rw [own_one]
  refine vs T1 38 [(.int ch), (.int (Int32.ofNat (2 * i))), (.ref ob)] (fun t k => XS.iloadN X1.here hx rfl (hb hby d42_37) rfl k) ?_
  obtain ⟨T3, X3, e3, st3⟩ := getS2 X1 hx hZ hown (host := "") (Or.inl (ww hw 233 rfl)) Via.refl e1 SH (g := (mkF m 38 #[vr ob, vi (Int32.ofNat (2 * i + 1)), vi ch] [(.int ch), (.int (Int32.ofNat (2 * i))), (.ref ob)])) rfl (hb hby d42_38)
  refine vs T3 41 [(.int (0 : Int32)), (.int ch), (.int (Int32.ofNat (2 * i))), (.ref ob)] (fun t k => st3 t k) ?_
  refine vs T3 42 [(.int (ch >>> ((0 : Int32) &&& 31))), (.int (Int32.ofNat (2 * i))), (.ref ob)] (fun t k => XT.ishr X3.here hx rfl (hb hby d42_41) rfl k) ?_
  refine vs T3 43 [(.int ((ch >>> ((0 : Int32) &&& 31)).toInt8.toInt32)), (.int (Int32.ofNat (2 * i))), (.ref ob)] (fun t k => XT.i2b X3.here hx rfl (hb hby d42_42) rfl k) ?_
  obtain ⟨cl4, Ar4, qc4, S4, NN4, H4, G4⟩ := id VB
  obtain ⟨T4, h4, X4, e4, W4, st4⟩ := stB X3 hx hZ e3 Ar4 (j := (Int32.ofNat (2 * i))) (inb_of S4 (own_inb (i := 2 * i) (by omega) (by omega))) (g := (mkF m 43 #[vr ob, vi (Int32.ofNat (2 * i + 1)), vi ch] [(.int ((ch >>> ((0 : Int32) &&& 31)).toInt8.toInt32)), (.int (Int32.ofNat (2 * i))), (.ref ob)])) rfl rfl (hb hby d42_43)
  have V_ob'4 : Arv Z h4 ob kb .byte (Int32.ofNat ln) (own_iv (bs.set (2 * i) (own_lo ch))) (.int (0 : Int32)) := (by have q := Arv.set Ar4 qc4 S4 NN4 H4 G4 (fits_nar_byte _) W4 (2 * i) (own_cl (by omega)) (by rw [own_ivlen]; omega); rw [own_ivset] at q; exact q)
  have SA'4 := SA.wr W4
  have SH'4 := SH.wr W4
  have SL'4 := SL.wr W4
  have N4 := Fr.snoc X4 N0 g_ob
  have Z4 : n0 ≤ h4.size := Nat.le_trans Z0 (Keep.of_wr W4).1
  have K4 := ((Keep.refl h0 [ob])).wr W4 (Or.inl (List.mem_of_getElem? (i := 0) rfl))
  refine vs T4 44 [] (fun t k => st4 t k) ?_
  refine vs T4 45 [(.ref ob)] (fun t k => XS.aloadN X4.here hx rfl (hb hby d42_44) rfl rfl k) ?_
  refine vs T4 46 [(.int (Int32.ofNat (2 * i + 1))), (.ref ob)] (fun t k => XS.iloadN X4.here hx rfl (hb hby d42_45) rfl k) ?_
  refine vs T4 47 [(.int ch), (.int (Int32.ofNat (2 * i + 1))), (.ref ob)] (fun t k => XS.iloadN X4.here hx rfl (hb hby d42_46) rfl k) ?_
  obtain ⟨T5, X5, e5, st5⟩ := getS2 X4 hx hZ hown (host := "") (Or.inl (ww hw 234 rfl)) Via.refl e4 SL'4 (g := (mkF m 47 #[vr ob, vi (Int32.ofNat (2 * i + 1)), vi ch] [(.int ch), (.int (Int32.ofNat (2 * i + 1))), (.ref ob)])) rfl (hb hby d42_47)
  refine vs T5 50 [(.int (8 : Int32)), (.int ch), (.int (Int32.ofNat (2 * i + 1))), (.ref ob)] (fun t k => st5 t k) ?_
  refine vs T5 51 [(.int (ch >>> ((8 : Int32) &&& 31))), (.int (Int32.ofNat (2 * i + 1))), (.ref ob)] (fun t k => XT.ishr X5.here hx rfl (hb hby d42_50) rfl k) ?_
  refine vs T5 52 [(.int ((ch >>> ((8 : Int32) &&& 31)).toInt8.toInt32)), (.int (Int32.ofNat (2 * i + 1))), (.ref ob)] (fun t k => XT.i2b X5.here hx rfl (hb hby d42_51) rfl k) ?_
  obtain ⟨cl6, Ar6, qc6, S6, NN6, H6, G6⟩ := id V_ob'4
  obtain ⟨T6, h6, X6, e6, W6, st6⟩ := stB X5 hx hZ e5 Ar6 (j := (Int32.ofNat (2 * i + 1))) (inb_of S6 (own_inb (i := 2 * i + 1) (by omega) (by omega))) (g := (mkF m 52 #[vr ob, vi (Int32.ofNat (2 * i + 1)), vi ch] [(.int ((ch >>> ((8 : Int32) &&& 31)).toInt8.toInt32)), (.int (Int32.ofNat (2 * i + 1))), (.ref ob)])) rfl rfl (hb hby d42_52)
  have V_ob'6 : Arv Z h6 ob kb .byte (Int32.ofNat ln) (own_iv ((bs.set (2 * i) (own_lo ch)).set (2 * i + 1) (own_hi ch))) (.int (0 : Int32)) := (by have q := Arv.set Ar6 qc6 S6 NN6 H6 G6 (fits_nar_byte _) W6 (2 * i + 1) (own_cl (by omega)) (by rw [own_ivlen, List.length_set]; omega); rw [own_ivset] at q; exact q)
  have SA'6 := SA'4.wr W6
  have SH'6 := SH'4.wr W6
  have SL'6 := SL'4.wr W6
  have N6 := Fr.snoc X6 N4 g_ob
  have Z6 : n0 ≤ h6.size := Nat.le_trans Z4 (Keep.of_wr W6).1
  have K6 := (K4).wr W6 (Or.inl (List.mem_of_getElem? (i := 0) rfl))
  refine vs T6 53 [] (fun t k => st6 t k) ?_
  exact own_fin X6 e6 (v := none) (fun _ => rfl) hlk (fun fs hr => X6.returnOut hx hret (hb hby d42_53) hr) (show ((fun (v : Option Value) (h : Heap) (L : List Loc) => Q42 Z ob kb ln bs i ch h0 n0 v h L)) none h6 _ from ⟨rfl, N6, K6, (V_ob'6)⟩) (by decide) (by decide)
theorem ef_42 (m : MethodId) (ob : Addr) (i : Nat) (ch : Int32) : entryFrame m #[(.ref ob), (.int (Int32.ofNat i)), (.int ch)] 3 = mkF m 0 #[vr ob, vi (Int32.ofNat i), vi ch] [] := by first | (simp [entryFrame, mkF, argsToLocals, Value.category, maxLocals]; done) | rfl
theorem rm42 (l : Launch) (Z : State) (a0 : Array Value) (hw : ∀ d ∈ tables_1, d.before a0 Z = true) (ws : List Jvm.Cond) (ob : Addr) (kb : ClassId) (ln : Nat) (bs : List Int32) (i : Nat) (ch : Int32) (h0 : Heap) (n0 : Nat) (Z0 : n0 ≤ h0.size) (VB : Arv Z h0 ob kb .byte (Int32.ofNat ln) (own_iv bs) (.int (0 : Int32))) (SA : Sta Z h0 "java/lang/StringUTF16" "$assertionsDisabled" "Z" (.int (1 : Int32))) (SH : Sta Z h0 "java/lang/StringUTF16" "HI_BYTE_SHIFT" "I" (.int (0 : Int32))) (SL : Sta Z h0 "java/lang/StringUTF16" "LO_BYTE_SHIFT" "I" (.int (8 : Int32))) (g_ob : n0 ≤ ob) (hl : bs.length = ln) (hi : 2 * i + 1 < ln) (hl8 : ln ≤ 8) :
    MetFree l (⟨"java/lang/StringUTF16", "putChar", "([BII)V"⟩ : MethodName) (head1 (Jvm.Cond.code (⟨"java/lang/StringUTF16", "putChar", "([BII)V"⟩ : MethodName) jdk_52_method_4_code 3 none :: ws) ({ frames := 0, cells := 0, slots := 0, locals := 0 } : Room)) (fun a U => a = #[(.ref ob), (.int (Int32.ofNat i)), (.int ch)] ∧ Z.Warmed39 U.vm ∧ U.heap = h0) (fun _ _ _ _ _ => True) (fun _ U o U' => ∃ v L, o = .returned v ∧ Q42 Z ob kb ln bs i ch h0 n0 v U'.heap L ∧ FrameEnd U o U' L ({ frames := 0, cells := 0, slots := 0, locals := 0 } : Room).cells ({ frames := 0, cells := 0, slots := 0, locals := 0 } : Room).slots) := by
  refine MetFree.of_bodySF (plainFor_of_name pn_0) hisR ?_
  intro p e s m args below meth c s₁ Bd hml0 hP hK
  obtain ⟨rfl, hZ, hh⟩ := hP
  have e0 : s₁.heap = h0 := by rw [← hh, Bd.state]; rfl
  rw [ef_42 m ob i ch]
  exact b42 ob kb ln bs i ch ⟨Bd.exec, hZ, hw, Bd.bytes, hml0, findClass_of_methodNamed Bd.named, Bd.returns, Bd.notSynchronized, (name_of_methodNamed Bd.named Bd.method).1⟩ (Stand.of_body Bd) e0 Z0 (Fr.nil n0) VB SA SH SL g_ob hl hi hl8
def Q43 (Z : State) (ob : Addr) (kb : ClassId) (ln : Nat) (bs : List Int32) (i : Nat) (h0 : Heap) (n0 : Nat) (v : Option Value) (h : Heap) (L : List Loc) : Prop := v = some (.int (own_gch (bs.getD (2 * i) 0) (bs.getD (2 * i + 1) 0))) ∧ Fr n0 L ∧ h = h0
theorem d43_0 : dq cb4 0 (.getstatic 44) 3 := by decide +kernel
theorem d43_3 : dq cb4 3 (.ifCond .ne 25) 3 := by decide +kernel
theorem d43_28 : dq cb4 28 (.iload_n 1) 1 := by decide +kernel
theorem d43_29 : dq cb4 29 (.iconst 1) 1 := by decide +kernel
theorem d43_30 : dq cb4 30 .ishl 1 := by decide +kernel
theorem d43_31 : dq cb4 31 (.istore_n 1) 1 := by decide +kernel
theorem d43_32 : dq cb4 32 (.aload_n 0) 1 := by decide +kernel
theorem d43_33 : dq cb4 33 (.iload_n 1) 1 := by decide +kernel
theorem d43_34 : dq cb4 34 (.iinc 1 1) 3 := by decide +kernel
theorem d43_37 : dq cb4 37 .baload 1 := by decide +kernel
theorem d43_38 : dq cb4 38 (.sipush 255) 3 := by decide +kernel
theorem d43_41 : dq cb4 41 .iand 1 := by decide +kernel
theorem d43_42 : dq cb4 42 (.getstatic 59) 3 := by decide +kernel
theorem d43_45 : dq cb4 45 .ishl 1 := by decide +kernel
theorem d43_46 : dq cb4 46 (.aload_n 0) 1 := by decide +kernel
theorem d43_47 : dq cb4 47 (.iload_n 1) 1 := by decide +kernel
theorem d43_48 : dq cb4 48 .baload 1 := by decide +kernel
theorem d43_49 : dq cb4 49 (.sipush 255) 3 := by decide +kernel
theorem d43_52 : dq cb4 52 .iand 1 := by decide +kernel
theorem d43_53 : dq cb4 53 (.getstatic 63) 3 := by decide +kernel
theorem d43_56 : dq cb4 56 .ishl 1 := by decide +kernel
theorem d43_57 : dq cb4 57 .ior 1 := by decide +kernel
theorem d43_58 : dq cb4 58 .i2c 1 := by decide +kernel
theorem d43_59 : dq cb4 59 .ireturn 1 := by decide +kernel
theorem b43  (ob : Addr) (kb : ClassId) (ln : Nat) (bs : List Int32) (i : Nat)
    (C : own_C p s m meth c Z a0 jdk_52_method_5_code 2 "java/lang/StringUTF16" (some .char) "getChar") (X0 : Stand p l e ({ frames := 0, cells := 0, slots := 0, locals := 0 } : Room) s m args below meth c T0 locs 0 0) (e0 : T0.heap = h0) (Z0 : n0 ≤ h0.size) (N0 : Fr n0 locs) (VB : Arv Z h0 ob kb .byte (Int32.ofNat ln) (own_iv bs) (.int (0 : Int32))) (SA : Sta Z h0 "java/lang/StringUTF16" "$assertionsDisabled" "Z" (.int (1 : Int32))) (SH : Sta Z h0 "java/lang/StringUTF16" "HI_BYTE_SHIFT" "I" (.int (0 : Int32))) (SL : Sta Z h0 "java/lang/StringUTF16" "LO_BYTE_SHIFT" "I" (.int (8 : Int32))) (hi : 2 * i + 1 < ln) (hl8 : ln ≤ 8) :
    own_Go p.tables e below (T0.setTop (mkF m 0 #[vr ob, vi (Int32.ofNat i)] [])) (own_K s (fun (v : Option Value) (h : Heap) (L : List Loc) => Q43 Z ob kb ln bs i h0 n0 v h L) ({ frames := 0, cells := 0, slots := 0, locals := 0 } : Room).cells ({ frames := 0, cells := 0, slots := 0, locals := 0 } : Room).slots) := by
  obtain ⟨hx, hZ, hw, hby, hml, hown, hret, hlk, hnm⟩ := C
  obtain ⟨T1, X1, e1, st1⟩ := getS2 X0 hx hZ hown (host := "") (Or.inl (ww hw 232 rfl)) Via.refl e0 SA (g := (mkF m 0 #[vr ob, vi (Int32.ofNat i)] [])) rfl (hb hby d43_0)
  refine vs T1 3 [(.int (1 : Int32))] (fun t k => st1 t k) ?_
  have hc2_3 : ¬ ((1 : Int32) = (0 : Int32)) := (by decide)
  refine vs T1 28 [] (fun t k => XS.ifYes X1.here hx rfl (pc0 := 3) (pc' := 28) rfl (hb hby d43_3) rfl (XT.i0_ne_t hc2_3) (by decide) (by decide) k) ?_
  refine vs T1 29 [(.int (Int32.ofNat i))] (fun t k => XS.iloadN X1.here hx rfl (hb hby d43_28) rfl k) ?_
  refine vs T1 30 [(.int (1 : Int32)), (.int (Int32.ofNat i))] (fun t k => XS.iconst X1.here hx rfl (hb hby d43_29) k) ?_
  refine vs T1 31 [(.int ((Int32.ofNat i) <<< ((1 : Int32) &&& 31)))] (fun t k => XT.ishl X1.here hx rfl (hb hby d43_30) rfl k) ?_
  refine vv T1 m 32 #[vr ob, vi ((Int32.ofNat i) <<< ((1 : Int32) &&& 31))] [] (fun t k => XS.istoreN X1.here hx rfl (hb hby d43_31) rfl (l' := #[vr ob, vi ((Int32.ofNat i) <<< ((1 : Int32) &&& 31))]) rfl k) ?_
  rw [own_shl1 (by omega)]
  refine vs T1 33 [(.ref ob)] (fun t k => XS.aloadN X1.here hx rfl (hb hby d43_32) rfl rfl k) ?_
  refine vs T1 34 [(.int (Int32.ofNat (2 * i))), (.ref ob)] (fun t k => XS.iloadN X1.here hx rfl (hb hby d43_33) rfl k) ?_
  refine vv T1 m 37 #[vr ob, vi ((Int32.ofNat (2 * i)) + (1 : Int32))] [(.int (Int32.ofNat (2 * i))), (.ref ob)] (fun t k => XS.iinc X1.here hx rfl (hb hby d43_34) rfl (l' := #[vr ob, vi ((Int32.ofNat (2 * i)) + (1 : Int32))]) rfl k) ?_
  rw [own_one]
  obtain ⟨cl3, Ar3, qc3, S3, NN3, H3, G3⟩ := id VB
  have in3 := inb_of (j := (Int32.ofNat (2 * i))) S3 (own_inb (i := (2 * i)) (by omega) (by omega))
  have hat3 : cl3.slots[((Int32.ofNat (2 * i))).toNatClampNeg]? = some (.int (bs.getD (2 * i) 0)) := H3.at in3 (own_ivget bs (i := (2 * i)) (by omega))
  refine vs T1 38 [(.int (bs.getD (2 * i) 0))] (fun t k => X1.baloadBytes hx (j := (Int32.ofNat (2 * i))) (v := (.int (bs.getD (2 * i) 0))) (own_eqh e1 Ar3.1) (State.isArrayOf_alike hZ.alike Ar3.2.1) Ar3.2.2 in3 hat3 (g := (mkF m 37 #[vr ob, vi (Int32.ofNat (2 * i + 1))] [(.int (Int32.ofNat (2 * i))), (.ref ob)])) rfl rfl (hb hby d43_37) t k) ?_
  refine vs T1 41 [(.int (255 : Int32)), (.int (bs.getD (2 * i) 0))] (fun t k => XS.sipush X1.here hx rfl (hb hby d43_38) k) ?_
  refine vs T1 42 [(.int ((bs.getD (2 * i) 0) &&& (255 : Int32)))] (fun t k => XS.iand X1.here hx rfl (hb hby d43_41) rfl k) ?_
  obtain ⟨T4, X4, e4, st4⟩ := getS2 X1 hx hZ hown (host := "") (Or.inl (ww hw 233 rfl)) Via.refl e1 SH (g := (mkF m 42 #[vr ob, vi (Int32.ofNat (2 * i + 1))] [(.int ((bs.getD (2 * i) 0) &&& (255 : Int32)))])) rfl (hb hby d43_42)
  refine vs T4 45 [(.int (0 : Int32)), (.int ((bs.getD (2 * i) 0) &&& (255 : Int32)))] (fun t k => st4 t k) ?_
  refine vs T4 46 [(.int (((bs.getD (2 * i) 0) &&& (255 : Int32)) <<< ((0 : Int32) &&& 31)))] (fun t k => XT.ishl X4.here hx rfl (hb hby d43_45) rfl k) ?_
  refine vs T4 47 [(.ref ob), (.int (((bs.getD (2 * i) 0) &&& (255 : Int32)) <<< ((0 : Int32) &&& 31)))] (fun t k => XS.aloadN X4.here hx rfl (hb hby d43_46) rfl rfl k) ?_
  refine vs T4 48 [(.int (Int32.ofNat (2 * i + 1))), (.ref ob), (.int (((bs.getD (2 * i) 0) &&& (255 : Int32)) <<< ((0 : Int32) &&& 31)))] (fun t k => XS.iloadN X4.here hx rfl (hb hby d43_47) rfl k) ?_
  obtain ⟨cl5, Ar5, qc5, S5, NN5, H5, G5⟩ := id VB
  have in5 := inb_of (j := (Int32.ofNat (2 * i + 1))) S5 (own_inb (i := (2 * i + 1)) (by omega) (by omega))
  have hat5 : cl5.slots[((Int32.ofNat (2 * i + 1))).toNatClampNeg]? = some (.int (bs.getD (2 * i + 1) 0)) := H5.at in5 (own_ivget bs (i := (2 * i + 1)) (by omega))
  refine vs T4 49 [(.int (bs.getD (2 * i + 1) 0)), (.int (((bs.getD (2 * i) 0) &&& (255 : Int32)) <<< ((0 : Int32) &&& 31)))] (fun t k => X4.baloadBytes hx (j := (Int32.ofNat (2 * i + 1))) (v := (.int (bs.getD (2 * i + 1) 0))) (own_eqh e4 Ar5.1) (State.isArrayOf_alike hZ.alike Ar5.2.1) Ar5.2.2 in5 hat5 (g := (mkF m 48 #[vr ob, vi (Int32.ofNat (2 * i + 1))] [(.int (Int32.ofNat (2 * i + 1))), (.ref ob), (.int (((bs.getD (2 * i) 0) &&& (255 : Int32)) <<< ((0 : Int32) &&& 31)))])) rfl rfl (hb hby d43_48) t k) ?_
  refine vs T4 52 [(.int (255 : Int32)), (.int (bs.getD (2 * i + 1) 0)), (.int (((bs.getD (2 * i) 0) &&& (255 : Int32)) <<< ((0 : Int32) &&& 31)))] (fun t k => XS.sipush X4.here hx rfl (hb hby d43_49) k) ?_
  refine vs T4 53 [(.int ((bs.getD (2 * i + 1) 0) &&& (255 : Int32))), (.int (((bs.getD (2 * i) 0) &&& (255 : Int32)) <<< ((0 : Int32) &&& 31)))] (fun t k => XS.iand X4.here hx rfl (hb hby d43_52) rfl k) ?_
  obtain ⟨T6, X6, e6, st6⟩ := getS2 X4 hx hZ hown (host := "") (Or.inl (ww hw 234 rfl)) Via.refl e4 SL (g := (mkF m 53 #[vr ob, vi (Int32.ofNat (2 * i + 1))] [(.int ((bs.getD (2 * i + 1) 0) &&& (255 : Int32))), (.int (((bs.getD (2 * i) 0) &&& (255 : Int32)) <<< ((0 : Int32) &&& 31)))])) rfl (hb hby d43_53)
  refine vs T6 56 [(.int (8 : Int32)), (.int ((bs.getD (2 * i + 1) 0) &&& (255 : Int32))), (.int (((bs.getD (2 * i) 0) &&& (255 : Int32)) <<< ((0 : Int32) &&& 31)))] (fun t k => st6 t k) ?_
  refine vs T6 57 [(.int (((bs.getD (2 * i + 1) 0) &&& (255 : Int32)) <<< ((8 : Int32) &&& 31))), (.int (((bs.getD (2 * i) 0) &&& (255 : Int32)) <<< ((0 : Int32) &&& 31)))] (fun t k => XT.ishl X6.here hx rfl (hb hby d43_56) rfl k) ?_
  refine vs T6 58 [(.int ((((bs.getD (2 * i) 0) &&& (255 : Int32)) <<< ((0 : Int32) &&& 31)) ||| (((bs.getD (2 * i + 1) 0) &&& (255 : Int32)) <<< ((8 : Int32) &&& 31))))] (fun t k => XT.ior X6.here hx rfl (hb hby d43_57) rfl k) ?_
  refine vs T6 59 [(.int (((((bs.getD (2 * i) 0) &&& (255 : Int32)) <<< ((0 : Int32) &&& 31)) ||| (((bs.getD (2 * i + 1) 0) &&& (255 : Int32)) <<< ((8 : Int32) &&& 31))).toUInt32.toUInt16.toUInt32.toInt32))] (fun t k => XT.i2c X6.here hx rfl (hb hby d43_58) rfl k) ?_
  exact own_fin X6 e6 (v := some (.int (nar .char (((((bs.getD (2 * i) 0) &&& (255 : Int32)) <<< ((0 : Int32) &&& 31)) ||| (((bs.getD (2 * i + 1) 0) &&& (255 : Int32)) <<< ((8 : Int32) &&& 31))).toUInt32.toUInt16.toUInt32.toInt32)))) (fun h => by rw [hret] at h; cases h) hlk (fun fs hr => retN X6 hx (t := .char) hret (by simp) (hb hby d43_59) hr) (show ((fun (v : Option Value) (h : Heap) (L : List Loc) => Q43 Z ob kb ln bs i h0 n0 v h L)) (some (.int (nar .char (((((bs.getD (2 * i) 0) &&& (255 : Int32)) <<< ((0 : Int32) &&& 31)) ||| (((bs.getD (2 * i + 1) 0) &&& (255 : Int32)) <<< ((8 : Int32) &&& 31))).toUInt32.toUInt16.toUInt32.toInt32)))) h0 _ from ⟨rfl, N0, rfl⟩) (by decide) (by decide)
theorem ef_43 (m : MethodId) (ob : Addr) (i : Nat) : entryFrame m #[(.ref ob), (.int (Int32.ofNat i))] 2 = mkF m 0 #[vr ob, vi (Int32.ofNat i)] [] := by first | (simp [entryFrame, mkF, argsToLocals, Value.category, maxLocals]; done) | rfl
theorem rm43 (l : Launch) (Z : State) (a0 : Array Value) (hw : ∀ d ∈ tables_1, d.before a0 Z = true) (ws : List Jvm.Cond) (ob : Addr) (kb : ClassId) (ln : Nat) (bs : List Int32) (i : Nat) (h0 : Heap) (n0 : Nat) (Z0 : n0 ≤ h0.size) (VB : Arv Z h0 ob kb .byte (Int32.ofNat ln) (own_iv bs) (.int (0 : Int32))) (SA : Sta Z h0 "java/lang/StringUTF16" "$assertionsDisabled" "Z" (.int (1 : Int32))) (SH : Sta Z h0 "java/lang/StringUTF16" "HI_BYTE_SHIFT" "I" (.int (0 : Int32))) (SL : Sta Z h0 "java/lang/StringUTF16" "LO_BYTE_SHIFT" "I" (.int (8 : Int32))) (hi : 2 * i + 1 < ln) (hl8 : ln ≤ 8) :
    MetFree l (⟨"java/lang/StringUTF16", "getChar", "([BI)C"⟩ : MethodName) (head1 (Jvm.Cond.code (⟨"java/lang/StringUTF16", "getChar", "([BI)C"⟩ : MethodName) jdk_52_method_5_code 2 (some .char) :: ws) ({ frames := 0, cells := 0, slots := 0, locals := 0 } : Room)) (fun a U => a = #[(.ref ob), (.int (Int32.ofNat i))] ∧ Z.Warmed39 U.vm ∧ U.heap = h0) (fun _ _ _ _ _ => True) (fun _ U o U' => ∃ v L, o = .returned v ∧ Q43 Z ob kb ln bs i h0 n0 v U'.heap L ∧ FrameEnd U o U' L ({ frames := 0, cells := 0, slots := 0, locals := 0 } : Room).cells ({ frames := 0, cells := 0, slots := 0, locals := 0 } : Room).slots) := by
  refine MetFree.of_bodySF (plainFor_of_name pn_0) hisR ?_
  intro p e s m args below meth c s₁ Bd hml0 hP hK
  obtain ⟨rfl, hZ, hh⟩ := hP
  have e0 : s₁.heap = h0 := by rw [← hh, Bd.state]; rfl
  rw [ef_43 m ob i]
  exact b43 ob kb ln bs i ⟨Bd.exec, hZ, hw, Bd.bytes, hml0, findClass_of_methodNamed Bd.named, Bd.returns, Bd.notSynchronized, (name_of_methodNamed Bd.named Bd.method).1⟩ (Stand.of_body Bd) e0 Z0 (Fr.nil n0) VB SA SH SL hi hl8
theorem d39_8 : dq cb5 8 (.iload 4) 2 := by decide +kernel
theorem d39_10 : dq cb5 10 (.iload_n 2) 1 := by decide +kernel
theorem d39_11 : dq cb5 11 (.if_icmp .ge 21) 3 := by decide +kernel
theorem d39_32 : dq cb5 32 (.aload_n 3) 1 := by decide +kernel
theorem d39_33 : dq cb5 33 .areturn 1 := by decide +kernel
theorem d39_14 : dq cb5 14 (.aload_n 3) 1 := by decide +kernel
theorem d39_15 : dq cb5 15 (.iload 4) 2 := by decide +kernel
theorem d39_17 : dq cb5 17 (.aload_n 0) 1 := by decide +kernel
theorem d39_18 : dq cb5 18 (.iload_n 1) 1 := by decide +kernel
theorem d39_19 : dq cb5 19 .caload 1 := by decide +kernel
theorem d39_20 : dq cb5 20 (.invokestatic 111) 3 := by decide +kernel
theorem pd_1 : parseMethodDescriptor "([BII)V" = some ⟨[(.array .byte), .int, .int], none⟩ := by decide +kernel
theorem d39_23 : dq cb5 23 (.iinc 1 1) 3 := by decide +kernel
theorem d39_26 : dq cb5 26 (.iinc 4 1) 3 := by decide +kernel
theorem d39_29 : dq cb5 29 (.goto (-21)) 3 := by decide +kernel
theorem b39_8  (oa : Addr) (ka : ClassId) (n : Nat) (cs : List Int32) (ob : Addr) (kb : ClassId) (hE : Heap) (C : own_C p s m meth c Z a0 jdk_52_method_14_code 5 "java/lang/StringUTF16" (some (.array .byte)) "toBytes") (hc : cs.length = n) (hn : n ≤ 4) (g_ob : n0 ≤ ob) (szb : hE.size ≤ ob) (ne_ab : oa ≠ ob) :
    ∀ (r : Nat) (i : Nat) (bs : List Int32) (T0 : State) (locs : List Loc) (h0 : Heap) (X0 : Stand p l e ({ frames := 2, cells := 1, slots := 8, locals := 24 } : Room) s m args below meth c T0 locs 1 8) (e0 : T0.heap = h0) (Z0 : n0 ≤ h0.size) (N0 : Fr n0 locs) (VA : Arv Z h0 oa ka .char (Int32.ofNat n) (own_iv cs) (.int (0 : Int32))) (VB : Arv Z h0 ob kb .byte (Int32.ofNat (2 * n)) (own_iv bs) (.int (0 : Int32))) (SA : Sta Z h0 "java/lang/StringUTF16" "$assertionsDisabled" "Z" (.int (1 : Int32))) (SH : Sta Z h0 "java/lang/StringUTF16" "HI_BYTE_SHIFT" "I" (.int (0 : Int32))) (SL : Sta Z h0 "java/lang/StringUTF16" "LO_BYTE_SHIFT" "I" (.int (8 : Int32))) (KE : Keep hE h0 []) (hr : r = n - i) (hin : i ≤ n) (hbs : bs = own_puts cs i (List.replicate (2 * n) 0)), own_Go p.tables e below (T0.setTop (mkF m 8 #[vr oa, vi (Int32.ofNat i), vi (Int32.ofNat n), vr ob, vi (Int32.ofNat i)] [])) (own_K s (fun (v : Option Value) (h : Heap) (L : List Loc) => ∃ bz : Addr, ∃ kz : ClassId, v = some (.ref bz) ∧ Fr n0 L ∧ Keep hE h [] ∧ hE.size ≤ bz ∧ Arv Z h bz kz .byte (Int32.ofNat (2 * n)) (own_iv (own_utf cs)) (.int (0 : Int32))) ({ frames := 2, cells := 1, slots := 8, locals := 24 } : Room).cells ({ frames := 2, cells := 1, slots := 8, locals := 24 } : Room).slots) := by
  obtain ⟨hx, hZ, hw, hby, hml, hown, hret, hlk, hnm⟩ := C
  intro r
  induction r with
  | zero =>
    intro i bs T0 locs h0 X0 e0 Z0 N0 VA VB SA SH SL KE hr hin hbs
    refine vs T0 10 [(.int (Int32.ofNat i))] (fun t k => XS.iload X0.here hx rfl (hb hby d39_8) rfl k) ?_
    refine vs T0 11 [(.int (Int32.ofNat n)), (.int (Int32.ofNat i))] (fun t k => XS.iloadN X0.here hx rfl (hb hby d39_10) rfl k) ?_
    have hc1_11 : ¬ ((Int32.ofNat i) < (Int32.ofNat n)) := own_nlt (by omega) (by omega) (by omega)
    refine vs T0 32 [] (fun t k => XS.icmpYes X0.here hx rfl (pc0 := 11) (pc' := 32) rfl (hb hby d39_11) rfl (XT.ii_ge_t hc1_11) (by decide) (by decide) k) ?_
    refine vs T0 33 [(.ref ob)] (fun t k => XS.aloadN X0.here hx rfl (hb hby d39_32) rfl rfl k) ?_
    exact own_fin X0 e0 (v := some (.ref ob)) (fun h => by rw [hret] at h; cases h) hlk (fun fs hr => X0.areturnOut hx rfl hret rfl (hb hby d39_33) hr) (show ((fun (v : Option Value) (h : Heap) (L : List Loc) => ∃ bz : Addr, ∃ kz : ClassId, v = some (.ref bz) ∧ Fr n0 L ∧ Keep hE h [] ∧ hE.size ≤ bz ∧ Arv Z h bz kz .byte (Int32.ofNat (2 * n)) (own_iv (own_utf cs)) (.int (0 : Int32)))) (some (.ref ob)) h0 _ from ⟨ob, kb, rfl, N0, KE, szb, (by have q := VB; rw [hbs, show i = cs.length by omega, show n = cs.length by omega, own_putsall cs (by omega)] at q; rw [show n = cs.length by omega]; exact q)⟩) (by decide) (by decide)
  | succ r ih =>
    intro i bs T0 locs h0 X0 e0 Z0 N0 VA VB SA SH SL KE hr hin hbs
    refine vs T0 10 [(.int (Int32.ofNat i))] (fun t k => XS.iload X0.here hx rfl (hb hby d39_8) rfl k) ?_
    refine vs T0 11 [(.int (Int32.ofNat n)), (.int (Int32.ofNat i))] (fun t k => XS.iloadN X0.here hx rfl (hb hby d39_10) rfl k) ?_
    have hc1_11 : (Int32.ofNat i) < (Int32.ofNat n) := own_lt (by omega) (by omega)
    refine vs T0 14 [] (fun t k => XS.icmpNo X0.here hx rfl (hb hby d39_11) rfl (XT.ii_ge_f hc1_11) k) ?_
    refine vs T0 15 [(.ref ob)] (fun t k => XS.aloadN X0.here hx rfl (hb hby d39_14) rfl rfl k) ?_
    refine vs T0 17 [(.int (Int32.ofNat i)), (.ref ob)] (fun t k => XS.iload X0.here hx rfl (hb hby d39_15) rfl k) ?_
    refine vs T0 18 [(.ref oa), (.int (Int32.ofNat i)), (.ref ob)] (fun t k => XS.aloadN X0.here hx rfl (hb hby d39_17) rfl rfl k) ?_
    refine vs T0 19 [(.int (Int32.ofNat i)), (.ref oa), (.int (Int32.ofNat i)), (.ref ob)] (fun t k => XS.iloadN X0.here hx rfl (hb hby d39_18) rfl k) ?_
    obtain ⟨cl2, Ar2, qc2, S2, NN2, H2, G2⟩ := id VA
    have in2 := inb_of (j := (Int32.ofNat i)) S2 (own_inb (i := i) (by omega) (by omega))
    have hat2 : cl2.slots[((Int32.ofNat i)).toNatClampNeg]? = some (.int (cs.getD i 0)) := H2.at in2 (own_ivget cs (i := i) (by omega))
    refine vs T0 20 [(.int (cs.getD i 0)), (.int (Int32.ofNat i)), (.ref ob)] (fun t k => X0.caload hx (j := (Int32.ofNat i)) (v := (.int (cs.getD i 0))) (own_eqh e0 Ar2.1) (State.isArrayOf_alike hZ.alike Ar2.2.1) Ar2.2.2 in2 hat2 (g := (mkF m 19 #[vr oa, vi (Int32.ofNat i), vi (Int32.ofNat n), vr ob, vi (Int32.ofNat i)] [(.int (Int32.ofNat i)), (.ref oa), (.int (Int32.ofNat i)), (.ref ob)])) rfl rfl (hb hby d39_19) t k) ?_
    obtain ⟨_, _, ⟨T3, L3, k3, n3⟩, -, X3, ⟨Lc3, hQ3, l3, y3, z3⟩, st3⟩ := Jvm.LawKit.callS X0 hx (y := (⟨"java/lang/StringUTF16", "putChar", "([BII)V"⟩ : MethodName)) hown (mvT hZ (ww hw 229 rfl)) (mvT hZ (ww hw 230 rfl)) (mvT hZ (ww hw 17 rfl)) (mvT hZ (ww hw 231 rfl)) (by decide) (backOf (W := 0) (rm42 l Z a0 hw [] ob kb (2 * n) bs i (cs.getD i 0) h0 n0 Z0 VB SA SH SL g_ob (by rw [hbs, own_putslen]; simp) (by omega) (by omega)) hZ (ww hw 231 rfl) (ww hw 17 rfl) (by decide) (by decide)) (g := (mkF m 20 #[vr oa, vi (Int32.ofNat i), vi (Int32.ofNat n), vr ob, vi (Int32.ofNat i)] [(.int (cs.getD i 0)), (.int (Int32.ofNat i)), (.ref ob)])) rfl (by rw [hml]; rfl) (argsL := [(.ref ob), (.int (Int32.ofNat i)), (.int (cs.getD i 0))]) (rest := []) (lenOf pd_1 rfl) rfl (by show 2 * 0 + _ ≤ _; exact Nat.le_of_eq rfl) (hb hby d39_20) (fun _ _ => ⟨rfl, e0, (by decide : 1 + 0 ≤ _), (by decide : 8 + 0 ≤ _)⟩)
    dsimp only [Pt.U, Pt.locs, Pt.cells, Pt.slots] at X3 l3 y3 z3 st3 hQ3
    subst l3 y3 z3
    obtain ⟨rfl, Nq3, K3q, P0_3⟩ := hQ3
    have N3 := Fr.app N0 Nq3
    have VA'3 := VA.keep K3q (ninS ne_ab nin0)
    have SA'3 := own_stakeep SA K3q (allS (own_objV VB) all0)
    have SH'3 := own_stakeep SH K3q (allS (own_objV VB) all0)
    have SL'3 := own_stakeep SL K3q (allS (own_objV VB) all0)
    have K3 := (KE).trans K3q (allS (Or.inr szb) all0)
    have Z3 : n0 ≤ T3.heap.size := Nat.le_trans Z0 K3q.1
    refine vs T3 23 [] (fun t k => st3 t k) ?_
    refine vv T3 m 26 #[vr oa, vi ((Int32.ofNat i) + (1 : Int32)), vi (Int32.ofNat n), vr ob, vi (Int32.ofNat i)] [] (fun t k => XS.iinc X3.here hx rfl (hb hby d39_23) rfl (l' := #[vr oa, vi ((Int32.ofNat i) + (1 : Int32)), vi (Int32.ofNat n), vr ob, vi (Int32.ofNat i)]) rfl k) ?_
    refine vv T3 m 29 #[vr oa, vi ((Int32.ofNat i) + (1 : Int32)), vi (Int32.ofNat n), vr ob, vi ((Int32.ofNat i) + (1 : Int32))] [] (fun t k => XS.iinc X3.here hx rfl (hb hby d39_26) rfl (l' := #[vr oa, vi ((Int32.ofNat i) + (1 : Int32)), vi (Int32.ofNat n), vr ob, vi ((Int32.ofNat i) + (1 : Int32))]) rfl k) ?_
    refine vs T3 8 [] (fun t k => XS.goto X3.here hx rfl (pc0 := 29) (pc' := 8) rfl (hb hby d39_29) (by decide) (by decide) k) ?_
    rw [own_one]
    exact ih (i + 1) _ T3 _ _ X3 rfl Z3 N3 VA'3 P0_3 SA'3 SH'3 SL'3 K3 (by omega) (by omega) (by rw [hbs]; rfl)
theorem d39_0 : dq cb5 0 (.iload_n 2) 1 := by decide +kernel
theorem d39_1 : dq cb5 1 (.invokestatic 107) 3 := by decide +kernel
theorem pd_2 : parseMethodDescriptor "(I)[B" = some ⟨[.int], some (.array .byte)⟩ := by decide +kernel
theorem d39_4 : dq cb5 4 (.astore_n 3) 1 := by decide +kernel
theorem d39_5 : dq cb5 5 (.iconst 0) 1 := by decide +kernel
theorem d39_6 : dq cb5 6 (.istore 4) 2 := by decide +kernel
theorem b39_0  (oa : Addr) (ka : ClassId) (n : Nat) (cs : List Int32)
    (C : own_C p s m meth c Z a0 jdk_52_method_14_code 5 "java/lang/StringUTF16" (some (.array .byte)) "toBytes") (X0 : Stand p l e ({ frames := 2, cells := 1, slots := 8, locals := 24 } : Room) s m args below meth c T0 locs 0 0) (e0 : T0.heap = h0) (Z0 : n0 ≤ h0.size) (N0 : Fr n0 locs) (VA : Arv Z h0 oa ka .char (Int32.ofNat n) (own_iv cs) (.int (0 : Int32))) (SA : Sta Z h0 "java/lang/StringUTF16" "$assertionsDisabled" "Z" (.int (1 : Int32))) (SH : Sta Z h0 "java/lang/StringUTF16" "HI_BYTE_SHIFT" "I" (.int (0 : Int32))) (SL : Sta Z h0 "java/lang/StringUTF16" "LO_BYTE_SHIFT" "I" (.int (8 : Int32))) (hc : cs.length = n) (hn : n ≤ 4) :
    own_Go p.tables e below (T0.setTop (mkF m 0 #[vr oa, vi (0 : Int32), vi (Int32.ofNat n), .unset, .unset] [])) (own_K s (fun (v : Option Value) (h : Heap) (L : List Loc) => ∃ bz : Addr, ∃ kz : ClassId, v = some (.ref bz) ∧ Fr n0 L ∧ Keep h0 h [] ∧ h0.size ≤ bz ∧ Arv Z h bz kz .byte (Int32.ofNat (2 * n)) (own_iv (own_utf cs)) (.int (0 : Int32))) ({ frames := 2, cells := 1, slots := 8, locals := 24 } : Room).cells ({ frames := 2, cells := 1, slots := 8, locals := 24 } : Room).slots) := by
  obtain ⟨hx, hZ, hw, hby, hml, hown, hret, hlk, hnm⟩ := C
  refine vs T0 1 [(.int (Int32.ofNat n))] (fun t k => XS.iloadN X0.here hx rfl (hb hby d39_0) rfl k) ?_
  obtain ⟨_, _, ⟨T1, L1, k1, n1⟩, -, X1, ⟨Lc1, hQ1, l1, y1, z1⟩, st1⟩ := Jvm.LawKit.callS X0 hx (y := (⟨"java/lang/StringUTF16", "newBytesFor", "(I)[B"⟩ : MethodName)) hown (mvT hZ (ww hw 222 rfl)) (mvT hZ (ww hw 223 rfl)) (mvT hZ (ww hw 17 rfl)) (mvT hZ (ww hw 224 rfl)) (by decide) (backOf (W := 0) (rm40 l Z a0 hw [] n h0 n0 Z0 hn) hZ (ww hw 224 rfl) (ww hw 17 rfl) (by decide) (by decide)) (g := (mkF m 1 #[vr oa, vi (0 : Int32), vi (Int32.ofNat n), .unset, .unset] [(.int (Int32.ofNat n))])) rfl (by rw [hml]; rfl) (argsL := [(.int (Int32.ofNat n))]) (rest := []) (lenOf pd_2 rfl) rfl (by show 2 * 0 + _ ≤ _; exact Nat.le_of_eq rfl) (hb hby d39_1) (fun _ _ => ⟨rfl, e0, (by decide : 0 + 1 ≤ _), (by decide : 0 + 8 ≤ _)⟩)
  dsimp only [Pt.U, Pt.locs, Pt.cells, Pt.slots] at X1 l1 y1 z1 st1 hQ1
  subst l1 y1 z1
  obtain ⟨bz_1, kz_1, rfl, Nq1, K1q, fz_bz_1, P0_1⟩ := hQ1
  have N1 := Fr.app N0 Nq1
  have VA'1 := VA.keep K1q nin0
  have SA'1 := own_stakeep SA K1q all0
  have SH'1 := own_stakeep SH K1q all0
  have SL'1 := own_stakeep SL K1q all0
  have K1 := ((Keep.refl h0 [])).trans K1q all0
  have g_bz_1 : n0 ≤ bz_1 := Nat.le_trans Z0 fz_bz_1
  have sz_bz_1 : h0.size ≤ bz_1 := Nat.le_trans ((Keep.refl h0 [])).1 fz_bz_1
  have ne_oa_bz_1 : oa ≠ bz_1 := Nat.ne_of_lt (Nat.lt_of_lt_of_le VA.lt fz_bz_1)
  have Z1 : n0 ≤ T1.heap.size := Nat.le_trans Z0 K1q.1
  refine vs T1 4 [(.ref bz_1)] (fun t k => st1 t k) ?_
  refine vv T1 m 5 #[vr oa, vi (0 : Int32), vi (Int32.ofNat n), vr bz_1, .unset] [] (fun t k => XS.astoreN X1.here hx rfl (hb hby d39_4) rfl rfl (l' := #[vr oa, vi (0 : Int32), vi (Int32.ofNat n), vr bz_1, .unset]) rfl k) ?_
  refine vs T1 6 [(.int (0 : Int32))] (fun t k => XS.iconst X1.here hx rfl (hb hby d39_5) k) ?_
  refine vv T1 m 8 #[vr oa, vi (0 : Int32), vi (Int32.ofNat n), vr bz_1, vi (0 : Int32)] [] (fun t k => XS.istore X1.here hx rfl (hb hby d39_6) rfl (l' := #[vr oa, vi (0 : Int32), vi (Int32.ofNat n), vr bz_1, vi (0 : Int32)]) rfl k) ?_
  exact b39_8 oa ka n cs bz_1 kz_1 h0 ⟨hx, hZ, hw, hby, hml, hown, hret, hlk, hnm⟩ hc hn g_bz_1 sz_bz_1 ne_oa_bz_1 n 0 _ T1 _ _ X1 rfl Z1 N1 VA'1 P0_1 SA'1 SH'1 SL'1 K1 (by omega) (by omega) rfl
def Q39 (Z : State) (oa : Addr) (ka : ClassId) (n : Nat) (cs : List Int32) (h0 : Heap) (n0 : Nat) (v : Option Value) (h : Heap) (L : List Loc) : Prop := ∃ bz : Addr, ∃ kz : ClassId, v = some (.ref bz) ∧ Fr n0 L ∧ Keep h0 h [] ∧ h0.size ≤ bz ∧ Arv Z h bz kz .byte (Int32.ofNat (2 * n)) (own_iv (own_utf cs)) (.int (0 : Int32))
theorem ef_39 (m : MethodId) (oa : Addr) (n : Nat) : entryFrame m #[(.ref oa), (.int (0 : Int32)), (.int (Int32.ofNat n))] 5 = mkF m 0 #[vr oa, vi (0 : Int32), vi (Int32.ofNat n), .unset, .unset] [] := by first | (simp [entryFrame, mkF, argsToLocals, Value.category, maxLocals]; done) | rfl
theorem rm39 (l : Launch) (Z : State) (a0 : Array Value) (hw : ∀ d ∈ tables_1, d.before a0 Z = true) (ws : List Jvm.Cond) (oa : Addr) (ka : ClassId) (n : Nat) (cs : List Int32) (h0 : Heap) (n0 : Nat) (Z0 : n0 ≤ h0.size) (VA : Arv Z h0 oa ka .char (Int32.ofNat n) (own_iv cs) (.int (0 : Int32))) (SA : Sta Z h0 "java/lang/StringUTF16" "$assertionsDisabled" "Z" (.int (1 : Int32))) (SH : Sta Z h0 "java/lang/StringUTF16" "HI_BYTE_SHIFT" "I" (.int (0 : Int32))) (SL : Sta Z h0 "java/lang/StringUTF16" "LO_BYTE_SHIFT" "I" (.int (8 : Int32))) (hc : cs.length = n) (hn : n ≤ 4) :
    MetFree l (⟨"java/lang/StringUTF16", "toBytes", "([CII)[B"⟩ : MethodName) (head1 (Jvm.Cond.code (⟨"java/lang/StringUTF16", "toBytes", "([CII)[B"⟩ : MethodName) jdk_52_method_14_code 5 (some (.array .byte)) :: ws) ({ frames := 2, cells := 1, slots := 8, locals := 24 } : Room)) (fun a U => a = #[(.ref oa), (.int (0 : Int32)), (.int (Int32.ofNat n))] ∧ Z.Warmed39 U.vm ∧ U.heap = h0) (fun _ _ _ _ _ => True) (fun _ U o U' => ∃ v L, o = .returned v ∧ Q39 Z oa ka n cs h0 n0 v U'.heap L ∧ FrameEnd U o U' L ({ frames := 2, cells := 1, slots := 8, locals := 24 } : Room).cells ({ frames := 2, cells := 1, slots := 8, locals := 24 } : Room).slots) := by
  refine MetFree.of_bodySF (plainFor_of_name pn_0) hisR ?_
  intro p e s m args below meth c s₁ Bd hml0 hP hK
  obtain ⟨rfl, hZ, hh⟩ := hP
  have e0 : s₁.heap = h0 := by rw [← hh, Bd.state]; rfl
  rw [ef_39 m oa n]
  exact b39_0 oa ka n cs ⟨Bd.exec, hZ, hw, Bd.bytes, hml0, findClass_of_methodNamed Bd.named, Bd.returns, Bd.notSynchronized, (name_of_methodNamed Bd.named Bd.method).1⟩ (Stand.of_body Bd) e0 Z0 (Fr.nil n0) VA SA SH SL hc hn
theorem d5_3 : dq cb6 3 (.iload 5) 2 := by decide +kernel
theorem d5_5 : dq cb6 5 (.iload 4) 2 := by decide +kernel
theorem d5_7 : dq cb6 7 (.if_icmp .ge 37) 3 := by decide +kernel
theorem d5_44 : dq cb6 44 (.iload 4) 2 := by decide +kernel
theorem d5_46 : dq cb6 46 .ireturn 1 := by decide +kernel
theorem d5_10 : dq cb6 10 (.aload_n 0) 1 := by decide +kernel
theorem d5_11 : dq cb6 11 (.iload_n 1) 1 := by decide +kernel
theorem d5_12 : dq cb6 12 .caload 1 := by decide +kernel
theorem d5_13 : dq cb6 13 (.istore 6) 2 := by decide +kernel
theorem d5_15 : dq cb6 15 (.iload 6) 2 := by decide +kernel
theorem d5_17 : dq cb6 17 (.sipush 255) 3 := by decide +kernel
theorem d5_20 : dq cb6 20 (.if_icmp .le 6) 3 := by decide +kernel
theorem d5_23 : dq cb6 23 (.iload 5) 2 := by decide +kernel
theorem d5_25 : dq cb6 25 .ireturn 1 := by decide +kernel
theorem d5_26 : dq cb6 26 (.aload_n 2) 1 := by decide +kernel
theorem d5_27 : dq cb6 27 (.iload_n 3) 1 := by decide +kernel
theorem d5_28 : dq cb6 28 (.iload 6) 2 := by decide +kernel
theorem d5_30 : dq cb6 30 .i2b 1 := by decide +kernel
theorem d5_31 : dq cb6 31 .bastore 1 := by decide +kernel
theorem d5_32 : dq cb6 32 (.iinc 1 1) 3 := by decide +kernel
theorem d5_35 : dq cb6 35 (.iinc 3 1) 3 := by decide +kernel
theorem d5_38 : dq cb6 38 (.iinc 5 1) 3 := by decide +kernel
theorem d5_41 : dq cb6 41 (.goto (-38)) 3 := by decide +kernel
theorem b5_3  (oa : Addr) (ka : ClassId) (n : Nat) (cs : List Int32) (ob : Addr) (kb : ClassId) (hE : Heap) (C : own_C p s m meth c Z a0 jdk_52_method_21_code 7 "java/lang/StringUTF16" (some .int) "compress") (hc : cs.length = n) (hn : n ≤ 4) (g_ob : n0 ≤ ob) (ne_ab : oa ≠ ob) :
    ∀ (r : Nat) (i : Nat) (bs : List Int32) (s6 : Slot) (T0 : State) (locs : List Loc) (h0 : Heap) (X0 : Stand p l e ({ frames := 0, cells := 0, slots := 0, locals := 0 } : Room) s m args below meth c T0 locs 0 0) (e0 : T0.heap = h0) (Z0 : n0 ≤ h0.size) (N0 : Fr n0 locs) (VA : Arv Z h0 oa ka .char (Int32.ofNat n) (own_iv cs) (.int (0 : Int32))) (VB : Arv Z h0 ob kb .byte (Int32.ofNat n) (own_iv bs) (.int (0 : Int32))) (KE : Keep hE h0 [ob]) (hr : r = n - i) (hin : i ≤ n) (hbs : bs = own_lats cs i (List.replicate n 0)) (hlo : ∀ j, j < i → ¬ (255 : Int32) < cs.getD j 0) (hs6 : s6 = .unset ∨ ∃ w, s6 = .val w ∧ w.category = 1), own_Go p.tables e below (T0.setTop (mkF m 3 #[vr oa, vi (Int32.ofNat i), vr ob, vi (Int32.ofNat i), vi (Int32.ofNat n), vi (Int32.ofNat i), s6] [])) (own_K s (fun (v : Option Value) (h : Heap) (L : List Loc) => ∃ kx : Nat, ∃ vz : List Int32, v = some (.int (Int32.ofNat kx)) ∧ Fr n0 L ∧ Keep hE h [ob] ∧ own_cr cs n kx vz ∧ Arv Z h ob kb .byte (Int32.ofNat n) (own_iv vz) (.int (0 : Int32))) ({ frames := 0, cells := 0, slots := 0, locals := 0 } : Room).cells ({ frames := 0, cells := 0, slots := 0, locals := 0 } : Room).slots) := by
  obtain ⟨hx, hZ, hw, hby, hml, hown, hret, hlk, hnm⟩ := C
  intro r
  induction r with
  | zero =>
    intro i bs s6 T0 locs h0 X0 e0 Z0 N0 VA VB KE hr hin hbs hlo hs6
    refine vs T0 5 [(.int (Int32.ofNat i))] (fun t k => XS.iload X0.here hx rfl (hb hby d5_3) rfl k) ?_
    refine vs T0 7 [(.int (Int32.ofNat n)), (.int (Int32.ofNat i))] (fun t k => XS.iload X0.here hx rfl (hb hby d5_5) rfl k) ?_
    have hc1_7 : ¬ ((Int32.ofNat i) < (Int32.ofNat n)) := own_nlt (by omega) (by omega) (by omega)
    refine vs T0 44 [] (fun t k => XS.icmpYes X0.here hx rfl (pc0 := 7) (pc' := 44) rfl (hb hby d5_7) rfl (XT.ii_ge_t hc1_7) (by decide) (by decide) k) ?_
    refine vs T0 46 [(.int (Int32.ofNat n))] (fun t k => XS.iload X0.here hx rfl (hb hby d5_44) rfl k) ?_
    exact own_fin X0 e0 (v := some (.int (Int32.ofNat n))) (fun h => by rw [hret] at h; cases h) hlk (fun fs hr => retI X0 hx hret (hb hby d5_46) hr) (show ((fun (v : Option Value) (h : Heap) (L : List Loc) => ∃ kx : Nat, ∃ vz : List Int32, v = some (.int (Int32.ofNat kx)) ∧ Fr n0 L ∧ Keep hE h [ob] ∧ own_cr cs n kx vz ∧ Arv Z h ob kb .byte (Int32.ofNat n) (own_iv vz) (.int (0 : Int32)))) (some (.int (Int32.ofNat n))) h0 _ from ⟨n, bs, rfl, N0, KE, (Or.inr ⟨rfl, by rw [hbs, show i = cs.length by omega, show n = cs.length by omega]; exact own_latsall cs (by omega), fun j hj => hlo j (by omega)⟩), (VB)⟩) (by decide) (by decide)
  | succ r ih =>
    intro i bs s6 T0 locs h0 X0 e0 Z0 N0 VA VB KE hr hin hbs hlo hs6
    refine vs T0 5 [(.int (Int32.ofNat i))] (fun t k => XS.iload X0.here hx rfl (hb hby d5_3) rfl k) ?_
    refine vs T0 7 [(.int (Int32.ofNat n)), (.int (Int32.ofNat i))] (fun t k => XS.iload X0.here hx rfl (hb hby d5_5) rfl k) ?_
    have hc1_7 : (Int32.ofNat i) < (Int32.ofNat n) := own_lt (by omega) (by omega)
    refine vs T0 10 [] (fun t k => XS.icmpNo X0.here hx rfl (hb hby d5_7) rfl (XT.ii_ge_f hc1_7) k) ?_
    refine vs T0 11 [(.ref oa)] (fun t k => XS.aloadN X0.here hx rfl (hb hby d5_10) rfl rfl k) ?_
    refine vs T0 12 [(.int (Int32.ofNat i)), (.ref oa)] (fun t k => XS.iloadN X0.here hx rfl (hb hby d5_11) rfl k) ?_
    obtain ⟨cl2, Ar2, qc2, S2, NN2, H2, G2⟩ := id VA
    have in2 := inb_of (j := (Int32.ofNat i)) S2 (own_inb (i := i) (by omega) (by omega))
    have hat2 : cl2.slots[((Int32.ofNat i)).toNatClampNeg]? = some (.int (cs.getD i 0)) := H2.at in2 (own_ivget cs (i := i) (by omega))
    refine vs T0 13 [(.int (cs.getD i 0))] (fun t k => X0.caload hx (j := (Int32.ofNat i)) (v := (.int (cs.getD i 0))) (own_eqh e0 Ar2.1) (State.isArrayOf_alike hZ.alike Ar2.2.1) Ar2.2.2 in2 hat2 (g := (mkF m 12 #[vr oa, vi (Int32.ofNat i), vr ob, vi (Int32.ofNat i), vi (Int32.ofNat n), vi (Int32.ofNat i), s6] [(.int (Int32.ofNat i)), (.ref oa)])) rfl rfl (hb hby d5_12) t k) ?_
    refine vv T0 m 15 #[vr oa, vi (Int32.ofNat i), vr ob, vi (Int32.ofNat i), vi (Int32.ofNat n), vi (Int32.ofNat i), vi (cs.getD i 0)] [] (fun t k => XS.istoreS X0.here hx rfl (hb hby d5_13) rfl rfl hs6 k) ?_
    refine vs T0 17 [(.int (cs.getD i 0))] (fun t k => XS.iload X0.here hx rfl (hb hby d5_15) rfl k) ?_
    refine vs T0 20 [(.int (255 : Int32)), (.int (cs.getD i 0))] (fun t k => XS.sipush X0.here hx rfl (hb hby d5_17) k) ?_
    by_cases hc3_20 : (255 : Int32) < (cs.getD i 0)
    · refine vs T0 23 [] (fun t k => XS.icmpNo X0.here hx rfl (hb hby d5_20) rfl (XT.ii_le_f hc3_20) k) ?_
      refine vs T0 25 [(.int (Int32.ofNat i))] (fun t k => XS.iload X0.here hx rfl (hb hby d5_23) rfl k) ?_
      exact own_fin X0 e0 (v := some (.int (Int32.ofNat i))) (fun h => by rw [hret] at h; cases h) hlk (fun fs hr => retI X0 hx hret (hb hby d5_25) hr) (show ((fun (v : Option Value) (h : Heap) (L : List Loc) => ∃ kx : Nat, ∃ vz : List Int32, v = some (.int (Int32.ofNat kx)) ∧ Fr n0 L ∧ Keep hE h [ob] ∧ own_cr cs n kx vz ∧ Arv Z h ob kb .byte (Int32.ofNat n) (own_iv vz) (.int (0 : Int32)))) (some (.int (Int32.ofNat i))) h0 _ from ⟨i, bs, rfl, N0, KE, (Or.inl ⟨by omega, hc3_20⟩), (VB)⟩) (by decide) (by decide)
    · refine vs T0 26 [] (fun t k => XS.icmpYes X0.here hx rfl (pc0 := 20) (pc' := 26) rfl (hb hby d5_20) rfl (XT.ii_le_t hc3_20) (by decide) (by decide) k) ?_
      refine vs T0 27 [(.ref ob)] (fun t k => XS.aloadN X0.here hx rfl (hb hby d5_26) rfl rfl k) ?_
      refine vs T0 28 [(.int (Int32.ofNat i)), (.ref ob)] (fun t k => XS.iloadN X0.here hx rfl (hb hby d5_27) rfl k) ?_
      refine vs T0 30 [(.int (cs.getD i 0)), (.int (Int32.ofNat i)), (.ref ob)] (fun t k => XS.iload X0.here hx rfl (hb hby d5_28) rfl k) ?_
      refine vs T0 31 [(.int ((cs.getD i 0).toInt8.toInt32)), (.int (Int32.ofNat i)), (.ref ob)] (fun t k => XT.i2b X0.here hx rfl (hb hby d5_30) rfl k) ?_
      obtain ⟨cl4, Ar4, qc4, S4, NN4, H4, G4⟩ := id VB
      obtain ⟨T4, h4, X4, e4, W4, st4⟩ := stB X0 hx hZ e0 Ar4 (j := (Int32.ofNat i)) (inb_of S4 (own_inb (i := i) (by omega) (by omega))) (g := (mkF m 31 #[vr oa, vi (Int32.ofNat i), vr ob, vi (Int32.ofNat i), vi (Int32.ofNat n), vi (Int32.ofNat i), vi (cs.getD i 0)] [(.int ((cs.getD i 0).toInt8.toInt32)), (.int (Int32.ofNat i)), (.ref ob)])) rfl rfl (hb hby d5_31)
      have V_ob'4 : Arv Z h4 ob kb .byte (Int32.ofNat n) (own_iv (bs.set i (own_lat (cs.getD i 0)))) (.int (0 : Int32)) := (by have q := Arv.set Ar4 qc4 S4 NN4 H4 G4 (fits_nar_byte _) W4 i (own_cl (by omega)) (by rw [own_ivlen, hbs, own_latslen]; simp; omega); rw [own_ivset] at q; exact q)
      have VA'4 := VA.other W4 ne_ab
      have N4 := Fr.snoc X4 N0 g_ob
      have Z4 : n0 ≤ h4.size := Nat.le_trans Z0 (Keep.of_wr W4).1
      have K4 := (KE).wr W4 (Or.inl (List.mem_of_getElem? (i := 0) rfl))
      refine vs T4 32 [] (fun t k => st4 t k) ?_
      refine vv T4 m 35 #[vr oa, vi ((Int32.ofNat i) + (1 : Int32)), vr ob, vi (Int32.ofNat i), vi (Int32.ofNat n), vi (Int32.ofNat i), vi (cs.getD i 0)] [] (fun t k => XS.iinc X4.here hx rfl (hb hby d5_32) rfl (l' := #[vr oa, vi ((Int32.ofNat i) + (1 : Int32)), vr ob, vi (Int32.ofNat i), vi (Int32.ofNat n), vi (Int32.ofNat i), vi (cs.getD i 0)]) rfl k) ?_
      refine vv T4 m 38 #[vr oa, vi ((Int32.ofNat i) + (1 : Int32)), vr ob, vi ((Int32.ofNat i) + (1 : Int32)), vi (Int32.ofNat n), vi (Int32.ofNat i), vi (cs.getD i 0)] [] (fun t k => XS.iinc X4.here hx rfl (hb hby d5_35) rfl (l' := #[vr oa, vi ((Int32.ofNat i) + (1 : Int32)), vr ob, vi ((Int32.ofNat i) + (1 : Int32)), vi (Int32.ofNat n), vi (Int32.ofNat i), vi (cs.getD i 0)]) rfl k) ?_
      refine vv T4 m 41 #[vr oa, vi ((Int32.ofNat i) + (1 : Int32)), vr ob, vi ((Int32.ofNat i) + (1 : Int32)), vi (Int32.ofNat n), vi ((Int32.ofNat i) + (1 : Int32)), vi (cs.getD i 0)] [] (fun t k => XS.iinc X4.here hx rfl (hb hby d5_38) rfl (l' := #[vr oa, vi ((Int32.ofNat i) + (1 : Int32)), vr ob, vi ((Int32.ofNat i) + (1 : Int32)), vi (Int32.ofNat n), vi ((Int32.ofNat i) + (1 : Int32)), vi (cs.getD i 0)]) rfl k) ?_
      refine vs T4 3 [] (fun t k => XS.goto X4.here hx rfl (pc0 := 41) (pc' := 3) rfl (hb hby d5_41) (by decide) (by decide) k) ?_
      rw [own_one]
      exact ih (i + 1) _ _ T4 _ _ X4 e4 Z4 N4 VA'4 V_ob'4 K4 (by omega) (by omega) (by rw [hbs]; rfl) (fun j hj => if q : j < i then hlo j q else (by rw [show j = i by omega]; exact hc3_20)) (Or.inr ⟨_, rfl, rfl⟩)
theorem d5_0 : dq cb6 0 (.iconst 0) 1 := by decide +kernel
theorem d5_1 : dq cb6 1 (.istore 5) 2 := by decide +kernel
theorem b5_0  (oa : Addr) (ka : ClassId) (n : Nat) (cs : List Int32) (ob : Addr) (kb : ClassId)
    (C : own_C p s m meth c Z a0 jdk_52_method_21_code 7 "java/lang/StringUTF16" (some .int) "compress") (X0 : Stand p l e ({ frames := 0, cells := 0, slots := 0, locals := 0 } : Room) s m args below meth c T0 locs 0 0) (e0 : T0.heap = h0) (Z0 : n0 ≤ h0.size) (N0 : Fr n0 locs) (VA : Arv Z h0 oa ka .char (Int32.ofNat n) (own_iv cs) (.int (0 : Int32))) (VB : Arv Z h0 ob kb .byte (Int32.ofNat n) (own_iv (List.replicate n 0)) (.int (0 : Int32))) (g_ob : n0 ≤ ob) (hc : cs.length = n) (hn : n ≤ 4) (ne_ab : oa ≠ ob) :
    own_Go p.tables e below (T0.setTop (mkF m 0 #[vr oa, vi (0 : Int32), vr ob, vi (0 : Int32), vi (Int32.ofNat n), .unset, .unset] [])) (own_K s (fun (v : Option Value) (h : Heap) (L : List Loc) => ∃ kx : Nat, ∃ vz : List Int32, v = some (.int (Int32.ofNat kx)) ∧ Fr n0 L ∧ Keep h0 h [ob] ∧ own_cr cs n kx vz ∧ Arv Z h ob kb .byte (Int32.ofNat n) (own_iv vz) (.int (0 : Int32))) ({ frames := 0, cells := 0, slots := 0, locals := 0 } : Room).cells ({ frames := 0, cells := 0, slots := 0, locals := 0 } : Room).slots) := by
  obtain ⟨hx, hZ, hw, hby, hml, hown, hret, hlk, hnm⟩ := C
  refine vs T0 1 [(.int (0 : Int32))] (fun t k => XS.iconst X0.here hx rfl (hb hby d5_0) k) ?_
  refine vv T0 m 3 #[vr oa, vi (0 : Int32), vr ob, vi (0 : Int32), vi (Int32.ofNat n), vi (0 : Int32), .unset] [] (fun t k => XS.istore X0.here hx rfl (hb hby d5_1) rfl (l' := #[vr oa, vi (0 : Int32), vr ob, vi (0 : Int32), vi (Int32.ofNat n), vi (0 : Int32), .unset]) rfl k) ?_
  exact b5_3 oa ka n cs ob kb h0 ⟨hx, hZ, hw, hby, hml, hown, hret, hlk, hnm⟩ hc hn g_ob ne_ab n 0 _ _ T0 _ _ X0 e0 Z0 N0 VA VB (Keep.refl h0 [ob]) (by omega) (by omega) rfl (fun j hj => by omega) (Or.inl rfl)
def Q5 (Z : State) (oa : Addr) (ka : ClassId) (n : Nat) (cs : List Int32) (ob : Addr) (kb : ClassId) (h0 : Heap) (n0 : Nat) (v : Option Value) (h : Heap) (L : List Loc) : Prop := ∃ kx : Nat, ∃ vz : List Int32, v = some (.int (Int32.ofNat kx)) ∧ Fr n0 L ∧ Keep h0 h [ob] ∧ own_cr cs n kx vz ∧ Arv Z h ob kb .byte (Int32.ofNat n) (own_iv vz) (.int (0 : Int32))
theorem ef_5 (m : MethodId) (oa : Addr) (n : Nat) (ob : Addr) : entryFrame m #[(.ref oa), (.int (0 : Int32)), (.ref ob), (.int (0 : Int32)), (.int (Int32.ofNat n))] 7 = mkF m 0 #[vr oa, vi (0 : Int32), vr ob, vi (0 : Int32), vi (Int32.ofNat n), .unset, .unset] [] := by first | (simp [entryFrame, mkF, argsToLocals, Value.category, maxLocals]; done) | rfl
theorem rm5 (l : Launch) (Z : State) (a0 : Array Value) (hw : ∀ d ∈ tables_1, d.before a0 Z = true) (ws : List Jvm.Cond) (oa : Addr) (ka : ClassId) (n : Nat) (cs : List Int32) (ob : Addr) (kb : ClassId) (h0 : Heap) (n0 : Nat) (Z0 : n0 ≤ h0.size) (VA : Arv Z h0 oa ka .char (Int32.ofNat n) (own_iv cs) (.int (0 : Int32))) (VB : Arv Z h0 ob kb .byte (Int32.ofNat n) (own_iv (List.replicate n 0)) (.int (0 : Int32))) (g_ob : n0 ≤ ob) (hc : cs.length = n) (hn : n ≤ 4) (ne_ab : oa ≠ ob) :
    MetFree l (⟨"java/lang/StringUTF16", "compress", "([CI[BII)I"⟩ : MethodName) (head1 (Jvm.Cond.code (⟨"java/lang/StringUTF16", "compress", "([CI[BII)I"⟩ : MethodName) jdk_52_method_21_code 7 (some .int) :: ws) ({ frames := 0, cells := 0, slots := 0, locals := 0 } : Room)) (fun a U => a = #[(.ref oa), (.int (0 : Int32)), (.ref ob), (.int (0 : Int32)), (.int (Int32.ofNat n))] ∧ Z.Warmed39 U.vm ∧ U.heap = h0) (fun _ _ _ _ _ => True) (fun _ U o U' => ∃ v L, o = .returned v ∧ Q5 Z oa ka n cs ob kb h0 n0 v U'.heap L ∧ FrameEnd U o U' L ({ frames := 0, cells := 0, slots := 0, locals := 0 } : Room).cells ({ frames := 0, cells := 0, slots := 0, locals := 0 } : Room).slots) := by
  refine MetFree.of_bodySF (plainFor_of_name pn_0) hisR ?_
  intro p e s m args below meth c s₁ Bd hml0 hP hK
  obtain ⟨rfl, hZ, hh⟩ := hP
  have e0 : s₁.heap = h0 := by rw [← hh, Bd.state]; rfl
  rw [ef_5 m oa n ob]
  exact b5_0 oa ka n cs ob kb ⟨Bd.exec, hZ, hw, Bd.bytes, hml0, findClass_of_methodNamed Bd.named, Bd.returns, Bd.notSynchronized, (name_of_methodNamed Bd.named Bd.method).1⟩ (Stand.of_body Bd) e0 Z0 (Fr.nil n0) VA VB g_ob hc hn ne_ab
theorem own_kn {cs : List Int32} {n k : Nat} {vz : List Int32} (h : own_cr cs n k vz) (hne : ¬ Int32.ofNat k = Int32.ofNat n) : 2 * k + 1 < 2 * n := by
  rcases h with ⟨q, -⟩ | ⟨q, -⟩
  · omega
  · exact absurd (congrArg Int32.ofNat q) hne
theorem own_encL {cs : List Int32} {n k : Nat} {vz : List Int32} (hc : cs.length = n) (hn : n ≤ 4) (h : own_cr cs n k vz) (he : Int32.ofNat k = Int32.ofNat n) : own_enc cs 0 n vz := by
  rcases h with ⟨q, -⟩ | ⟨-, q1, q2⟩
  · exact absurd ((own_oinj (by omega) (by omega)).mp he) (by omega)
  · exact Or.inl ⟨rfl, hc.symm, q1, fun j hj => q2 j (by omega)⟩
theorem own_utfget (cs : List Int32) (k : Nat) (hk : k < cs.length) : (own_utf cs).getD (2 * k) 0 = own_lo (cs.getD k 0) ∧ (own_utf cs).getD (2 * k + 1) 0 = own_hi (cs.getD k 0) := by
  induction cs generalizing k with
  | nil => simp at hk
  | cons a cs ih =>
    match k, hk with
    | 0, _ => exact ⟨rfl, rfl⟩
    | k + 1, hk => exact ih k (by simpa using hk)
theorem own_chbits {x : Int32} (h : own_ch x) (i : Nat) (hi : 16 ≤ i) : x.toBitVec.getLsbD i = false := by
  unfold own_ch at h
  have e : (x.toUInt32.toUInt16.toUInt32.toInt32).toBitVec = x.toBitVec := congrArg Int32.toBitVec h
  rw [← e]
  show ((x.toBitVec.setWidth 16).setWidth 32).getLsbD i = false
  simp only [BitVec.getLsbD_setWidth]
  have : ¬ i < 16 := by omega
  simp [this]
theorem own_gchlh {x : Int32} (h : own_ch x) : own_gch (own_lo x) (own_hi x) = x := by
  apply Int32.toBitVec_inj.mp
  have e0 : (own_gch (own_lo x) (own_hi x)).toBitVec = ((((((own_lo x &&& (255 : Int32)) <<< ((0 : Int32) &&& 31)) ||| ((own_hi x &&& (255 : Int32)) <<< ((8 : Int32) &&& 31))).toBitVec.setWidth 16).setWidth 32).setWidth 16).setWidth 32 := rfl
  have a0 : ((own_lo x &&& (255 : Int32)) <<< ((0 : Int32) &&& 31)).toBitVec = (own_lo x).toBitVec &&& 255#32 := by
    rw [Int32.toBitVec_shiftLeft]
    show ((own_lo x).toBitVec &&& 255#32) <<< (BitVec.smod (((0 : Int32) &&& 31).toBitVec) 32) = _
    have : BitVec.smod (((0 : Int32) &&& 31).toBitVec) 32 = 0#32 := by decide
    rw [this]; simp
  have a1 : ((own_hi x &&& (255 : Int32)) <<< ((8 : Int32) &&& 31)).toBitVec = ((own_hi x).toBitVec &&& 255#32) <<< 8 := by
    rw [Int32.toBitVec_shiftLeft]
    show ((own_hi x).toBitVec &&& 255#32) <<< (BitVec.smod (((8 : Int32) &&& 31).toBitVec) 32) = _
    have : BitVec.smod (((8 : Int32) &&& 31).toBitVec) 32 = 8#32 := by decide
    rw [this]; rfl
  have b0 : (own_lo x).toBitVec = ((((x.toBitVec.signExtend 8).signExtend 32).signExtend 8).signExtend 32) := by
    have : (x >>> ((0 : Int32) &&& 31)).toBitVec = x.toBitVec := by
      rw [Int32.toBitVec_shiftRight]
      have : BitVec.smod (((0 : Int32) &&& 31).toBitVec) 32 = 0#32 := by decide
      rw [this]; simp
    show ((((x >>> ((0 : Int32) &&& 31)).toBitVec.signExtend 8).signExtend 32).signExtend 8).signExtend 32 = _
    rw [this]
  have b1 : (own_hi x).toBitVec = (((((x.toBitVec.sshiftRight 8).signExtend 8).signExtend 32).signExtend 8).signExtend 32) := by
    have : (x >>> ((8 : Int32) &&& 31)).toBitVec = x.toBitVec.sshiftRight 8 := by
      rw [Int32.toBitVec_shiftRight]
      have : BitVec.smod (((8 : Int32) &&& 31).toBitVec) 32 = 8#32 := by decide
      rw [this]; rfl
    show ((((x >>> ((8 : Int32) &&& 31)).toBitVec.signExtend 8).signExtend 32).signExtend 8).signExtend 32 = _
    rw [this]
  rw [e0, Int32.toBitVec_or, a0, a1, b0, b1]
  apply BitVec.eq_of_getLsbD_eq
  intro i hi
  have k255 : ∀ j, (255#32).getLsbD j = decide (j < 8) := by
    intro j
    by_cases q : j < 32
    · have : ∀ z : Fin 32, (255#32).getLsbD z.val = decide (z.val < 8) := by decide
      exact this ⟨j, q⟩
    · rw [BitVec.getLsbD_of_ge _ _ (by omega)]; symm; exact decide_eq_false (by omega)
  by_cases h16 : i < 16
  · by_cases h8 : i < 8
    · simp only [BitVec.getLsbD_setWidth, BitVec.getLsbD_or, BitVec.getLsbD_and, BitVec.getLsbD_shiftLeft, BitVec.getLsbD_signExtend, BitVec.getLsbD_sshiftRight, k255, decide_true, decide_false, Bool.true_and, Bool.and_true, Bool.not_true, Bool.not_false, Bool.false_and, Bool.and_false, Bool.or_false, Bool.false_or, ↓reduceIte, h16, h8, hi]
    · have h7 : i - 8 < 8 := by omega
      have h3 : i - 8 < 32 := by omega
      have h4 : 8 + (i - 8) = i := by omega
      have h5 : ¬ 32 ≤ i - 8 := by omega
      simp only [BitVec.getLsbD_setWidth, BitVec.getLsbD_or, BitVec.getLsbD_and, BitVec.getLsbD_shiftLeft, BitVec.getLsbD_signExtend, BitVec.getLsbD_sshiftRight, k255, decide_true, decide_false, Bool.true_and, Bool.and_true, Bool.not_true, Bool.not_false, Bool.false_and, Bool.and_false, Bool.or_false, Bool.false_or, ↓reduceIte, h16, h8, hi, h7, h3, h4, h5]
  · rw [own_chbits h i (by omega)]
    simp only [BitVec.getLsbD_setWidth, h16, decide_false, Bool.false_and, Bool.and_false]
theorem own_gt {cs : List Int32} {n k : Nat} {vz : List Int32} (hc : cs.length = n) (hch : ∀ j, j < n → own_ch (cs.getD j 0)) (h : own_cr cs n k vz) (hne : ¬ Int32.ofNat k = Int32.ofNat n) : (255 : Int32) < own_gch ((own_utf cs).getD (2 * k) 0) ((own_utf cs).getD (2 * k + 1) 0) := by
  rcases h with ⟨q, q2⟩ | ⟨q, -⟩
  · obtain ⟨e1, e2⟩ := own_utfget cs k (by omega)
    rw [e1, e2, own_gchlh (hch k q)]; exact q2
  · exact absurd (congrArg Int32.ofNat q) hne
theorem own_n0 {n : Nat} (h1 : 1 ≤ n) (h : n ≤ 4) : ¬ Int32.ofNat n = (0 : Int32) := fun q => by
  have := (own_oinj (i := n) (j := 0) (by omega) (by omega)).mp q
  omega
theorem own_cdb {cs : List Int32} {cd : Int32} {ln : Nat} {bs : List Int32} (h : own_enc cs cd ln bs) : cd = 0 ∨ cd = 1 := by
  rcases h with ⟨q, -⟩ | ⟨q, -⟩
  · exact Or.inl q
  · exact Or.inr q
theorem own_nb {cd : Int32} (h : cd = 0 ∨ cd = 1) : nar .byte cd = cd := by rcases h with rfl | rfl <;> rfl
theorem own_cod {cs : List Int32} {n : Nat} {cd : Int32} {ln : Nat} {bs : List Int32} (hc : cs.length = n) (hn : n ≤ 4) (hn1 : 1 ≤ n) (h : own_enc cs cd ln bs) : some (Value.int (nar .byte ((XT.ushr (Int32.ofNat n - Int32.ofNat ln) (31 : Int32)).toInt8.toInt32))) = some (Value.int cd) := by
  have hN : n = 1 ∨ n = 2 ∨ n = 3 ∨ n = 4 := by omega
  rcases h with ⟨rfl, e, -⟩ | ⟨rfl, e, -⟩
  · rw [e, hc]; rcases hN with rfl | rfl | rfl | rfl <;> rfl
  · rw [e, hc]; rcases hN with rfl | rfl | rfl | rfl <;> rfl
def Q4 (Z : State) (oa : Addr) (ka : ClassId) (n : Nat) (cs : List Int32) (h0 : Heap) (n0 : Nat) (v : Option Value) (h : Heap) (L : List Loc) : Prop := ∃ bz : Addr, ∃ kz : ClassId, ∃ cd : Int32, ∃ ln : Nat, ∃ bs : List Int32, v = some (.ref bz) ∧ Fr n0 L ∧ Keep h0 h [] ∧ h0.size ≤ bz ∧ own_enc cs cd ln bs ∧ Arv Z h bz kz .byte (Int32.ofNat ln) (own_iv bs) (.int (0 : Int32))
theorem d4_0 : dq cb7 0 (.iload_n 2) 1 := by decide +kernel
theorem d4_1 : dq cb7 1 (.newarray .byte) 2 := by decide +kernel
theorem d4_3 : dq cb7 3 (.astore_n 3) 1 := by decide +kernel
theorem d4_4 : dq cb7 4 (.aload_n 0) 1 := by decide +kernel
theorem d4_5 : dq cb7 5 (.iload_n 1) 1 := by decide +kernel
theorem d4_6 : dq cb7 6 (.aload_n 3) 1 := by decide +kernel
theorem d4_7 : dq cb7 7 (.iconst 0) 1 := by decide +kernel
theorem d4_8 : dq cb7 8 (.iload_n 2) 1 := by decide +kernel
theorem d4_9 : dq cb7 9 (.invokestatic 115) 3 := by decide +kernel
theorem pd_3 : parseMethodDescriptor "([CI[BII)I" = some ⟨[(.array .char), .int, (.array .byte), .int, .int], some .int⟩ := by decide +kernel
theorem d4_12 : dq cb7 12 (.istore 4) 2 := by decide +kernel
theorem d4_14 : dq cb7 14 (.iload 4) 2 := by decide +kernel
theorem d4_16 : dq cb7 16 (.iload_n 2) 1 := by decide +kernel
theorem d4_17 : dq cb7 17 (.if_icmp .eq 40) 3 := by decide +kernel
theorem d4_57 : dq cb7 57 (.aload_n 3) 1 := by decide +kernel
theorem d4_58 : dq cb7 58 .areturn 1 := by decide +kernel
theorem d4_20 : dq cb7 20 (.aload_n 0) 1 := by decide +kernel
theorem d4_21 : dq cb7 21 (.iload_n 1) 1 := by decide +kernel
theorem d4_22 : dq cb7 22 (.iload_n 2) 1 := by decide +kernel
theorem d4_23 : dq cb7 23 (.invokestatic 119) 3 := by decide +kernel
theorem pd_4 : parseMethodDescriptor "([CII)[B" = some ⟨[(.array .char), .int, .int], some (.array .byte)⟩ := by decide +kernel
theorem d4_26 : dq cb7 26 (.astore 5) 2 := by decide +kernel
theorem d4_28 : dq cb7 28 (.aload 5) 2 := by decide +kernel
theorem d4_30 : dq cb7 30 (.iload 4) 2 := by decide +kernel
theorem d4_32 : dq cb7 32 (.invokestatic 71) 3 := by decide +kernel
theorem pd_5 : parseMethodDescriptor "([BI)C" = some ⟨[(.array .byte), .int], some .char⟩ := by decide +kernel
theorem d4_35 : dq cb7 35 (.sipush 255) 3 := by decide +kernel
theorem d4_38 : dq cb7 38 (.if_icmp .gt 16) 3 := by decide +kernel
theorem d4_54 : dq cb7 54 (.aload 5) 2 := by decide +kernel
theorem d4_56 : dq cb7 56 .areturn 1 := by decide +kernel
theorem b4  (oa : Addr) (ka : ClassId) (n : Nat) (cs : List Int32)
    (C : own_C p s m meth c Z a0 jdk_52_method_16_code 6 "java/lang/StringUTF16" (some (.array .byte)) "compress") (X0 : Stand p l e ({ frames := 3, cells := 2, slots := 12, locals := 40 } : Room) s m args below meth c T0 locs 0 0) (e0 : T0.heap = h0) (Z0 : n0 ≤ h0.size) (N0 : Fr n0 locs) (VA : Arv Z h0 oa ka .char (Int32.ofNat n) (own_iv cs) (.int (0 : Int32))) (SA : Sta Z h0 "java/lang/StringUTF16" "$assertionsDisabled" "Z" (.int (1 : Int32))) (SH : Sta Z h0 "java/lang/StringUTF16" "HI_BYTE_SHIFT" "I" (.int (0 : Int32))) (SL : Sta Z h0 "java/lang/StringUTF16" "LO_BYTE_SHIFT" "I" (.int (8 : Int32))) (hc : cs.length = n) (hn : n ≤ 4) (hn1 : 1 ≤ n) (hch : ∀ j, j < n → own_ch (cs.getD j 0)) :
    own_Go p.tables e below (T0.setTop (mkF m 0 #[vr oa, vi (0 : Int32), vi (Int32.ofNat n), .unset, .unset, .unset] [])) (own_K s (fun (v : Option Value) (h : Heap) (L : List Loc) => Q4 Z oa ka n cs h0 n0 v h L) ({ frames := 3, cells := 2, slots := 12, locals := 40 } : Room).cells ({ frames := 3, cells := 2, slots := 12, locals := 40 } : Room).slots) := by
  obtain ⟨hx, hZ, hw, hby, hml, hown, hret, hlk, hnm⟩ := C
  refine vs T0 1 [(.int (Int32.ofNat n))] (fun t k => XS.iloadN X0.here hx rfl (hb hby d4_0) rfl k) ?_
  obtain ⟨T1, h1, k1, X1, e1, E1, A1, st1⟩ := newP X0 hx hZ (ww hw 19 rfl) e0 (g := (mkF m 1 #[vr oa, vi (0 : Int32), vi (Int32.ofNat n), .unset, .unset, .unset] [(.int (Int32.ofNat n))])) rfl (hb hby d4_1) rfl (own_inb (i := n) (n := n + 1) (by omega) (by omega)).1 (cap := 4) (by rw [own_cl (by omega)]; omega) (by decide) (by decide) (by decide)
  obtain ⟨b1, g1⟩ : ∃ z, z = h0.size := ⟨_, rfl⟩
  rw [← g1] at A1 st1
  have ne_oa_b1 : oa ≠ b1 := Nat.ne_of_lt (Nat.lt_of_lt_of_le VA.lt (Nat.le_of_eq g1.symm))
  have g_b1 : n0 ≤ b1 := Nat.le_trans Z0 (Nat.le_of_eq g1.symm)
  have VA'1 := VA.ext E1
  have SA'1 := SA.ext E1
  have SH'1 := SH.ext E1
  have SL'1 := SL.ext E1
  have sz_b1 : h0.size ≤ b1 := Nat.le_trans ((Keep.refl h0 [])).1 (Nat.le_of_eq g1.symm)
  have K1 := ((Keep.refl h0 [])).ext E1
  have Z1 : n0 ≤ h1.size := Nat.le_trans Z0 E1.1
  have V_b1 : Arv Z h1 b1 k1 .byte (Int32.ofNat n) (own_iv (List.replicate n 0)) (.int (0 : Int32)) := ((Arv.new A1 (own_inb (i := n) (n := n + 1) (by omega) (by omega)).1)).pad (by intro i; rw [own_ivrep]; exact pad_rep [] _ n i)
  refine vs T1 3 [(.ref b1)] (fun t k => st1 t k) ?_
  refine vv T1 m 4 #[vr oa, vi (0 : Int32), vi (Int32.ofNat n), vr b1, .unset, .unset] [] (fun t k => XS.astoreN X1.here hx rfl (hb hby d4_3) rfl rfl (l' := #[vr oa, vi (0 : Int32), vi (Int32.ofNat n), vr b1, .unset, .unset]) rfl k) ?_
  refine vs T1 5 [(.ref oa)] (fun t k => XS.aloadN X1.here hx rfl (hb hby d4_4) rfl rfl k) ?_
  refine vs T1 6 [(.int (0 : Int32)), (.ref oa)] (fun t k => XS.iloadN X1.here hx rfl (hb hby d4_5) rfl k) ?_
  refine vs T1 7 [(.ref b1), (.int (0 : Int32)), (.ref oa)] (fun t k => XS.aloadN X1.here hx rfl (hb hby d4_6) rfl rfl k) ?_
  refine vs T1 8 [(.int (0 : Int32)), (.ref b1), (.int (0 : Int32)), (.ref oa)] (fun t k => XS.iconst X1.here hx rfl (hb hby d4_7) k) ?_
  refine vs T1 9 [(.int (Int32.ofNat n)), (.int (0 : Int32)), (.ref b1), (.int (0 : Int32)), (.ref oa)] (fun t k => XS.iloadN X1.here hx rfl (hb hby d4_8) rfl k) ?_
  obtain ⟨_, _, ⟨T2, L2, k2, n2⟩, -, X2, ⟨Lc2, hQ2, l2, y2, z2⟩, st2⟩ := Jvm.LawKit.callS X1 hx (y := (⟨"java/lang/StringUTF16", "compress", "([CI[BII)I"⟩ : MethodName)) hown (mvT hZ (ww hw 20 rfl)) (mvT hZ (ww hw 21 rfl)) (mvT hZ (ww hw 17 rfl)) (mvT hZ (ww hw 22 rfl)) (by decide) (backOf (W := 0) (rm5 l Z a0 hw [] oa ka n cs b1 k1 h1 n0 Z1 VA'1 V_b1 g_b1 hc hn ne_oa_b1) hZ (ww hw 22 rfl) (ww hw 17 rfl) (by decide) (by decide)) (g := (mkF m 9 #[vr oa, vi (0 : Int32), vi (Int32.ofNat n), vr b1, .unset, .unset] [(.int (Int32.ofNat n)), (.int (0 : Int32)), (.ref b1), (.int (0 : Int32)), (.ref oa)])) rfl (by rw [hml]; rfl) (argsL := [(.ref oa), (.int (0 : Int32)), (.ref b1), (.int (0 : Int32)), (.int (Int32.ofNat n))]) (rest := []) (lenOf pd_3 rfl) rfl (by show 2 * 0 + _ ≤ _; exact Nat.le_of_eq rfl) (hb hby d4_9) (fun _ _ => ⟨rfl, e1, (by decide : (0 + 1) + 0 ≤ _), (by decide : (0 + 4) + 0 ≤ _)⟩)
  dsimp only [Pt.U, Pt.locs, Pt.cells, Pt.slots] at X2 l2 y2 z2 st2 hQ2
  subst l2 y2 z2
  obtain ⟨kx_2, vz_2, rfl, Nq2, K2q, ex0_2, P0_2⟩ := hQ2
  have N2 := Fr.app N0 Nq2
  have VA'2 := VA'1.keep K2q (ninS ne_oa_b1 nin0)
  have SA'2 := own_stakeep SA'1 K2q (allS (own_objV V_b1) all0)
  have SH'2 := own_stakeep SH'1 K2q (allS (own_objV V_b1) all0)
  have SL'2 := own_stakeep SL'1 K2q (allS (own_objV V_b1) all0)
  have K2 := (K1).trans K2q (allS (Or.inr sz_b1) all0)
  have Z2 : n0 ≤ T2.heap.size := Nat.le_trans Z1 K2q.1
  refine vs T2 12 [(.int (Int32.ofNat kx_2))] (fun t k => st2 t k) ?_
  refine vv T2 m 14 #[vr oa, vi (0 : Int32), vi (Int32.ofNat n), vr b1, vi (Int32.ofNat kx_2), .unset] [] (fun t k => XS.istore X2.here hx rfl (hb hby d4_12) rfl (l' := #[vr oa, vi (0 : Int32), vi (Int32.ofNat n), vr b1, vi (Int32.ofNat kx_2), .unset]) rfl k) ?_
  refine vs T2 16 [(.int (Int32.ofNat kx_2))] (fun t k => XS.iload X2.here hx rfl (hb hby d4_14) rfl k) ?_
  refine vs T2 17 [(.int (Int32.ofNat n)), (.int (Int32.ofNat kx_2))] (fun t k => XS.iloadN X2.here hx rfl (hb hby d4_16) rfl k) ?_
  by_cases hc3_17 : (Int32.ofNat kx_2) = (Int32.ofNat n)
  · refine vs T2 57 [] (fun t k => XS.icmpYes X2.here hx rfl (pc0 := 17) (pc' := 57) rfl (hb hby d4_17) rfl (XT.ii_eq_t hc3_17) (by decide) (by decide) k) ?_
    refine vs T2 58 [(.ref b1)] (fun t k => XS.aloadN X2.here hx rfl (hb hby d4_57) rfl rfl k) ?_
    exact own_fin X2 rfl (v := some (.ref b1)) (fun h => by rw [hret] at h; cases h) hlk (fun fs hr => X2.areturnOut hx rfl hret rfl (hb hby d4_58) hr) (show ((fun (v : Option Value) (h : Heap) (L : List Loc) => Q4 Z oa ka n cs h0 n0 v h L)) (some (.ref b1)) T2.heap _ from ⟨b1, k1, 0, n, vz_2, rfl, N2, K2, sz_b1, (own_encL hc hn ex0_2 hc3_17), (P0_2)⟩) (by decide) (by decide)
  · refine vs T2 20 [] (fun t k => XS.icmpNo X2.here hx rfl (hb hby d4_17) rfl (XT.ii_eq_f hc3_17) k) ?_
    refine vs T2 21 [(.ref oa)] (fun t k => XS.aloadN X2.here hx rfl (hb hby d4_20) rfl rfl k) ?_
    refine vs T2 22 [(.int (0 : Int32)), (.ref oa)] (fun t k => XS.iloadN X2.here hx rfl (hb hby d4_21) rfl k) ?_
    refine vs T2 23 [(.int (Int32.ofNat n)), (.int (0 : Int32)), (.ref oa)] (fun t k => XS.iloadN X2.here hx rfl (hb hby d4_22) rfl k) ?_
    obtain ⟨_, _, ⟨T4, L4, k4, n4⟩, -, X4, ⟨Lc4, hQ4, l4, y4, z4⟩, st4⟩ := Jvm.LawKit.callS X2 hx (y := (⟨"java/lang/StringUTF16", "toBytes", "([CII)[B"⟩ : MethodName)) hown (mvT hZ (ww hw 219 rfl)) (mvT hZ (ww hw 220 rfl)) (mvT hZ (ww hw 17 rfl)) (mvT hZ (ww hw 221 rfl)) (by decide) (backOf (W := 0) (rm39 l Z a0 hw [] oa ka n cs T2.heap n0 Z2 VA'2 SA'2 SH'2 SL'2 hc hn) hZ (ww hw 221 rfl) (ww hw 17 rfl) (by decide) (by decide)) (g := (mkF m 23 #[vr oa, vi (0 : Int32), vi (Int32.ofNat n), vr b1, vi (Int32.ofNat kx_2), .unset] [(.int (Int32.ofNat n)), (.int (0 : Int32)), (.ref oa)])) rfl (by rw [hml]; rfl) (argsL := [(.ref oa), (.int (0 : Int32)), (.int (Int32.ofNat n))]) (rest := []) (lenOf pd_4 rfl) rfl (by show 2 * 0 + _ ≤ _; exact Nat.le_of_eq rfl) (hb hby d4_23) (fun _ _ => ⟨rfl, rfl, (by decide : ((0 + 1) + 0) + 1 ≤ _), (by decide : ((0 + 4) + 0) + 8 ≤ _)⟩)
    dsimp only [Pt.U, Pt.locs, Pt.cells, Pt.slots] at X4 l4 y4 z4 st4 hQ4
    subst l4 y4 z4
    obtain ⟨bz_4, kz_4, rfl, Nq4, K4q, fz_bz_4, P0_4⟩ := hQ4
    have N4 := Fr.app N2 Nq4
    have VA'4 := VA'2.keep K4q nin0
    have SA'4 := own_stakeep SA'2 K4q all0
    have SH'4 := own_stakeep SH'2 K4q all0
    have SL'4 := own_stakeep SL'2 K4q all0
    have P0_2'4 := P0_2.keep K4q nin0
    have K4 := (K2).trans K4q all0
    have g_bz_4 : n0 ≤ bz_4 := Nat.le_trans Z2 fz_bz_4
    have sz_bz_4 : h0.size ≤ bz_4 := Nat.le_trans (K2).1 fz_bz_4
    have ne_oa_bz_4 : oa ≠ bz_4 := Nat.ne_of_lt (Nat.lt_of_lt_of_le VA'2.lt fz_bz_4)
    have ne_b1_bz_4 : b1 ≠ bz_4 := Nat.ne_of_lt (Nat.lt_of_lt_of_le P0_2.lt fz_bz_4)
    have Z4 : n0 ≤ T4.heap.size := Nat.le_trans Z2 K4q.1
    refine vs T4 26 [(.ref bz_4)] (fun t k => st4 t k) ?_
    refine vv T4 m 28 #[vr oa, vi (0 : Int32), vi (Int32.ofNat n), vr b1, vi (Int32.ofNat kx_2), vr bz_4] [] (fun t k => XS.astore X4.here hx rfl (hb hby d4_26) rfl rfl (l' := #[vr oa, vi (0 : Int32), vi (Int32.ofNat n), vr b1, vi (Int32.ofNat kx_2), vr bz_4]) rfl k) ?_
    refine vs T4 30 [(.ref bz_4)] (fun t k => XS.aload X4.here hx rfl (hb hby d4_28) rfl rfl k) ?_
    refine vs T4 32 [(.int (Int32.ofNat kx_2)), (.ref bz_4)] (fun t k => XS.iload X4.here hx rfl (hb hby d4_30) rfl k) ?_
    obtain ⟨_, _, ⟨T5, L5, k5, n5⟩, -, X5, ⟨Lc5, hQ5, l5, y5, z5⟩, st5⟩ := Jvm.LawKit.callS X4 hx (y := (⟨"java/lang/StringUTF16", "getChar", "([BI)C"⟩ : MethodName)) hown (mvT hZ (ww hw 235 rfl)) (mvT hZ (ww hw 236 rfl)) (mvT hZ (ww hw 17 rfl)) (mvT hZ (ww hw 237 rfl)) (by decide) (backOf (W := 0) (rm43 l Z a0 hw [] bz_4 kz_4 (2 * n) (own_utf cs) kx_2 T4.heap n0 Z4 P0_4 SA'4 SH'4 SL'4 (own_kn ex0_2 hc3_17) (by omega)) hZ (ww hw 237 rfl) (ww hw 17 rfl) (by decide) (by decide)) (g := (mkF m 32 #[vr oa, vi (0 : Int32), vi (Int32.ofNat n), vr b1, vi (Int32.ofNat kx_2), vr bz_4] [(.int (Int32.ofNat kx_2)), (.ref bz_4)])) rfl (by rw [hml]; rfl) (argsL := [(.ref bz_4), (.int (Int32.ofNat kx_2))]) (rest := []) (lenOf pd_5 rfl) rfl (by show 2 * 0 + _ ≤ _; exact Nat.le_of_eq rfl) (hb hby d4_32) (fun _ _ => ⟨rfl, rfl, (by decide : (((0 + 1) + 0) + 1) + 0 ≤ _), (by decide : (((0 + 4) + 0) + 8) + 0 ≤ _)⟩)
    dsimp only [Pt.U, Pt.locs, Pt.cells, Pt.slots] at X5 l5 y5 z5 st5 hQ5
    subst l5 y5 z5
    obtain ⟨rfl, Nq5, eh5⟩ := hQ5
    have N5 := Fr.app N4 Nq5
    refine vs T5 35 [(.int (own_gch ((own_utf cs).getD (2 * kx_2) 0) ((own_utf cs).getD (2 * kx_2 + 1) 0)))] (fun t k => st5 t k) ?_
    refine vs T5 38 [(.int (255 : Int32)), (.int (own_gch ((own_utf cs).getD (2 * kx_2) 0) ((own_utf cs).getD (2 * kx_2 + 1) 0)))] (fun t k => XS.sipush X5.here hx rfl (hb hby d4_35) k) ?_
    have hc6_38 : (255 : Int32) < (own_gch ((own_utf cs).getD (2 * kx_2) 0) ((own_utf cs).getD (2 * kx_2 + 1) 0)) := own_gt hc hch ex0_2 hc3_17
    refine vs T5 54 [] (fun t k => XS.icmpYes X5.here hx rfl (pc0 := 38) (pc' := 54) rfl (hb hby d4_38) rfl (XT.ii_gt_t hc6_38) (by decide) (by decide) k) ?_
    refine vs T5 56 [(.ref bz_4)] (fun t k => XS.aload X5.here hx rfl (hb hby d4_54) rfl rfl k) ?_
    exact own_fin X5 eh5 (v := some (.ref bz_4)) (fun h => by rw [hret] at h; cases h) hlk (fun fs hr => X5.areturnOut hx rfl hret rfl (hb hby d4_56) hr) (show ((fun (v : Option Value) (h : Heap) (L : List Loc) => Q4 Z oa ka n cs h0 n0 v h L)) (some (.ref bz_4)) T4.heap _ from ⟨bz_4, kz_4, 1, (2 * n), (own_utf cs), rfl, N5, K4, sz_bz_4, (Or.inr ⟨rfl, by omega, rfl⟩), (P0_4)⟩) (by decide) (by decide)
theorem ef_4 (m : MethodId) (oa : Addr) (n : Nat) : entryFrame m #[(.ref oa), (.int (0 : Int32)), (.int (Int32.ofNat n))] 6 = mkF m 0 #[vr oa, vi (0 : Int32), vi (Int32.ofNat n), .unset, .unset, .unset] [] := by first | (simp [entryFrame, mkF, argsToLocals, Value.category, maxLocals]; done) | rfl
theorem rm4 (l : Launch) (Z : State) (a0 : Array Value) (hw : ∀ d ∈ tables_1, d.before a0 Z = true) (ws : List Jvm.Cond) (oa : Addr) (ka : ClassId) (n : Nat) (cs : List Int32) (h0 : Heap) (n0 : Nat) (Z0 : n0 ≤ h0.size) (VA : Arv Z h0 oa ka .char (Int32.ofNat n) (own_iv cs) (.int (0 : Int32))) (SA : Sta Z h0 "java/lang/StringUTF16" "$assertionsDisabled" "Z" (.int (1 : Int32))) (SH : Sta Z h0 "java/lang/StringUTF16" "HI_BYTE_SHIFT" "I" (.int (0 : Int32))) (SL : Sta Z h0 "java/lang/StringUTF16" "LO_BYTE_SHIFT" "I" (.int (8 : Int32))) (hc : cs.length = n) (hn : n ≤ 4) (hn1 : 1 ≤ n) (hch : ∀ j, j < n → own_ch (cs.getD j 0)) :
    MetFree l (⟨"java/lang/StringUTF16", "compress", "([CII)[B"⟩ : MethodName) (head1 (Jvm.Cond.code (⟨"java/lang/StringUTF16", "compress", "([CII)[B"⟩ : MethodName) jdk_52_method_16_code 6 (some (.array .byte)) :: ws) ({ frames := 3, cells := 2, slots := 12, locals := 40 } : Room)) (fun a U => a = #[(.ref oa), (.int (0 : Int32)), (.int (Int32.ofNat n))] ∧ Z.Warmed39 U.vm ∧ U.heap = h0) (fun _ _ _ _ _ => True) (fun _ U o U' => ∃ v L, o = .returned v ∧ Q4 Z oa ka n cs h0 n0 v U'.heap L ∧ FrameEnd U o U' L ({ frames := 3, cells := 2, slots := 12, locals := 40 } : Room).cells ({ frames := 3, cells := 2, slots := 12, locals := 40 } : Room).slots) := by
  refine MetFree.of_bodySF (plainFor_of_name pn_0) hisR ?_
  intro p e s m args below meth c s₁ Bd hml0 hP hK
  obtain ⟨rfl, hZ, hh⟩ := hP
  have e0 : s₁.heap = h0 := by rw [← hh, Bd.state]; rfl
  rw [ef_4 m oa n]
  exact b4 oa ka n cs ⟨Bd.exec, hZ, hw, Bd.bytes, hml0, findClass_of_methodNamed Bd.named, Bd.returns, Bd.notSynchronized, (name_of_methodNamed Bd.named Bd.method).1⟩ (Stand.of_body Bd) e0 Z0 (Fr.nil n0) VA SA SH SL hc hn hn1 hch
def Q6 (Z : State) (ob : Addr) (kb : ClassId) (ln : Nat) (bs : List Int32) (cs : List Int32) (n : Nat) (cd : Int32) (h0 : Heap) (n0 : Nat) (v : Option Value) (h : Heap) (L : List Loc) : Prop := v = some (.int cd) ∧ Fr n0 L ∧ h = h0
theorem d6_0 : dq cb8 0 (.iload_n 1) 1 := by decide +kernel
theorem d6_1 : dq cb8 1 (.aload_n 0) 1 := by decide +kernel
theorem d6_2 : dq cb8 2 .arraylength 1 := by decide +kernel
theorem d6_3 : dq cb8 3 .isub 1 := by decide +kernel
theorem d6_4 : dq cb8 4 (.bipush 31) 2 := by decide +kernel
theorem d6_6 : dq cb8 6 .iushr 1 := by decide +kernel
theorem d6_7 : dq cb8 7 .i2b 1 := by decide +kernel
theorem d6_8 : dq cb8 8 .ireturn 1 := by decide +kernel
theorem b6  (ob : Addr) (kb : ClassId) (ln : Nat) (bs : List Int32) (cs : List Int32) (n : Nat) (cd : Int32)
    (C : own_C p s m meth c Z a0 jdk_52_method_15_code 2 "java/lang/StringUTF16" (some .byte) "coderFromArrayLen") (X0 : Stand p l e ({ frames := 0, cells := 0, slots := 0, locals := 0 } : Room) s m args below meth c T0 locs 0 0) (e0 : T0.heap = h0) (Z0 : n0 ≤ h0.size) (N0 : Fr n0 locs) (VB : Arv Z h0 ob kb .byte (Int32.ofNat ln) (own_iv bs) (.int (0 : Int32))) (hc : cs.length = n) (hn : n ≤ 4) (hn1 : 1 ≤ n) (henc : own_enc cs cd ln bs) :
    own_Go p.tables e below (T0.setTop (mkF m 0 #[vr ob, vi (Int32.ofNat n)] [])) (own_K s (fun (v : Option Value) (h : Heap) (L : List Loc) => Q6 Z ob kb ln bs cs n cd h0 n0 v h L) ({ frames := 0, cells := 0, slots := 0, locals := 0 } : Room).cells ({ frames := 0, cells := 0, slots := 0, locals := 0 } : Room).slots) := by
  obtain ⟨hx, hZ, hw, hby, hml, hown, hret, hlk, hnm⟩ := C
  refine vs T0 1 [(.int (Int32.ofNat n))] (fun t k => XS.iloadN X0.here hx rfl (hb hby d6_0) rfl k) ?_
  refine vs T0 2 [(.ref ob), (.int (Int32.ofNat n))] (fun t k => XS.aloadN X0.here hx rfl (hb hby d6_1) rfl rfl k) ?_
  obtain ⟨cl1, Ar1, -, S1, NN1, -, -⟩ := id VB
  refine vs T0 3 [(.int (Int32.ofNat ln)), (.int (Int32.ofNat n))] (fun t k => own_len X0 hx hZ e0 Ar1 S1 NN1 (g := (mkF m 2 #[vr ob, vi (Int32.ofNat n)] [(.ref ob), (.int (Int32.ofNat n))])) rfl rfl (hb hby d6_2) k) ?_
  refine vs T0 4 [(.int ((Int32.ofNat n) - (Int32.ofNat ln)))] (fun t k => XS.isub X0.here hx rfl (hb hby d6_3) rfl k) ?_
  refine vs T0 6 [(.int (31 : Int32)), (.int ((Int32.ofNat n) - (Int32.ofNat ln)))] (fun t k => XS.bipush X0.here hx rfl (hb hby d6_4) k) ?_
  refine vs T0 7 [(.int (XT.ushr ((Int32.ofNat n) - (Int32.ofNat ln)) (31 : Int32)))] (fun t k => XT.iushr X0.here hx rfl (hb hby d6_6) rfl k) ?_
  refine vs T0 8 [(.int ((XT.ushr ((Int32.ofNat n) - (Int32.ofNat ln)) (31 : Int32)).toInt8.toInt32))] (fun t k => XT.i2b X0.here hx rfl (hb hby d6_7) rfl k) ?_
  exact own_fin X0 e0 (v := some (.int (nar .byte ((XT.ushr ((Int32.ofNat n) - (Int32.ofNat ln)) (31 : Int32)).toInt8.toInt32)))) (fun h => by rw [hret] at h; cases h) hlk (fun fs hr => retN X0 hx (t := .byte) hret (by simp) (hb hby d6_8) hr) (show ((fun (v : Option Value) (h : Heap) (L : List Loc) => Q6 Z ob kb ln bs cs n cd h0 n0 v h L)) (some (.int (nar .byte ((XT.ushr ((Int32.ofNat n) - (Int32.ofNat ln)) (31 : Int32)).toInt8.toInt32)))) h0 _ from ⟨(own_cod hc hn hn1 henc), N0, rfl⟩) (by decide) (by decide)
theorem ef_6 (m : MethodId) (ob : Addr) (n : Nat) : entryFrame m #[(.ref ob), (.int (Int32.ofNat n))] 2 = mkF m 0 #[vr ob, vi (Int32.ofNat n)] [] := by first | (simp [entryFrame, mkF, argsToLocals, Value.category, maxLocals]; done) | rfl
theorem rm6 (l : Launch) (Z : State) (a0 : Array Value) (hw : ∀ d ∈ tables_1, d.before a0 Z = true) (ws : List Jvm.Cond) (ob : Addr) (kb : ClassId) (ln : Nat) (bs : List Int32) (cs : List Int32) (n : Nat) (cd : Int32) (h0 : Heap) (n0 : Nat) (Z0 : n0 ≤ h0.size) (VB : Arv Z h0 ob kb .byte (Int32.ofNat ln) (own_iv bs) (.int (0 : Int32))) (hc : cs.length = n) (hn : n ≤ 4) (hn1 : 1 ≤ n) (henc : own_enc cs cd ln bs) :
    MetFree l (⟨"java/lang/StringUTF16", "coderFromArrayLen", "([BI)B"⟩ : MethodName) (head1 (Jvm.Cond.code (⟨"java/lang/StringUTF16", "coderFromArrayLen", "([BI)B"⟩ : MethodName) jdk_52_method_15_code 2 (some .byte) :: ws) ({ frames := 0, cells := 0, slots := 0, locals := 0 } : Room)) (fun a U => a = #[(.ref ob), (.int (Int32.ofNat n))] ∧ Z.Warmed39 U.vm ∧ U.heap = h0) (fun _ _ _ _ _ => True) (fun _ U o U' => ∃ v L, o = .returned v ∧ Q6 Z ob kb ln bs cs n cd h0 n0 v U'.heap L ∧ FrameEnd U o U' L ({ frames := 0, cells := 0, slots := 0, locals := 0 } : Room).cells ({ frames := 0, cells := 0, slots := 0, locals := 0 } : Room).slots) := by
  refine MetFree.of_bodySF (plainFor_of_name pn_0) hisR ?_
  intro p e s m args below meth c s₁ Bd hml0 hP hK
  obtain ⟨rfl, hZ, hh⟩ := hP
  have e0 : s₁.heap = h0 := by rw [← hh, Bd.state]; rfl
  rw [ef_6 m ob n]
  exact b6 ob kb ln bs cs n cd ⟨Bd.exec, hZ, hw, Bd.bytes, hml0, findClass_of_methodNamed Bd.named, Bd.returns, Bd.notSynchronized, (name_of_methodNamed Bd.named Bd.method).1⟩ (Stand.of_body Bd) e0 Z0 (Fr.nil n0) VB hc hn hn1 henc
def Q2 (Z : State) (o1 : Addr) (oa : Addr) (ka : ClassId) (n : Nat) (cs : List Int32) (cps : Int32) (u1 : Value) (u2 : Int32) (h0 : Heap) (n0 : Nat) (v : Option Value) (h : Heap) (L : List Loc) : Prop := ∃ bz : Addr, ∃ kz : ClassId, ∃ cd : Int32, ∃ ln : Nat, ∃ bs : List Int32, v = none ∧ Fr n0 L ∧ Keep h0 h [o1] ∧ h0.size ≤ bz ∧ own_enc cs cd ln bs ∧ Exa Z h o1 "java/lang/String" ∧ Fld Z h o1 "java/lang/String" "value" "[B" (.ref bz) ∧ Fld Z h o1 "java/lang/String" "coder" "B" (.int cd) ∧ Arv Z h bz kz .byte (Int32.ofNat ln) (own_iv bs) (.int (0 : Int32))
theorem d2_0 : dq cb9 0 (.aload_n 0) 1 := by decide +kernel
theorem d2_1 : dq cb9 1 (.invokespecial 1) 3 := by decide +kernel
theorem d2_4 : dq cb9 4 (.iload_n 3) 1 := by decide +kernel
theorem d2_5 : dq cb9 5 (.ifCond .ne 22) 3 := by decide +kernel
theorem d2_27 : dq cb9 27 (.getstatic 38) 3 := by decide +kernel
theorem d2_30 : dq cb9 30 (.ifCond .eq 28) 3 := by decide +kernel
theorem d2_33 : dq cb9 33 (.aload_n 1) 1 := by decide +kernel
theorem d2_34 : dq cb9 34 (.iload_n 2) 1 := by decide +kernel
theorem d2_35 : dq cb9 35 (.iload_n 3) 1 := by decide +kernel
theorem d2_36 : dq cb9 36 (.invokestatic 177) 3 := by decide +kernel
theorem d2_39 : dq cb9 39 (.astore 5) 2 := by decide +kernel
theorem d2_41 : dq cb9 41 (.aload_n 0) 1 := by decide +kernel
theorem d2_42 : dq cb9 42 (.aload 5) 2 := by decide +kernel
theorem d2_44 : dq cb9 44 (.iload_n 3) 1 := by decide +kernel
theorem d2_45 : dq cb9 45 (.invokestatic 47) 3 := by decide +kernel
theorem pd_6 : parseMethodDescriptor "([BI)B" = some ⟨[(.array .byte), .int], some .byte⟩ := by decide +kernel
theorem d2_48 : dq cb9 48 (.putfield 15) 3 := by decide +kernel
theorem d2_51 : dq cb9 51 (.aload_n 0) 1 := by decide +kernel
theorem d2_52 : dq cb9 52 (.aload 5) 2 := by decide +kernel
theorem d2_54 : dq cb9 54 (.putfield 9) 3 := by decide +kernel
theorem d2_57 : dq cb9 57 .return_ 1 := by decide +kernel
theorem b2  (o1 : Addr) (oa : Addr) (ka : ClassId) (n : Nat) (cs : List Int32) (cps : Int32) (u1 : Value) (u2 : Int32)
    (C : own_C p s m meth c Z a0 jdk_42_method_149_code 6 "java/lang/String" none "<init>") (X0 : Stand p l e ({ frames := 4, cells := 2, slots := 12, locals := 57 } : Room) s m args below meth c T0 locs 0 0) (e0 : T0.heap = h0) (Z0 : n0 ≤ h0.size) (N0 : Fr n0 locs) (E1 : Exa Z h0 o1 "java/lang/String") (F1 : Fld Z h0 o1 "java/lang/String" "value" "[B" u1) (F2 : Fld Z h0 o1 "java/lang/String" "coder" "B" (.int u2)) (VA : Arv Z h0 oa ka .char (Int32.ofNat n) (own_iv cs) (.int (0 : Int32))) (SC : Sta Z h0 "java/lang/String" "COMPACT_STRINGS" "Z" (.int cps)) (SA : Sta Z h0 "java/lang/StringUTF16" "$assertionsDisabled" "Z" (.int (1 : Int32))) (SH : Sta Z h0 "java/lang/StringUTF16" "HI_BYTE_SHIFT" "I" (.int (0 : Int32))) (SL : Sta Z h0 "java/lang/StringUTF16" "LO_BYTE_SHIFT" "I" (.int (8 : Int32))) (g_o1 : n0 ≤ o1) (hc : cs.length = n) (hn : n ≤ 4) (hn1 : 1 ≤ n) (hch : ∀ j, j < n → own_ch (cs.getD j 0)) (hcp : ¬ cps = 0) (ne_oa : o1 ≠ oa) :
    own_Go p.tables e below (T0.setTop (mkF m 0 #[vr o1, vr oa, vi (0 : Int32), vi (Int32.ofNat n), .val .null, .unset] [])) (own_K s (fun (v : Option Value) (h : Heap) (L : List Loc) => Q2 Z o1 oa ka n cs cps u1 u2 h0 n0 v h L) ({ frames := 4, cells := 2, slots := 12, locals := 57 } : Room).cells ({ frames := 4, cells := 2, slots := 12, locals := 57 } : Room).slots) := by
  obtain ⟨hx, hZ, hw, hby, hml, hown, hret, hlk, hnm⟩ := C
  refine vs T0 1 [(.ref o1)] (fun t k => XS.aloadN X0.here hx rfl (hb hby d2_0) rfl rfl k) ?_
  obtain ⟨T1, X1, e1, st1⟩ := initO X0 hx hZ hown (ww hw 11 rfl) (ww hw 12 rfl) (ww hw 13 rfl) e0 (g := (mkF m 1 #[vr o1, vr oa, vi (0 : Int32), vi (Int32.ofNat n), .val .null, .unset] [(.ref o1)])) rfl (by rw [hml]; rfl) rfl (hb hby d2_1) (by decide) (W := 0) (by show 2 * 0 + _ ≤ _; exact Nat.le_of_eq rfl) (by decide)
  refine vs T1 4 [] (fun t k => st1 t k) ?_
  refine vs T1 5 [(.int (Int32.ofNat n))] (fun t k => XS.iloadN X1.here hx rfl (hb hby d2_4) rfl k) ?_
  have hc2_5 : ¬ ((Int32.ofNat n) = (0 : Int32)) := own_n0 hn1 hn
  refine vs T1 27 [] (fun t k => XS.ifYes X1.here hx rfl (pc0 := 5) (pc' := 27) rfl (hb hby d2_5) rfl (XT.i0_ne_t hc2_5) (by decide) (by decide) k) ?_
  obtain ⟨T3, X3, e3, st3⟩ := getS2 X1 hx hZ hown (host := "") (Or.inl (ww hw 14 rfl)) Via.refl e1 SC (g := (mkF m 27 #[vr o1, vr oa, vi (0 : Int32), vi (Int32.ofNat n), .val .null, .unset] [])) rfl (hb hby d2_27)
  refine vs T3 30 [(.int cps)] (fun t k => st3 t k) ?_
  have hc4_30 : ¬ (cps = (0 : Int32)) := hcp
  refine vs T3 33 [] (fun t k => XS.ifNo X3.here hx rfl (hb hby d2_30) rfl (XT.i0_eq_f hc4_30) k) ?_
  refine vs T3 34 [(.ref oa)] (fun t k => XS.aloadN X3.here hx rfl (hb hby d2_33) rfl rfl k) ?_
  refine vs T3 35 [(.int (0 : Int32)), (.ref oa)] (fun t k => XS.iloadN X3.here hx rfl (hb hby d2_34) rfl k) ?_
  refine vs T3 36 [(.int (Int32.ofNat n)), (.int (0 : Int32)), (.ref oa)] (fun t k => XS.iloadN X3.here hx rfl (hb hby d2_35) rfl k) ?_
  obtain ⟨_, _, ⟨T5, L5, k5, n5⟩, -, X5, ⟨Lc5, hQ5, l5, y5, z5⟩, st5⟩ := Jvm.LawKit.callS X3 hx (y := (⟨"java/lang/StringUTF16", "compress", "([CII)[B"⟩ : MethodName)) hown (mvT hZ (ww hw 15 rfl)) (mvT hZ (ww hw 16 rfl)) (mvT hZ (ww hw 17 rfl)) (mvT hZ (ww hw 18 rfl)) (by decide) (backOf (W := 0) (rm4 l Z a0 hw [] oa ka n cs h0 n0 Z0 VA SA SH SL hc hn hn1 hch) hZ (ww hw 18 rfl) (ww hw 17 rfl) (by decide) (by decide)) (g := (mkF m 36 #[vr o1, vr oa, vi (0 : Int32), vi (Int32.ofNat n), .val .null, .unset] [(.int (Int32.ofNat n)), (.int (0 : Int32)), (.ref oa)])) rfl (by rw [hml]; rfl) (argsL := [(.ref oa), (.int (0 : Int32)), (.int (Int32.ofNat n))]) (rest := []) (lenOf pd_4 rfl) rfl (by show 2 * 0 + _ ≤ _; exact Nat.le_of_eq rfl) (hb hby d2_36) (fun _ _ => ⟨rfl, e3, (by decide : 0 + 2 ≤ _), (by decide : 0 + 12 ≤ _)⟩)
  dsimp only [Pt.U, Pt.locs, Pt.cells, Pt.slots] at X5 l5 y5 z5 st5 hQ5
  subst l5 y5 z5
  obtain ⟨bz_5, kz_5, cd_5, ln_5, bs_5, rfl, Nq5, K5q, fz_bz_5, ex0_5, P0_5⟩ := hQ5
  have N5 := Fr.app N0 Nq5
  have E1'5 := E1.keep K5q
  have F1'5 := F1.keep K5q nin0
  have F2'5 := F2.keep K5q nin0
  have VA'5 := VA.keep K5q nin0
  have SC'5 := own_stakeep SC K5q all0
  have SA'5 := own_stakeep SA K5q all0
  have SH'5 := own_stakeep SH K5q all0
  have SL'5 := own_stakeep SL K5q all0
  have K5 := ((Keep.refl h0 [o1])).trans K5q all0
  have g_bz_5 : n0 ≤ bz_5 := Nat.le_trans Z0 fz_bz_5
  have sz_bz_5 : h0.size ≤ bz_5 := Nat.le_trans ((Keep.refl h0 [o1])).1 fz_bz_5
  have ne_o1_bz_5 : o1 ≠ bz_5 := Nat.ne_of_lt (Nat.lt_of_lt_of_le E1.lt fz_bz_5)
  have ne_oa_bz_5 : oa ≠ bz_5 := Nat.ne_of_lt (Nat.lt_of_lt_of_le VA.lt fz_bz_5)
  have Z5 : n0 ≤ T5.heap.size := Nat.le_trans Z0 K5q.1
  refine vs T5 39 [(.ref bz_5)] (fun t k => st5 t k) ?_
  refine vv T5 m 41 #[vr o1, vr oa, vi (0 : Int32), vi (Int32.ofNat n), .val .null, vr bz_5] [] (fun t k => XS.astore X5.here hx rfl (hb hby d2_39) rfl rfl (l' := #[vr o1, vr oa, vi (0 : Int32), vi (Int32.ofNat n), .val .null, vr bz_5]) rfl k) ?_
  refine vs T5 42 [(.ref o1)] (fun t k => XS.aloadN X5.here hx rfl (hb hby d2_41) rfl rfl k) ?_
  refine vs T5 44 [(.ref bz_5), (.ref o1)] (fun t k => XS.aload X5.here hx rfl (hb hby d2_42) rfl rfl k) ?_
  refine vs T5 45 [(.int (Int32.ofNat n)), (.ref bz_5), (.ref o1)] (fun t k => XS.iloadN X5.here hx rfl (hb hby d2_44) rfl k) ?_
  obtain ⟨_, _, ⟨T6, L6, k6, n6⟩, -, X6, ⟨Lc6, hQ6, l6, y6, z6⟩, st6⟩ := Jvm.LawKit.callS X5 hx (y := (⟨"java/lang/StringUTF16", "coderFromArrayLen", "([BI)B"⟩ : MethodName)) hown (mvT hZ (ww hw 23 rfl)) (mvT hZ (ww hw 24 rfl)) (mvT hZ (ww hw 17 rfl)) (mvT hZ (ww hw 25 rfl)) (by decide) (backOf (W := 1) (rm6 l Z a0 hw [] bz_5 kz_5 ln_5 bs_5 cs n cd_5 T5.heap n0 Z5 P0_5 hc hn hn1 ex0_5) hZ (ww hw 25 rfl) (ww hw 17 rfl) (by decide) (by decide)) (g := (mkF m 45 #[vr o1, vr oa, vi (0 : Int32), vi (Int32.ofNat n), .val .null, vr bz_5] [(.int (Int32.ofNat n)), (.ref bz_5), (.ref o1)])) rfl (by rw [hml]; rfl) (argsL := [(.ref bz_5), (.int (Int32.ofNat n))]) (rest := [(.ref o1)]) (lenOf pd_6 rfl) rfl (by show 2 * 0 + _ ≤ _; exact Nat.le_of_eq rfl) (hb hby d2_45) (fun _ _ => ⟨rfl, rfl, (by decide : (0 + 2) + 0 ≤ _), (by decide : (0 + 12) + 0 ≤ _)⟩)
  dsimp only [Pt.U, Pt.locs, Pt.cells, Pt.slots] at X6 l6 y6 z6 st6 hQ6
  subst l6 y6 z6
  obtain ⟨rfl, Nq6, eh6⟩ := hQ6
  have N6 := Fr.app N5 Nq6
  refine vs T6 48 [(.int cd_5), (.ref o1)] (fun t k => st6 t k) ?_
  obtain ⟨T7, h7, X7, e7, W7, st7⟩ := putFN X6 hx hZ hown (ww hw 26 rfl) Via.refl eh6 F2'5 E1'5 (Or.inr ⟨(ww hw 27 rfl), rfl, hnm⟩) (ww hw 2 rfl) (ty := .byte) (v' := (.int (nar .byte cd_5))) (by decide) rfl (fits_nar_byte _) (g := (mkF m 48 #[vr o1, vr oa, vi (0 : Int32), vi (Int32.ofNat n), .val .null, vr bz_5] [(.int cd_5), (.ref o1)])) rfl rfl (hb hby d2_48)
  have F2'7 := F2'5.same W7
  have E1'7 := E1'5.wr W7
  have F1'7 := F1'5.other W7 (Or.inr (slot_ne (Or.inr (ww hw 29 rfl)) (Or.inr (ww hw 27 rfl)) (by decide) (t := (.array .byte)) (t' := .byte) (by decide) (by decide)))
  have VA'7 := VA'5.other W7 (Ne.symm ne_oa)
  have SC'7 := SC'5.wr W7
  have SA'7 := SA'5.wr W7
  have SH'7 := SH'5.wr W7
  have SL'7 := SL'5.wr W7
  have P0_5'7 := P0_5.other W7 (Ne.symm ne_o1_bz_5)
  have N7 := Fr.snoc X7 N6 g_o1
  have Z7 : n0 ≤ h7.size := Nat.le_trans Z5 (Keep.of_wr W7).1
  have K7 := (K5).wr W7 (Or.inl (List.mem_of_getElem? (i := 0) rfl))
  refine vs T7 51 [] (fun t k => st7 t k) ?_
  refine vs T7 52 [(.ref o1)] (fun t k => XS.aloadN X7.here hx rfl (hb hby d2_51) rfl rfl k) ?_
  refine vs T7 54 [(.ref bz_5), (.ref o1)] (fun t k => XS.aload X7.here hx rfl (hb hby d2_52) rfl rfl k) ?_
  obtain ⟨T8, h8, X8, e8, W8, st8⟩ := putF X7 hx hZ hown (host := "") (Or.inl (ww hw 28 rfl)) Via.refl e7 F1'7 E1'7 (Or.inr ⟨(ww hw 29 rfl), rfl, hnm⟩) (ww hw 2 rfl) (ty := (.array .byte)) (by decide) rfl rfl (g := (mkF m 54 #[vr o1, vr oa, vi (0 : Int32), vi (Int32.ofNat n), .val .null, vr bz_5] [(.ref bz_5), (.ref o1)])) rfl rfl (hb hby d2_54)
  have F1'8 := F1'7.same W8
  have E1'8 := E1'7.wr W8
  have F2'8 := F2'7.other W8 (Or.inr (slot_ne (Or.inr (ww hw 27 rfl)) (Or.inr (ww hw 29 rfl)) (by decide) (t := .byte) (t' := (.array .byte)) (by decide) (by decide)))
  have VA'8 := VA'7.other W8 (Ne.symm ne_oa)
  have SC'8 := SC'7.wr W8
  have SA'8 := SA'7.wr W8
  have SH'8 := SH'7.wr W8
  have SL'8 := SL'7.wr W8
  have P0_5'8 := P0_5'7.other W8 (Ne.symm ne_o1_bz_5)
  have N8 := Fr.snoc X8 N7 g_o1
  have Z8 : n0 ≤ h8.size := Nat.le_trans Z7 (Keep.of_wr W8).1
  have K8 := (K7).wr W8 (Or.inl (List.mem_of_getElem? (i := 0) rfl))
  refine vs T8 57 [] (fun t k => st8 t k) ?_
  exact own_fin X8 e8 (v := none) (fun _ => rfl) hlk (fun fs hr => X8.returnOut hx hret (hb hby d2_57) hr) (show ((fun (v : Option Value) (h : Heap) (L : List Loc) => Q2 Z o1 oa ka n cs cps u1 u2 h0 n0 v h L)) none h8 _ from ⟨bz_5, kz_5, cd_5, ln_5, bs_5, rfl, N8, K8, sz_bz_5, ex0_5, (E1'8), (F1'8), (by have z := F2'8; rw [own_nb (own_cdb ex0_5)] at z; exact z), (P0_5'8)⟩) (by decide) (by decide)
theorem pn_1 : plainName "java/lang/String" = true := by first | (simp [plainName, overriddenIn]; done) | decide +kernel
theorem ef_2 (m : MethodId) (o1 : Addr) (oa : Addr) (n : Nat) : entryFrame m #[(.ref o1), (.ref oa), (.int (0 : Int32)), (.int (Int32.ofNat n)), .null] 6 = mkF m 0 #[vr o1, vr oa, vi (0 : Int32), vi (Int32.ofNat n), .val .null, .unset] [] := by first | (simp [entryFrame, mkF, argsToLocals, Value.category, maxLocals]; done) | rfl
theorem rm2 (l : Launch) (Z : State) (a0 : Array Value) (hw : ∀ d ∈ tables_1, d.before a0 Z = true) (ws : List Jvm.Cond) (o1 : Addr) (oa : Addr) (ka : ClassId) (n : Nat) (cs : List Int32) (cps : Int32) (u1 : Value) (u2 : Int32) (h0 : Heap) (n0 : Nat) (Z0 : n0 ≤ h0.size) (E1 : Exa Z h0 o1 "java/lang/String") (F1 : Fld Z h0 o1 "java/lang/String" "value" "[B" u1) (F2 : Fld Z h0 o1 "java/lang/String" "coder" "B" (.int u2)) (VA : Arv Z h0 oa ka .char (Int32.ofNat n) (own_iv cs) (.int (0 : Int32))) (SC : Sta Z h0 "java/lang/String" "COMPACT_STRINGS" "Z" (.int cps)) (SA : Sta Z h0 "java/lang/StringUTF16" "$assertionsDisabled" "Z" (.int (1 : Int32))) (SH : Sta Z h0 "java/lang/StringUTF16" "HI_BYTE_SHIFT" "I" (.int (0 : Int32))) (SL : Sta Z h0 "java/lang/StringUTF16" "LO_BYTE_SHIFT" "I" (.int (8 : Int32))) (g_o1 : n0 ≤ o1) (hc : cs.length = n) (hn : n ≤ 4) (hn1 : 1 ≤ n) (hch : ∀ j, j < n → own_ch (cs.getD j 0)) (hcp : ¬ cps = 0) (ne_oa : o1 ≠ oa) :
    MetFree l (⟨"java/lang/String", "<init>", "([CIILjava/lang/Void;)V"⟩ : MethodName) (head1 (Jvm.Cond.code (⟨"java/lang/String", "<init>", "([CIILjava/lang/Void;)V"⟩ : MethodName) jdk_42_method_149_code 6 none :: ws) ({ frames := 4, cells := 2, slots := 12, locals := 57 } : Room)) (fun a U => a = #[(.ref o1), (.ref oa), (.int (0 : Int32)), (.int (Int32.ofNat n)), .null] ∧ Z.Warmed39 U.vm ∧ U.heap = h0) (fun _ _ _ _ _ => True) (fun _ U o U' => ∃ v L, o = .returned v ∧ Q2 Z o1 oa ka n cs cps u1 u2 h0 n0 v U'.heap L ∧ FrameEnd U o U' L ({ frames := 4, cells := 2, slots := 12, locals := 57 } : Room).cells ({ frames := 4, cells := 2, slots := 12, locals := 57 } : Room).slots) := by
  refine MetFree.of_bodySF (plainFor_of_name pn_1) hisR ?_
  intro p e s m args below meth c s₁ Bd hml0 hP hK
  obtain ⟨rfl, hZ, hh⟩ := hP
  have e0 : s₁.heap = h0 := by rw [← hh, Bd.state]; rfl
  rw [ef_2 m o1 oa n]
  exact b2 o1 oa ka n cs cps u1 u2 ⟨Bd.exec, hZ, hw, Bd.bytes, hml0, findClass_of_methodNamed Bd.named, Bd.returns, Bd.notSynchronized, (name_of_methodNamed Bd.named Bd.method).1⟩ (Stand.of_body Bd) e0 Z0 (Fr.nil n0) E1 F1 F2 VA SC SA SH SL g_o1 hc hn hn1 hch hcp ne_oa
def Q1 (Z : State) (o1 : Addr) (oa : Addr) (ka : ClassId) (n : Nat) (cs : List Int32) (cps : Int32) (u1 : Value) (u2 : Int32) (h0 : Heap) (n0 : Nat) (v : Option Value) (h : Heap) (L : List Loc) : Prop := ∃ bz : Addr, ∃ kz : ClassId, ∃ cd : Int32, ∃ ln : Nat, ∃ bs : List Int32, v = none ∧ Fr n0 L ∧ Keep h0 h [o1] ∧ h0.size ≤ bz ∧ own_enc cs cd ln bs ∧ Exa Z h o1 "java/lang/String" ∧ Fld Z h o1 "java/lang/String" "value" "[B" (.ref bz) ∧ Fld Z h o1 "java/lang/String" "coder" "B" (.int cd) ∧ Arv Z h bz kz .byte (Int32.ofNat ln) (own_iv bs) (.int (0 : Int32))
theorem d1_0 : dq cb10 0 (.aload_n 0) 1 := by decide +kernel
theorem d1_1 : dq cb10 1 (.aload_n 1) 1 := by decide +kernel
theorem d1_2 : dq cb10 2 (.iconst 0) 1 := by decide +kernel
theorem d1_3 : dq cb10 3 (.aload_n 1) 1 := by decide +kernel
theorem d1_4 : dq cb10 4 .arraylength 1 := by decide +kernel
theorem d1_5 : dq cb10 5 .aconst_null 1 := by decide +kernel
theorem d1_6 : dq cb10 6 (.invokespecial 27) 3 := by decide +kernel
theorem pd_7 : parseMethodDescriptor "([CIILjava/lang/Void;)V" = some ⟨[(.array .char), .int, .int, (.object "java/lang/Void")], none⟩ := by decide +kernel
theorem d1_9 : dq cb10 9 .return_ 1 := by decide +kernel
theorem b1  (o1 : Addr) (oa : Addr) (ka : ClassId) (n : Nat) (cs : List Int32) (cps : Int32) (u1 : Value) (u2 : Int32)
    (C : own_C p s m meth c Z a0 jdk_42_method_3_code 2 "java/lang/String" none "<init>") (X0 : Stand p l e ({ frames := 5, cells := 2, slots := 12, locals := 74 } : Room) s m args below meth c T0 locs 0 0) (e0 : T0.heap = h0) (Z0 : n0 ≤ h0.size) (N0 : Fr n0 locs) (E1 : Exa Z h0 o1 "java/lang/String") (F1 : Fld Z h0 o1 "java/lang/String" "value" "[B" u1) (F2 : Fld Z h0 o1 "java/lang/String" "coder" "B" (.int u2)) (VA : Arv Z h0 oa ka .char (Int32.ofNat n) (own_iv cs) (.int (0 : Int32))) (SC : Sta Z h0 "java/lang/String" "COMPACT_STRINGS" "Z" (.int cps)) (SA : Sta Z h0 "java/lang/StringUTF16" "$assertionsDisabled" "Z" (.int (1 : Int32))) (SH : Sta Z h0 "java/lang/StringUTF16" "HI_BYTE_SHIFT" "I" (.int (0 : Int32))) (SL : Sta Z h0 "java/lang/StringUTF16" "LO_BYTE_SHIFT" "I" (.int (8 : Int32))) (g_o1 : n0 ≤ o1) (hc : cs.length = n) (hn : n ≤ 4) (hn1 : 1 ≤ n) (hch : ∀ j, j < n → own_ch (cs.getD j 0)) (hcp : ¬ cps = 0) (ne_oa : o1 ≠ oa) :
    own_Go p.tables e below (T0.setTop (mkF m 0 #[vr o1, vr oa] [])) (own_K s (fun (v : Option Value) (h : Heap) (L : List Loc) => Q1 Z o1 oa ka n cs cps u1 u2 h0 n0 v h L) ({ frames := 5, cells := 2, slots := 12, locals := 74 } : Room).cells ({ frames := 5, cells := 2, slots := 12, locals := 74 } : Room).slots) := by
  obtain ⟨hx, hZ, hw, hby, hml, hown, hret, hlk, hnm⟩ := C
  refine vs T0 1 [(.ref o1)] (fun t k => XS.aloadN X0.here hx rfl (hb hby d1_0) rfl rfl k) ?_
  refine vs T0 2 [(.ref oa), (.ref o1)] (fun t k => XS.aloadN X0.here hx rfl (hb hby d1_1) rfl rfl k) ?_
  refine vs T0 3 [(.int (0 : Int32)), (.ref oa), (.ref o1)] (fun t k => XS.iconst X0.here hx rfl (hb hby d1_2) k) ?_
  refine vs T0 4 [(.ref oa), (.int (0 : Int32)), (.ref oa), (.ref o1)] (fun t k => XS.aloadN X0.here hx rfl (hb hby d1_3) rfl rfl k) ?_
  obtain ⟨cl1, Ar1, -, S1, NN1, -, -⟩ := id VA
  refine vs T0 5 [(.int (Int32.ofNat n)), (.int (0 : Int32)), (.ref oa), (.ref o1)] (fun t k => own_len X0 hx hZ e0 Ar1 S1 NN1 (g := (mkF m 4 #[vr o1, vr oa] [(.ref oa), (.int (0 : Int32)), (.ref oa), (.ref o1)])) rfl rfl (hb hby d1_4) k) ?_
  refine vs T0 6 [.null, (.int (Int32.ofNat n)), (.int (0 : Int32)), (.ref oa), (.ref o1)] (fun t k => XS.aconstNull X0.here hx rfl (hb hby d1_5) k) ?_
  obtain ⟨_, _, ⟨T2, L2, k2, n2⟩, -, X2, ⟨Lc2, hQ2, l2, y2, z2⟩, st2⟩ := X0.specialBack hx (y := (⟨"java/lang/String", "<init>", "([CIILjava/lang/Void;)V"⟩ : MethodName)) rfl hown (mvT hZ (ww hw 7 rfl)) (mvT hZ (ww hw 8 rfl)) (mvT hZ (ww hw 10 rfl)) (by decide) (backOf (W := 0) (rm2 l Z a0 hw [] o1 oa ka n cs cps u1 u2 h0 n0 Z0 E1 F1 F2 VA SC SA SH SL g_o1 hc hn hn1 hch hcp ne_oa) hZ (ww hw 10 rfl) (ww hw 3 rfl) (by decide) (by decide)) (g := (mkF m 6 #[vr o1, vr oa] [.null, (.int (Int32.ofNat n)), (.int (0 : Int32)), (.ref oa), (.ref o1)])) rfl (by rw [hml]; rfl) (Steps.refl _) (a := o1) (argsL := [(.ref oa), (.int (0 : Int32)), (.int (Int32.ofNat n)), .null]) (rest := []) (lenOf pd_7 rfl) rfl (by show 2 * 0 + _ ≤ _; exact Nat.le_of_eq rfl) (hb hby d1_6) (fun _ _ => ⟨rfl, e0, (by decide : 0 + 2 ≤ _), (by decide : 0 + 12 ≤ _)⟩)
  dsimp only [Pt.U, Pt.locs, Pt.cells, Pt.slots] at X2 l2 y2 z2 st2 hQ2
  subst l2 y2 z2
  obtain ⟨bz_2, kz_2, cd_2, ln_2, bs_2, rfl, Nq2, K2q, fz_bz_2, ex0_2, P0_2, P1_2, P2_2, P3_2⟩ := hQ2
  have N2 := Fr.app N0 Nq2
  have E1'2 := E1.keep K2q
  have VA'2 := VA.keep K2q (ninS (Ne.symm ne_oa) nin0)
  have SC'2 := own_stakeep SC K2q (allS (own_objE E1) all0)
  have SA'2 := own_stakeep SA K2q (allS (own_objE E1) all0)
  have SH'2 := own_stakeep SH K2q (allS (own_objE E1) all0)
  have SL'2 := own_stakeep SL K2q (allS (own_objE E1) all0)
  have K2 := ((Keep.refl h0 [o1])).trans K2q (allS (Or.inl (List.mem_of_getElem? (i := 0) rfl)) all0)
  have g_bz_2 : n0 ≤ bz_2 := Nat.le_trans Z0 fz_bz_2
  have sz_bz_2 : h0.size ≤ bz_2 := Nat.le_trans ((Keep.refl h0 [o1])).1 fz_bz_2
  have ne_o1_bz_2 : o1 ≠ bz_2 := Nat.ne_of_lt (Nat.lt_of_lt_of_le E1.lt fz_bz_2)
  have ne_oa_bz_2 : oa ≠ bz_2 := Nat.ne_of_lt (Nat.lt_of_lt_of_le VA.lt fz_bz_2)
  have Z2 : n0 ≤ T2.heap.size := Nat.le_trans Z0 K2q.1
  refine vs T2 9 [] (fun t k => st2.trans k) ?_
  exact own_fin X2 rfl (v := none) (fun _ => rfl) hlk (fun fs hr => X2.returnOut hx hret (hb hby d1_9) hr) (show ((fun (v : Option Value) (h : Heap) (L : List Loc) => Q1 Z o1 oa ka n cs cps u1 u2 h0 n0 v h L)) none T2.heap _ from ⟨bz_2, kz_2, cd_2, ln_2, bs_2, rfl, N2, K2, sz_bz_2, ex0_2, (P0_2), (P1_2), (P2_2), (P3_2)⟩) (by decide) (by decide)
theorem ef_1 (m : MethodId) (o1 : Addr) (oa : Addr) : entryFrame m #[(.ref o1), (.ref oa)] 2 = mkF m 0 #[vr o1, vr oa] [] := by first | (simp [entryFrame, mkF, argsToLocals, Value.category, maxLocals]; done) | rfl
theorem rm1 (l : Launch) (Z : State) (a0 : Array Value) (hw : ∀ d ∈ tables_1, d.before a0 Z = true) (ws : List Jvm.Cond) (o1 : Addr) (oa : Addr) (ka : ClassId) (n : Nat) (cs : List Int32) (cps : Int32) (u1 : Value) (u2 : Int32) (h0 : Heap) (n0 : Nat) (Z0 : n0 ≤ h0.size) (E1 : Exa Z h0 o1 "java/lang/String") (F1 : Fld Z h0 o1 "java/lang/String" "value" "[B" u1) (F2 : Fld Z h0 o1 "java/lang/String" "coder" "B" (.int u2)) (VA : Arv Z h0 oa ka .char (Int32.ofNat n) (own_iv cs) (.int (0 : Int32))) (SC : Sta Z h0 "java/lang/String" "COMPACT_STRINGS" "Z" (.int cps)) (SA : Sta Z h0 "java/lang/StringUTF16" "$assertionsDisabled" "Z" (.int (1 : Int32))) (SH : Sta Z h0 "java/lang/StringUTF16" "HI_BYTE_SHIFT" "I" (.int (0 : Int32))) (SL : Sta Z h0 "java/lang/StringUTF16" "LO_BYTE_SHIFT" "I" (.int (8 : Int32))) (g_o1 : n0 ≤ o1) (hc : cs.length = n) (hn : n ≤ 4) (hn1 : 1 ≤ n) (hch : ∀ j, j < n → own_ch (cs.getD j 0)) (hcp : ¬ cps = 0) (ne_oa : o1 ≠ oa) :
    MetFree l (⟨"java/lang/String", "<init>", "([C)V"⟩ : MethodName) (head1 (Jvm.Cond.code (⟨"java/lang/String", "<init>", "([C)V"⟩ : MethodName) jdk_42_method_3_code 2 none :: ws) ({ frames := 5, cells := 2, slots := 12, locals := 74 } : Room)) (fun a U => a = #[(.ref o1), (.ref oa)] ∧ Z.Warmed39 U.vm ∧ U.heap = h0) (fun _ _ _ _ _ => True) (fun _ U o U' => ∃ v L, o = .returned v ∧ Q1 Z o1 oa ka n cs cps u1 u2 h0 n0 v U'.heap L ∧ FrameEnd U o U' L ({ frames := 5, cells := 2, slots := 12, locals := 74 } : Room).cells ({ frames := 5, cells := 2, slots := 12, locals := 74 } : Room).slots) := by
  refine MetFree.of_bodySF (plainFor_of_name pn_1) hisR ?_
  intro p e s m args below meth c s₁ Bd hml0 hP hK
  obtain ⟨rfl, hZ, hh⟩ := hP
  have e0 : s₁.heap = h0 := by rw [← hh, Bd.state]; rfl
  rw [ef_1 m o1 oa]
  exact b1 o1 oa ka n cs cps u1 u2 ⟨Bd.exec, hZ, hw, Bd.bytes, hml0, findClass_of_methodNamed Bd.named, Bd.returns, Bd.notSynchronized, (name_of_methodNamed Bd.named Bd.method).1⟩ (Stand.of_body Bd) e0 Z0 (Fr.nil n0) E1 F1 F2 VA SC SA SH SL g_o1 hc hn hn1 hch hcp ne_oa
/-- a stretch of the chars -/
def own_sl (cs : List Int32) (f m : Nat) : List Int32 := (List.range m).map fun j => cs.getD (f + j) 0
def own_sls (cs : List Int32) (f : Nat) : Nat → List Int32 → List Int32
  | 0, ds => ds
  | i + 1, ds => (own_sls cs f i ds).set i (cs.getD (f + i) 0)
theorem own_slslen (cs : List Int32) (f i : Nat) (ds : List Int32) : (own_sls cs f i ds).length = ds.length := by
  induction i with
  | zero => rfl
  | succ i ih => show ((own_sls cs f i ds).set _ _).length = _; rw [List.length_set, ih]
theorem own_slsall (cs : List Int32) (f m : Nat) (h : m ≤ 4) : own_sls cs f m (List.replicate m 0) = own_sl cs f m := by
  have : m = 0 ∨ m = 1 ∨ m = 2 ∨ m = 3 ∨ m = 4 := by omega
  rcases this with rfl | rfl | rfl | rfl | rfl <;> rfl
theorem own_sllen (cs : List Int32) (f m : Nat) : (own_sl cs f m).length = m := by unfold own_sl; simp
theorem own_slget (cs : List Int32) (f m i : Nat) (h : i < m) : (own_sl cs f m).getD i 0 = cs.getD (f + i) 0 := by
  unfold own_sl
  simp only [List.getD_eq_getElem?_getD, List.getElem?_map, List.getElem?_range h]
  rfl
theorem own_slfull (cs : List Int32) (h : cs.length ≤ 4) : own_sl cs 0 cs.length = cs := by
  match cs, h with
  | [], _ => rfl
  | [a], _ => rfl
  | [a, b], _ => rfl
  | [a, b, c], _ => rfl
  | [a, b, c, d], _ => rfl
  | _ :: _ :: _ :: _ :: _ :: _, h => simp at h
/-- a latin byte, made a char again -/
theorem own_latch {x : Int32} (h : own_ch x) (h2 : ¬ (255 : Int32) < x) : nar .char ((own_lat x &&& (255 : Int32)).toUInt32.toUInt16.toUInt32.toInt32) = x := by
  have hx : x.toBitVec.toNat < 256 := by
    have h16 : x.toBitVec.toNat < 2 ^ 16 := by
      have e : (x.toUInt32.toUInt16.toUInt32.toInt32).toBitVec = x.toBitVec := congrArg Int32.toBitVec h
      have e2 : ((x.toBitVec.setWidth 16).setWidth 32).toNat = x.toBitVec.toNat := congrArg BitVec.toNat e
      rw [BitVec.toNat_setWidth, BitVec.toNat_setWidth] at e2
      have := Nat.mod_lt x.toBitVec.toNat (show 0 < 2 ^ 16 by decide)
      omega
    have e3 : x.toInt = (x.toBitVec.toNat : Int) := by
      have q : x.toInt = x.toBitVec.toInt := rfl
      rw [q, BitVec.toInt_eq_toNat_of_lt (by omega)]
    rw [Int32.lt_iff_toInt_lt, e3] at h2
    have k : (255 : Int32).toInt = 255 := rfl
    omega
  have hx2 : x = Int32.ofNat x.toBitVec.toNat := by
    apply Int32.toBitVec_inj.mp
    show x.toBitVec = BitVec.ofNat 32 x.toBitVec.toNat
    simp
  have all : ∀ n : Fin 256, nar .char ((own_lat (Int32.ofNat n.val) &&& (255 : Int32)).toUInt32.toUInt16.toUInt32.toInt32) = Int32.ofNat n.val := by decide +kernel
  have := all ⟨x.toBitVec.toNat, hx⟩
  rw [hx2]
  exact this
theorem own_mapget (cs : List Int32) (i : Nat) (h : i < cs.length) : (cs.map own_lat).getD i 0 = own_lat (cs.getD i 0) := by
  simp only [List.getD_eq_getElem?_getD, List.getElem?_map, List.getElem?_eq_getElem h]
  rfl
def own_encL2 (cs : List Int32) (ln : Nat) (bs : List Int32) : Prop := ln = cs.length ∧ bs = cs.map own_lat ∧ ∀ j, j < cs.length → ¬ (255 : Int32) < cs.getD j 0
theorem own_latat {cs bs : List Int32} {ln i : Nat} (h : own_encL2 cs ln bs) (hch : ∀ j, j < cs.length → own_ch (cs.getD j 0)) (hi : i < cs.length) : nar .char ((bs.getD i 0 &&& (255 : Int32)).toUInt32.toUInt16.toUInt32.toInt32) = cs.getD i 0 := by
  obtain ⟨-, rfl, q⟩ := h
  rw [own_mapget cs i hi]
  exact own_latch (hch i hi) (q i hi)
theorem own_utfat {cs : List Int32} {i : Nat} (hch : ∀ j, j < cs.length → own_ch (cs.getD j 0)) (hi : i < cs.length) : own_gch ((own_utf cs).getD (2 * i) 0) ((own_utf cs).getD (2 * i + 1) 0) = cs.getD i 0 := by
  obtain ⟨e1, e2⟩ := own_utfget cs i hi
  rw [e1, e2, own_gchlh (hch i hi)]
theorem own_nnch {x : Int32} (h : own_ch x) : nar .char x = x := h
theorem own_orn {a b c : Nat} (ha : a ≤ 50) (hb : b ≤ 50) (hc : c ≤ 50) : ¬ ((Int32.ofNat a ||| Int32.ofNat b) ||| Int32.ofNat c) < (0 : Int32) := by
  have nn : ∀ z : Nat, z ≤ 50 → (Int32.ofNat z).toBitVec.msb = false := by
    intro z hz
    have e : (Int32.ofNat z).toInt = (z : Int) := own_ti (by omega)
    have q : (Int32.ofNat z).toInt = (Int32.ofNat z).toBitVec.toInt := rfl
    rw [BitVec.msb_eq_toInt, ← q, e]
    exact decide_eq_false (by omega)
  have m : ((Int32.ofNat a ||| Int32.ofNat b) ||| Int32.ofNat c).toBitVec.msb = false := by
    rw [Int32.toBitVec_or, Int32.toBitVec_or, BitVec.msb_or, BitVec.msb_or, nn a ha, nn b hb, nn c hc]; rfl
  rw [BitVec.msb_eq_toInt] at m
  have m2 := of_decide_eq_false m
  rw [Int32.lt_iff_toInt_lt]
  exact m2
def own_il (cd : Int32) : Int32 := (if cd = (0 : Int32) then (1 : Int32) else (0 : Int32))
def Q9 (Z : State) (o1 : Addr) (cd : Int32) (cps : Int32) (h0 : Heap) (n0 : Nat) (v : Option Value) (h : Heap) (L : List Loc) : Prop := v = some (.int (own_il cd)) ∧ Fr n0 L ∧ h = h0
theorem d9_0 : dq cb11 0 (.getstatic 38) 3 := by decide +kernel
theorem d9_3 : dq cb11 3 (.ifCond .eq 14) 3 := by decide +kernel
theorem d9_6 : dq cb11 6 (.aload_n 0) 1 := by decide +kernel
theorem d9_7 : dq cb11 7 (.getfield 15) 3 := by decide +kernel
theorem d9_10 : dq cb11 10 (.ifCond .ne 7) 3 := by decide +kernel
theorem d9_13 : dq cb11 13 (.iconst 1) 1 := by decide +kernel
theorem d9_14 : dq cb11 14 (.goto 4) 3 := by decide +kernel
theorem d9_18 : dq cb11 18 .ireturn 1 := by decide +kernel
theorem d9_17 : dq cb11 17 (.iconst 0) 1 := by decide +kernel
theorem b9  (o1 : Addr) (cd : Int32) (cps : Int32)
    (C : own_C p s m meth c Z a0 jdk_42_method_154_code 1 "java/lang/String" (some .boolean) "isLatin1") (X0 : Stand p l e ({ frames := 0, cells := 0, slots := 0, locals := 0 } : Room) s m args below meth c T0 locs 0 0) (e0 : T0.heap = h0) (Z0 : n0 ≤ h0.size) (N0 : Fr n0 locs) (F2 : Fld Z h0 o1 "java/lang/String" "coder" "B" (.int cd)) (SC : Sta Z h0 "java/lang/String" "COMPACT_STRINGS" "Z" (.int cps)) (hcp : ¬ cps = 0) :
    own_Go p.tables e below (T0.setTop (mkF m 0 #[vr o1] [])) (own_K s (fun (v : Option Value) (h : Heap) (L : List Loc) => Q9 Z o1 cd cps h0 n0 v h L) ({ frames := 0, cells := 0, slots := 0, locals := 0 } : Room).cells ({ frames := 0, cells := 0, slots := 0, locals := 0 } : Room).slots) := by
  obtain ⟨hx, hZ, hw, hby, hml, hown, hret, hlk, hnm⟩ := C
  obtain ⟨T1, X1, e1, st1⟩ := getS2 X0 hx hZ hown (host := "") (Or.inl (ww hw 14 rfl)) Via.refl e0 SC (g := (mkF m 0 #[vr o1] [])) rfl (hb hby d9_0)
  refine vs T1 3 [(.int cps)] (fun t k => st1 t k) ?_
  have hc2_3 : ¬ (cps = (0 : Int32)) := hcp
  refine vs T1 6 [] (fun t k => XS.ifNo X1.here hx rfl (hb hby d9_3) rfl (XT.i0_eq_f hc2_3) k) ?_
  refine vs T1 7 [(.ref o1)] (fun t k => XS.aloadN X1.here hx rfl (hb hby d9_6) rfl rfl k) ?_
  obtain ⟨T3, X3, e3, st3⟩ := getF X1 hx hZ hown (host := "") (Or.inl (ww hw 26 rfl)) Via.refl e1 F2 (g := (mkF m 7 #[vr o1] [(.ref o1)])) rfl rfl (hb hby d9_7)
  refine vs T3 10 [(.int cd)] (fun t k => st3 t k) ?_
  by_cases hc4_10 : cd = (0 : Int32)
  · refine vs T3 13 [] (fun t k => XS.ifNo X3.here hx rfl (hb hby d9_10) rfl (XT.i0_ne_f hc4_10) k) ?_
    refine vs T3 14 [(.int (1 : Int32))] (fun t k => XS.iconst X3.here hx rfl (hb hby d9_13) k) ?_
    refine vs T3 18 [(.int (1 : Int32))] (fun t k => XS.goto X3.here hx rfl (pc0 := 14) (pc' := 18) rfl (hb hby d9_14) (by decide) (by decide) k) ?_
    exact own_fin X3 e3 (v := some (.int (1 : Int32))) (fun h => by rw [hret] at h; cases h) hlk (fun fs hr => retN X3 hx (t := .boolean) hret (by simp) (hb hby d9_18) hr) (show ((fun (v : Option Value) (h : Heap) (L : List Loc) => Q9 Z o1 cd cps h0 n0 v h L)) (some (.int (1 : Int32))) h0 _ from ⟨(by unfold own_il; rw [if_pos hc4_10]), N0, rfl⟩) (by decide) (by decide)
  · refine vs T3 17 [] (fun t k => XS.ifYes X3.here hx rfl (pc0 := 10) (pc' := 17) rfl (hb hby d9_10) rfl (XT.i0_ne_t hc4_10) (by decide) (by decide) k) ?_
    refine vs T3 18 [(.int (0 : Int32))] (fun t k => XS.iconst X3.here hx rfl (hb hby d9_17) k) ?_
    exact own_fin X3 e3 (v := some (.int (0 : Int32))) (fun h => by rw [hret] at h; cases h) hlk (fun fs hr => retN X3 hx (t := .boolean) hret (by simp) (hb hby d9_18) hr) (show ((fun (v : Option Value) (h : Heap) (L : List Loc) => Q9 Z o1 cd cps h0 n0 v h L)) (some (.int (0 : Int32))) h0 _ from ⟨(by unfold own_il; rw [if_neg hc4_10]), N0, rfl⟩) (by decide) (by decide)
theorem ef_9 (m : MethodId) (o1 : Addr) : entryFrame m #[(.ref o1)] 1 = mkF m 0 #[vr o1] [] := by first | (simp [entryFrame, mkF, argsToLocals, Value.category, maxLocals]; done) | rfl
theorem rm9 (l : Launch) (Z : State) (a0 : Array Value) (hw : ∀ d ∈ tables_1, d.before a0 Z = true) (ws : List Jvm.Cond) (o1 : Addr) (cd : Int32) (cps : Int32) (h0 : Heap) (n0 : Nat) (Z0 : n0 ≤ h0.size) (F2 : Fld Z h0 o1 "java/lang/String" "coder" "B" (.int cd)) (SC : Sta Z h0 "java/lang/String" "COMPACT_STRINGS" "Z" (.int cps)) (hcp : ¬ cps = 0) :
    MetFree l (⟨"java/lang/String", "isLatin1", "()Z"⟩ : MethodName) (head1 (Jvm.Cond.code (⟨"java/lang/String", "isLatin1", "()Z"⟩ : MethodName) jdk_42_method_154_code 1 (some .boolean) :: ws) ({ frames := 0, cells := 0, slots := 0, locals := 0 } : Room)) (fun a U => a = #[(.ref o1)] ∧ Z.Warmed39 U.vm ∧ U.heap = h0) (fun _ _ _ _ _ => True) (fun _ U o U' => ∃ v L, o = .returned v ∧ Q9 Z o1 cd cps h0 n0 v U'.heap L ∧ FrameEnd U o U' L ({ frames := 0, cells := 0, slots := 0, locals := 0 } : Room).cells ({ frames := 0, cells := 0, slots := 0, locals := 0 } : Room).slots) := by
  refine MetFree.of_bodySF (plainFor_of_name pn_1) hisR ?_
  intro p e s m args below meth c s₁ Bd hml0 hP hK
  obtain ⟨rfl, hZ, hh⟩ := hP
  have e0 : s₁.heap = h0 := by rw [← hh, Bd.state]; rfl
  rw [ef_9 m o1]
  exact b9 o1 cd cps ⟨Bd.exec, hZ, hw, Bd.bytes, hml0, findClass_of_methodNamed Bd.named, Bd.returns, Bd.notSynchronized, (name_of_methodNamed Bd.named Bd.method).1⟩ (Stand.of_body Bd) e0 Z0 (Fr.nil n0) F2 SC hcp
def Q14 (Z : State) (o1 : Addr) (cd : Int32) (cps : Int32) (h0 : Heap) (n0 : Nat) (v : Option Value) (h : Heap) (L : List Loc) : Prop := v = some (.int cd) ∧ Fr n0 L ∧ h = h0
theorem d14_0 : dq cb12 0 (.getstatic 38) 3 := by decide +kernel
theorem d14_3 : dq cb12 3 (.ifCond .eq 10) 3 := by decide +kernel
theorem d14_6 : dq cb12 6 (.aload_n 0) 1 := by decide +kernel
theorem d14_7 : dq cb12 7 (.getfield 15) 3 := by decide +kernel
theorem d14_10 : dq cb12 10 (.goto 4) 3 := by decide +kernel
theorem d14_14 : dq cb12 14 .ireturn 1 := by decide +kernel
theorem b14  (o1 : Addr) (cd : Int32) (cps : Int32)
    (C : own_C p s m meth c Z a0 jdk_42_method_152_code 1 "java/lang/String" (some .byte) "coder") (X0 : Stand p l e ({ frames := 0, cells := 0, slots := 0, locals := 0 } : Room) s m args below meth c T0 locs 0 0) (e0 : T0.heap = h0) (Z0 : n0 ≤ h0.size) (N0 : Fr n0 locs) (F2 : Fld Z h0 o1 "java/lang/String" "coder" "B" (.int cd)) (SC : Sta Z h0 "java/lang/String" "COMPACT_STRINGS" "Z" (.int cps)) (hcp : ¬ cps = 0) (hcd : cd = 0 ∨ cd = 1) :
    own_Go p.tables e below (T0.setTop (mkF m 0 #[vr o1] [])) (own_K s (fun (v : Option Value) (h : Heap) (L : List Loc) => Q14 Z o1 cd cps h0 n0 v h L) ({ frames := 0, cells := 0, slots := 0, locals := 0 } : Room).cells ({ frames := 0, cells := 0, slots := 0, locals := 0 } : Room).slots) := by
  obtain ⟨hx, hZ, hw, hby, hml, hown, hret, hlk, hnm⟩ := C
  obtain ⟨T1, X1, e1, st1⟩ := getS2 X0 hx hZ hown (host := "") (Or.inl (ww hw 14 rfl)) Via.refl e0 SC (g := (mkF m 0 #[vr o1] [])) rfl (hb hby d14_0)
  refine vs T1 3 [(.int cps)] (fun t k => st1 t k) ?_
  have hc2_3 : ¬ (cps = (0 : Int32)) := hcp
  refine vs T1 6 [] (fun t k => XS.ifNo X1.here hx rfl (hb hby d14_3) rfl (XT.i0_eq_f hc2_3) k) ?_
  refine vs T1 7 [(.ref o1)] (fun t k => XS.aloadN X1.here hx rfl (hb hby d14_6) rfl rfl k) ?_
  obtain ⟨T3, X3, e3, st3⟩ := getF X1 hx hZ hown (host := "") (Or.inl (ww hw 26 rfl)) Via.refl e1 F2 (g := (mkF m 7 #[vr o1] [(.ref o1)])) rfl rfl (hb hby d14_7)
  refine vs T3 10 [(.int cd)] (fun t k => st3 t k) ?_
  refine vs T3 14 [(.int cd)] (fun t k => XS.goto X3.here hx rfl (pc0 := 10) (pc' := 14) rfl (hb hby d14_10) (by decide) (by decide) k) ?_
  exact own_fin X3 e3 (v := some (.int (nar .byte cd))) (fun h => by rw [hret] at h; cases h) hlk (fun fs hr => retN X3 hx (t := .byte) hret (by simp) (hb hby d14_14) hr) (show ((fun (v : Option Value) (h : Heap) (L : List Loc) => Q14 Z o1 cd cps h0 n0 v h L)) (some (.int (nar .byte cd))) h0 _ from ⟨(congrArg (fun z => some (Value.int z)) (own_nb hcd)), N0, rfl⟩) (by decide) (by decide)
theorem ef_14 (m : MethodId) (o1 : Addr) : entryFrame m #[(.ref o1)] 1 = mkF m 0 #[vr o1] [] := by first | (simp [entryFrame, mkF, argsToLocals, Value.category, maxLocals]; done) | rfl
theorem rm14 (l : Launch) (Z : State) (a0 : Array Value) (hw : ∀ d ∈ tables_1, d.before a0 Z = true) (ws : List Jvm.Cond) (o1 : Addr) (cd : Int32) (cps : Int32) (h0 : Heap) (n0 : Nat) (Z0 : n0 ≤ h0.size) (F2 : Fld Z h0 o1 "java/lang/String" "coder" "B" (.int cd)) (SC : Sta Z h0 "java/lang/String" "COMPACT_STRINGS" "Z" (.int cps)) (hcp : ¬ cps = 0) (hcd : cd = 0 ∨ cd = 1) :
    MetFree l (⟨"java/lang/String", "coder", "()B"⟩ : MethodName) (head1 (Jvm.Cond.code (⟨"java/lang/String", "coder", "()B"⟩ : MethodName) jdk_42_method_152_code 1 (some .byte) :: ws) ({ frames := 0, cells := 0, slots := 0, locals := 0 } : Room)) (fun a U => a = #[(.ref o1)] ∧ Z.Warmed39 U.vm ∧ U.heap = h0) (fun _ _ _ _ _ => True) (fun _ U o U' => ∃ v L, o = .returned v ∧ Q14 Z o1 cd cps h0 n0 v U'.heap L ∧ FrameEnd U o U' L ({ frames := 0, cells := 0, slots := 0, locals := 0 } : Room).cells ({ frames := 0, cells := 0, slots := 0, locals := 0 } : Room).slots) := by
  refine MetFree.of_bodySF (plainFor_of_name pn_1) hisR ?_
  intro p e s m args below meth c s₁ Bd hml0 hP hK
  obtain ⟨rfl, hZ, hh⟩ := hP
  have e0 : s₁.heap = h0 := by rw [← hh, Bd.state]; rfl
  rw [ef_14 m o1]
  exact b14 o1 cd cps ⟨Bd.exec, hZ, hw, Bd.bytes, hml0, findClass_of_methodNamed Bd.named, Bd.returns, Bd.notSynchronized, (name_of_methodNamed Bd.named Bd.method).1⟩ (Stand.of_body Bd) e0 Z0 (Fr.nil n0) F2 SC hcp hcd
theorem own_lenv {cs : List Int32} {cd : Int32} {ln : Nat} {bs : List Int32} (h : own_enc cs cd ln bs) (h4 : cs.length ≤ 4) : Int32.ofNat ln >>> (cd &&& 31) = Int32.ofNat cs.length := by
  rcases h with ⟨rfl, rfl, -⟩ | ⟨rfl, rfl, -⟩
  · have : cs.length = 0 ∨ cs.length = 1 ∨ cs.length = 2 ∨ cs.length = 3 ∨ cs.length = 4 := by omega
    rcases this with q | q | q | q | q <;> rw [q] <;> decide
  · exact own_shr1 (by omega)
def Q13 (Z : State) (o1 : Addr) (ob : Addr) (kb : ClassId) (ln : Nat) (bs : List Int32) (cd : Int32) (cs : List Int32) (cps : Int32) (h0 : Heap) (n0 : Nat) (v : Option Value) (h : Heap) (L : List Loc) : Prop := v = some (.int (Int32.ofNat cs.length)) ∧ Fr n0 L ∧ h = h0
theorem d13_0 : dq cb13 0 (.aload_n 0) 1 := by decide +kernel
theorem d13_1 : dq cb13 1 (.getfield 9) 3 := by decide +kernel
theorem d13_4 : dq cb13 4 .arraylength 1 := by decide +kernel
theorem d13_5 : dq cb13 5 (.aload_n 0) 1 := by decide +kernel
theorem d13_6 : dq cb13 6 (.invokevirtual 335) 3 := by decide +kernel
theorem pd_8 : parseMethodDescriptor "()B" = some ⟨[], some .byte⟩ := by decide +kernel
theorem d13_9 : dq cb13 9 .ishr 1 := by decide +kernel
theorem d13_10 : dq cb13 10 .ireturn 1 := by decide +kernel
theorem b13  (o1 : Addr) (ob : Addr) (kb : ClassId) (ln : Nat) (bs : List Int32) (cd : Int32) (cs : List Int32) (cps : Int32)
    (C : own_C p s m meth c Z a0 jdk_42_method_54_code 1 "java/lang/String" (some .int) "length") (X0 : Stand p l e ({ frames := 1, cells := 0, slots := 0, locals := 13 } : Room) s m args below meth c T0 locs 0 0) (e0 : T0.heap = h0) (Z0 : n0 ≤ h0.size) (N0 : Fr n0 locs) (E1 : Exa Z h0 o1 "java/lang/String") (F1 : Fld Z h0 o1 "java/lang/String" "value" "[B" (.ref ob)) (F2 : Fld Z h0 o1 "java/lang/String" "coder" "B" (.int cd)) (VB : Arv Z h0 ob kb .byte (Int32.ofNat ln) (own_iv bs) (.int (0 : Int32))) (SC : Sta Z h0 "java/lang/String" "COMPACT_STRINGS" "Z" (.int cps)) (hcp : ¬ cps = 0) (henc : own_enc cs cd ln bs) (hc4 : cs.length ≤ 4) (hc1 : 1 ≤ cs.length) (hch : ∀ j, j < cs.length → own_ch (cs.getD j 0)) :
    own_Go p.tables e below (T0.setTop (mkF m 0 #[vr o1] [])) (own_K s (fun (v : Option Value) (h : Heap) (L : List Loc) => Q13 Z o1 ob kb ln bs cd cs cps h0 n0 v h L) ({ frames := 1, cells := 0, slots := 0, locals := 13 } : Room).cells ({ frames := 1, cells := 0, slots := 0, locals := 13 } : Room).slots) := by
  obtain ⟨hx, hZ, hw, hby, hml, hown, hret, hlk, hnm⟩ := C
  refine vs T0 1 [(.ref o1)] (fun t k => XS.aloadN X0.here hx rfl (hb hby d13_0) rfl rfl k) ?_
  obtain ⟨T1, X1, e1, st1⟩ := getF X0 hx hZ hown (host := "") (Or.inl (ww hw 28 rfl)) Via.refl e0 F1 (g := (mkF m 1 #[vr o1] [(.ref o1)])) rfl rfl (hb hby d13_1)
  refine vs T1 4 [(.ref ob)] (fun t k => st1 t k) ?_
  obtain ⟨cl2, Ar2, -, S2, NN2, -, -⟩ := id VB
  refine vs T1 5 [(.int (Int32.ofNat ln))] (fun t k => own_len X1 hx hZ e1 Ar2 S2 NN2 (g := (mkF m 4 #[vr o1] [(.ref ob)])) rfl rfl (hb hby d13_4) k) ?_
  refine vs T1 6 [(.ref o1), (.int (Int32.ofNat ln))] (fun t k => XS.aloadN X1.here hx rfl (hb hby d13_5) rfl rfl k) ?_
  obtain ⟨cq3, kq3, q3a, q3b, q3c⟩ := isOf hZ e1 E1
  obtain ⟨_, _, ⟨T3, L3, k3, n3⟩, -, X3, ⟨Lc3, hQ3, l3, y3, z3⟩, st3⟩ := X1.virtualBack hx (y := (⟨"java/lang/String", "coder", "()B"⟩ : MethodName)) (z := (⟨"java/lang/String", "coder", "()B"⟩ : MethodName)) hown (mvT hZ (ww hw 80 rfl)) (mvT hZ (ww hw 81 rfl)) (notFace_of_selects (args := #[]) (mvT hZ (ww hw 83 rfl))) (mvT hZ (ww hw 83 rfl)) (mvT hZ (ww hw 82 rfl)) (by decide) (backOf (W := 1) (rm14 l Z a0 hw [] o1 cd cps h0 n0 Z0 F2 SC hcp (own_cdb henc)) hZ (ww hw 84 rfl) (ww hw 3 rfl) (by decide) (by decide)) q3a q3c (g := (mkF m 6 #[vr o1] [(.ref o1), (.int (Int32.ofNat ln))])) rfl (by rw [hml]; rfl) (Steps.refl _) (argsL := []) (rest := [(.int (Int32.ofNat ln))]) (lenOf pd_8 rfl) rfl (by show 2 * 0 + _ ≤ _; exact Nat.le_of_eq rfl) (hb hby d13_6) (fun _ _ => ⟨rfl, e1, (by decide : 0 + 0 ≤ _), (by decide : 0 + 0 ≤ _)⟩)
  dsimp only [Pt.U, Pt.locs, Pt.cells, Pt.slots] at X3 l3 y3 z3 st3 hQ3
  subst l3 y3 z3
  obtain ⟨rfl, Nq3, eh3⟩ := hQ3
  have N3 := Fr.app N0 Nq3
  refine vs T3 9 [(.int cd), (.int (Int32.ofNat ln))] (fun t k => st3.trans k) ?_
  refine vs T3 10 [(.int ((Int32.ofNat ln) >>> (cd &&& 31)))] (fun t k => XT.ishr X3.here hx rfl (hb hby d13_9) rfl k) ?_
  exact own_fin X3 eh3 (v := some (.int ((Int32.ofNat ln) >>> (cd &&& 31)))) (fun h => by rw [hret] at h; cases h) hlk (fun fs hr => retI X3 hx hret (hb hby d13_10) hr) (show ((fun (v : Option Value) (h : Heap) (L : List Loc) => Q13 Z o1 ob kb ln bs cd cs cps h0 n0 v h L)) (some (.int ((Int32.ofNat ln) >>> (cd &&& 31)))) h0 _ from ⟨(congrArg (fun z => some (Value.int z)) (own_lenv henc hc4)), N3, rfl⟩) (by decide) (by decide)
theorem ef_13 (m : MethodId) (o1 : Addr) : entryFrame m #[(.ref o1)] 1 = mkF m 0 #[vr o1] [] := by first | (simp [entryFrame, mkF, argsToLocals, Value.category, maxLocals]; done) | rfl
theorem rm13 (l : Launch) (Z : State) (a0 : Array Value) (hw : ∀ d ∈ tables_1, d.before a0 Z = true) (ws : List Jvm.Cond) (o1 : Addr) (ob : Addr) (kb : ClassId) (ln : Nat) (bs : List Int32) (cd : Int32) (cs : List Int32) (cps : Int32) (h0 : Heap) (n0 : Nat) (Z0 : n0 ≤ h0.size) (E1 : Exa Z h0 o1 "java/lang/String") (F1 : Fld Z h0 o1 "java/lang/String" "value" "[B" (.ref ob)) (F2 : Fld Z h0 o1 "java/lang/String" "coder" "B" (.int cd)) (VB : Arv Z h0 ob kb .byte (Int32.ofNat ln) (own_iv bs) (.int (0 : Int32))) (SC : Sta Z h0 "java/lang/String" "COMPACT_STRINGS" "Z" (.int cps)) (hcp : ¬ cps = 0) (henc : own_enc cs cd ln bs) (hc4 : cs.length ≤ 4) (hc1 : 1 ≤ cs.length) (hch : ∀ j, j < cs.length → own_ch (cs.getD j 0)) :
    MetFree l (⟨"java/lang/String", "length", "()I"⟩ : MethodName) (head1 (Jvm.Cond.code (⟨"java/lang/String", "length", "()I"⟩ : MethodName) jdk_42_method_54_code 1 (some .int) :: ws) ({ frames := 1, cells := 0, slots := 0, locals := 13 } : Room)) (fun a U => a = #[(.ref o1)] ∧ Z.Warmed39 U.vm ∧ U.heap = h0) (fun _ _ _ _ _ => True) (fun _ U o U' => ∃ v L, o = .returned v ∧ Q13 Z o1 ob kb ln bs cd cs cps h0 n0 v U'.heap L ∧ FrameEnd U o U' L ({ frames := 1, cells := 0, slots := 0, locals := 13 } : Room).cells ({ frames := 1, cells := 0, slots := 0, locals := 13 } : Room).slots) := by
  refine MetFree.of_bodySF (plainFor_of_name pn_1) hisR ?_
  intro p e s m args below meth c s₁ Bd hml0 hP hK
  obtain ⟨rfl, hZ, hh⟩ := hP
  have e0 : s₁.heap = h0 := by rw [← hh, Bd.state]; rfl
  rw [ef_13 m o1]
  exact b13 o1 ob kb ln bs cd cs cps ⟨Bd.exec, hZ, hw, Bd.bytes, hml0, findClass_of_methodNamed Bd.named, Bd.returns, Bd.notSynchronized, (name_of_methodNamed Bd.named Bd.method).1⟩ (Stand.of_body Bd) e0 Z0 (Fr.nil n0) E1 F1 F2 VB SC hcp henc hc4 hc1 hch
def Q20 (Z : State) (f : Nat) (t2 : Nat) (ln : Nat) (fmv : Value) (h0 : Heap) (n0 : Nat) (v : Option Value) (h : Heap) (L : List Loc) : Prop := v = some (.int (Int32.ofNat f)) ∧ Fr n0 L ∧ h = h0
theorem d20_0 : dq cb14 0 (.iload_n 0) 1 := by decide +kernel
theorem d20_1 : dq cb14 1 (.ifCond .lt 13) 3 := by decide +kernel
theorem d20_4 : dq cb14 4 (.iload_n 0) 1 := by decide +kernel
theorem d20_5 : dq cb14 5 (.iload_n 1) 1 := by decide +kernel
theorem d20_6 : dq cb14 6 (.if_icmp .gt 8) 3 := by decide +kernel
theorem d20_9 : dq cb14 9 (.iload_n 1) 1 := by decide +kernel
theorem d20_10 : dq cb14 10 (.iload_n 2) 1 := by decide +kernel
theorem d20_11 : dq cb14 11 (.if_icmp .le 11) 3 := by decide +kernel
theorem d20_22 : dq cb14 22 (.iload_n 0) 1 := by decide +kernel
theorem d20_23 : dq cb14 23 .ireturn 1 := by decide +kernel
theorem b20  (f : Nat) (t2 : Nat) (ln : Nat) (fmv : Value)
    (C : own_C p s m meth c Z a0 jdk_41_method_12_code 4 "jdk/internal/util/Preconditions" (some .int) "checkFromToIndex") (X0 : Stand p l e ({ frames := 0, cells := 0, slots := 0, locals := 0 } : Room) s m args below meth c T0 locs 0 0) (e0 : T0.heap = h0) (Z0 : n0 ≤ h0.size) (N0 : Fr n0 locs) (hft : f ≤ t2) (htl : t2 ≤ ln) (hl : ln ≤ 50) (hrf : fmv.isRef = true) :
    own_Go p.tables e below (T0.setTop (mkF m 0 #[vi (Int32.ofNat f), vi (Int32.ofNat t2), vi (Int32.ofNat ln), .val fmv] [])) (own_K s (fun (v : Option Value) (h : Heap) (L : List Loc) => Q20 Z f t2 ln fmv h0 n0 v h L) ({ frames := 0, cells := 0, slots := 0, locals := 0 } : Room).cells ({ frames := 0, cells := 0, slots := 0, locals := 0 } : Room).slots) := by
  obtain ⟨hx, hZ, hw, hby, hml, hown, hret, hlk, hnm⟩ := C
  refine vs T0 1 [(.int (Int32.ofNat f))] (fun t k => XS.iloadN X0.here hx rfl (hb hby d20_0) rfl k) ?_
  have hc1_1 : ¬ ((Int32.ofNat f) < (0 : Int32)) := (own_inb (i := f) (n := f + 1) (by omega) (by omega)).1
  refine vs T0 4 [] (fun t k => XS.ifNo X0.here hx rfl (hb hby d20_1) rfl (XT.i0_lt_f hc1_1) k) ?_
  refine vs T0 5 [(.int (Int32.ofNat f))] (fun t k => XS.iloadN X0.here hx rfl (hb hby d20_4) rfl k) ?_
  refine vs T0 6 [(.int (Int32.ofNat t2)), (.int (Int32.ofNat f))] (fun t k => XS.iloadN X0.here hx rfl (hb hby d20_5) rfl k) ?_
  have hc2_6 : ¬ ((Int32.ofNat t2) < (Int32.ofNat f)) := own_nlt (by omega) (by omega) (by omega)
  refine vs T0 9 [] (fun t k => XS.icmpNo X0.here hx rfl (hb hby d20_6) rfl (XT.ii_gt_f hc2_6) k) ?_
  refine vs T0 10 [(.int (Int32.ofNat t2))] (fun t k => XS.iloadN X0.here hx rfl (hb hby d20_9) rfl k) ?_
  refine vs T0 11 [(.int (Int32.ofNat ln)), (.int (Int32.ofNat t2))] (fun t k => XS.iloadN X0.here hx rfl (hb hby d20_10) rfl k) ?_
  have hc3_11 : ¬ ((Int32.ofNat ln) < (Int32.ofNat t2)) := own_nlt (by omega) (by omega) (by omega)
  refine vs T0 22 [] (fun t k => XS.icmpYes X0.here hx rfl (pc0 := 11) (pc' := 22) rfl (hb hby d20_11) rfl (XT.ii_le_t hc3_11) (by decide) (by decide) k) ?_
  refine vs T0 23 [(.int (Int32.ofNat f))] (fun t k => XS.iloadN X0.here hx rfl (hb hby d20_22) rfl k) ?_
  exact own_fin X0 e0 (v := some (.int (Int32.ofNat f))) (fun h => by rw [hret] at h; cases h) hlk (fun fs hr => retI X0 hx hret (hb hby d20_23) hr) (show ((fun (v : Option Value) (h : Heap) (L : List Loc) => Q20 Z f t2 ln fmv h0 n0 v h L)) (some (.int (Int32.ofNat f))) h0 _ from ⟨rfl, N0, rfl⟩) (by decide) (by decide)
theorem pn_2 : plainName "jdk/internal/util/Preconditions" = true := by first | (simp [plainName, overriddenIn]; done) | decide +kernel
theorem ef_20 (m : MethodId) (f : Nat) (t2 : Nat) (ln : Nat) (fmv : Value) (hrf : fmv.isRef = true) : entryFrame m #[(.int (Int32.ofNat f)), (.int (Int32.ofNat t2)), (.int (Int32.ofNat ln)), fmv] 4 = mkF m 0 #[vi (Int32.ofNat f), vi (Int32.ofNat t2), vi (Int32.ofNat ln), .val fmv] [] := by rcases ref_cases hrf with rfl | ⟨_, rfl⟩ <;> first | (simp [entryFrame, mkF, argsToLocals, Value.category, maxLocals]; done) | rfl
theorem rm20 (l : Launch) (Z : State) (a0 : Array Value) (hw : ∀ d ∈ tables_1, d.before a0 Z = true) (ws : List Jvm.Cond) (f : Nat) (t2 : Nat) (ln : Nat) (fmv : Value) (h0 : Heap) (n0 : Nat) (Z0 : n0 ≤ h0.size) (hft : f ≤ t2) (htl : t2 ≤ ln) (hl : ln ≤ 50) (hrf : fmv.isRef = true) :
    MetFree l (⟨"jdk/internal/util/Preconditions", "checkFromToIndex", "(IIILjava/util/function/BiFunction;)I"⟩ : MethodName) (head1 (Jvm.Cond.code (⟨"jdk/internal/util/Preconditions", "checkFromToIndex", "(IIILjava/util/function/BiFunction;)I"⟩ : MethodName) jdk_41_method_12_code 4 (some .int) :: ws) ({ frames := 0, cells := 0, slots := 0, locals := 0 } : Room)) (fun a U => a = #[(.int (Int32.ofNat f)), (.int (Int32.ofNat t2)), (.int (Int32.ofNat ln)), fmv] ∧ Z.Warmed39 U.vm ∧ U.heap = h0) (fun _ _ _ _ _ => True) (fun _ U o U' => ∃ v L, o = .returned v ∧ Q20 Z f t2 ln fmv h0 n0 v U'.heap L ∧ FrameEnd U o U' L ({ frames := 0, cells := 0, slots := 0, locals := 0 } : Room).cells ({ frames := 0, cells := 0, slots := 0, locals := 0 } : Room).slots) := by
  refine MetFree.of_bodySF (plainFor_of_name pn_2) hisR ?_
  intro p e s m args below meth c s₁ Bd hml0 hP hK
  obtain ⟨rfl, hZ, hh⟩ := hP
  have e0 : s₁.heap = h0 := by rw [← hh, Bd.state]; rfl
  rw [ef_20 m f t2 ln fmv hrf]
  exact b20 f t2 ln fmv ⟨Bd.exec, hZ, hw, Bd.bytes, hml0, findClass_of_methodNamed Bd.named, Bd.returns, Bd.notSynchronized, (name_of_methodNamed Bd.named Bd.method).1⟩ (Stand.of_body Bd) e0 Z0 (Fr.nil n0) hft htl hl hrf
def Q22 (Z : State) (f : Nat) (sz : Nat) (ln : Nat) (fmv : Value) (h0 : Heap) (n0 : Nat) (v : Option Value) (h : Heap) (L : List Loc) : Prop := v = some (.int (Int32.ofNat f)) ∧ Fr n0 L ∧ h = h0
theorem d22_0 : dq cb15 0 (.iload_n 2) 1 := by decide +kernel
theorem d22_1 : dq cb15 1 (.iload_n 0) 1 := by decide +kernel
theorem d22_2 : dq cb15 2 .ior 1 := by decide +kernel
theorem d22_3 : dq cb15 3 (.iload_n 1) 1 := by decide +kernel
theorem d22_4 : dq cb15 4 .ior 1 := by decide +kernel
theorem d22_5 : dq cb15 5 (.ifCond .lt 10) 3 := by decide +kernel
theorem d22_8 : dq cb15 8 (.iload_n 1) 1 := by decide +kernel
theorem d22_9 : dq cb15 9 (.iload_n 2) 1 := by decide +kernel
theorem d22_10 : dq cb15 10 (.iload_n 0) 1 := by decide +kernel
theorem d22_11 : dq cb15 11 .isub 1 := by decide +kernel
theorem d22_12 : dq cb15 12 (.if_icmp .le 11) 3 := by decide +kernel
theorem d22_23 : dq cb15 23 (.iload_n 0) 1 := by decide +kernel
theorem d22_24 : dq cb15 24 .ireturn 1 := by decide +kernel
theorem b22  (f : Nat) (sz : Nat) (ln : Nat) (fmv : Value)
    (C : own_C p s m meth c Z a0 jdk_41_method_13_code 4 "jdk/internal/util/Preconditions" (some .int) "checkFromIndexSize") (X0 : Stand p l e ({ frames := 0, cells := 0, slots := 0, locals := 0 } : Room) s m args below meth c T0 locs 0 0) (e0 : T0.heap = h0) (Z0 : n0 ≤ h0.size) (N0 : Fr n0 locs) (hfl : f + sz ≤ ln) (hl : ln ≤ 50) (hrf : fmv.isRef = true) :
    own_Go p.tables e below (T0.setTop (mkF m 0 #[vi (Int32.ofNat f), vi (Int32.ofNat sz), vi (Int32.ofNat ln), .val fmv] [])) (own_K s (fun (v : Option Value) (h : Heap) (L : List Loc) => Q22 Z f sz ln fmv h0 n0 v h L) ({ frames := 0, cells := 0, slots := 0, locals := 0 } : Room).cells ({ frames := 0, cells := 0, slots := 0, locals := 0 } : Room).slots) := by
  obtain ⟨hx, hZ, hw, hby, hml, hown, hret, hlk, hnm⟩ := C
  refine vs T0 1 [(.int (Int32.ofNat ln))] (fun t k => XS.iloadN X0.here hx rfl (hb hby d22_0) rfl k) ?_
  refine vs T0 2 [(.int (Int32.ofNat f)), (.int (Int32.ofNat ln))] (fun t k => XS.iloadN X0.here hx rfl (hb hby d22_1) rfl k) ?_
  refine vs T0 3 [(.int ((Int32.ofNat ln) ||| (Int32.ofNat f)))] (fun t k => XT.ior X0.here hx rfl (hb hby d22_2) rfl k) ?_
  refine vs T0 4 [(.int (Int32.ofNat sz)), (.int ((Int32.ofNat ln) ||| (Int32.ofNat f)))] (fun t k => XS.iloadN X0.here hx rfl (hb hby d22_3) rfl k) ?_
  refine vs T0 5 [(.int (((Int32.ofNat ln) ||| (Int32.ofNat f)) ||| (Int32.ofNat sz)))] (fun t k => XT.ior X0.here hx rfl (hb hby d22_4) rfl k) ?_
  have hc1_5 : ¬ ((((Int32.ofNat ln) ||| (Int32.ofNat f)) ||| (Int32.ofNat sz)) < (0 : Int32)) := own_orn (by omega) (by omega) (by omega)
  refine vs T0 8 [] (fun t k => XS.ifNo X0.here hx rfl (hb hby d22_5) rfl (XT.i0_lt_f hc1_5) k) ?_
  refine vs T0 9 [(.int (Int32.ofNat sz))] (fun t k => XS.iloadN X0.here hx rfl (hb hby d22_8) rfl k) ?_
  refine vs T0 10 [(.int (Int32.ofNat ln)), (.int (Int32.ofNat sz))] (fun t k => XS.iloadN X0.here hx rfl (hb hby d22_9) rfl k) ?_
  refine vs T0 11 [(.int (Int32.ofNat f)), (.int (Int32.ofNat ln)), (.int (Int32.ofNat sz))] (fun t k => XS.iloadN X0.here hx rfl (hb hby d22_10) rfl k) ?_
  refine vs T0 12 [(.int ((Int32.ofNat ln) - (Int32.ofNat f))), (.int (Int32.ofNat sz))] (fun t k => XS.isub X0.here hx rfl (hb hby d22_11) rfl k) ?_
  have hc2_12 : ¬ (((Int32.ofNat ln) - (Int32.ofNat f)) < (Int32.ofNat sz)) := (by rw [own_sub (by omega)]; exact own_nlt (by omega) (by omega) (by omega))
  refine vs T0 23 [] (fun t k => XS.icmpYes X0.here hx rfl (pc0 := 12) (pc' := 23) rfl (hb hby d22_12) rfl (XT.ii_le_t hc2_12) (by decide) (by decide) k) ?_
  refine vs T0 24 [(.int (Int32.ofNat f))] (fun t k => XS.iloadN X0.here hx rfl (hb hby d22_23) rfl k) ?_
  exact own_fin X0 e0 (v := some (.int (Int32.ofNat f))) (fun h => by rw [hret] at h; cases h) hlk (fun fs hr => retI X0 hx hret (hb hby d22_24) hr) (show ((fun (v : Option Value) (h : Heap) (L : List Loc) => Q22 Z f sz ln fmv h0 n0 v h L)) (some (.int (Int32.ofNat f))) h0 _ from ⟨rfl, N0, rfl⟩) (by decide) (by decide)
theorem ef_22 (m : MethodId) (f : Nat) (sz : Nat) (ln : Nat) (fmv : Value) (hrf : fmv.isRef = true) : entryFrame m #[(.int (Int32.ofNat f)), (.int (Int32.ofNat sz)), (.int (Int32.ofNat ln)), fmv] 4 = mkF m 0 #[vi (Int32.ofNat f), vi (Int32.ofNat sz), vi (Int32.ofNat ln), .val fmv] [] := by rcases ref_cases hrf with rfl | ⟨_, rfl⟩ <;> first | (simp [entryFrame, mkF, argsToLocals, Value.category, maxLocals]; done) | rfl
theorem rm22 (l : Launch) (Z : State) (a0 : Array Value) (hw : ∀ d ∈ tables_1, d.before a0 Z = true) (ws : List Jvm.Cond) (f : Nat) (sz : Nat) (ln : Nat) (fmv : Value) (h0 : Heap) (n0 : Nat) (Z0 : n0 ≤ h0.size) (hfl : f + sz ≤ ln) (hl : ln ≤ 50) (hrf : fmv.isRef = true) :
    MetFree l (⟨"jdk/internal/util/Preconditions", "checkFromIndexSize", "(IIILjava/util/function/BiFunction;)I"⟩ : MethodName) (head1 (Jvm.Cond.code (⟨"jdk/internal/util/Preconditions", "checkFromIndexSize", "(IIILjava/util/function/BiFunction;)I"⟩ : MethodName) jdk_41_method_13_code 4 (some .int) :: ws) ({ frames := 0, cells := 0, slots := 0, locals := 0 } : Room)) (fun a U => a = #[(.int (Int32.ofNat f)), (.int (Int32.ofNat sz)), (.int (Int32.ofNat ln)), fmv] ∧ Z.Warmed39 U.vm ∧ U.heap = h0) (fun _ _ _ _ _ => True) (fun _ U o U' => ∃ v L, o = .returned v ∧ Q22 Z f sz ln fmv h0 n0 v U'.heap L ∧ FrameEnd U o U' L ({ frames := 0, cells := 0, slots := 0, locals := 0 } : Room).cells ({ frames := 0, cells := 0, slots := 0, locals := 0 } : Room).slots) := by
  refine MetFree.of_bodySF (plainFor_of_name pn_2) hisR ?_
  intro p e s m args below meth c s₁ Bd hml0 hP hK
  obtain ⟨rfl, hZ, hh⟩ := hP
  have e0 : s₁.heap = h0 := by rw [← hh, Bd.state]; rfl
  rw [ef_22 m f sz ln fmv hrf]
  exact b22 f sz ln fmv ⟨Bd.exec, hZ, hw, Bd.bytes, hml0, findClass_of_methodNamed Bd.named, Bd.returns, Bd.notSynchronized, (name_of_methodNamed Bd.named Bd.method).1⟩ (Stand.of_body Bd) e0 Z0 (Fr.nil n0) hfl hl hrf
def Q19 (Z : State) (f : Nat) (t2 : Nat) (ln : Nat) (fmv : Value) (h0 : Heap) (n0 : Nat) (v : Option Value) (h : Heap) (L : List Loc) : Prop := v = none ∧ Fr n0 L ∧ h = h0
theorem d19_0 : dq cb16 0 (.iload_n 0) 1 := by decide +kernel
theorem d19_1 : dq cb16 1 (.iload_n 1) 1 := by decide +kernel
theorem d19_2 : dq cb16 2 (.iload_n 2) 1 := by decide +kernel
theorem d19_3 : dq cb16 3 (.getstatic 1053) 3 := by decide +kernel
theorem d19_6 : dq cb16 6 (.invokestatic 1062) 3 := by decide +kernel
theorem pd_9 : parseMethodDescriptor "(IIILjava/util/function/BiFunction;)I" = some ⟨[.int, .int, .int, (.object "java/util/function/BiFunction")], some .int⟩ := by decide +kernel
theorem d19_9 : dq cb16 9 .pop 1 := by decide +kernel
theorem d19_10 : dq cb16 10 .return_ 1 := by decide +kernel
theorem b19  (f : Nat) (t2 : Nat) (ln : Nat) (fmv : Value)
    (C : own_C p s m meth c Z a0 jdk_42_method_158_code 3 "java/lang/String" none "checkBoundsBeginEnd") (X0 : Stand p l e ({ frames := 1, cells := 0, slots := 0, locals := 15 } : Room) s m args below meth c T0 locs 0 0) (e0 : T0.heap = h0) (Z0 : n0 ≤ h0.size) (N0 : Fr n0 locs) (SF : Sta Z h0 "jdk/internal/util/Preconditions" "SIOOBE_FORMATTER" "Ljava/util/function/BiFunction;" fmv) (hft : f ≤ t2) (htl : t2 ≤ ln) (hl : ln ≤ 50) (hrf : fmv.isRef = true) :
    own_Go p.tables e below (T0.setTop (mkF m 0 #[vi (Int32.ofNat f), vi (Int32.ofNat t2), vi (Int32.ofNat ln)] [])) (own_K s (fun (v : Option Value) (h : Heap) (L : List Loc) => Q19 Z f t2 ln fmv h0 n0 v h L) ({ frames := 1, cells := 0, slots := 0, locals := 15 } : Room).cells ({ frames := 1, cells := 0, slots := 0, locals := 15 } : Room).slots) := by
  obtain ⟨hx, hZ, hw, hby, hml, hown, hret, hlk, hnm⟩ := C
  refine vs T0 1 [(.int (Int32.ofNat f))] (fun t k => XS.iloadN X0.here hx rfl (hb hby d19_0) rfl k) ?_
  refine vs T0 2 [(.int (Int32.ofNat t2)), (.int (Int32.ofNat f))] (fun t k => XS.iloadN X0.here hx rfl (hb hby d19_1) rfl k) ?_
  refine vs T0 3 [(.int (Int32.ofNat ln)), (.int (Int32.ofNat t2)), (.int (Int32.ofNat f))] (fun t k => XS.iloadN X0.here hx rfl (hb hby d19_2) rfl k) ?_
  obtain ⟨T1, X1, e1, st1⟩ := getS2 X0 hx hZ hown (host := "") (Or.inl (ww hw 115 rfl)) Via.refl e0 SF (g := (mkF m 3 #[vi (Int32.ofNat f), vi (Int32.ofNat t2), vi (Int32.ofNat ln)] [(.int (Int32.ofNat ln)), (.int (Int32.ofNat t2)), (.int (Int32.ofNat f))])) rfl (hb hby d19_3)
  refine vs T1 6 [fmv, (.int (Int32.ofNat ln)), (.int (Int32.ofNat t2)), (.int (Int32.ofNat f))] (fun t k => st1 t k) ?_
  obtain ⟨_, _, ⟨T2, L2, k2, n2⟩, -, X2, ⟨Lc2, hQ2, l2, y2, z2⟩, st2⟩ := Jvm.LawKit.callS X1 hx (y := (⟨"jdk/internal/util/Preconditions", "checkFromToIndex", "(IIILjava/util/function/BiFunction;)I"⟩ : MethodName)) hown (mvT hZ (ww hw 117 rfl)) (mvT hZ (ww hw 118 rfl)) (mvT hZ (ww hw 116 rfl)) (mvT hZ (ww hw 119 rfl)) (by decide) (backOf (W := 0) (rm20 l Z a0 hw [] f t2 ln fmv h0 n0 Z0 hft htl hl hrf) hZ (ww hw 119 rfl) (ww hw 116 rfl) (by decide) (by decide)) (g := (mkF m 6 #[vi (Int32.ofNat f), vi (Int32.ofNat t2), vi (Int32.ofNat ln)] [fmv, (.int (Int32.ofNat ln)), (.int (Int32.ofNat t2)), (.int (Int32.ofNat f))])) rfl (by rw [hml]; rfl) (argsL := [(.int (Int32.ofNat f)), (.int (Int32.ofNat t2)), (.int (Int32.ofNat ln)), fmv]) (rest := []) (lenOf pd_9 rfl) rfl (by show 2 * 0 + _ ≤ _; exact Nat.le_of_eq rfl) (hb hby d19_6) (fun _ _ => ⟨rfl, e1, (by decide : 0 + 0 ≤ _), (by decide : 0 + 0 ≤ _)⟩)
  dsimp only [Pt.U, Pt.locs, Pt.cells, Pt.slots] at X2 l2 y2 z2 st2 hQ2
  subst l2 y2 z2
  obtain ⟨rfl, Nq2, eh2⟩ := hQ2
  have N2 := Fr.app N0 Nq2
  refine vs T2 9 [(.int (Int32.ofNat f))] (fun t k => st2 t k) ?_
  refine vs T2 10 [] (fun t k => XT.pop X2.here hx rfl (hb hby d19_9) rfl rfl k) ?_
  exact own_fin X2 eh2 (v := none) (fun _ => rfl) hlk (fun fs hr => X2.returnOut hx hret (hb hby d19_10) hr) (show ((fun (v : Option Value) (h : Heap) (L : List Loc) => Q19 Z f t2 ln fmv h0 n0 v h L)) none h0 _ from ⟨rfl, N2, rfl⟩) (by decide) (by decide)
theorem ef_19 (m : MethodId) (f : Nat) (t2 : Nat) (ln : Nat) : entryFrame m #[(.int (Int32.ofNat f)), (.int (Int32.ofNat t2)), (.int (Int32.ofNat ln))] 3 = mkF m 0 #[vi (Int32.ofNat f), vi (Int32.ofNat t2), vi (Int32.ofNat ln)] [] := by first | (simp [entryFrame, mkF, argsToLocals, Value.category, maxLocals]; done) | rfl
theorem rm19 (l : Launch) (Z : State) (a0 : Array Value) (hw : ∀ d ∈ tables_1, d.before a0 Z = true) (ws : List Jvm.Cond) (f : Nat) (t2 : Nat) (ln : Nat) (fmv : Value) (h0 : Heap) (n0 : Nat) (Z0 : n0 ≤ h0.size) (SF : Sta Z h0 "jdk/internal/util/Preconditions" "SIOOBE_FORMATTER" "Ljava/util/function/BiFunction;" fmv) (hft : f ≤ t2) (htl : t2 ≤ ln) (hl : ln ≤ 50) (hrf : fmv.isRef = true) :
    MetFree l (⟨"java/lang/String", "checkBoundsBeginEnd", "(III)V"⟩ : MethodName) (head1 (Jvm.Cond.code (⟨"java/lang/String", "checkBoundsBeginEnd", "(III)V"⟩ : MethodName) jdk_42_method_158_code 3 none :: ws) ({ frames := 1, cells := 0, slots := 0, locals := 15 } : Room)) (fun a U => a = #[(.int (Int32.ofNat f)), (.int (Int32.ofNat t2)), (.int (Int32.ofNat ln))] ∧ Z.Warmed39 U.vm ∧ U.heap = h0) (fun _ _ _ _ _ => True) (fun _ U o U' => ∃ v L, o = .returned v ∧ Q19 Z f t2 ln fmv h0 n0 v U'.heap L ∧ FrameEnd U o U' L ({ frames := 1, cells := 0, slots := 0, locals := 15 } : Room).cells ({ frames := 1, cells := 0, slots := 0, locals := 15 } : Room).slots) := by
  refine MetFree.of_bodySF (plainFor_of_name pn_1) hisR ?_
  intro p e s m args below meth c s₁ Bd hml0 hP hK
  obtain ⟨rfl, hZ, hh⟩ := hP
  have e0 : s₁.heap = h0 := by rw [← hh, Bd.state]; rfl
  rw [ef_19 m f t2 ln]
  exact b19 f t2 ln fmv ⟨Bd.exec, hZ, hw, Bd.bytes, hml0, findClass_of_methodNamed Bd.named, Bd.returns, Bd.notSynchronized, (name_of_methodNamed Bd.named Bd.method).1⟩ (Stand.of_body Bd) e0 Z0 (Fr.nil n0) SF hft htl hl hrf
def Q21 (Z : State) (f : Nat) (sz : Nat) (ln : Nat) (fmv : Value) (h0 : Heap) (n0 : Nat) (v : Option Value) (h : Heap) (L : List Loc) : Prop := v = some (.int (Int32.ofNat f)) ∧ Fr n0 L ∧ h = h0
theorem d21_0 : dq cb17 0 (.iload_n 0) 1 := by decide +kernel
theorem d21_1 : dq cb17 1 (.iload_n 1) 1 := by decide +kernel
theorem d21_2 : dq cb17 2 (.iload_n 2) 1 := by decide +kernel
theorem d21_3 : dq cb17 3 (.getstatic 1053) 3 := by decide +kernel
theorem d21_6 : dq cb17 6 (.invokestatic 1065) 3 := by decide +kernel
theorem d21_9 : dq cb17 9 .ireturn 1 := by decide +kernel
theorem b21  (f : Nat) (sz : Nat) (ln : Nat) (fmv : Value)
    (C : own_C p s m meth c Z a0 jdk_42_method_157_code 3 "java/lang/String" (some .int) "checkBoundsOffCount") (X0 : Stand p l e ({ frames := 1, cells := 0, slots := 0, locals := 15 } : Room) s m args below meth c T0 locs 0 0) (e0 : T0.heap = h0) (Z0 : n0 ≤ h0.size) (N0 : Fr n0 locs) (SF : Sta Z h0 "jdk/internal/util/Preconditions" "SIOOBE_FORMATTER" "Ljava/util/function/BiFunction;" fmv) (hfl : f + sz ≤ ln) (hl : ln ≤ 50) (hrf : fmv.isRef = true) :
    own_Go p.tables e below (T0.setTop (mkF m 0 #[vi (Int32.ofNat f), vi (Int32.ofNat sz), vi (Int32.ofNat ln)] [])) (own_K s (fun (v : Option Value) (h : Heap) (L : List Loc) => Q21 Z f sz ln fmv h0 n0 v h L) ({ frames := 1, cells := 0, slots := 0, locals := 15 } : Room).cells ({ frames := 1, cells := 0, slots := 0, locals := 15 } : Room).slots) := by
  obtain ⟨hx, hZ, hw, hby, hml, hown, hret, hlk, hnm⟩ := C
  refine vs T0 1 [(.int (Int32.ofNat f))] (fun t k => XS.iloadN X0.here hx rfl (hb hby d21_0) rfl k) ?_
  refine vs T0 2 [(.int (Int32.ofNat sz)), (.int (Int32.ofNat f))] (fun t k => XS.iloadN X0.here hx rfl (hb hby d21_1) rfl k) ?_
  refine vs T0 3 [(.int (Int32.ofNat ln)), (.int (Int32.ofNat sz)), (.int (Int32.ofNat f))] (fun t k => XS.iloadN X0.here hx rfl (hb hby d21_2) rfl k) ?_
  obtain ⟨T1, X1, e1, st1⟩ := getS2 X0 hx hZ hown (host := "") (Or.inl (ww hw 115 rfl)) Via.refl e0 SF (g := (mkF m 3 #[vi (Int32.ofNat f), vi (Int32.ofNat sz), vi (Int32.ofNat ln)] [(.int (Int32.ofNat ln)), (.int (Int32.ofNat sz)), (.int (Int32.ofNat f))])) rfl (hb hby d21_3)
  refine vs T1 6 [fmv, (.int (Int32.ofNat ln)), (.int (Int32.ofNat sz)), (.int (Int32.ofNat f))] (fun t k => st1 t k) ?_
  obtain ⟨_, _, ⟨T2, L2, k2, n2⟩, -, X2, ⟨Lc2, hQ2, l2, y2, z2⟩, st2⟩ := Jvm.LawKit.callS X1 hx (y := (⟨"jdk/internal/util/Preconditions", "checkFromIndexSize", "(IIILjava/util/function/BiFunction;)I"⟩ : MethodName)) hown (mvT hZ (ww hw 123 rfl)) (mvT hZ (ww hw 124 rfl)) (mvT hZ (ww hw 116 rfl)) (mvT hZ (ww hw 125 rfl)) (by decide) (backOf (W := 0) (rm22 l Z a0 hw [] f sz ln fmv h0 n0 Z0 hfl hl hrf) hZ (ww hw 125 rfl) (ww hw 116 rfl) (by decide) (by decide)) (g := (mkF m 6 #[vi (Int32.ofNat f), vi (Int32.ofNat sz), vi (Int32.ofNat ln)] [fmv, (.int (Int32.ofNat ln)), (.int (Int32.ofNat sz)), (.int (Int32.ofNat f))])) rfl (by rw [hml]; rfl) (argsL := [(.int (Int32.ofNat f)), (.int (Int32.ofNat sz)), (.int (Int32.ofNat ln)), fmv]) (rest := []) (lenOf pd_9 rfl) rfl (by show 2 * 0 + _ ≤ _; exact Nat.le_of_eq rfl) (hb hby d21_6) (fun _ _ => ⟨rfl, e1, (by decide : 0 + 0 ≤ _), (by decide : 0 + 0 ≤ _)⟩)
  dsimp only [Pt.U, Pt.locs, Pt.cells, Pt.slots] at X2 l2 y2 z2 st2 hQ2
  subst l2 y2 z2
  obtain ⟨rfl, Nq2, eh2⟩ := hQ2
  have N2 := Fr.app N0 Nq2
  refine vs T2 9 [(.int (Int32.ofNat f))] (fun t k => st2 t k) ?_
  exact own_fin X2 eh2 (v := some (.int (Int32.ofNat f))) (fun h => by rw [hret] at h; cases h) hlk (fun fs hr => retI X2 hx hret (hb hby d21_9) hr) (show ((fun (v : Option Value) (h : Heap) (L : List Loc) => Q21 Z f sz ln fmv h0 n0 v h L)) (some (.int (Int32.ofNat f))) h0 _ from ⟨rfl, N2, rfl⟩) (by decide) (by decide)
theorem ef_21 (m : MethodId) (f : Nat) (sz : Nat) (ln : Nat) : entryFrame m #[(.int (Int32.ofNat f)), (.int (Int32.ofNat sz)), (.int (Int32.ofNat ln))] 3 = mkF m 0 #[vi (Int32.ofNat f), vi (Int32.ofNat sz), vi (Int32.ofNat ln)] [] := by first | (simp [entryFrame, mkF, argsToLocals, Value.category, maxLocals]; done) | rfl
theorem rm21 (l : Launch) (Z : State) (a0 : Array Value) (hw : ∀ d ∈ tables_1, d.before a0 Z = true) (ws : List Jvm.Cond) (f : Nat) (sz : Nat) (ln : Nat) (fmv : Value) (h0 : Heap) (n0 : Nat) (Z0 : n0 ≤ h0.size) (SF : Sta Z h0 "jdk/internal/util/Preconditions" "SIOOBE_FORMATTER" "Ljava/util/function/BiFunction;" fmv) (hfl : f + sz ≤ ln) (hl : ln ≤ 50) (hrf : fmv.isRef = true) :
    MetFree l (⟨"java/lang/String", "checkBoundsOffCount", "(III)I"⟩ : MethodName) (head1 (Jvm.Cond.code (⟨"java/lang/String", "checkBoundsOffCount", "(III)I"⟩ : MethodName) jdk_42_method_157_code 3 (some .int) :: ws) ({ frames := 1, cells := 0, slots := 0, locals := 15 } : Room)) (fun a U => a = #[(.int (Int32.ofNat f)), (.int (Int32.ofNat sz)), (.int (Int32.ofNat ln))] ∧ Z.Warmed39 U.vm ∧ U.heap = h0) (fun _ _ _ _ _ => True) (fun _ U o U' => ∃ v L, o = .returned v ∧ Q21 Z f sz ln fmv h0 n0 v U'.heap L ∧ FrameEnd U o U' L ({ frames := 1, cells := 0, slots := 0, locals := 15 } : Room).cells ({ frames := 1, cells := 0, slots := 0, locals := 15 } : Room).slots) := by
  refine MetFree.of_bodySF (plainFor_of_name pn_1) hisR ?_
  intro p e s m args below meth c s₁ Bd hml0 hP hK
  obtain ⟨rfl, hZ, hh⟩ := hP
  have e0 : s₁.heap = h0 := by rw [← hh, Bd.state]; rfl
  rw [ef_21 m f sz ln]
  exact b21 f sz ln fmv ⟨Bd.exec, hZ, hw, Bd.bytes, hml0, findClass_of_methodNamed Bd.named, Bd.returns, Bd.notSynchronized, (name_of_methodNamed Bd.named Bd.method).1⟩ (Stand.of_body Bd) e0 Z0 (Fr.nil n0) SF hfl hl hrf
def Q45 (Z : State) (ob : Addr) (kb : ClassId) (ln : Nat) (bs : List Int32) (n : Nat) (f : Nat) (sz : Nat) (fmv : Value) (h0 : Heap) (n0 : Nat) (v : Option Value) (h : Heap) (L : List Loc) : Prop := v = none ∧ Fr n0 L ∧ h = h0
theorem d45_0 : dq cb18 0 (.iload_n 0) 1 := by decide +kernel
theorem d45_1 : dq cb18 1 (.iload_n 1) 1 := by decide +kernel
theorem d45_2 : dq cb18 2 (.aload_n 2) 1 := by decide +kernel
theorem d45_3 : dq cb18 3 (.invokestatic 48) 3 := by decide +kernel
theorem pd_10 : parseMethodDescriptor "([B)I" = some ⟨[(.array .byte)], some .int⟩ := by decide +kernel
theorem d45_6 : dq cb18 6 (.invokestatic 419) 3 := by decide +kernel
theorem pd_11 : parseMethodDescriptor "(III)I" = some ⟨[.int, .int, .int], some .int⟩ := by decide +kernel
theorem d45_9 : dq cb18 9 .pop 1 := by decide +kernel
theorem d45_10 : dq cb18 10 .return_ 1 := by decide +kernel
theorem b45  (ob : Addr) (kb : ClassId) (ln : Nat) (bs : List Int32) (n : Nat) (f : Nat) (sz : Nat) (fmv : Value)
    (C : own_C p s m meth c Z a0 jdk_52_method_94_code 3 "java/lang/StringUTF16" none "checkBoundsOffCount") (X0 : Stand p l e ({ frames := 2, cells := 0, slots := 0, locals := 29 } : Room) s m args below meth c T0 locs 0 0) (e0 : T0.heap = h0) (Z0 : n0 ≤ h0.size) (N0 : Fr n0 locs) (VB : Arv Z h0 ob kb .byte (Int32.ofNat ln) (own_iv bs) (.int (0 : Int32))) (SF : Sta Z h0 "jdk/internal/util/Preconditions" "SIOOBE_FORMATTER" "Ljava/util/function/BiFunction;" fmv) (hl2 : ln = 2 * n) (hn : n ≤ 4) (hfl : f + sz ≤ n) (hrf : fmv.isRef = true) :
    own_Go p.tables e below (T0.setTop (mkF m 0 #[vi (Int32.ofNat f), vi (Int32.ofNat sz), vr ob] [])) (own_K s (fun (v : Option Value) (h : Heap) (L : List Loc) => Q45 Z ob kb ln bs n f sz fmv h0 n0 v h L) ({ frames := 2, cells := 0, slots := 0, locals := 29 } : Room).cells ({ frames := 2, cells := 0, slots := 0, locals := 29 } : Room).slots) := by
  obtain ⟨hx, hZ, hw, hby, hml, hown, hret, hlk, hnm⟩ := C
  refine vs T0 1 [(.int (Int32.ofNat f))] (fun t k => XS.iloadN X0.here hx rfl (hb hby d45_0) rfl k) ?_
  refine vs T0 2 [(.int (Int32.ofNat sz)), (.int (Int32.ofNat f))] (fun t k => XS.iloadN X0.here hx rfl (hb hby d45_1) rfl k) ?_
  refine vs T0 3 [(.ref ob), (.int (Int32.ofNat sz)), (.int (Int32.ofNat f))] (fun t k => XS.aloadN X0.here hx rfl (hb hby d45_2) rfl rfl k) ?_
  obtain ⟨_, _, ⟨T1, L1, k1, n1⟩, -, X1, ⟨Lc1, hQ1, l1, y1, z1⟩, st1⟩ := Jvm.LawKit.callS X0 hx (y := (⟨"java/lang/StringUTF16", "length", "([B)I"⟩ : MethodName)) hown (mvT hZ (ww hw 244 rfl)) (mvT hZ (ww hw 245 rfl)) (mvT hZ (ww hw 17 rfl)) (mvT hZ (ww hw 246 rfl)) (by decide) (backOf (W := 2) (rm46 l Z a0 hw [] ob kb ln bs n h0 n0 Z0 VB hl2 hn) hZ (ww hw 246 rfl) (ww hw 17 rfl) (by decide) (by decide)) (g := (mkF m 3 #[vi (Int32.ofNat f), vi (Int32.ofNat sz), vr ob] [(.ref ob), (.int (Int32.ofNat sz)), (.int (Int32.ofNat f))])) rfl (by rw [hml]; rfl) (argsL := [(.ref ob)]) (rest := [(.int (Int32.ofNat sz)), (.int (Int32.ofNat f))]) (lenOf pd_10 rfl) rfl (by show 2 * 0 + _ ≤ _; exact Nat.le_of_eq rfl) (hb hby d45_3) (fun _ _ => ⟨rfl, e0, (by decide : 0 + 0 ≤ _), (by decide : 0 + 0 ≤ _)⟩)
  dsimp only [Pt.U, Pt.locs, Pt.cells, Pt.slots] at X1 l1 y1 z1 st1 hQ1
  subst l1 y1 z1
  obtain ⟨rfl, Nq1, eh1⟩ := hQ1
  have N1 := Fr.app N0 Nq1
  refine vs T1 6 [(.int (Int32.ofNat n)), (.int (Int32.ofNat sz)), (.int (Int32.ofNat f))] (fun t k => st1 t k) ?_
  obtain ⟨_, _, ⟨T2, L2, k2, n2⟩, -, X2, ⟨Lc2, hQ2, l2, y2, z2⟩, st2⟩ := Jvm.LawKit.callS X1 hx (y := (⟨"java/lang/String", "checkBoundsOffCount", "(III)I"⟩ : MethodName)) hown (mvT hZ (ww hw 247 rfl)) (mvT hZ (ww hw 121 rfl)) (mvT hZ (ww hw 3 rfl)) (mvT hZ (ww hw 122 rfl)) (by decide) (backOf (W := 0) (rm21 l Z a0 hw [] f sz n fmv h0 n0 Z0 SF hfl (by omega) hrf) hZ (ww hw 122 rfl) (ww hw 3 rfl) (by decide) (by decide)) (g := (mkF m 6 #[vi (Int32.ofNat f), vi (Int32.ofNat sz), vr ob] [(.int (Int32.ofNat n)), (.int (Int32.ofNat sz)), (.int (Int32.ofNat f))])) rfl (by rw [hml]; rfl) (argsL := [(.int (Int32.ofNat f)), (.int (Int32.ofNat sz)), (.int (Int32.ofNat n))]) (rest := []) (lenOf pd_11 rfl) rfl (by show 2 * 0 + _ ≤ _; exact Nat.le_of_eq rfl) (hb hby d45_6) (fun _ _ => ⟨rfl, eh1, (by decide : (0 + 0) + 0 ≤ _), (by decide : (0 + 0) + 0 ≤ _)⟩)
  dsimp only [Pt.U, Pt.locs, Pt.cells, Pt.slots] at X2 l2 y2 z2 st2 hQ2
  subst l2 y2 z2
  obtain ⟨rfl, Nq2, eh2⟩ := hQ2
  have N2 := Fr.app N1 Nq2
  refine vs T2 9 [(.int (Int32.ofNat f))] (fun t k => st2 t k) ?_
  refine vs T2 10 [] (fun t k => XT.pop X2.here hx rfl (hb hby d45_9) rfl rfl k) ?_
  exact own_fin X2 eh2 (v := none) (fun _ => rfl) hlk (fun fs hr => X2.returnOut hx hret (hb hby d45_10) hr) (show ((fun (v : Option Value) (h : Heap) (L : List Loc) => Q45 Z ob kb ln bs n f sz fmv h0 n0 v h L)) none h0 _ from ⟨rfl, N2, rfl⟩) (by decide) (by decide)
theorem ef_45 (m : MethodId) (ob : Addr) (f : Nat) (sz : Nat) : entryFrame m #[(.int (Int32.ofNat f)), (.int (Int32.ofNat sz)), (.ref ob)] 3 = mkF m 0 #[vi (Int32.ofNat f), vi (Int32.ofNat sz), vr ob] [] := by first | (simp [entryFrame, mkF, argsToLocals, Value.category, maxLocals]; done) | rfl
theorem rm45 (l : Launch) (Z : State) (a0 : Array Value) (hw : ∀ d ∈ tables_1, d.before a0 Z = true) (ws : List Jvm.Cond) (ob : Addr) (kb : ClassId) (ln : Nat) (bs : List Int32) (n : Nat) (f : Nat) (sz : Nat) (fmv : Value) (h0 : Heap) (n0 : Nat) (Z0 : n0 ≤ h0.size) (VB : Arv Z h0 ob kb .byte (Int32.ofNat ln) (own_iv bs) (.int (0 : Int32))) (SF : Sta Z h0 "jdk/internal/util/Preconditions" "SIOOBE_FORMATTER" "Ljava/util/function/BiFunction;" fmv) (hl2 : ln = 2 * n) (hn : n ≤ 4) (hfl : f + sz ≤ n) (hrf : fmv.isRef = true) :
    MetFree l (⟨"java/lang/StringUTF16", "checkBoundsOffCount", "(II[B)V"⟩ : MethodName) (head1 (Jvm.Cond.code (⟨"java/lang/StringUTF16", "checkBoundsOffCount", "(II[B)V"⟩ : MethodName) jdk_52_method_94_code 3 none :: ws) ({ frames := 2, cells := 0, slots := 0, locals := 29 } : Room)) (fun a U => a = #[(.int (Int32.ofNat f)), (.int (Int32.ofNat sz)), (.ref ob)] ∧ Z.Warmed39 U.vm ∧ U.heap = h0) (fun _ _ _ _ _ => True) (fun _ U o U' => ∃ v L, o = .returned v ∧ Q45 Z ob kb ln bs n f sz fmv h0 n0 v U'.heap L ∧ FrameEnd U o U' L ({ frames := 2, cells := 0, slots := 0, locals := 29 } : Room).cells ({ frames := 2, cells := 0, slots := 0, locals := 29 } : Room).slots) := by
  refine MetFree.of_bodySF (plainFor_of_name pn_0) hisR ?_
  intro p e s m args below meth c s₁ Bd hml0 hP hK
  obtain ⟨rfl, hZ, hh⟩ := hP
  have e0 : s₁.heap = h0 := by rw [← hh, Bd.state]; rfl
  rw [ef_45 m ob f sz]
  exact b45 ob kb ln bs n f sz fmv ⟨Bd.exec, hZ, hw, Bd.bytes, hml0, findClass_of_methodNamed Bd.named, Bd.returns, Bd.notSynchronized, (name_of_methodNamed Bd.named Bd.method).1⟩ (Stand.of_body Bd) e0 Z0 (Fr.nil n0) VB SF hl2 hn hfl hrf
theorem d11_3 : dq cb19 3 (.iload 5) 2 := by decide +kernel
theorem d11_5 : dq cb19 5 (.iload 4) 2 := by decide +kernel
theorem d11_7 : dq cb19 7 (.if_icmp .ge 26) 3 := by decide +kernel
theorem d11_33 : dq cb19 33 .return_ 1 := by decide +kernel
theorem d11_10 : dq cb19 10 (.aload_n 2) 1 := by decide +kernel
theorem d11_11 : dq cb19 11 (.iload_n 3) 1 := by decide +kernel
theorem d11_12 : dq cb19 12 (.iinc 3 1) 3 := by decide +kernel
theorem d11_15 : dq cb19 15 (.aload_n 0) 1 := by decide +kernel
theorem d11_16 : dq cb19 16 (.iload_n 1) 1 := by decide +kernel
theorem d11_17 : dq cb19 17 (.iinc 1 1) 3 := by decide +kernel
theorem d11_20 : dq cb19 20 .baload 1 := by decide +kernel
theorem d11_21 : dq cb19 21 (.sipush 255) 3 := by decide +kernel
theorem d11_24 : dq cb19 24 .iand 1 := by decide +kernel
theorem d11_25 : dq cb19 25 .i2c 1 := by decide +kernel
theorem d11_26 : dq cb19 26 .castore 1 := by decide +kernel
theorem d11_27 : dq cb19 27 (.iinc 5 1) 3 := by decide +kernel
theorem d11_30 : dq cb19 30 (.goto (-27)) 3 := by decide +kernel
theorem b11_3  (ob : Addr) (kb : ClassId) (ln : Nat) (bs : List Int32) (oc : Addr) (kc : ClassId) (f : Nat) (m1 : Nat) (cs : List Int32) (hE : Heap) (C : own_C p s m meth c Z a0 jdk_43_method_49_code 6 "java/lang/StringLatin1" none "inflate") (g_oc : n0 ≤ oc) (hL : own_encL2 cs ln bs) (hfm : f + m1 ≤ cs.length) (hch : ∀ j, j < cs.length → own_ch (cs.getD j 0)) (hc4 : cs.length ≤ 4) (ne_bc : ob ≠ oc) :
    ∀ (r : Nat) (i : Nat) (ds : List Int32) (T0 : State) (locs : List Loc) (h0 : Heap) (X0 : Stand p l e ({ frames := 0, cells := 0, slots := 0, locals := 0 } : Room) s m args below meth c T0 locs 0 0) (e0 : T0.heap = h0) (Z0 : n0 ≤ h0.size) (N0 : Fr n0 locs) (VB : Arv Z h0 ob kb .byte (Int32.ofNat ln) (own_iv bs) (.int (0 : Int32))) (VC : Arv Z h0 oc kc .char (Int32.ofNat m1) (own_iv ds) (.int (0 : Int32))) (KE : Keep hE h0 [oc]) (hr : r = m1 - i) (hin : i ≤ m1) (hds : ds = own_sls cs f i (List.replicate m1 0)), own_Go p.tables e below (T0.setTop (mkF m 3 #[vr ob, vi (Int32.ofNat (f + i)), vr oc, vi (Int32.ofNat i), vi (Int32.ofNat m1), vi (Int32.ofNat i)] [])) (own_K s (fun (v : Option Value) (h : Heap) (L : List Loc) => v = none ∧ Fr n0 L ∧ Keep hE h [oc] ∧ Arv Z h oc kc .char (Int32.ofNat m1) (own_iv (own_sl cs f m1)) (.int (0 : Int32))) ({ frames := 0, cells := 0, slots := 0, locals := 0 } : Room).cells ({ frames := 0, cells := 0, slots := 0, locals := 0 } : Room).slots) := by
  obtain ⟨hx, hZ, hw, hby, hml, hown, hret, hlk, hnm⟩ := C
  intro r
  induction r with
  | zero =>
    intro i ds T0 locs h0 X0 e0 Z0 N0 VB VC KE hr hin hds
    refine vs T0 5 [(.int (Int32.ofNat i))] (fun t k => XS.iload X0.here hx rfl (hb hby d11_3) rfl k) ?_
    refine vs T0 7 [(.int (Int32.ofNat m1)), (.int (Int32.ofNat i))] (fun t k => XS.iload X0.here hx rfl (hb hby d11_5) rfl k) ?_
    have hc1_7 : ¬ ((Int32.ofNat i) < (Int32.ofNat m1)) := own_nlt (by omega) (by omega) (by omega)
    refine vs T0 33 [] (fun t k => XS.icmpYes X0.here hx rfl (pc0 := 7) (pc' := 33) rfl (hb hby d11_7) rfl (XT.ii_ge_t hc1_7) (by decide) (by decide) k) ?_
    exact own_fin X0 e0 (v := none) (fun _ => rfl) hlk (fun fs hr => X0.returnOut hx hret (hb hby d11_33) hr) (show ((fun (v : Option Value) (h : Heap) (L : List Loc) => v = none ∧ Fr n0 L ∧ Keep hE h [oc] ∧ Arv Z h oc kc .char (Int32.ofNat m1) (own_iv (own_sl cs f m1)) (.int (0 : Int32)))) none h0 _ from ⟨rfl, N0, KE, (by have q := VC; rw [hds, show i = m1 by omega, own_slsall cs f m1 (by omega)] at q; exact q)⟩) (by decide) (by decide)
  | succ r ih =>
    intro i ds T0 locs h0 X0 e0 Z0 N0 VB VC KE hr hin hds
    refine vs T0 5 [(.int (Int32.ofNat i))] (fun t k => XS.iload X0.here hx rfl (hb hby d11_3) rfl k) ?_
    refine vs T0 7 [(.int (Int32.ofNat m1)), (.int (Int32.ofNat i))] (fun t k => XS.iload X0.here hx rfl (hb hby d11_5) rfl k) ?_
    have hc1_7 : (Int32.ofNat i) < (Int32.ofNat m1) := own_lt (by omega) (by omega)
    refine vs T0 10 [] (fun t k => XS.icmpNo X0.here hx rfl (hb hby d11_7) rfl (XT.ii_ge_f hc1_7) k) ?_
    refine vs T0 11 [(.ref oc)] (fun t k => XS.aloadN X0.here hx rfl (hb hby d11_10) rfl rfl k) ?_
    refine vs T0 12 [(.int (Int32.ofNat i)), (.ref oc)] (fun t k => XS.iloadN X0.here hx rfl (hb hby d11_11) rfl k) ?_
    refine vv T0 m 15 #[vr ob, vi (Int32.ofNat (f + i)), vr oc, vi ((Int32.ofNat i) + (1 : Int32)), vi (Int32.ofNat m1), vi (Int32.ofNat i)] [(.int (Int32.ofNat i)), (.ref oc)] (fun t k => XS.iinc X0.here hx rfl (hb hby d11_12) rfl (l' := #[vr ob, vi (Int32.ofNat (f + i)), vr oc, vi ((Int32.ofNat i) + (1 : Int32)), vi (Int32.ofNat m1), vi (Int32.ofNat i)]) rfl k) ?_
    refine vs T0 16 [(.ref ob), (.int (Int32.ofNat i)), (.ref oc)] (fun t k => XS.aloadN X0.here hx rfl (hb hby d11_15) rfl rfl k) ?_
    refine vs T0 17 [(.int (Int32.ofNat (f + i))), (.ref ob), (.int (Int32.ofNat i)), (.ref oc)] (fun t k => XS.iloadN X0.here hx rfl (hb hby d11_16) rfl k) ?_
    refine vv T0 m 20 #[vr ob, vi ((Int32.ofNat (f + i)) + (1 : Int32)), vr oc, vi ((Int32.ofNat i) + (1 : Int32)), vi (Int32.ofNat m1), vi (Int32.ofNat i)] [(.int (Int32.ofNat (f + i))), (.ref ob), (.int (Int32.ofNat i)), (.ref oc)] (fun t k => XS.iinc X0.here hx rfl (hb hby d11_17) rfl (l' := #[vr ob, vi ((Int32.ofNat (f + i)) + (1 : Int32)), vr oc, vi ((Int32.ofNat i) + (1 : Int32)), vi (Int32.ofNat m1), vi (Int32.ofNat i)]) rfl k) ?_
    obtain ⟨cl2, Ar2, qc2, S2, NN2, H2, G2⟩ := id VB
    have in2 := inb_of (j := (Int32.ofNat (f + i))) S2 (own_inb (i := f + i) (by have := hL.1; omega) (by have := hL.1; omega))
    have hat2 : cl2.slots[((Int32.ofNat (f + i))).toNatClampNeg]? = some (.int (bs.getD (f + i) 0)) := H2.at in2 (own_ivget bs (i := f + i) (by omega))
    refine vs T0 21 [(.int (bs.getD (f + i) 0)), (.int (Int32.ofNat i)), (.ref oc)] (fun t k => X0.baloadBytes hx (j := (Int32.ofNat (f + i))) (v := (.int (bs.getD (f + i) 0))) (own_eqh e0 Ar2.1) (State.isArrayOf_alike hZ.alike Ar2.2.1) Ar2.2.2 in2 hat2 (g := (mkF m 20 #[vr ob, vi ((Int32.ofNat (f + i)) + (1 : Int32)), vr oc, vi ((Int32.ofNat i) + (1 : Int32)), vi (Int32.ofNat m1), vi (Int32.ofNat i)] [(.int (Int32.ofNat (f + i))), (.ref ob), (.int (Int32.ofNat i)), (.ref oc)])) rfl rfl (hb hby d11_20) t k) ?_
    refine vs T0 24 [(.int (255 : Int32)), (.int (bs.getD (f + i) 0)), (.int (Int32.ofNat i)), (.ref oc)] (fun t k => XS.sipush X0.here hx rfl (hb hby d11_21) k) ?_
    refine vs T0 25 [(.int ((bs.getD (f + i) 0) &&& (255 : Int32))), (.int (Int32.ofNat i)), (.ref oc)] (fun t k => XS.iand X0.here hx rfl (hb hby d11_24) rfl k) ?_
    refine vs T0 26 [(.int (((bs.getD (f + i) 0) &&& (255 : Int32)).toUInt32.toUInt16.toUInt32.toInt32)), (.int (Int32.ofNat i)), (.ref oc)] (fun t k => XT.i2c X0.here hx rfl (hb hby d11_25) rfl k) ?_
    obtain ⟨cl3, Ar3, qc3, S3, NN3, H3, G3⟩ := id VC
    obtain ⟨T3, h3, X3, e3, W3, st3⟩ := stC X0 hx hZ e0 Ar3 (j := (Int32.ofNat i)) (inb_of S3 (own_inb (i := i) (by omega) (by omega))) (g := (mkF m 26 #[vr ob, vi ((Int32.ofNat (f + i)) + (1 : Int32)), vr oc, vi ((Int32.ofNat i) + (1 : Int32)), vi (Int32.ofNat m1), vi (Int32.ofNat i)] [(.int (((bs.getD (f + i) 0) &&& (255 : Int32)).toUInt32.toUInt16.toUInt32.toInt32)), (.int (Int32.ofNat i)), (.ref oc)])) rfl rfl (hb hby d11_26)
    have V_oc'3 : Arv Z h3 oc kc .char (Int32.ofNat m1) (own_iv (ds.set i (cs.getD (f + i) 0))) (.int (0 : Int32)) := (by have q := Arv.set Ar3 qc3 S3 NN3 H3 G3 (fits_nar_char _) W3 i (own_cl (by omega)) (by rw [own_ivlen, hds, own_slslen]; simp; omega); rw [own_latat hL hch (by omega), own_ivset] at q; exact q)
    have VB'3 := VB.other W3 ne_bc
    have N3 := Fr.snoc X3 N0 g_oc
    have Z3 : n0 ≤ h3.size := Nat.le_trans Z0 (Keep.of_wr W3).1
    have K3 := (KE).wr W3 (Or.inl (List.mem_of_getElem? (i := 0) rfl))
    refine vs T3 27 [] (fun t k => st3 t k) ?_
    refine vv T3 m 30 #[vr ob, vi ((Int32.ofNat (f + i)) + (1 : Int32)), vr oc, vi ((Int32.ofNat i) + (1 : Int32)), vi (Int32.ofNat m1), vi ((Int32.ofNat i) + (1 : Int32))] [] (fun t k => XS.iinc X3.here hx rfl (hb hby d11_27) rfl (l' := #[vr ob, vi ((Int32.ofNat (f + i)) + (1 : Int32)), vr oc, vi ((Int32.ofNat i) + (1 : Int32)), vi (Int32.ofNat m1), vi ((Int32.ofNat i) + (1 : Int32))]) rfl k) ?_
    refine vs T3 3 [] (fun t k => XS.goto X3.here hx rfl (pc0 := 30) (pc' := 3) rfl (hb hby d11_30) (by decide) (by decide) k) ?_
    rw [own_one (f + i), own_one i]
    exact ih (i + 1) _ T3 _ _ X3 e3 Z3 N3 VB'3 V_oc'3 K3 (by omega) (by omega) (by rw [hds]; rfl)
theorem d11_0 : dq cb19 0 (.iconst 0) 1 := by decide +kernel
theorem d11_1 : dq cb19 1 (.istore 5) 2 := by decide +kernel
theorem b11_0  (ob : Addr) (kb : ClassId) (ln : Nat) (bs : List Int32) (oc : Addr) (kc : ClassId) (f : Nat) (m1 : Nat) (cs : List Int32)
    (C : own_C p s m meth c Z a0 jdk_43_method_49_code 6 "java/lang/StringLatin1" none "inflate") (X0 : Stand p l e ({ frames := 0, cells := 0, slots := 0, locals := 0 } : Room) s m args below meth c T0 locs 0 0) (e0 : T0.heap = h0) (Z0 : n0 ≤ h0.size) (N0 : Fr n0 locs) (VB : Arv Z h0 ob kb .byte (Int32.ofNat ln) (own_iv bs) (.int (0 : Int32))) (VC : Arv Z h0 oc kc .char (Int32.ofNat m1) (own_iv (List.replicate m1 0)) (.int (0 : Int32))) (g_oc : n0 ≤ oc) (hL : own_encL2 cs ln bs) (hfm : f + m1 ≤ cs.length) (hch : ∀ j, j < cs.length → own_ch (cs.getD j 0)) (hc4 : cs.length ≤ 4) (ne_bc : ob ≠ oc) :
    own_Go p.tables e below (T0.setTop (mkF m 0 #[vr ob, vi (Int32.ofNat f), vr oc, vi (0 : Int32), vi (Int32.ofNat m1), .unset] [])) (own_K s (fun (v : Option Value) (h : Heap) (L : List Loc) => v = none ∧ Fr n0 L ∧ Keep h0 h [oc] ∧ Arv Z h oc kc .char (Int32.ofNat m1) (own_iv (own_sl cs f m1)) (.int (0 : Int32))) ({ frames := 0, cells := 0, slots := 0, locals := 0 } : Room).cells ({ frames := 0, cells := 0, slots := 0, locals := 0 } : Room).slots) := by
  obtain ⟨hx, hZ, hw, hby, hml, hown, hret, hlk, hnm⟩ := C
  refine vs T0 1 [(.int (0 : Int32))] (fun t k => XS.iconst X0.here hx rfl (hb hby d11_0) k) ?_
  refine vv T0 m 3 #[vr ob, vi (Int32.ofNat f), vr oc, vi (0 : Int32), vi (Int32.ofNat m1), vi (0 : Int32)] [] (fun t k => XS.istore X0.here hx rfl (hb hby d11_1) rfl (l' := #[vr ob, vi (Int32.ofNat f), vr oc, vi (0 : Int32), vi (Int32.ofNat m1), vi (0 : Int32)]) rfl k) ?_
  exact b11_3 ob kb ln bs oc kc f m1 cs h0 ⟨hx, hZ, hw, hby, hml, hown, hret, hlk, hnm⟩ g_oc hL hfm hch hc4 ne_bc m1 0 _ T0 _ _ X0 e0 Z0 N0 VB VC (Keep.refl h0 [oc]) (by omega) (by omega) rfl
def Q11 (Z : State) (ob : Addr) (kb : ClassId) (ln : Nat) (bs : List Int32) (oc : Addr) (kc : ClassId) (f : Nat) (m1 : Nat) (cs : List Int32) (h0 : Heap) (n0 : Nat) (v : Option Value) (h : Heap) (L : List Loc) : Prop := v = none ∧ Fr n0 L ∧ Keep h0 h [oc] ∧ Arv Z h oc kc .char (Int32.ofNat m1) (own_iv (own_sl cs f m1)) (.int (0 : Int32))
theorem pn_3 : plainName "java/lang/StringLatin1" = true := by first | (simp [plainName, overriddenIn]; done) | decide +kernel
theorem ef_11 (m : MethodId) (ob : Addr) (oc : Addr) (f : Nat) (m1 : Nat) : entryFrame m #[(.ref ob), (.int (Int32.ofNat f)), (.ref oc), (.int (0 : Int32)), (.int (Int32.ofNat m1))] 6 = mkF m 0 #[vr ob, vi (Int32.ofNat f), vr oc, vi (0 : Int32), vi (Int32.ofNat m1), .unset] [] := by first | (simp [entryFrame, mkF, argsToLocals, Value.category, maxLocals]; done) | rfl
theorem rm11 (l : Launch) (Z : State) (a0 : Array Value) (hw : ∀ d ∈ tables_1, d.before a0 Z = true) (ws : List Jvm.Cond) (ob : Addr) (kb : ClassId) (ln : Nat) (bs : List Int32) (oc : Addr) (kc : ClassId) (f : Nat) (m1 : Nat) (cs : List Int32) (h0 : Heap) (n0 : Nat) (Z0 : n0 ≤ h0.size) (VB : Arv Z h0 ob kb .byte (Int32.ofNat ln) (own_iv bs) (.int (0 : Int32))) (VC : Arv Z h0 oc kc .char (Int32.ofNat m1) (own_iv (List.replicate m1 0)) (.int (0 : Int32))) (g_oc : n0 ≤ oc) (hL : own_encL2 cs ln bs) (hfm : f + m1 ≤ cs.length) (hch : ∀ j, j < cs.length → own_ch (cs.getD j 0)) (hc4 : cs.length ≤ 4) (ne_bc : ob ≠ oc) :
    MetFree l (⟨"java/lang/StringLatin1", "inflate", "([BI[CII)V"⟩ : MethodName) (head1 (Jvm.Cond.code (⟨"java/lang/StringLatin1", "inflate", "([BI[CII)V"⟩ : MethodName) jdk_43_method_49_code 6 none :: ws) ({ frames := 0, cells := 0, slots := 0, locals := 0 } : Room)) (fun a U => a = #[(.ref ob), (.int (Int32.ofNat f)), (.ref oc), (.int (0 : Int32)), (.int (Int32.ofNat m1))] ∧ Z.Warmed39 U.vm ∧ U.heap = h0) (fun _ _ _ _ _ => True) (fun _ U o U' => ∃ v L, o = .returned v ∧ Q11 Z ob kb ln bs oc kc f m1 cs h0 n0 v U'.heap L ∧ FrameEnd U o U' L ({ frames := 0, cells := 0, slots := 0, locals := 0 } : Room).cells ({ frames := 0, cells := 0, slots := 0, locals := 0 } : Room).slots) := by
  refine MetFree.of_bodySF (plainFor_of_name pn_3) hisR ?_
  intro p e s m args below meth c s₁ Bd hml0 hP hK
  obtain ⟨rfl, hZ, hh⟩ := hP
  have e0 : s₁.heap = h0 := by rw [← hh, Bd.state]; rfl
  rw [ef_11 m ob oc f m1]
  exact b11_0 ob kb ln bs oc kc f m1 cs ⟨Bd.exec, hZ, hw, Bd.bytes, hml0, findClass_of_methodNamed Bd.named, Bd.returns, Bd.notSynchronized, (name_of_methodNamed Bd.named Bd.method).1⟩ (Stand.of_body Bd) e0 Z0 (Fr.nil n0) VB VC g_oc hL hfm hch hc4 ne_bc
def Q23 (Z : State) (ob : Addr) (kb : ClassId) (ln : Nat) (bs : List Int32) (oc : Addr) (kc : ClassId) (f : Nat) (m1 : Nat) (cs : List Int32) (h0 : Heap) (n0 : Nat) (v : Option Value) (h : Heap) (L : List Loc) : Prop := v = none ∧ Fr n0 L ∧ Keep h0 h [oc] ∧ Arv Z h oc kc .char (Int32.ofNat m1) (own_iv (own_sl cs f m1)) (.int (0 : Int32))
theorem d23_0 : dq cb20 0 (.aload_n 0) 1 := by decide +kernel
theorem d23_1 : dq cb20 1 (.iload_n 1) 1 := by decide +kernel
theorem d23_2 : dq cb20 2 (.aload_n 3) 1 := by decide +kernel
theorem d23_3 : dq cb20 3 (.iload 4) 2 := by decide +kernel
theorem d23_5 : dq cb20 5 (.iload_n 2) 1 := by decide +kernel
theorem d23_6 : dq cb20 6 (.iload_n 1) 1 := by decide +kernel
theorem d23_7 : dq cb20 7 .isub 1 := by decide +kernel
theorem d23_8 : dq cb20 8 (.invokestatic 13) 3 := by decide +kernel
theorem pd_12 : parseMethodDescriptor "([BI[CII)V" = some ⟨[(.array .byte), .int, (.array .char), .int, .int], none⟩ := by decide +kernel
theorem d23_11 : dq cb20 11 .return_ 1 := by decide +kernel
theorem b23  (ob : Addr) (kb : ClassId) (ln : Nat) (bs : List Int32) (oc : Addr) (kc : ClassId) (f : Nat) (m1 : Nat) (cs : List Int32)
    (C : own_C p s m meth c Z a0 jdk_43_method_11_code 5 "java/lang/StringLatin1" none "getChars") (X0 : Stand p l e ({ frames := 1, cells := 0, slots := 0, locals := 17 } : Room) s m args below meth c T0 locs 0 0) (e0 : T0.heap = h0) (Z0 : n0 ≤ h0.size) (N0 : Fr n0 locs) (VB : Arv Z h0 ob kb .byte (Int32.ofNat ln) (own_iv bs) (.int (0 : Int32))) (VC : Arv Z h0 oc kc .char (Int32.ofNat m1) (own_iv (List.replicate m1 0)) (.int (0 : Int32))) (g_oc : n0 ≤ oc) (hL : own_encL2 cs ln bs) (hfm : f + m1 ≤ cs.length) (hch : ∀ j, j < cs.length → own_ch (cs.getD j 0)) (hc4 : cs.length ≤ 4) (ne_bc : ob ≠ oc) :
    own_Go p.tables e below (T0.setTop (mkF m 0 #[vr ob, vi (Int32.ofNat f), vi (Int32.ofNat (f + m1)), vr oc, vi (0 : Int32)] [])) (own_K s (fun (v : Option Value) (h : Heap) (L : List Loc) => Q23 Z ob kb ln bs oc kc f m1 cs h0 n0 v h L) ({ frames := 1, cells := 0, slots := 0, locals := 17 } : Room).cells ({ frames := 1, cells := 0, slots := 0, locals := 17 } : Room).slots) := by
  obtain ⟨hx, hZ, hw, hby, hml, hown, hret, hlk, hnm⟩ := C
  refine vs T0 1 [(.ref ob)] (fun t k => XS.aloadN X0.here hx rfl (hb hby d23_0) rfl rfl k) ?_
  refine vs T0 2 [(.int (Int32.ofNat f)), (.ref ob)] (fun t k => XS.iloadN X0.here hx rfl (hb hby d23_1) rfl k) ?_
  refine vs T0 3 [(.ref oc), (.int (Int32.ofNat f)), (.ref ob)] (fun t k => XS.aloadN X0.here hx rfl (hb hby d23_2) rfl rfl k) ?_
  refine vs T0 5 [(.int (0 : Int32)), (.ref oc), (.int (Int32.ofNat f)), (.ref ob)] (fun t k => XS.iload X0.here hx rfl (hb hby d23_3) rfl k) ?_
  refine vs T0 6 [(.int (Int32.ofNat (f + m1))), (.int (0 : Int32)), (.ref oc), (.int (Int32.ofNat f)), (.ref ob)] (fun t k => XS.iloadN X0.here hx rfl (hb hby d23_5) rfl k) ?_
  refine vs T0 7 [(.int (Int32.ofNat f)), (.int (Int32.ofNat (f + m1))), (.int (0 : Int32)), (.ref oc), (.int (Int32.ofNat f)), (.ref ob)] (fun t k => XS.iloadN X0.here hx rfl (hb hby d23_6) rfl k) ?_
  refine vs T0 8 [(.int ((Int32.ofNat (f + m1)) - (Int32.ofNat f))), (.int (0 : Int32)), (.ref oc), (.int (Int32.ofNat f)), (.ref ob)] (fun t k => XS.isub X0.here hx rfl (hb hby d23_7) rfl k) ?_
  rw [show (Int32.ofNat (f + m1) - Int32.ofNat f) = Int32.ofNat m1 from (own_sub (by omega)).trans (congrArg Int32.ofNat (by omega))]
  obtain ⟨_, _, ⟨T1, L1, k1, n1⟩, -, X1, ⟨Lc1, hQ1, l1, y1, z1⟩, st1⟩ := Jvm.LawKit.callS X0 hx (y := (⟨"java/lang/StringLatin1", "inflate", "([BI[CII)V"⟩ : MethodName)) hown (mvT hZ (ww hw 58 rfl)) (mvT hZ (ww hw 59 rfl)) (mvT hZ (ww hw 56 rfl)) (mvT hZ (ww hw 60 rfl)) (by decide) (backOf (W := 0) (rm11 l Z a0 hw [] ob kb ln bs oc kc f m1 cs h0 n0 Z0 VB VC g_oc hL hfm hch hc4 ne_bc) hZ (ww hw 60 rfl) (ww hw 56 rfl) (by decide) (by decide)) (g := (mkF m 8 #[vr ob, vi (Int32.ofNat f), vi (Int32.ofNat (f + m1)), vr oc, vi (0 : Int32)] [(.int (Int32.ofNat m1)), (.int (0 : Int32)), (.ref oc), (.int (Int32.ofNat f)), (.ref ob)])) rfl (by rw [hml]; rfl) (argsL := [(.ref ob), (.int (Int32.ofNat f)), (.ref oc), (.int (0 : Int32)), (.int (Int32.ofNat m1))]) (rest := []) (lenOf pd_12 rfl) rfl (by show 2 * 0 + _ ≤ _; exact Nat.le_of_eq rfl) (hb hby d23_8) (fun _ _ => ⟨rfl, e0, (by decide : 0 + 0 ≤ _), (by decide : 0 + 0 ≤ _)⟩)
  dsimp only [Pt.U, Pt.locs, Pt.cells, Pt.slots] at X1 l1 y1 z1 st1 hQ1
  subst l1 y1 z1
  obtain ⟨rfl, Nq1, K1q, P0_1⟩ := hQ1
  have N1 := Fr.app N0 Nq1
  have VB'1 := VB.keep K1q (ninS ne_bc nin0)
  have K1 := ((Keep.refl h0 [oc])).trans K1q (allS (Or.inl (List.mem_of_getElem? (i := 0) rfl)) all0)
  have Z1 : n0 ≤ T1.heap.size := Nat.le_trans Z0 K1q.1
  refine vs T1 11 [] (fun t k => st1 t k) ?_
  exact own_fin X1 rfl (v := none) (fun _ => rfl) hlk (fun fs hr => X1.returnOut hx hret (hb hby d23_11) hr) (show ((fun (v : Option Value) (h : Heap) (L : List Loc) => Q23 Z ob kb ln bs oc kc f m1 cs h0 n0 v h L)) none T1.heap _ from ⟨rfl, N1, K1, (P0_1)⟩) (by decide) (by decide)
theorem ef_23 (m : MethodId) (ob : Addr) (oc : Addr) (f : Nat) (m1 : Nat) : entryFrame m #[(.ref ob), (.int (Int32.ofNat f)), (.int (Int32.ofNat (f + m1))), (.ref oc), (.int (0 : Int32))] 5 = mkF m 0 #[vr ob, vi (Int32.ofNat f), vi (Int32.ofNat (f + m1)), vr oc, vi (0 : Int32)] [] := by first | (simp [entryFrame, mkF, argsToLocals, Value.category, maxLocals]; done) | rfl
theorem rm23 (l : Launch) (Z : State) (a0 : Array Value) (hw : ∀ d ∈ tables_1, d.before a0 Z = true) (ws : List Jvm.Cond) (ob : Addr) (kb : ClassId) (ln : Nat) (bs : List Int32) (oc : Addr) (kc : ClassId) (f : Nat) (m1 : Nat) (cs : List Int32) (h0 : Heap) (n0 : Nat) (Z0 : n0 ≤ h0.size) (VB : Arv Z h0 ob kb .byte (Int32.ofNat ln) (own_iv bs) (.int (0 : Int32))) (VC : Arv Z h0 oc kc .char (Int32.ofNat m1) (own_iv (List.replicate m1 0)) (.int (0 : Int32))) (g_oc : n0 ≤ oc) (hL : own_encL2 cs ln bs) (hfm : f + m1 ≤ cs.length) (hch : ∀ j, j < cs.length → own_ch (cs.getD j 0)) (hc4 : cs.length ≤ 4) (ne_bc : ob ≠ oc) :
    MetFree l (⟨"java/lang/StringLatin1", "getChars", "([BII[CI)V"⟩ : MethodName) (head1 (Jvm.Cond.code (⟨"java/lang/StringLatin1", "getChars", "([BII[CI)V"⟩ : MethodName) jdk_43_method_11_code 5 none :: ws) ({ frames := 1, cells := 0, slots := 0, locals := 17 } : Room)) (fun a U => a = #[(.ref ob), (.int (Int32.ofNat f)), (.int (Int32.ofNat (f + m1))), (.ref oc), (.int (0 : Int32))] ∧ Z.Warmed39 U.vm ∧ U.heap = h0) (fun _ _ _ _ _ => True) (fun _ U o U' => ∃ v L, o = .returned v ∧ Q23 Z ob kb ln bs oc kc f m1 cs h0 n0 v U'.heap L ∧ FrameEnd U o U' L ({ frames := 1, cells := 0, slots := 0, locals := 17 } : Room).cells ({ frames := 1, cells := 0, slots := 0, locals := 17 } : Room).slots) := by
  refine MetFree.of_bodySF (plainFor_of_name pn_3) hisR ?_
  intro p e s m args below meth c s₁ Bd hml0 hP hK
  obtain ⟨rfl, hZ, hh⟩ := hP
  have e0 : s₁.heap = h0 := by rw [← hh, Bd.state]; rfl
  rw [ef_23 m ob oc f m1]
  exact b23 ob kb ln bs oc kc f m1 cs ⟨Bd.exec, hZ, hw, Bd.bytes, hml0, findClass_of_methodNamed Bd.named, Bd.returns, Bd.notSynchronized, (name_of_methodNamed Bd.named Bd.method).1⟩ (Stand.of_body Bd) e0 Z0 (Fr.nil n0) VB VC g_oc hL hfm hch hc4 ne_bc
theorem d44_16 : dq cb21 16 (.iload 5) 2 := by decide +kernel
theorem d44_18 : dq cb21 18 (.iload_n 2) 1 := by decide +kernel
theorem d44_19 : dq cb21 19 (.if_icmp .ge 22) 3 := by decide +kernel
theorem d44_41 : dq cb21 41 .return_ 1 := by decide +kernel
theorem d44_22 : dq cb21 22 (.aload_n 3) 1 := by decide +kernel
theorem d44_23 : dq cb21 23 (.iload 4) 2 := by decide +kernel
theorem d44_25 : dq cb21 25 (.iinc 4 1) 3 := by decide +kernel
theorem d44_28 : dq cb21 28 (.aload_n 0) 1 := by decide +kernel
theorem d44_29 : dq cb21 29 (.iload 5) 2 := by decide +kernel
theorem d44_31 : dq cb21 31 (.invokestatic 71) 3 := by decide +kernel
theorem d44_34 : dq cb21 34 .castore 1 := by decide +kernel
theorem d44_35 : dq cb21 35 (.iinc 5 1) 3 := by decide +kernel
theorem d44_38 : dq cb21 38 (.goto (-22)) 3 := by decide +kernel
theorem b44_16  (ob : Addr) (kb : ClassId) (oc : Addr) (kc : ClassId) (f : Nat) (m1 : Nat) (cs : List Int32) (fmv : Value) (hE : Heap) (C : own_C p s m meth c Z a0 jdk_52_method_26_code 6 "java/lang/StringUTF16" none "getChars") (g_oc : n0 ≤ oc) (hfm : f + m1 ≤ cs.length) (hch : ∀ j, j < cs.length → own_ch (cs.getD j 0)) (hc4 : cs.length ≤ 4) (ne_bc : ob ≠ oc) (hrf : fmv.isRef = true) :
    ∀ (r : Nat) (i : Nat) (ds : List Int32) (T0 : State) (locs : List Loc) (h0 : Heap) (X0 : Stand p l e ({ frames := 3, cells := 0, slots := 0, locals := 43 } : Room) s m args below meth c T0 locs 0 0) (e0 : T0.heap = h0) (Z0 : n0 ≤ h0.size) (N0 : Fr n0 locs) (VB : Arv Z h0 ob kb .byte (Int32.ofNat (2 * cs.length)) (own_iv (own_utf cs)) (.int (0 : Int32))) (VC : Arv Z h0 oc kc .char (Int32.ofNat m1) (own_iv ds) (.int (0 : Int32))) (SA : Sta Z h0 "java/lang/StringUTF16" "$assertionsDisabled" "Z" (.int (1 : Int32))) (SH : Sta Z h0 "java/lang/StringUTF16" "HI_BYTE_SHIFT" "I" (.int (0 : Int32))) (SL : Sta Z h0 "java/lang/StringUTF16" "LO_BYTE_SHIFT" "I" (.int (8 : Int32))) (SF : Sta Z h0 "jdk/internal/util/Preconditions" "SIOOBE_FORMATTER" "Ljava/util/function/BiFunction;" fmv) (KE : Keep hE h0 [oc]) (hr : r = m1 - i) (hin : i ≤ m1) (hds : ds = own_sls cs f i (List.replicate m1 0)), own_Go p.tables e below (T0.setTop (mkF m 16 #[vr ob, vi (Int32.ofNat f), vi (Int32.ofNat (f + m1)), vr oc, vi (Int32.ofNat i), vi (Int32.ofNat (f + i))] [])) (own_K s (fun (v : Option Value) (h : Heap) (L : List Loc) => v = none ∧ Fr n0 L ∧ Keep hE h [oc] ∧ Arv Z h oc kc .char (Int32.ofNat m1) (own_iv (own_sl cs f m1)) (.int (0 : Int32))) ({ frames := 3, cells := 0, slots := 0, locals := 43 } : Room).cells ({ frames := 3, cells := 0, slots := 0, locals := 43 } : Room).slots) := by
  obtain ⟨hx, hZ, hw, hby, hml, hown, hret, hlk, hnm⟩ := C
  intro r
  induction r with
  | zero =>
    intro i ds T0 locs h0 X0 e0 Z0 N0 VB VC SA SH SL SF KE hr hin hds
    refine vs T0 18 [(.int (Int32.ofNat (f + i)))] (fun t k => XS.iload X0.here hx rfl (hb hby d44_16) rfl k) ?_
    refine vs T0 19 [(.int (Int32.ofNat (f + m1))), (.int (Int32.ofNat (f + i)))] (fun t k => XS.iloadN X0.here hx rfl (hb hby d44_18) rfl k) ?_
    have hc1_19 : ¬ ((Int32.ofNat (f + i)) < (Int32.ofNat (f + m1))) := own_nlt (by omega) (by omega) (by omega)
    refine vs T0 41 [] (fun t k => XS.icmpYes X0.here hx rfl (pc0 := 19) (pc' := 41) rfl (hb hby d44_19) rfl (XT.ii_ge_t hc1_19) (by decide) (by decide) k) ?_
    exact own_fin X0 e0 (v := none) (fun _ => rfl) hlk (fun fs hr => X0.returnOut hx hret (hb hby d44_41) hr) (show ((fun (v : Option Value) (h : Heap) (L : List Loc) => v = none ∧ Fr n0 L ∧ Keep hE h [oc] ∧ Arv Z h oc kc .char (Int32.ofNat m1) (own_iv (own_sl cs f m1)) (.int (0 : Int32)))) none h0 _ from ⟨rfl, N0, KE, (by have q := VC; rw [hds, show i = m1 by omega, own_slsall cs f m1 (by omega)] at q; exact q)⟩) (by decide) (by decide)
  | succ r ih =>
    intro i ds T0 locs h0 X0 e0 Z0 N0 VB VC SA SH SL SF KE hr hin hds
    refine vs T0 18 [(.int (Int32.ofNat (f + i)))] (fun t k => XS.iload X0.here hx rfl (hb hby d44_16) rfl k) ?_
    refine vs T0 19 [(.int (Int32.ofNat (f + m1))), (.int (Int32.ofNat (f + i)))] (fun t k => XS.iloadN X0.here hx rfl (hb hby d44_18) rfl k) ?_
    have hc1_19 : (Int32.ofNat (f + i)) < (Int32.ofNat (f + m1)) := own_lt (by omega) (by omega)
    refine vs T0 22 [] (fun t k => XS.icmpNo X0.here hx rfl (hb hby d44_19) rfl (XT.ii_ge_f hc1_19) k) ?_
    refine vs T0 23 [(.ref oc)] (fun t k => XS.aloadN X0.here hx rfl (hb hby d44_22) rfl rfl k) ?_
    refine vs T0 25 [(.int (Int32.ofNat i)), (.ref oc)] (fun t k => XS.iload X0.here hx rfl (hb hby d44_23) rfl k) ?_
    refine vv T0 m 28 #[vr ob, vi (Int32.ofNat f), vi (Int32.ofNat (f + m1)), vr oc, vi ((Int32.ofNat i) + (1 : Int32)), vi (Int32.ofNat (f + i))] [(.int (Int32.ofNat i)), (.ref oc)] (fun t k => XS.iinc X0.here hx rfl (hb hby d44_25) rfl (l' := #[vr ob, vi (Int32.ofNat f), vi (Int32.ofNat (f + m1)), vr oc, vi ((Int32.ofNat i) + (1 : Int32)), vi (Int32.ofNat (f + i))]) rfl k) ?_
    refine vs T0 29 [(.ref ob), (.int (Int32.ofNat i)), (.ref oc)] (fun t k => XS.aloadN X0.here hx rfl (hb hby d44_28) rfl rfl k) ?_
    refine vs T0 31 [(.int (Int32.ofNat (f + i))), (.ref ob), (.int (Int32.ofNat i)), (.ref oc)] (fun t k => XS.iload X0.here hx rfl (hb hby d44_29) rfl k) ?_
    obtain ⟨_, _, ⟨T2, L2, k2, n2⟩, -, X2, ⟨Lc2, hQ2, l2, y2, z2⟩, st2⟩ := Jvm.LawKit.callS X0 hx (y := (⟨"java/lang/StringUTF16", "getChar", "([BI)C"⟩ : MethodName)) hown (mvT hZ (ww hw 235 rfl)) (mvT hZ (ww hw 236 rfl)) (mvT hZ (ww hw 17 rfl)) (mvT hZ (ww hw 237 rfl)) (by decide) (backOf (W := 2) (rm43 l Z a0 hw [] ob kb (2 * cs.length) (own_utf cs) (f + i) h0 n0 Z0 VB SA SH SL (by omega) (by omega)) hZ (ww hw 237 rfl) (ww hw 17 rfl) (by decide) (by decide)) (g := (mkF m 31 #[vr ob, vi (Int32.ofNat f), vi (Int32.ofNat (f + m1)), vr oc, vi ((Int32.ofNat i) + (1 : Int32)), vi (Int32.ofNat (f + i))] [(.int (Int32.ofNat (f + i))), (.ref ob), (.int (Int32.ofNat i)), (.ref oc)])) rfl (by rw [hml]; rfl) (argsL := [(.ref ob), (.int (Int32.ofNat (f + i)))]) (rest := [(.int (Int32.ofNat i)), (.ref oc)]) (lenOf pd_5 rfl) rfl (by show 2 * 0 + _ ≤ _; exact Nat.le_of_eq rfl) (hb hby d44_31) (fun _ _ => ⟨rfl, e0, (by decide : 0 + 0 ≤ _), (by decide : 0 + 0 ≤ _)⟩)
    dsimp only [Pt.U, Pt.locs, Pt.cells, Pt.slots] at X2 l2 y2 z2 st2 hQ2
    subst l2 y2 z2
    obtain ⟨rfl, Nq2, eh2⟩ := hQ2
    have N2 := Fr.app N0 Nq2
    refine vs T2 34 [(.int (own_gch ((own_utf cs).getD (2 * (f + i)) 0) ((own_utf cs).getD (2 * (f + i) + 1) 0))), (.int (Int32.ofNat i)), (.ref oc)] (fun t k => st2 t k) ?_
    obtain ⟨cl3, Ar3, qc3, S3, NN3, H3, G3⟩ := id VC
    obtain ⟨T3, h3, X3, e3, W3, st3⟩ := stC X2 hx hZ eh2 Ar3 (j := (Int32.ofNat i)) (inb_of S3 (own_inb (i := i) (by omega) (by omega))) (g := (mkF m 34 #[vr ob, vi (Int32.ofNat f), vi (Int32.ofNat (f + m1)), vr oc, vi ((Int32.ofNat i) + (1 : Int32)), vi (Int32.ofNat (f + i))] [(.int (own_gch ((own_utf cs).getD (2 * (f + i)) 0) ((own_utf cs).getD (2 * (f + i) + 1) 0))), (.int (Int32.ofNat i)), (.ref oc)])) rfl rfl (hb hby d44_34)
    have V_oc'3 : Arv Z h3 oc kc .char (Int32.ofNat m1) (own_iv (ds.set i (cs.getD (f + i) 0))) (.int (0 : Int32)) := (by have q := Arv.set Ar3 qc3 S3 NN3 H3 G3 (fits_nar_char _) W3 i (own_cl (by omega)) (by rw [own_ivlen, hds, own_slslen]; simp; omega); rw [own_utfat hch (by omega), own_nnch (hch _ (by omega)), own_ivset] at q; exact q)
    have VB'3 := VB.other W3 ne_bc
    have SA'3 := SA.wr W3
    have SH'3 := SH.wr W3
    have SL'3 := SL.wr W3
    have SF'3 := SF.wr W3
    have N3 := Fr.snoc X3 N2 g_oc
    have Z3 : n0 ≤ h3.size := Nat.le_trans Z0 (Keep.of_wr W3).1
    have K3 := (KE).wr W3 (Or.inl (List.mem_of_getElem? (i := 0) rfl))
    refine vs T3 35 [] (fun t k => st3 t k) ?_
    refine vv T3 m 38 #[vr ob, vi (Int32.ofNat f), vi (Int32.ofNat (f + m1)), vr oc, vi ((Int32.ofNat i) + (1 : Int32)), vi ((Int32.ofNat (f + i)) + (1 : Int32))] [] (fun t k => XS.iinc X3.here hx rfl (hb hby d44_35) rfl (l' := #[vr ob, vi (Int32.ofNat f), vi (Int32.ofNat (f + m1)), vr oc, vi ((Int32.ofNat i) + (1 : Int32)), vi ((Int32.ofNat (f + i)) + (1 : Int32))]) rfl k) ?_
    refine vs T3 16 [] (fun t k => XS.goto X3.here hx rfl (pc0 := 38) (pc' := 16) rfl (hb hby d44_38) (by decide) (by decide) k) ?_
    rw [own_one i, own_one (f + i)]
    exact ih (i + 1) _ T3 _ _ X3 e3 Z3 N3 VB'3 V_oc'3 SA'3 SH'3 SL'3 SF'3 K3 (by omega) (by omega) (by rw [hds]; rfl)
theorem d44_0 : dq cb21 0 (.iload_n 1) 1 := by decide +kernel
theorem d44_1 : dq cb21 1 (.iload_n 2) 1 := by decide +kernel
theorem d44_2 : dq cb21 2 (.if_icmp .ge 11) 3 := by decide +kernel
theorem d44_5 : dq cb21 5 (.iload_n 1) 1 := by decide +kernel
theorem d44_6 : dq cb21 6 (.iload_n 2) 1 := by decide +kernel
theorem d44_7 : dq cb21 7 (.iload_n 1) 1 := by decide +kernel
theorem d44_8 : dq cb21 8 .isub 1 := by decide +kernel
theorem d44_9 : dq cb21 9 (.aload_n 0) 1 := by decide +kernel
theorem d44_10 : dq cb21 10 (.invokestatic 173) 3 := by decide +kernel
theorem pd_13 : parseMethodDescriptor "(II[B)V" = some ⟨[.int, .int, (.array .byte)], none⟩ := by decide +kernel
theorem d44_13 : dq cb21 13 (.iload_n 1) 1 := by decide +kernel
theorem d44_14 : dq cb21 14 (.istore 5) 2 := by decide +kernel
theorem b44_0  (ob : Addr) (kb : ClassId) (oc : Addr) (kc : ClassId) (f : Nat) (m1 : Nat) (cs : List Int32) (fmv : Value)
    (C : own_C p s m meth c Z a0 jdk_52_method_26_code 6 "java/lang/StringUTF16" none "getChars") (X0 : Stand p l e ({ frames := 3, cells := 0, slots := 0, locals := 43 } : Room) s m args below meth c T0 locs 0 0) (e0 : T0.heap = h0) (Z0 : n0 ≤ h0.size) (N0 : Fr n0 locs) (VB : Arv Z h0 ob kb .byte (Int32.ofNat (2 * cs.length)) (own_iv (own_utf cs)) (.int (0 : Int32))) (VC : Arv Z h0 oc kc .char (Int32.ofNat m1) (own_iv (List.replicate m1 0)) (.int (0 : Int32))) (SA : Sta Z h0 "java/lang/StringUTF16" "$assertionsDisabled" "Z" (.int (1 : Int32))) (SH : Sta Z h0 "java/lang/StringUTF16" "HI_BYTE_SHIFT" "I" (.int (0 : Int32))) (SL : Sta Z h0 "java/lang/StringUTF16" "LO_BYTE_SHIFT" "I" (.int (8 : Int32))) (SF : Sta Z h0 "jdk/internal/util/Preconditions" "SIOOBE_FORMATTER" "Ljava/util/function/BiFunction;" fmv) (g_oc : n0 ≤ oc) (hfm : f + m1 ≤ cs.length) (hch : ∀ j, j < cs.length → own_ch (cs.getD j 0)) (hc4 : cs.length ≤ 4) (ne_bc : ob ≠ oc) (hrf : fmv.isRef = true) :
    own_Go p.tables e below (T0.setTop (mkF m 0 #[vr ob, vi (Int32.ofNat f), vi (Int32.ofNat (f + m1)), vr oc, vi (0 : Int32), .unset] [])) (own_K s (fun (v : Option Value) (h : Heap) (L : List Loc) => v = none ∧ Fr n0 L ∧ Keep h0 h [oc] ∧ Arv Z h oc kc .char (Int32.ofNat m1) (own_iv (own_sl cs f m1)) (.int (0 : Int32))) ({ frames := 3, cells := 0, slots := 0, locals := 43 } : Room).cells ({ frames := 3, cells := 0, slots := 0, locals := 43 } : Room).slots) := by
  obtain ⟨hx, hZ, hw, hby, hml, hown, hret, hlk, hnm⟩ := C
  refine vs T0 1 [(.int (Int32.ofNat f))] (fun t k => XS.iloadN X0.here hx rfl (hb hby d44_0) rfl k) ?_
  refine vs T0 2 [(.int (Int32.ofNat (f + m1))), (.int (Int32.ofNat f))] (fun t k => XS.iloadN X0.here hx rfl (hb hby d44_1) rfl k) ?_
  by_cases hc1_2 : (Int32.ofNat f) < (Int32.ofNat (f + m1))
  · refine vs T0 5 [] (fun t k => XS.icmpNo X0.here hx rfl (hb hby d44_2) rfl (XT.ii_ge_f hc1_2) k) ?_
    refine vs T0 6 [(.int (Int32.ofNat f))] (fun t k => XS.iloadN X0.here hx rfl (hb hby d44_5) rfl k) ?_
    refine vs T0 7 [(.int (Int32.ofNat (f + m1))), (.int (Int32.ofNat f))] (fun t k => XS.iloadN X0.here hx rfl (hb hby d44_6) rfl k) ?_
    refine vs T0 8 [(.int (Int32.ofNat f)), (.int (Int32.ofNat (f + m1))), (.int (Int32.ofNat f))] (fun t k => XS.iloadN X0.here hx rfl (hb hby d44_7) rfl k) ?_
    refine vs T0 9 [(.int ((Int32.ofNat (f + m1)) - (Int32.ofNat f))), (.int (Int32.ofNat f))] (fun t k => XS.isub X0.here hx rfl (hb hby d44_8) rfl k) ?_
    rw [show (Int32.ofNat (f + m1) - Int32.ofNat f) = Int32.ofNat m1 from (own_sub (by omega)).trans (congrArg Int32.ofNat (by omega))]
    refine vs T0 10 [(.ref ob), (.int (Int32.ofNat m1)), (.int (Int32.ofNat f))] (fun t k => XS.aloadN X0.here hx rfl (hb hby d44_9) rfl rfl k) ?_
    obtain ⟨_, _, ⟨T2, L2, k2, n2⟩, -, X2, ⟨Lc2, hQ2, l2, y2, z2⟩, st2⟩ := Jvm.LawKit.callS X0 hx (y := (⟨"java/lang/StringUTF16", "checkBoundsOffCount", "(II[B)V"⟩ : MethodName)) hown (mvT hZ (ww hw 241 rfl)) (mvT hZ (ww hw 242 rfl)) (mvT hZ (ww hw 17 rfl)) (mvT hZ (ww hw 243 rfl)) (by decide) (backOf (W := 0) (rm45 l Z a0 hw [] ob kb (2 * cs.length) (own_utf cs) (cs.length) f m1 fmv h0 n0 Z0 VB SF rfl hc4 hfm hrf) hZ (ww hw 243 rfl) (ww hw 17 rfl) (by decide) (by decide)) (g := (mkF m 10 #[vr ob, vi (Int32.ofNat f), vi (Int32.ofNat (f + m1)), vr oc, vi (0 : Int32), .unset] [(.ref ob), (.int (Int32.ofNat m1)), (.int (Int32.ofNat f))])) rfl (by rw [hml]; rfl) (argsL := [(.int (Int32.ofNat f)), (.int (Int32.ofNat m1)), (.ref ob)]) (rest := []) (lenOf pd_13 rfl) rfl (by show 2 * 0 + _ ≤ _; exact Nat.le_of_eq rfl) (hb hby d44_10) (fun _ _ => ⟨rfl, e0, (by decide : 0 + 0 ≤ _), (by decide : 0 + 0 ≤ _)⟩)
    dsimp only [Pt.U, Pt.locs, Pt.cells, Pt.slots] at X2 l2 y2 z2 st2 hQ2
    subst l2 y2 z2
    obtain ⟨rfl, Nq2, eh2⟩ := hQ2
    have N2 := Fr.app N0 Nq2
    refine vs T2 13 [] (fun t k => st2 t k) ?_
    refine vs T2 14 [(.int (Int32.ofNat f))] (fun t k => XS.iloadN X2.here hx rfl (hb hby d44_13) rfl k) ?_
    refine vv T2 m 16 #[vr ob, vi (Int32.ofNat f), vi (Int32.ofNat (f + m1)), vr oc, vi (0 : Int32), vi (Int32.ofNat f)] [] (fun t k => XS.istore X2.here hx rfl (hb hby d44_14) rfl (l' := #[vr ob, vi (Int32.ofNat f), vi (Int32.ofNat (f + m1)), vr oc, vi (0 : Int32), vi (Int32.ofNat f)]) rfl k) ?_
    exact b44_16 ob kb oc kc f m1 cs fmv h0 ⟨hx, hZ, hw, hby, hml, hown, hret, hlk, hnm⟩ g_oc hfm hch hc4 ne_bc hrf m1 0 _ T2 _ _ X2 eh2 Z0 N2 VB VC SA SH SL SF (Keep.refl h0 [oc]) (by omega) (by omega) rfl
  · refine vs T0 13 [] (fun t k => XS.icmpYes X0.here hx rfl (pc0 := 2) (pc' := 13) rfl (hb hby d44_2) rfl (XT.ii_ge_t hc1_2) (by decide) (by decide) k) ?_
    refine vs T0 14 [(.int (Int32.ofNat f))] (fun t k => XS.iloadN X0.here hx rfl (hb hby d44_13) rfl k) ?_
    refine vv T0 m 16 #[vr ob, vi (Int32.ofNat f), vi (Int32.ofNat (f + m1)), vr oc, vi (0 : Int32), vi (Int32.ofNat f)] [] (fun t k => XS.istore X0.here hx rfl (hb hby d44_14) rfl (l' := #[vr ob, vi (Int32.ofNat f), vi (Int32.ofNat (f + m1)), vr oc, vi (0 : Int32), vi (Int32.ofNat f)]) rfl k) ?_
    exact b44_16 ob kb oc kc f m1 cs fmv h0 ⟨hx, hZ, hw, hby, hml, hown, hret, hlk, hnm⟩ g_oc hfm hch hc4 ne_bc hrf m1 0 _ T0 _ _ X0 e0 Z0 N0 VB VC SA SH SL SF (Keep.refl h0 [oc]) (by omega) (by omega) rfl
def Q44 (Z : State) (ob : Addr) (kb : ClassId) (oc : Addr) (kc : ClassId) (f : Nat) (m1 : Nat) (cs : List Int32) (fmv : Value) (h0 : Heap) (n0 : Nat) (v : Option Value) (h : Heap) (L : List Loc) : Prop := v = none ∧ Fr n0 L ∧ Keep h0 h [oc] ∧ Arv Z h oc kc .char (Int32.ofNat m1) (own_iv (own_sl cs f m1)) (.int (0 : Int32))
theorem ef_44 (m : MethodId) (ob : Addr) (oc : Addr) (f : Nat) (m1 : Nat) : entryFrame m #[(.ref ob), (.int (Int32.ofNat f)), (.int (Int32.ofNat (f + m1))), (.ref oc), (.int (0 : Int32))] 6 = mkF m 0 #[vr ob, vi (Int32.ofNat f), vi (Int32.ofNat (f + m1)), vr oc, vi (0 : Int32), .unset] [] := by first | (simp [entryFrame, mkF, argsToLocals, Value.category, maxLocals]; done) | rfl
theorem rm44 (l : Launch) (Z : State) (a0 : Array Value) (hw : ∀ d ∈ tables_1, d.before a0 Z = true) (ws : List Jvm.Cond) (ob : Addr) (kb : ClassId) (oc : Addr) (kc : ClassId) (f : Nat) (m1 : Nat) (cs : List Int32) (fmv : Value) (h0 : Heap) (n0 : Nat) (Z0 : n0 ≤ h0.size) (VB : Arv Z h0 ob kb .byte (Int32.ofNat (2 * cs.length)) (own_iv (own_utf cs)) (.int (0 : Int32))) (VC : Arv Z h0 oc kc .char (Int32.ofNat m1) (own_iv (List.replicate m1 0)) (.int (0 : Int32))) (SA : Sta Z h0 "java/lang/StringUTF16" "$assertionsDisabled" "Z" (.int (1 : Int32))) (SH : Sta Z h0 "java/lang/StringUTF16" "HI_BYTE_SHIFT" "I" (.int (0 : Int32))) (SL : Sta Z h0 "java/lang/StringUTF16" "LO_BYTE_SHIFT" "I" (.int (8 : Int32))) (SF : Sta Z h0 "jdk/internal/util/Preconditions" "SIOOBE_FORMATTER" "Ljava/util/function/BiFunction;" fmv) (g_oc : n0 ≤ oc) (hfm : f + m1 ≤ cs.length) (hch : ∀ j, j < cs.length → own_ch (cs.getD j 0)) (hc4 : cs.length ≤ 4) (ne_bc : ob ≠ oc) (hrf : fmv.isRef = true) :
    MetFree l (⟨"java/lang/StringUTF16", "getChars", "([BII[CI)V"⟩ : MethodName) (head1 (Jvm.Cond.code (⟨"java/lang/StringUTF16", "getChars", "([BII[CI)V"⟩ : MethodName) jdk_52_method_26_code 6 none :: ws) ({ frames := 3, cells := 0, slots := 0, locals := 43 } : Room)) (fun a U => a = #[(.ref ob), (.int (Int32.ofNat f)), (.int (Int32.ofNat (f + m1))), (.ref oc), (.int (0 : Int32))] ∧ Z.Warmed39 U.vm ∧ U.heap = h0) (fun _ _ _ _ _ => True) (fun _ U o U' => ∃ v L, o = .returned v ∧ Q44 Z ob kb oc kc f m1 cs fmv h0 n0 v U'.heap L ∧ FrameEnd U o U' L ({ frames := 3, cells := 0, slots := 0, locals := 43 } : Room).cells ({ frames := 3, cells := 0, slots := 0, locals := 43 } : Room).slots) := by
  refine MetFree.of_bodySF (plainFor_of_name pn_0) hisR ?_
  intro p e s m args below meth c s₁ Bd hml0 hP hK
  obtain ⟨rfl, hZ, hh⟩ := hP
  have e0 : s₁.heap = h0 := by rw [← hh, Bd.state]; rfl
  rw [ef_44 m ob oc f m1]
  exact b44_0 ob kb oc kc f m1 cs fmv ⟨Bd.exec, hZ, hw, Bd.bytes, hml0, findClass_of_methodNamed Bd.named, Bd.returns, Bd.notSynchronized, (name_of_methodNamed Bd.named Bd.method).1⟩ (Stand.of_body Bd) e0 Z0 (Fr.nil n0) VB VC SA SH SL SF g_oc hfm hch hc4 ne_bc hrf
theorem own_isL {cs : List Int32} {cd : Int32} {ln : Nat} {bs : List Int32} (h : own_enc cs cd ln bs) (q : ¬ own_il cd = 0) : own_encL2 cs ln bs := by
  rcases h with ⟨rfl, x, y, z⟩ | ⟨rfl, -, -⟩
  · exact ⟨x, y, z⟩
  · exact absurd (by decide) q
theorem own_isU {cs : List Int32} {cd : Int32} {ln : Nat} {bs : List Int32} (h : own_enc cs cd ln bs) (q : own_il cd = 0) : ln = 2 * cs.length ∧ bs = own_utf cs := by
  rcases h with ⟨rfl, -, -, -⟩ | ⟨rfl, x, y⟩
  · exact absurd q (by decide)
  · exact ⟨x, y⟩
def Q10 (Z : State) (ob : Addr) (kb : ClassId) (ln : Nat) (bs : List Int32) (cs : List Int32) (h0 : Heap) (n0 : Nat) (v : Option Value) (h : Heap) (L : List Loc) : Prop := ∃ bz : Addr, ∃ kz : ClassId, v = some (.ref bz) ∧ Fr n0 L ∧ Keep h0 h [] ∧ h0.size ≤ bz ∧ Arv Z h bz kz .char (Int32.ofNat cs.length) (own_iv cs) (.int (0 : Int32))
theorem d10_0 : dq cb22 0 (.aload_n 0) 1 := by decide +kernel
theorem d10_1 : dq cb22 1 .arraylength 1 := by decide +kernel
theorem d10_2 : dq cb22 2 (.newarray .char) 2 := by decide +kernel
theorem d10_4 : dq cb22 4 (.astore_n 1) 1 := by decide +kernel
theorem d10_5 : dq cb22 5 (.aload_n 0) 1 := by decide +kernel
theorem d10_6 : dq cb22 6 (.iconst 0) 1 := by decide +kernel
theorem d10_7 : dq cb22 7 (.aload_n 1) 1 := by decide +kernel
theorem d10_8 : dq cb22 8 (.iconst 0) 1 := by decide +kernel
theorem d10_9 : dq cb22 9 (.aload_n 0) 1 := by decide +kernel
theorem d10_10 : dq cb22 10 .arraylength 1 := by decide +kernel
theorem d10_11 : dq cb22 11 (.invokestatic 13) 3 := by decide +kernel
theorem d10_14 : dq cb22 14 (.aload_n 1) 1 := by decide +kernel
theorem d10_15 : dq cb22 15 .areturn 1 := by decide +kernel
theorem b10  (ob : Addr) (kb : ClassId) (ln : Nat) (bs : List Int32) (cs : List Int32)
    (C : own_C p s m meth c Z a0 jdk_43_method_9_code 2 "java/lang/StringLatin1" (some (.array .char)) "toChars") (X0 : Stand p l e ({ frames := 1, cells := 1, slots := 4, locals := 17 } : Room) s m args below meth c T0 locs 0 0) (e0 : T0.heap = h0) (Z0 : n0 ≤ h0.size) (N0 : Fr n0 locs) (VB : Arv Z h0 ob kb .byte (Int32.ofNat ln) (own_iv bs) (.int (0 : Int32))) (hL : own_encL2 cs ln bs) (hch : ∀ j, j < cs.length → own_ch (cs.getD j 0)) (hc4 : cs.length ≤ 4) :
    own_Go p.tables e below (T0.setTop (mkF m 0 #[vr ob, .unset] [])) (own_K s (fun (v : Option Value) (h : Heap) (L : List Loc) => Q10 Z ob kb ln bs cs h0 n0 v h L) ({ frames := 1, cells := 1, slots := 4, locals := 17 } : Room).cells ({ frames := 1, cells := 1, slots := 4, locals := 17 } : Room).slots) := by
  obtain ⟨hx, hZ, hw, hby, hml, hown, hret, hlk, hnm⟩ := C
  have hln := hL.1
  refine vs T0 1 [(.ref ob)] (fun t k => XS.aloadN X0.here hx rfl (hb hby d10_0) rfl rfl k) ?_
  obtain ⟨cl1, Ar1, -, S1, NN1, -, -⟩ := id VB
  refine vs T0 2 [(.int (Int32.ofNat ln))] (fun t k => own_len X0 hx hZ e0 Ar1 S1 NN1 (g := (mkF m 1 #[vr ob, .unset] [(.ref ob)])) rfl rfl (hb hby d10_1) k) ?_
  obtain ⟨T2, h2, k2, X2, e2, E2, A2, st2⟩ := newP X0 hx hZ (ww hw 0 rfl) e0 (g := (mkF m 2 #[vr ob, .unset] [(.int (Int32.ofNat ln))])) rfl (hb hby d10_2) rfl (own_inb (i := ln) (n := ln + 1) (by omega) (by omega)).1 (cap := 4) (by rw [own_cl (by omega)]; omega) (by decide) (by decide) (by decide)
  obtain ⟨b2, g2⟩ : ∃ z, z = h0.size := ⟨_, rfl⟩
  rw [← g2] at A2 st2
  have ne_ob_b2 : ob ≠ b2 := Nat.ne_of_lt (Nat.lt_of_lt_of_le VB.lt (Nat.le_of_eq g2.symm))
  have g_b2 : n0 ≤ b2 := Nat.le_trans Z0 (Nat.le_of_eq g2.symm)
  have VB'2 := VB.ext E2
  have sz_b2 : h0.size ≤ b2 := Nat.le_trans ((Keep.refl h0 [])).1 (Nat.le_of_eq g2.symm)
  have K2 := ((Keep.refl h0 [])).ext E2
  have Z2 : n0 ≤ h2.size := Nat.le_trans Z0 E2.1
  have V_b2 : Arv Z h2 b2 k2 .char (Int32.ofNat ln) (own_iv (List.replicate ln 0)) (.int (0 : Int32)) := ((Arv.new A2 (own_inb (i := ln) (n := ln + 1) (by omega) (by omega)).1)).pad (by intro i; rw [own_ivrep]; exact pad_rep [] _ ln i)
  refine vs T2 4 [(.ref b2)] (fun t k => st2 t k) ?_
  refine vv T2 m 5 #[vr ob, vr b2] [] (fun t k => XS.astoreN X2.here hx rfl (hb hby d10_4) rfl rfl (l' := #[vr ob, vr b2]) rfl k) ?_
  refine vs T2 6 [(.ref ob)] (fun t k => XS.aloadN X2.here hx rfl (hb hby d10_5) rfl rfl k) ?_
  refine vs T2 7 [(.int (0 : Int32)), (.ref ob)] (fun t k => XS.iconst X2.here hx rfl (hb hby d10_6) k) ?_
  refine vs T2 8 [(.ref b2), (.int (0 : Int32)), (.ref ob)] (fun t k => XS.aloadN X2.here hx rfl (hb hby d10_7) rfl rfl k) ?_
  refine vs T2 9 [(.int (0 : Int32)), (.ref b2), (.int (0 : Int32)), (.ref ob)] (fun t k => XS.iconst X2.here hx rfl (hb hby d10_8) k) ?_
  refine vs T2 10 [(.ref ob), (.int (0 : Int32)), (.ref b2), (.int (0 : Int32)), (.ref ob)] (fun t k => XS.aloadN X2.here hx rfl (hb hby d10_9) rfl rfl k) ?_
  obtain ⟨cl3, Ar3, -, S3, NN3, -, -⟩ := id VB'2
  refine vs T2 11 [(.int (Int32.ofNat ln)), (.int (0 : Int32)), (.ref b2), (.int (0 : Int32)), (.ref ob)] (fun t k => own_len X2 hx hZ e2 Ar3 S3 NN3 (g := (mkF m 10 #[vr ob, vr b2] [(.ref ob), (.int (0 : Int32)), (.ref b2), (.int (0 : Int32)), (.ref ob)])) rfl rfl (hb hby d10_10) k) ?_
  obtain ⟨_, _, ⟨T4, L4, k4, n4⟩, -, X4, ⟨Lc4, hQ4, l4, y4, z4⟩, st4⟩ := Jvm.LawKit.callS X2 hx (y := (⟨"java/lang/StringLatin1", "inflate", "([BI[CII)V"⟩ : MethodName)) hown (mvT hZ (ww hw 58 rfl)) (mvT hZ (ww hw 59 rfl)) (mvT hZ (ww hw 56 rfl)) (mvT hZ (ww hw 60 rfl)) (by decide) (backOf (W := 0) (rm11 l Z a0 hw [] ob kb ln bs b2 k2 0 ln cs h2 n0 Z2 VB'2 V_b2 g_b2 hL (by omega) hch hc4 ne_ob_b2) hZ (ww hw 60 rfl) (ww hw 56 rfl) (by decide) (by decide)) (g := (mkF m 11 #[vr ob, vr b2] [(.int (Int32.ofNat ln)), (.int (0 : Int32)), (.ref b2), (.int (0 : Int32)), (.ref ob)])) rfl (by rw [hml]; rfl) (argsL := [(.ref ob), (.int (0 : Int32)), (.ref b2), (.int (0 : Int32)), (.int (Int32.ofNat ln))]) (rest := []) (lenOf pd_12 rfl) rfl (by show 2 * 0 + _ ≤ _; exact Nat.le_of_eq rfl) (hb hby d10_11) (fun _ _ => ⟨rfl, e2, (by decide : (0 + 1) + 0 ≤ _), (by decide : (0 + 4) + 0 ≤ _)⟩)
  dsimp only [Pt.U, Pt.locs, Pt.cells, Pt.slots] at X4 l4 y4 z4 st4 hQ4
  subst l4 y4 z4
  obtain ⟨rfl, Nq4, K4q, P0_4⟩ := hQ4
  have N4 := Fr.app N0 Nq4
  have VB'4 := VB'2.keep K4q (ninS ne_ob_b2 nin0)
  have K4 := (K2).trans K4q (allS (Or.inr sz_b2) all0)
  have Z4 : n0 ≤ T4.heap.size := Nat.le_trans Z2 K4q.1
  refine vs T4 14 [] (fun t k => st4 t k) ?_
  refine vs T4 15 [(.ref b2)] (fun t k => XS.aloadN X4.here hx rfl (hb hby d10_14) rfl rfl k) ?_
  exact own_fin X4 rfl (v := some (.ref b2)) (fun h => by rw [hret] at h; cases h) hlk (fun fs hr => X4.areturnOut hx rfl hret rfl (hb hby d10_15) hr) (show ((fun (v : Option Value) (h : Heap) (L : List Loc) => Q10 Z ob kb ln bs cs h0 n0 v h L)) (some (.ref b2)) T4.heap _ from ⟨b2, k2, rfl, N4, K4, sz_b2, (by have z := P0_4; rw [hln, own_slfull cs hc4] at z; exact z)⟩) (by decide) (by decide)
theorem ef_10 (m : MethodId) (ob : Addr) : entryFrame m #[(.ref ob)] 2 = mkF m 0 #[vr ob, .unset] [] := by first | (simp [entryFrame, mkF, argsToLocals, Value.category, maxLocals]; done) | rfl
theorem rm10 (l : Launch) (Z : State) (a0 : Array Value) (hw : ∀ d ∈ tables_1, d.before a0 Z = true) (ws : List Jvm.Cond) (ob : Addr) (kb : ClassId) (ln : Nat) (bs : List Int32) (cs : List Int32) (h0 : Heap) (n0 : Nat) (Z0 : n0 ≤ h0.size) (VB : Arv Z h0 ob kb .byte (Int32.ofNat ln) (own_iv bs) (.int (0 : Int32))) (hL : own_encL2 cs ln bs) (hch : ∀ j, j < cs.length → own_ch (cs.getD j 0)) (hc4 : cs.length ≤ 4) :
    MetFree l (⟨"java/lang/StringLatin1", "toChars", "([B)[C"⟩ : MethodName) (head1 (Jvm.Cond.code (⟨"java/lang/StringLatin1", "toChars", "([B)[C"⟩ : MethodName) jdk_43_method_9_code 2 (some (.array .char)) :: ws) ({ frames := 1, cells := 1, slots := 4, locals := 17 } : Room)) (fun a U => a = #[(.ref ob)] ∧ Z.Warmed39 U.vm ∧ U.heap = h0) (fun _ _ _ _ _ => True) (fun _ U o U' => ∃ v L, o = .returned v ∧ Q10 Z ob kb ln bs cs h0 n0 v U'.heap L ∧ FrameEnd U o U' L ({ frames := 1, cells := 1, slots := 4, locals := 17 } : Room).cells ({ frames := 1, cells := 1, slots := 4, locals := 17 } : Room).slots) := by
  refine MetFree.of_bodySF (plainFor_of_name pn_3) hisR ?_
  intro p e s m args below meth c s₁ Bd hml0 hP hK
  obtain ⟨rfl, hZ, hh⟩ := hP
  have e0 : s₁.heap = h0 := by rw [← hh, Bd.state]; rfl
  rw [ef_10 m ob]
  exact b10 ob kb ln bs cs ⟨Bd.exec, hZ, hw, Bd.bytes, hml0, findClass_of_methodNamed Bd.named, Bd.returns, Bd.notSynchronized, (name_of_methodNamed Bd.named Bd.method).1⟩ (Stand.of_body Bd) e0 Z0 (Fr.nil n0) VB hL hch hc4
def Q47 (Z : State) (ob : Addr) (kb : ClassId) (cs : List Int32) (fmv : Value) (h0 : Heap) (n0 : Nat) (v : Option Value) (h : Heap) (L : List Loc) : Prop := ∃ bz : Addr, ∃ kz : ClassId, v = some (.ref bz) ∧ Fr n0 L ∧ Keep h0 h [] ∧ h0.size ≤ bz ∧ Arv Z h bz kz .char (Int32.ofNat cs.length) (own_iv cs) (.int (0 : Int32))
theorem d47_0 : dq cb23 0 (.aload_n 0) 1 := by decide +kernel
theorem d47_1 : dq cb23 1 .arraylength 1 := by decide +kernel
theorem d47_2 : dq cb23 2 (.iconst 1) 1 := by decide +kernel
theorem d47_3 : dq cb23 3 .ishr 1 := by decide +kernel
theorem d47_4 : dq cb23 4 (.newarray .char) 2 := by decide +kernel
theorem d47_6 : dq cb23 6 (.astore_n 1) 1 := by decide +kernel
theorem d47_7 : dq cb23 7 (.aload_n 0) 1 := by decide +kernel
theorem d47_8 : dq cb23 8 (.iconst 0) 1 := by decide +kernel
theorem d47_9 : dq cb23 9 (.aload_n 1) 1 := by decide +kernel
theorem d47_10 : dq cb23 10 .arraylength 1 := by decide +kernel
theorem d47_11 : dq cb23 11 (.aload_n 1) 1 := by decide +kernel
theorem d47_12 : dq cb23 12 (.iconst 0) 1 := by decide +kernel
theorem d47_13 : dq cb23 13 (.invokestatic 103) 3 := by decide +kernel
theorem pd_14 : parseMethodDescriptor "([BII[CI)V" = some ⟨[(.array .byte), .int, .int, (.array .char), .int], none⟩ := by decide +kernel
theorem d47_16 : dq cb23 16 (.aload_n 1) 1 := by decide +kernel
theorem d47_17 : dq cb23 17 .areturn 1 := by decide +kernel
theorem b47  (ob : Addr) (kb : ClassId) (cs : List Int32) (fmv : Value)
    (C : own_C p s m meth c Z a0 jdk_52_method_13_code 2 "java/lang/StringUTF16" (some (.array .char)) "toChars") (X0 : Stand p l e ({ frames := 4, cells := 1, slots := 4, locals := 60 } : Room) s m args below meth c T0 locs 0 0) (e0 : T0.heap = h0) (Z0 : n0 ≤ h0.size) (N0 : Fr n0 locs) (VB : Arv Z h0 ob kb .byte (Int32.ofNat (2 * cs.length)) (own_iv (own_utf cs)) (.int (0 : Int32))) (SA : Sta Z h0 "java/lang/StringUTF16" "$assertionsDisabled" "Z" (.int (1 : Int32))) (SH : Sta Z h0 "java/lang/StringUTF16" "HI_BYTE_SHIFT" "I" (.int (0 : Int32))) (SL : Sta Z h0 "java/lang/StringUTF16" "LO_BYTE_SHIFT" "I" (.int (8 : Int32))) (SF : Sta Z h0 "jdk/internal/util/Preconditions" "SIOOBE_FORMATTER" "Ljava/util/function/BiFunction;" fmv) (hch : ∀ j, j < cs.length → own_ch (cs.getD j 0)) (hc4 : cs.length ≤ 4) (hrf : fmv.isRef = true) :
    own_Go p.tables e below (T0.setTop (mkF m 0 #[vr ob, .unset] [])) (own_K s (fun (v : Option Value) (h : Heap) (L : List Loc) => Q47 Z ob kb cs fmv h0 n0 v h L) ({ frames := 4, cells := 1, slots := 4, locals := 60 } : Room).cells ({ frames := 4, cells := 1, slots := 4, locals := 60 } : Room).slots) := by
  obtain ⟨hx, hZ, hw, hby, hml, hown, hret, hlk, hnm⟩ := C
  refine vs T0 1 [(.ref ob)] (fun t k => XS.aloadN X0.here hx rfl (hb hby d47_0) rfl rfl k) ?_
  obtain ⟨cl1, Ar1, -, S1, NN1, -, -⟩ := id VB
  refine vs T0 2 [(.int (Int32.ofNat (2 * cs.length)))] (fun t k => own_len X0 hx hZ e0 Ar1 S1 NN1 (g := (mkF m 1 #[vr ob, .unset] [(.ref ob)])) rfl rfl (hb hby d47_1) k) ?_
  refine vs T0 3 [(.int (1 : Int32)), (.int (Int32.ofNat (2 * cs.length)))] (fun t k => XS.iconst X0.here hx rfl (hb hby d47_2) k) ?_
  refine vs T0 4 [(.int ((Int32.ofNat (2 * cs.length)) >>> ((1 : Int32) &&& 31)))] (fun t k => XT.ishr X0.here hx rfl (hb hby d47_3) rfl k) ?_
  rw [own_shr1 (by omega)]
  obtain ⟨T2, h2, k2, X2, e2, E2, A2, st2⟩ := newP X0 hx hZ (ww hw 0 rfl) e0 (g := (mkF m 4 #[vr ob, .unset] [(.int (Int32.ofNat cs.length))])) rfl (hb hby d47_4) rfl (own_inb (i := cs.length) (n := cs.length + 1) (by omega) (by omega)).1 (cap := 4) (by rw [own_cl (by omega)]; omega) (by decide) (by decide) (by decide)
  obtain ⟨b2, g2⟩ : ∃ z, z = h0.size := ⟨_, rfl⟩
  rw [← g2] at A2 st2
  have ne_ob_b2 : ob ≠ b2 := Nat.ne_of_lt (Nat.lt_of_lt_of_le VB.lt (Nat.le_of_eq g2.symm))
  have g_b2 : n0 ≤ b2 := Nat.le_trans Z0 (Nat.le_of_eq g2.symm)
  have VB'2 := VB.ext E2
  have SA'2 := SA.ext E2
  have SH'2 := SH.ext E2
  have SL'2 := SL.ext E2
  have SF'2 := SF.ext E2
  have sz_b2 : h0.size ≤ b2 := Nat.le_trans ((Keep.refl h0 [])).1 (Nat.le_of_eq g2.symm)
  have K2 := ((Keep.refl h0 [])).ext E2
  have Z2 : n0 ≤ h2.size := Nat.le_trans Z0 E2.1
  have V_b2 : Arv Z h2 b2 k2 .char (Int32.ofNat cs.length) (own_iv (List.replicate cs.length 0)) (.int (0 : Int32)) := ((Arv.new A2 (own_inb (i := cs.length) (n := cs.length + 1) (by omega) (by omega)).1)).pad (by intro i; rw [own_ivrep]; exact pad_rep [] _ cs.length i)
  refine vs T2 6 [(.ref b2)] (fun t k => st2 t k) ?_
  refine vv T2 m 7 #[vr ob, vr b2] [] (fun t k => XS.astoreN X2.here hx rfl (hb hby d47_6) rfl rfl (l' := #[vr ob, vr b2]) rfl k) ?_
  refine vs T2 8 [(.ref ob)] (fun t k => XS.aloadN X2.here hx rfl (hb hby d47_7) rfl rfl k) ?_
  refine vs T2 9 [(.int (0 : Int32)), (.ref ob)] (fun t k => XS.iconst X2.here hx rfl (hb hby d47_8) k) ?_
  refine vs T2 10 [(.ref b2), (.int (0 : Int32)), (.ref ob)] (fun t k => XS.aloadN X2.here hx rfl (hb hby d47_9) rfl rfl k) ?_
  obtain ⟨cl3, Ar3, -, S3, NN3, -, -⟩ := id V_b2
  refine vs T2 11 [(.int (Int32.ofNat cs.length)), (.int (0 : Int32)), (.ref ob)] (fun t k => own_len X2 hx hZ e2 Ar3 S3 NN3 (g := (mkF m 10 #[vr ob, vr b2] [(.ref b2), (.int (0 : Int32)), (.ref ob)])) rfl rfl (hb hby d47_10) k) ?_
  refine vs T2 12 [(.ref b2), (.int (Int32.ofNat cs.length)), (.int (0 : Int32)), (.ref ob)] (fun t k => XS.aloadN X2.here hx rfl (hb hby d47_11) rfl rfl k) ?_
  refine vs T2 13 [(.int (0 : Int32)), (.ref b2), (.int (Int32.ofNat cs.length)), (.int (0 : Int32)), (.ref ob)] (fun t k => XS.iconst X2.here hx rfl (hb hby d47_12) k) ?_
  rw [show Int32.ofNat cs.length = Int32.ofNat (0 + cs.length) by rw [Nat.zero_add]]
  obtain ⟨_, _, ⟨T4, L4, k4, n4⟩, -, X4, ⟨Lc4, hQ4, l4, y4, z4⟩, st4⟩ := Jvm.LawKit.callS X2 hx (y := (⟨"java/lang/StringUTF16", "getChars", "([BII[CI)V"⟩ : MethodName)) hown (mvT hZ (ww hw 251 rfl)) (mvT hZ (ww hw 239 rfl)) (mvT hZ (ww hw 17 rfl)) (mvT hZ (ww hw 240 rfl)) (by decide) (backOf (W := 0) (rm44 l Z a0 hw [] ob kb b2 k2 0 (cs.length) cs fmv h2 n0 Z2 VB'2 V_b2 SA'2 SH'2 SL'2 SF'2 g_b2 (by omega) hch hc4 ne_ob_b2 hrf) hZ (ww hw 240 rfl) (ww hw 17 rfl) (by decide) (by decide)) (g := (mkF m 13 #[vr ob, vr b2] [(.int (0 : Int32)), (.ref b2), (.int (Int32.ofNat (0 + cs.length))), (.int (0 : Int32)), (.ref ob)])) rfl (by rw [hml]; rfl) (argsL := [(.ref ob), (.int (0 : Int32)), (.int (Int32.ofNat (0 + cs.length))), (.ref b2), (.int (0 : Int32))]) (rest := []) (lenOf pd_14 rfl) rfl (by show 2 * 0 + _ ≤ _; exact Nat.le_of_eq rfl) (hb hby d47_13) (fun _ _ => ⟨rfl, e2, (by decide : (0 + 1) + 0 ≤ _), (by decide : (0 + 4) + 0 ≤ _)⟩)
  dsimp only [Pt.U, Pt.locs, Pt.cells, Pt.slots] at X4 l4 y4 z4 st4 hQ4
  subst l4 y4 z4
  obtain ⟨rfl, Nq4, K4q, P0_4⟩ := hQ4
  have N4 := Fr.app N0 Nq4
  have VB'4 := VB'2.keep K4q (ninS ne_ob_b2 nin0)
  have SA'4 := own_stakeep SA'2 K4q (allS (own_objV V_b2) all0)
  have SH'4 := own_stakeep SH'2 K4q (allS (own_objV V_b2) all0)
  have SL'4 := own_stakeep SL'2 K4q (allS (own_objV V_b2) all0)
  have SF'4 := own_stakeep SF'2 K4q (allS (own_objV V_b2) all0)
  have K4 := (K2).trans K4q (allS (Or.inr sz_b2) all0)
  have Z4 : n0 ≤ T4.heap.size := Nat.le_trans Z2 K4q.1
  refine vs T4 16 [] (fun t k => st4 t k) ?_
  refine vs T4 17 [(.ref b2)] (fun t k => XS.aloadN X4.here hx rfl (hb hby d47_16) rfl rfl k) ?_
  exact own_fin X4 rfl (v := some (.ref b2)) (fun h => by rw [hret] at h; cases h) hlk (fun fs hr => X4.areturnOut hx rfl hret rfl (hb hby d47_17) hr) (show ((fun (v : Option Value) (h : Heap) (L : List Loc) => Q47 Z ob kb cs fmv h0 n0 v h L)) (some (.ref b2)) T4.heap _ from ⟨b2, k2, rfl, N4, K4, sz_b2, (by have z := P0_4; rw [own_slfull cs hc4] at z; exact z)⟩) (by decide) (by decide)
theorem ef_47 (m : MethodId) (ob : Addr) : entryFrame m #[(.ref ob)] 2 = mkF m 0 #[vr ob, .unset] [] := by first | (simp [entryFrame, mkF, argsToLocals, Value.category, maxLocals]; done) | rfl
theorem rm47 (l : Launch) (Z : State) (a0 : Array Value) (hw : ∀ d ∈ tables_1, d.before a0 Z = true) (ws : List Jvm.Cond) (ob : Addr) (kb : ClassId) (cs : List Int32) (fmv : Value) (h0 : Heap) (n0 : Nat) (Z0 : n0 ≤ h0.size) (VB : Arv Z h0 ob kb .byte (Int32.ofNat (2 * cs.length)) (own_iv (own_utf cs)) (.int (0 : Int32))) (SA : Sta Z h0 "java/lang/StringUTF16" "$assertionsDisabled" "Z" (.int (1 : Int32))) (SH : Sta Z h0 "java/lang/StringUTF16" "HI_BYTE_SHIFT" "I" (.int (0 : Int32))) (SL : Sta Z h0 "java/lang/StringUTF16" "LO_BYTE_SHIFT" "I" (.int (8 : Int32))) (SF : Sta Z h0 "jdk/internal/util/Preconditions" "SIOOBE_FORMATTER" "Ljava/util/function/BiFunction;" fmv) (hch : ∀ j, j < cs.length → own_ch (cs.getD j 0)) (hc4 : cs.length ≤ 4) (hrf : fmv.isRef = true) :
    MetFree l (⟨"java/lang/StringUTF16", "toChars", "([B)[C"⟩ : MethodName) (head1 (Jvm.Cond.code (⟨"java/lang/StringUTF16", "toChars", "([B)[C"⟩ : MethodName) jdk_52_method_13_code 2 (some (.array .char)) :: ws) ({ frames := 4, cells := 1, slots := 4, locals := 60 } : Room)) (fun a U => a = #[(.ref ob)] ∧ Z.Warmed39 U.vm ∧ U.heap = h0) (fun _ _ _ _ _ => True) (fun _ U o U' => ∃ v L, o = .returned v ∧ Q47 Z ob kb cs fmv h0 n0 v U'.heap L ∧ FrameEnd U o U' L ({ frames := 4, cells := 1, slots := 4, locals := 60 } : Room).cells ({ frames := 4, cells := 1, slots := 4, locals := 60 } : Room).slots) := by
  refine MetFree.of_bodySF (plainFor_of_name pn_0) hisR ?_
  intro p e s m args below meth c s₁ Bd hml0 hP hK
  obtain ⟨rfl, hZ, hh⟩ := hP
  have e0 : s₁.heap = h0 := by rw [← hh, Bd.state]; rfl
  rw [ef_47 m ob]
  exact b47 ob kb cs fmv ⟨Bd.exec, hZ, hw, Bd.bytes, hml0, findClass_of_methodNamed Bd.named, Bd.returns, Bd.notSynchronized, (name_of_methodNamed Bd.named Bd.method).1⟩ (Stand.of_body Bd) e0 Z0 (Fr.nil n0) VB SA SH SL SF hch hc4 hrf
def Q8 (Z : State) (o1 : Addr) (ob : Addr) (kb : ClassId) (ln : Nat) (bs : List Int32) (cd : Int32) (cs : List Int32) (cps : Int32) (fmv : Value) (h0 : Heap) (n0 : Nat) (v : Option Value) (h : Heap) (L : List Loc) : Prop := ∃ bz : Addr, ∃ kz : ClassId, v = some (.ref bz) ∧ Fr n0 L ∧ Keep h0 h [] ∧ h0.size ≤ bz ∧ Arv Z h bz kz .char (Int32.ofNat cs.length) (own_iv cs) (.int (0 : Int32))
theorem d8_0 : dq cb24 0 (.aload_n 0) 1 := by decide +kernel
theorem d8_1 : dq cb24 1 (.invokevirtual 492) 3 := by decide +kernel
theorem pd_15 : parseMethodDescriptor "()Z" = some ⟨[], some .boolean⟩ := by decide +kernel
theorem d8_4 : dq cb24 4 (.ifCond .eq 13) 3 := by decide +kernel
theorem d8_17 : dq cb24 17 (.aload_n 0) 1 := by decide +kernel
theorem d8_18 : dq cb24 18 (.getfield 9) 3 := by decide +kernel
theorem d8_21 : dq cb24 21 (.invokestatic 303) 3 := by decide +kernel
theorem pd_16 : parseMethodDescriptor "([B)[C" = some ⟨[(.array .byte)], some (.array .char)⟩ := by decide +kernel
theorem d8_24 : dq cb24 24 .areturn 1 := by decide +kernel
theorem d8_7 : dq cb24 7 (.aload_n 0) 1 := by decide +kernel
theorem d8_8 : dq cb24 8 (.getfield 9) 3 := by decide +kernel
theorem d8_11 : dq cb24 11 (.invokestatic 299) 3 := by decide +kernel
theorem d8_14 : dq cb24 14 (.goto 10) 3 := by decide +kernel
theorem b8  (o1 : Addr) (ob : Addr) (kb : ClassId) (ln : Nat) (bs : List Int32) (cd : Int32) (cs : List Int32) (cps : Int32) (fmv : Value)
    (C : own_C p s m meth c Z a0 jdk_42_method_129_code 1 "java/lang/String" (some (.array .char)) "toCharArray") (X0 : Stand p l e ({ frames := 5, cells := 1, slots := 4, locals := 73 } : Room) s m args below meth c T0 locs 0 0) (e0 : T0.heap = h0) (Z0 : n0 ≤ h0.size) (N0 : Fr n0 locs) (E1 : Exa Z h0 o1 "java/lang/String") (F1 : Fld Z h0 o1 "java/lang/String" "value" "[B" (.ref ob)) (F2 : Fld Z h0 o1 "java/lang/String" "coder" "B" (.int cd)) (VB : Arv Z h0 ob kb .byte (Int32.ofNat ln) (own_iv bs) (.int (0 : Int32))) (SC : Sta Z h0 "java/lang/String" "COMPACT_STRINGS" "Z" (.int cps)) (SA : Sta Z h0 "java/lang/StringUTF16" "$assertionsDisabled" "Z" (.int (1 : Int32))) (SH : Sta Z h0 "java/lang/StringUTF16" "HI_BYTE_SHIFT" "I" (.int (0 : Int32))) (SL : Sta Z h0 "java/lang/StringUTF16" "LO_BYTE_SHIFT" "I" (.int (8 : Int32))) (SF : Sta Z h0 "jdk/internal/util/Preconditions" "SIOOBE_FORMATTER" "Ljava/util/function/BiFunction;" fmv) (hcp : ¬ cps = 0) (henc : own_enc cs cd ln bs) (hc4 : cs.length ≤ 4) (hc1 : 1 ≤ cs.length) (hch : ∀ j, j < cs.length → own_ch (cs.getD j 0)) (hrf : fmv.isRef = true) :
    own_Go p.tables e below (T0.setTop (mkF m 0 #[vr o1] [])) (own_K s (fun (v : Option Value) (h : Heap) (L : List Loc) => Q8 Z o1 ob kb ln bs cd cs cps fmv h0 n0 v h L) ({ frames := 5, cells := 1, slots := 4, locals := 73 } : Room).cells ({ frames := 5, cells := 1, slots := 4, locals := 73 } : Room).slots) := by
  obtain ⟨hx, hZ, hw, hby, hml, hown, hret, hlk, hnm⟩ := C
  refine vs T0 1 [(.ref o1)] (fun t k => XS.aloadN X0.here hx rfl (hb hby d8_0) rfl rfl k) ?_
  obtain ⟨cq1, kq1, q1a, q1b, q1c⟩ := isOf hZ e0 E1
  obtain ⟨_, _, ⟨T1, L1, k1, n1⟩, -, X1, ⟨Lc1, hQ1, l1, y1, z1⟩, st1⟩ := X0.virtualBack hx (y := (⟨"java/lang/String", "isLatin1", "()Z"⟩ : MethodName)) (z := (⟨"java/lang/String", "isLatin1", "()Z"⟩ : MethodName)) hown (mvT hZ (ww hw 49 rfl)) (mvT hZ (ww hw 50 rfl)) (notFace_of_selects (args := #[]) (mvT hZ (ww hw 52 rfl))) (mvT hZ (ww hw 52 rfl)) (mvT hZ (ww hw 51 rfl)) (by decide) (backOf (W := 0) (rm9 l Z a0 hw [] o1 cd cps h0 n0 Z0 F2 SC hcp) hZ (ww hw 53 rfl) (ww hw 3 rfl) (by decide) (by decide)) q1a q1c (g := (mkF m 1 #[vr o1] [(.ref o1)])) rfl (by rw [hml]; rfl) (Steps.refl _) (argsL := []) (rest := []) (lenOf pd_15 rfl) rfl (by show 2 * 0 + _ ≤ _; exact Nat.le_of_eq rfl) (hb hby d8_1) (fun _ _ => ⟨rfl, e0, (by decide : 0 + 0 ≤ _), (by decide : 0 + 0 ≤ _)⟩)
  dsimp only [Pt.U, Pt.locs, Pt.cells, Pt.slots] at X1 l1 y1 z1 st1 hQ1
  subst l1 y1 z1
  obtain ⟨rfl, Nq1, eh1⟩ := hQ1
  have N1 := Fr.app N0 Nq1
  refine vs T1 4 [(.int (own_il cd))] (fun t k => st1.trans k) ?_
  by_cases hc2_4 : (own_il cd) = (0 : Int32)
  · refine vs T1 17 [] (fun t k => XS.ifYes X1.here hx rfl (pc0 := 4) (pc' := 17) rfl (hb hby d8_4) rfl (XT.i0_eq_t hc2_4) (by decide) (by decide) k) ?_
    refine vs T1 18 [(.ref o1)] (fun t k => XS.aloadN X1.here hx rfl (hb hby d8_17) rfl rfl k) ?_
    obtain ⟨T3, X3, e3, st3⟩ := getF X1 hx hZ hown (host := "") (Or.inl (ww hw 28 rfl)) Via.refl eh1 F1 (g := (mkF m 18 #[vr o1] [(.ref o1)])) rfl rfl (hb hby d8_18)
    refine vs T3 21 [(.ref ob)] (fun t k => st3 t k) ?_
    obtain ⟨eu1, eu2⟩ := own_isU henc hc2_4
    have VU := VB
    rw [eu1, eu2] at VU
    obtain ⟨_, _, ⟨T4, L4, k4, n4⟩, -, X4, ⟨Lc4, hQ4, l4, y4, z4⟩, st4⟩ := Jvm.LawKit.callS X3 hx (y := (⟨"java/lang/StringUTF16", "toChars", "([B)[C"⟩ : MethodName)) hown (mvT hZ (ww hw 248 rfl)) (mvT hZ (ww hw 249 rfl)) (mvT hZ (ww hw 17 rfl)) (mvT hZ (ww hw 250 rfl)) (by decide) (backOf (W := 0) (rm47 l Z a0 hw [] ob kb cs fmv h0 n0 Z0 VU SA SH SL SF hch hc4 hrf) hZ (ww hw 250 rfl) (ww hw 17 rfl) (by decide) (by decide)) (g := (mkF m 21 #[vr o1] [(.ref ob)])) rfl (by rw [hml]; rfl) (argsL := [(.ref ob)]) (rest := []) (lenOf pd_16 rfl) rfl (by show 2 * 0 + _ ≤ _; exact Nat.le_of_eq rfl) (hb hby d8_21) (fun _ _ => ⟨rfl, e3, (by decide : (0 + 0) + 1 ≤ _), (by decide : (0 + 0) + 4 ≤ _)⟩)
    dsimp only [Pt.U, Pt.locs, Pt.cells, Pt.slots] at X4 l4 y4 z4 st4 hQ4
    subst l4 y4 z4
    obtain ⟨bz_4, kz_4, rfl, Nq4, K4q, fz_bz_4, P0_4⟩ := hQ4
    have N4 := Fr.app N1 Nq4
    have E1'4 := E1.keep K4q
    have F1'4 := F1.keep K4q nin0
    have F2'4 := F2.keep K4q nin0
    have VU'4 := VU.keep K4q nin0
    have SC'4 := own_stakeep SC K4q all0
    have SA'4 := own_stakeep SA K4q all0
    have SH'4 := own_stakeep SH K4q all0
    have SL'4 := own_stakeep SL K4q all0
    have SF'4 := own_stakeep SF K4q all0
    have K4 := ((Keep.refl h0 [])).trans K4q all0
    have g_bz_4 : n0 ≤ bz_4 := Nat.le_trans Z0 fz_bz_4
    have sz_bz_4 : h0.size ≤ bz_4 := Nat.le_trans ((Keep.refl h0 [])).1 fz_bz_4
    have ne_o1_bz_4 : o1 ≠ bz_4 := Nat.ne_of_lt (Nat.lt_of_lt_of_le E1.lt fz_bz_4)
    have ne_ob_bz_4 : ob ≠ bz_4 := Nat.ne_of_lt (Nat.lt_of_lt_of_le VU.lt fz_bz_4)
    have Z4 : n0 ≤ T4.heap.size := Nat.le_trans Z0 K4q.1
    refine vs T4 24 [(.ref bz_4)] (fun t k => st4 t k) ?_
    exact own_fin X4 rfl (v := some (.ref bz_4)) (fun h => by rw [hret] at h; cases h) hlk (fun fs hr => X4.areturnOut hx rfl hret rfl (hb hby d8_24) hr) (show ((fun (v : Option Value) (h : Heap) (L : List Loc) => Q8 Z o1 ob kb ln bs cd cs cps fmv h0 n0 v h L)) (some (.ref bz_4)) T4.heap _ from ⟨bz_4, kz_4, rfl, N4, K4, sz_bz_4, (P0_4)⟩) (by decide) (by decide)
  · refine vs T1 7 [] (fun t k => XS.ifNo X1.here hx rfl (hb hby d8_4) rfl (XT.i0_eq_f hc2_4) k) ?_
    refine vs T1 8 [(.ref o1)] (fun t k => XS.aloadN X1.here hx rfl (hb hby d8_7) rfl rfl k) ?_
    obtain ⟨T5, X5, e5, st5⟩ := getF X1 hx hZ hown (host := "") (Or.inl (ww hw 28 rfl)) Via.refl eh1 F1 (g := (mkF m 8 #[vr o1] [(.ref o1)])) rfl rfl (hb hby d8_8)
    refine vs T5 11 [(.ref ob)] (fun t k => st5 t k) ?_
    obtain ⟨_, _, ⟨T6, L6, k6, n6⟩, -, X6, ⟨Lc6, hQ6, l6, y6, z6⟩, st6⟩ := Jvm.LawKit.callS X5 hx (y := (⟨"java/lang/StringLatin1", "toChars", "([B)[C"⟩ : MethodName)) hown (mvT hZ (ww hw 54 rfl)) (mvT hZ (ww hw 55 rfl)) (mvT hZ (ww hw 56 rfl)) (mvT hZ (ww hw 57 rfl)) (by decide) (backOf (W := 0) (rm10 l Z a0 hw [] ob kb ln bs cs h0 n0 Z0 VB (own_isL henc hc2_4) hch hc4) hZ (ww hw 57 rfl) (ww hw 56 rfl) (by decide) (by decide)) (g := (mkF m 11 #[vr o1] [(.ref ob)])) rfl (by rw [hml]; rfl) (argsL := [(.ref ob)]) (rest := []) (lenOf pd_16 rfl) rfl (by show 2 * 0 + _ ≤ _; exact Nat.le_of_eq rfl) (hb hby d8_11) (fun _ _ => ⟨rfl, e5, (by decide : (0 + 0) + 1 ≤ _), (by decide : (0 + 0) + 4 ≤ _)⟩)
    dsimp only [Pt.U, Pt.locs, Pt.cells, Pt.slots] at X6 l6 y6 z6 st6 hQ6
    subst l6 y6 z6
    obtain ⟨bz_6, kz_6, rfl, Nq6, K6q, fz_bz_6, P0_6⟩ := hQ6
    have N6 := Fr.app N1 Nq6
    have E1'6 := E1.keep K6q
    have F1'6 := F1.keep K6q nin0
    have F2'6 := F2.keep K6q nin0
    have VB'6 := VB.keep K6q nin0
    have SC'6 := own_stakeep SC K6q all0
    have SA'6 := own_stakeep SA K6q all0
    have SH'6 := own_stakeep SH K6q all0
    have SL'6 := own_stakeep SL K6q all0
    have SF'6 := own_stakeep SF K6q all0
    have K6 := ((Keep.refl h0 [])).trans K6q all0
    have g_bz_6 : n0 ≤ bz_6 := Nat.le_trans Z0 fz_bz_6
    have sz_bz_6 : h0.size ≤ bz_6 := Nat.le_trans ((Keep.refl h0 [])).1 fz_bz_6
    have ne_o1_bz_6 : o1 ≠ bz_6 := Nat.ne_of_lt (Nat.lt_of_lt_of_le E1.lt fz_bz_6)
    have ne_ob_bz_6 : ob ≠ bz_6 := Nat.ne_of_lt (Nat.lt_of_lt_of_le VB.lt fz_bz_6)
    have Z6 : n0 ≤ T6.heap.size := Nat.le_trans Z0 K6q.1
    refine vs T6 14 [(.ref bz_6)] (fun t k => st6 t k) ?_
    refine vs T6 24 [(.ref bz_6)] (fun t k => XS.goto X6.here hx rfl (pc0 := 14) (pc' := 24) rfl (hb hby d8_14) (by decide) (by decide) k) ?_
    exact own_fin X6 rfl (v := some (.ref bz_6)) (fun h => by rw [hret] at h; cases h) hlk (fun fs hr => X6.areturnOut hx rfl hret rfl (hb hby d8_24) hr) (show ((fun (v : Option Value) (h : Heap) (L : List Loc) => Q8 Z o1 ob kb ln bs cd cs cps fmv h0 n0 v h L)) (some (.ref bz_6)) T6.heap _ from ⟨bz_6, kz_6, rfl, N6, K6, sz_bz_6, (P0_6)⟩) (by decide) (by decide)
theorem ef_8 (m : MethodId) (o1 : Addr) : entryFrame m #[(.ref o1)] 1 = mkF m 0 #[vr o1] [] := by first | (simp [entryFrame, mkF, argsToLocals, Value.category, maxLocals]; done) | rfl
theorem rm8 (l : Launch) (Z : State) (a0 : Array Value) (hw : ∀ d ∈ tables_1, d.before a0 Z = true) (ws : List Jvm.Cond) (o1 : Addr) (ob : Addr) (kb : ClassId) (ln : Nat) (bs : List Int32) (cd : Int32) (cs : List Int32) (cps : Int32) (fmv : Value) (h0 : Heap) (n0 : Nat) (Z0 : n0 ≤ h0.size) (E1 : Exa Z h0 o1 "java/lang/String") (F1 : Fld Z h0 o1 "java/lang/String" "value" "[B" (.ref ob)) (F2 : Fld Z h0 o1 "java/lang/String" "coder" "B" (.int cd)) (VB : Arv Z h0 ob kb .byte (Int32.ofNat ln) (own_iv bs) (.int (0 : Int32))) (SC : Sta Z h0 "java/lang/String" "COMPACT_STRINGS" "Z" (.int cps)) (SA : Sta Z h0 "java/lang/StringUTF16" "$assertionsDisabled" "Z" (.int (1 : Int32))) (SH : Sta Z h0 "java/lang/StringUTF16" "HI_BYTE_SHIFT" "I" (.int (0 : Int32))) (SL : Sta Z h0 "java/lang/StringUTF16" "LO_BYTE_SHIFT" "I" (.int (8 : Int32))) (SF : Sta Z h0 "jdk/internal/util/Preconditions" "SIOOBE_FORMATTER" "Ljava/util/function/BiFunction;" fmv) (hcp : ¬ cps = 0) (henc : own_enc cs cd ln bs) (hc4 : cs.length ≤ 4) (hc1 : 1 ≤ cs.length) (hch : ∀ j, j < cs.length → own_ch (cs.getD j 0)) (hrf : fmv.isRef = true) :
    MetFree l (⟨"java/lang/String", "toCharArray", "()[C"⟩ : MethodName) (head1 (Jvm.Cond.code (⟨"java/lang/String", "toCharArray", "()[C"⟩ : MethodName) jdk_42_method_129_code 1 (some (.array .char)) :: ws) ({ frames := 5, cells := 1, slots := 4, locals := 73 } : Room)) (fun a U => a = #[(.ref o1)] ∧ Z.Warmed39 U.vm ∧ U.heap = h0) (fun _ _ _ _ _ => True) (fun _ U o U' => ∃ v L, o = .returned v ∧ Q8 Z o1 ob kb ln bs cd cs cps fmv h0 n0 v U'.heap L ∧ FrameEnd U o U' L ({ frames := 5, cells := 1, slots := 4, locals := 73 } : Room).cells ({ frames := 5, cells := 1, slots := 4, locals := 73 } : Room).slots) := by
  refine MetFree.of_bodySF (plainFor_of_name pn_1) hisR ?_
  intro p e s m args below meth c s₁ Bd hml0 hP hK
  obtain ⟨rfl, hZ, hh⟩ := hP
  have e0 : s₁.heap = h0 := by rw [← hh, Bd.state]; rfl
  rw [ef_8 m o1]
  exact b8 o1 ob kb ln bs cd cs cps fmv ⟨Bd.exec, hZ, hw, Bd.bytes, hml0, findClass_of_methodNamed Bd.named, Bd.returns, Bd.notSynchronized, (name_of_methodNamed Bd.named Bd.method).1⟩ (Stand.of_body Bd) e0 Z0 (Fr.nil n0) E1 F1 F2 VB SC SA SH SL SF hcp henc hc4 hc1 hch hrf
def Q18 (Z : State) (o1 : Addr) (ob : Addr) (kb : ClassId) (ln : Nat) (bs : List Int32) (cd : Int32) (cs : List Int32) (cps : Int32) (fmv : Value) (oc : Addr) (kc : ClassId) (f : Nat) (m1 : Nat) (h0 : Heap) (n0 : Nat) (v : Option Value) (h : Heap) (L : List Loc) : Prop := v = none ∧ Fr n0 L ∧ Keep h0 h [oc] ∧ Arv Z h oc kc .char (Int32.ofNat m1) (own_iv (own_sl cs f m1)) (.int (0 : Int32))
theorem d18_0 : dq cb25 0 (.iload_n 1) 1 := by decide +kernel
theorem d18_1 : dq cb25 1 (.iload_n 2) 1 := by decide +kernel
theorem d18_2 : dq cb25 2 (.aload_n 0) 1 := by decide +kernel
theorem d18_3 : dq cb25 3 (.invokevirtual 505) 3 := by decide +kernel
theorem pd_17 : parseMethodDescriptor "()I" = some ⟨[], some .int⟩ := by decide +kernel
theorem d18_6 : dq cb25 6 (.invokestatic 521) 3 := by decide +kernel
theorem pd_18 : parseMethodDescriptor "(III)V" = some ⟨[.int, .int, .int], none⟩ := by decide +kernel
theorem d18_9 : dq cb25 9 (.iload 4) 2 := by decide +kernel
theorem d18_11 : dq cb25 11 (.iload_n 2) 1 := by decide +kernel
theorem d18_12 : dq cb25 12 (.iload_n 1) 1 := by decide +kernel
theorem d18_13 : dq cb25 13 .isub 1 := by decide +kernel
theorem d18_14 : dq cb25 14 (.aload_n 3) 1 := by decide +kernel
theorem d18_15 : dq cb25 15 .arraylength 1 := by decide +kernel
theorem d18_16 : dq cb25 16 (.invokestatic 34) 3 := by decide +kernel
theorem d18_19 : dq cb25 19 .pop 1 := by decide +kernel
theorem d18_20 : dq cb25 20 (.aload_n 0) 1 := by decide +kernel
theorem d18_21 : dq cb25 21 (.invokevirtual 492) 3 := by decide +kernel
theorem d18_24 : dq cb25 24 (.ifCond .eq 18) 3 := by decide +kernel
theorem d18_42 : dq cb25 42 (.aload_n 0) 1 := by decide +kernel
theorem d18_43 : dq cb25 43 (.getfield 9) 3 := by decide +kernel
theorem d18_46 : dq cb25 46 (.iload_n 1) 1 := by decide +kernel
theorem d18_47 : dq cb25 47 (.iload_n 2) 1 := by decide +kernel
theorem d18_48 : dq cb25 48 (.aload_n 3) 1 := by decide +kernel
theorem d18_49 : dq cb25 49 (.iload 4) 2 := by decide +kernel
theorem d18_51 : dq cb25 51 (.invokestatic 529) 3 := by decide +kernel
theorem d18_54 : dq cb25 54 .return_ 1 := by decide +kernel
theorem d18_27 : dq cb25 27 (.aload_n 0) 1 := by decide +kernel
theorem d18_28 : dq cb25 28 (.getfield 9) 3 := by decide +kernel
theorem d18_31 : dq cb25 31 (.iload_n 1) 1 := by decide +kernel
theorem d18_32 : dq cb25 32 (.iload_n 2) 1 := by decide +kernel
theorem d18_33 : dq cb25 33 (.aload_n 3) 1 := by decide +kernel
theorem d18_34 : dq cb25 34 (.iload 4) 2 := by decide +kernel
theorem d18_36 : dq cb25 36 (.invokestatic 525) 3 := by decide +kernel
theorem d18_39 : dq cb25 39 (.goto 15) 3 := by decide +kernel
theorem b18  (o1 : Addr) (ob : Addr) (kb : ClassId) (ln : Nat) (bs : List Int32) (cd : Int32) (cs : List Int32) (cps : Int32) (fmv : Value) (oc : Addr) (kc : ClassId) (f : Nat) (m1 : Nat)
    (C : own_C p s m meth c Z a0 jdk_42_method_61_code 5 "java/lang/String" none "getChars") (X0 : Stand p l e ({ frames := 4, cells := 0, slots := 0, locals := 60 } : Room) s m args below meth c T0 locs 0 0) (e0 : T0.heap = h0) (Z0 : n0 ≤ h0.size) (N0 : Fr n0 locs) (E1 : Exa Z h0 o1 "java/lang/String") (F1 : Fld Z h0 o1 "java/lang/String" "value" "[B" (.ref ob)) (F2 : Fld Z h0 o1 "java/lang/String" "coder" "B" (.int cd)) (VB : Arv Z h0 ob kb .byte (Int32.ofNat ln) (own_iv bs) (.int (0 : Int32))) (SC : Sta Z h0 "java/lang/String" "COMPACT_STRINGS" "Z" (.int cps)) (SA : Sta Z h0 "java/lang/StringUTF16" "$assertionsDisabled" "Z" (.int (1 : Int32))) (SH : Sta Z h0 "java/lang/StringUTF16" "HI_BYTE_SHIFT" "I" (.int (0 : Int32))) (SL : Sta Z h0 "java/lang/StringUTF16" "LO_BYTE_SHIFT" "I" (.int (8 : Int32))) (SF : Sta Z h0 "jdk/internal/util/Preconditions" "SIOOBE_FORMATTER" "Ljava/util/function/BiFunction;" fmv) (VC : Arv Z h0 oc kc .char (Int32.ofNat m1) (own_iv (List.replicate m1 0)) (.int (0 : Int32))) (g_oc : n0 ≤ oc) (hcp : ¬ cps = 0) (henc : own_enc cs cd ln bs) (hc4 : cs.length ≤ 4) (hc1 : 1 ≤ cs.length) (hch : ∀ j, j < cs.length → own_ch (cs.getD j 0)) (hrf : fmv.isRef = true) (hfm : f + m1 ≤ cs.length) (ne_1c : o1 ≠ oc) (ne_bc : ob ≠ oc) :
    own_Go p.tables e below (T0.setTop (mkF m 0 #[vr o1, vi (Int32.ofNat f), vi (Int32.ofNat (f + m1)), vr oc, vi (0 : Int32)] [])) (own_K s (fun (v : Option Value) (h : Heap) (L : List Loc) => Q18 Z o1 ob kb ln bs cd cs cps fmv oc kc f m1 h0 n0 v h L) ({ frames := 4, cells := 0, slots := 0, locals := 60 } : Room).cells ({ frames := 4, cells := 0, slots := 0, locals := 60 } : Room).slots) := by
  obtain ⟨hx, hZ, hw, hby, hml, hown, hret, hlk, hnm⟩ := C
  refine vs T0 1 [(.int (Int32.ofNat f))] (fun t k => XS.iloadN X0.here hx rfl (hb hby d18_0) rfl k) ?_
  refine vs T0 2 [(.int (Int32.ofNat (f + m1))), (.int (Int32.ofNat f))] (fun t k => XS.iloadN X0.here hx rfl (hb hby d18_1) rfl k) ?_
  refine vs T0 3 [(.ref o1), (.int (Int32.ofNat (f + m1))), (.int (Int32.ofNat f))] (fun t k => XS.aloadN X0.here hx rfl (hb hby d18_2) rfl rfl k) ?_
  obtain ⟨cq1, kq1, q1a, q1b, q1c⟩ := isOf hZ e0 E1
  obtain ⟨_, _, ⟨T1, L1, k1, n1⟩, -, X1, ⟨Lc1, hQ1, l1, y1, z1⟩, st1⟩ := X0.virtualBack hx (y := (⟨"java/lang/String", "length", "()I"⟩ : MethodName)) (z := (⟨"java/lang/String", "length", "()I"⟩ : MethodName)) hown (mvT hZ (ww hw 111 rfl)) (mvT hZ (ww hw 76 rfl)) (notFace_of_selects (args := #[]) (mvT hZ (ww hw 78 rfl))) (mvT hZ (ww hw 78 rfl)) (mvT hZ (ww hw 77 rfl)) (by decide) (backOf (W := 2) (rm13 l Z a0 hw [] o1 ob kb ln bs cd cs cps h0 n0 Z0 E1 F1 F2 VB SC hcp henc hc4 hc1 hch) hZ (ww hw 79 rfl) (ww hw 3 rfl) (by decide) (by decide)) q1a q1c (g := (mkF m 3 #[vr o1, vi (Int32.ofNat f), vi (Int32.ofNat (f + m1)), vr oc, vi (0 : Int32)] [(.ref o1), (.int (Int32.ofNat (f + m1))), (.int (Int32.ofNat f))])) rfl (by rw [hml]; rfl) (Steps.refl _) (argsL := []) (rest := [(.int (Int32.ofNat (f + m1))), (.int (Int32.ofNat f))]) (lenOf pd_17 rfl) rfl (by show 2 * 0 + _ ≤ _; exact Nat.le_of_eq rfl) (hb hby d18_3) (fun _ _ => ⟨rfl, e0, (by decide : 0 + 0 ≤ _), (by decide : 0 + 0 ≤ _)⟩)
  dsimp only [Pt.U, Pt.locs, Pt.cells, Pt.slots] at X1 l1 y1 z1 st1 hQ1
  subst l1 y1 z1
  obtain ⟨rfl, Nq1, eh1⟩ := hQ1
  have N1 := Fr.app N0 Nq1
  refine vs T1 6 [(.int (Int32.ofNat cs.length)), (.int (Int32.ofNat (f + m1))), (.int (Int32.ofNat f))] (fun t k => st1.trans k) ?_
  obtain ⟨_, _, ⟨T2, L2, k2, n2⟩, -, X2, ⟨Lc2, hQ2, l2, y2, z2⟩, st2⟩ := Jvm.LawKit.callS X1 hx (y := (⟨"java/lang/String", "checkBoundsBeginEnd", "(III)V"⟩ : MethodName)) hown (mvT hZ (ww hw 112 rfl)) (mvT hZ (ww hw 113 rfl)) (mvT hZ (ww hw 3 rfl)) (mvT hZ (ww hw 114 rfl)) (by decide) (backOf (W := 0) (rm19 l Z a0 hw [] f (f + m1) (cs.length) fmv h0 n0 Z0 SF (by omega) hfm (by omega) hrf) hZ (ww hw 114 rfl) (ww hw 3 rfl) (by decide) (by decide)) (g := (mkF m 6 #[vr o1, vi (Int32.ofNat f), vi (Int32.ofNat (f + m1)), vr oc, vi (0 : Int32)] [(.int (Int32.ofNat cs.length)), (.int (Int32.ofNat (f + m1))), (.int (Int32.ofNat f))])) rfl (by rw [hml]; rfl) (argsL := [(.int (Int32.ofNat f)), (.int (Int32.ofNat (f + m1))), (.int (Int32.ofNat cs.length))]) (rest := []) (lenOf pd_18 rfl) rfl (by show 2 * 0 + _ ≤ _; exact Nat.le_of_eq rfl) (hb hby d18_6) (fun _ _ => ⟨rfl, eh1, (by decide : (0 + 0) + 0 ≤ _), (by decide : (0 + 0) + 0 ≤ _)⟩)
  dsimp only [Pt.U, Pt.locs, Pt.cells, Pt.slots] at X2 l2 y2 z2 st2 hQ2
  subst l2 y2 z2
  obtain ⟨rfl, Nq2, eh2⟩ := hQ2
  have N2 := Fr.app N1 Nq2
  refine vs T2 9 [] (fun t k => st2 t k) ?_
  refine vs T2 11 [(.int (0 : Int32))] (fun t k => XS.iload X2.here hx rfl (hb hby d18_9) rfl k) ?_
  refine vs T2 12 [(.int (Int32.ofNat (f + m1))), (.int (0 : Int32))] (fun t k => XS.iloadN X2.here hx rfl (hb hby d18_11) rfl k) ?_
  refine vs T2 13 [(.int (Int32.ofNat f)), (.int (Int32.ofNat (f + m1))), (.int (0 : Int32))] (fun t k => XS.iloadN X2.here hx rfl (hb hby d18_12) rfl k) ?_
  refine vs T2 14 [(.int ((Int32.ofNat (f + m1)) - (Int32.ofNat f))), (.int (0 : Int32))] (fun t k => XS.isub X2.here hx rfl (hb hby d18_13) rfl k) ?_
  rw [show (Int32.ofNat (f + m1) - Int32.ofNat f) = Int32.ofNat m1 from (own_sub (by omega)).trans (congrArg Int32.ofNat (by omega))]
  refine vs T2 15 [(.ref oc), (.int (Int32.ofNat m1)), (.int (0 : Int32))] (fun t k => XS.aloadN X2.here hx rfl (hb hby d18_14) rfl rfl k) ?_
  obtain ⟨cl3, Ar3, -, S3, NN3, -, -⟩ := id VC
  refine vs T2 16 [(.int (Int32.ofNat m1)), (.int (Int32.ofNat m1)), (.int (0 : Int32))] (fun t k => own_len X2 hx hZ eh2 Ar3 S3 NN3 (g := (mkF m 15 #[vr o1, vi (Int32.ofNat f), vi (Int32.ofNat (f + m1)), vr oc, vi (0 : Int32)] [(.ref oc), (.int (Int32.ofNat m1)), (.int (0 : Int32))])) rfl rfl (hb hby d18_15) k) ?_
  obtain ⟨_, _, ⟨T4, L4, k4, n4⟩, -, X4, ⟨Lc4, hQ4, l4, y4, z4⟩, st4⟩ := Jvm.LawKit.callS X2 hx (y := (⟨"java/lang/String", "checkBoundsOffCount", "(III)I"⟩ : MethodName)) hown (mvT hZ (ww hw 120 rfl)) (mvT hZ (ww hw 121 rfl)) (mvT hZ (ww hw 3 rfl)) (mvT hZ (ww hw 122 rfl)) (by decide) (backOf (W := 0) (rm21 l Z a0 hw [] 0 m1 m1 fmv h0 n0 Z0 SF (by omega) (by omega) hrf) hZ (ww hw 122 rfl) (ww hw 3 rfl) (by decide) (by decide)) (g := (mkF m 16 #[vr o1, vi (Int32.ofNat f), vi (Int32.ofNat (f + m1)), vr oc, vi (0 : Int32)] [(.int (Int32.ofNat m1)), (.int (Int32.ofNat m1)), (.int (0 : Int32))])) rfl (by rw [hml]; rfl) (argsL := [(.int (0 : Int32)), (.int (Int32.ofNat m1)), (.int (Int32.ofNat m1))]) (rest := []) (lenOf pd_11 rfl) rfl (by show 2 * 0 + _ ≤ _; exact Nat.le_of_eq rfl) (hb hby d18_16) (fun _ _ => ⟨rfl, eh2, (by decide : ((0 + 0) + 0) + 0 ≤ _), (by decide : ((0 + 0) + 0) + 0 ≤ _)⟩)
  dsimp only [Pt.U, Pt.locs, Pt.cells, Pt.slots] at X4 l4 y4 z4 st4 hQ4
  subst l4 y4 z4
  obtain ⟨rfl, Nq4, eh4⟩ := hQ4
  have N4 := Fr.app N2 Nq4
  refine vs T4 19 [(.int (Int32.ofNat 0))] (fun t k => st4 t k) ?_
  refine vs T4 20 [] (fun t k => XT.pop X4.here hx rfl (hb hby d18_19) rfl rfl k) ?_
  refine vs T4 21 [(.ref o1)] (fun t k => XS.aloadN X4.here hx rfl (hb hby d18_20) rfl rfl k) ?_
  obtain ⟨cq5, kq5, q5a, q5b, q5c⟩ := isOf hZ eh4 E1
  obtain ⟨_, _, ⟨T5, L5, k5, n5⟩, -, X5, ⟨Lc5, hQ5, l5, y5, z5⟩, st5⟩ := X4.virtualBack hx (y := (⟨"java/lang/String", "isLatin1", "()Z"⟩ : MethodName)) (z := (⟨"java/lang/String", "isLatin1", "()Z"⟩ : MethodName)) hown (mvT hZ (ww hw 49 rfl)) (mvT hZ (ww hw 50 rfl)) (notFace_of_selects (args := #[]) (mvT hZ (ww hw 52 rfl))) (mvT hZ (ww hw 52 rfl)) (mvT hZ (ww hw 51 rfl)) (by decide) (backOf (W := 0) (rm9 l Z a0 hw [] o1 cd cps h0 n0 Z0 F2 SC hcp) hZ (ww hw 53 rfl) (ww hw 3 rfl) (by decide) (by decide)) q5a q5c (g := (mkF m 21 #[vr o1, vi (Int32.ofNat f), vi (Int32.ofNat (f + m1)), vr oc, vi (0 : Int32)] [(.ref o1)])) rfl (by rw [hml]; rfl) (Steps.refl _) (argsL := []) (rest := []) (lenOf pd_15 rfl) rfl (by show 2 * 0 + _ ≤ _; exact Nat.le_of_eq rfl) (hb hby d18_21) (fun _ _ => ⟨rfl, eh4, (by decide : (((0 + 0) + 0) + 0) + 0 ≤ _), (by decide : (((0 + 0) + 0) + 0) + 0 ≤ _)⟩)
  dsimp only [Pt.U, Pt.locs, Pt.cells, Pt.slots] at X5 l5 y5 z5 st5 hQ5
  subst l5 y5 z5
  obtain ⟨rfl, Nq5, eh5⟩ := hQ5
  have N5 := Fr.app N4 Nq5
  refine vs T5 24 [(.int (own_il cd))] (fun t k => st5.trans k) ?_
  by_cases hc6_24 : (own_il cd) = (0 : Int32)
  · refine vs T5 42 [] (fun t k => XS.ifYes X5.here hx rfl (pc0 := 24) (pc' := 42) rfl (hb hby d18_24) rfl (XT.i0_eq_t hc6_24) (by decide) (by decide) k) ?_
    refine vs T5 43 [(.ref o1)] (fun t k => XS.aloadN X5.here hx rfl (hb hby d18_42) rfl rfl k) ?_
    obtain ⟨T7, X7, e7, st7⟩ := getF X5 hx hZ hown (host := "") (Or.inl (ww hw 28 rfl)) Via.refl eh5 F1 (g := (mkF m 43 #[vr o1, vi (Int32.ofNat f), vi (Int32.ofNat (f + m1)), vr oc, vi (0 : Int32)] [(.ref o1)])) rfl rfl (hb hby d18_43)
    refine vs T7 46 [(.ref ob)] (fun t k => st7 t k) ?_
    refine vs T7 47 [(.int (Int32.ofNat f)), (.ref ob)] (fun t k => XS.iloadN X7.here hx rfl (hb hby d18_46) rfl k) ?_
    refine vs T7 48 [(.int (Int32.ofNat (f + m1))), (.int (Int32.ofNat f)), (.ref ob)] (fun t k => XS.iloadN X7.here hx rfl (hb hby d18_47) rfl k) ?_
    refine vs T7 49 [(.ref oc), (.int (Int32.ofNat (f + m1))), (.int (Int32.ofNat f)), (.ref ob)] (fun t k => XS.aloadN X7.here hx rfl (hb hby d18_48) rfl rfl k) ?_
    refine vs T7 51 [(.int (0 : Int32)), (.ref oc), (.int (Int32.ofNat (f + m1))), (.int (Int32.ofNat f)), (.ref ob)] (fun t k => XS.iload X7.here hx rfl (hb hby d18_49) rfl k) ?_
    obtain ⟨eu1, eu2⟩ := own_isU henc hc6_24
    have VU := VB
    rw [eu1, eu2] at VU
    obtain ⟨_, _, ⟨T8, L8, k8, n8⟩, -, X8, ⟨Lc8, hQ8, l8, y8, z8⟩, st8⟩ := Jvm.LawKit.callS X7 hx (y := (⟨"java/lang/StringUTF16", "getChars", "([BII[CI)V"⟩ : MethodName)) hown (mvT hZ (ww hw 238 rfl)) (mvT hZ (ww hw 239 rfl)) (mvT hZ (ww hw 17 rfl)) (mvT hZ (ww hw 240 rfl)) (by decide) (backOf (W := 0) (rm44 l Z a0 hw [] ob kb oc kc f m1 cs fmv h0 n0 Z0 VU VC SA SH SL SF g_oc hfm hch hc4 ne_bc hrf) hZ (ww hw 240 rfl) (ww hw 17 rfl) (by decide) (by decide)) (g := (mkF m 51 #[vr o1, vi (Int32.ofNat f), vi (Int32.ofNat (f + m1)), vr oc, vi (0 : Int32)] [(.int (0 : Int32)), (.ref oc), (.int (Int32.ofNat (f + m1))), (.int (Int32.ofNat f)), (.ref ob)])) rfl (by rw [hml]; rfl) (argsL := [(.ref ob), (.int (Int32.ofNat f)), (.int (Int32.ofNat (f + m1))), (.ref oc), (.int (0 : Int32))]) (rest := []) (lenOf pd_14 rfl) rfl (by show 2 * 0 + _ ≤ _; exact Nat.le_of_eq rfl) (hb hby d18_51) (fun _ _ => ⟨rfl, e7, (by decide : ((((0 + 0) + 0) + 0) + 0) + 0 ≤ _), (by decide : ((((0 + 0) + 0) + 0) + 0) + 0 ≤ _)⟩)
    dsimp only [Pt.U, Pt.locs, Pt.cells, Pt.slots] at X8 l8 y8 z8 st8 hQ8
    subst l8 y8 z8
    obtain ⟨rfl, Nq8, K8q, P0_8⟩ := hQ8
    have N8 := Fr.app N5 Nq8
    have E1'8 := E1.keep K8q
    have F1'8 := F1.keep K8q (ninS ne_1c nin0)
    have F2'8 := F2.keep K8q (ninS ne_1c nin0)
    have VU'8 := VU.keep K8q (ninS ne_bc nin0)
    have SC'8 := own_stakeep SC K8q (allS (own_objV VC) all0)
    have SA'8 := own_stakeep SA K8q (allS (own_objV VC) all0)
    have SH'8 := own_stakeep SH K8q (allS (own_objV VC) all0)
    have SL'8 := own_stakeep SL K8q (allS (own_objV VC) all0)
    have SF'8 := own_stakeep SF K8q (allS (own_objV VC) all0)
    have K8 := ((Keep.refl h0 [oc])).trans K8q (allS (Or.inl (List.mem_of_getElem? (i := 0) rfl)) all0)
    have Z8 : n0 ≤ T8.heap.size := Nat.le_trans Z0 K8q.1
    refine vs T8 54 [] (fun t k => st8 t k) ?_
    exact own_fin X8 rfl (v := none) (fun _ => rfl) hlk (fun fs hr => X8.returnOut hx hret (hb hby d18_54) hr) (show ((fun (v : Option Value) (h : Heap) (L : List Loc) => Q18 Z o1 ob kb ln bs cd cs cps fmv oc kc f m1 h0 n0 v h L)) none T8.heap _ from ⟨rfl, N8, K8, (P0_8)⟩) (by decide) (by decide)
  · refine vs T5 27 [] (fun t k => XS.ifNo X5.here hx rfl (hb hby d18_24) rfl (XT.i0_eq_f hc6_24) k) ?_
    refine vs T5 28 [(.ref o1)] (fun t k => XS.aloadN X5.here hx rfl (hb hby d18_27) rfl rfl k) ?_
    obtain ⟨T9, X9, e9, st9⟩ := getF X5 hx hZ hown (host := "") (Or.inl (ww hw 28 rfl)) Via.refl eh5 F1 (g := (mkF m 28 #[vr o1, vi (Int32.ofNat f), vi (Int32.ofNat (f + m1)), vr oc, vi (0 : Int32)] [(.ref o1)])) rfl rfl (hb hby d18_28)
    refine vs T9 31 [(.ref ob)] (fun t k => st9 t k) ?_
    refine vs T9 32 [(.int (Int32.ofNat f)), (.ref ob)] (fun t k => XS.iloadN X9.here hx rfl (hb hby d18_31) rfl k) ?_
    refine vs T9 33 [(.int (Int32.ofNat (f + m1))), (.int (Int32.ofNat f)), (.ref ob)] (fun t k => XS.iloadN X9.here hx rfl (hb hby d18_32) rfl k) ?_
    refine vs T9 34 [(.ref oc), (.int (Int32.ofNat (f + m1))), (.int (Int32.ofNat f)), (.ref ob)] (fun t k => XS.aloadN X9.here hx rfl (hb hby d18_33) rfl rfl k) ?_
    refine vs T9 36 [(.int (0 : Int32)), (.ref oc), (.int (Int32.ofNat (f + m1))), (.int (Int32.ofNat f)), (.ref ob)] (fun t k => XS.iload X9.here hx rfl (hb hby d18_34) rfl k) ?_
    obtain ⟨_, _, ⟨T10, L10, k10, n10⟩, -, X10, ⟨Lc10, hQ10, l10, y10, z10⟩, st10⟩ := Jvm.LawKit.callS X9 hx (y := (⟨"java/lang/StringLatin1", "getChars", "([BII[CI)V"⟩ : MethodName)) hown (mvT hZ (ww hw 126 rfl)) (mvT hZ (ww hw 127 rfl)) (mvT hZ (ww hw 56 rfl)) (mvT hZ (ww hw 128 rfl)) (by decide) (backOf (W := 0) (rm23 l Z a0 hw [] ob kb ln bs oc kc f m1 cs h0 n0 Z0 VB VC g_oc (own_isL henc hc6_24) hfm hch hc4 ne_bc) hZ (ww hw 128 rfl) (ww hw 56 rfl) (by decide) (by decide)) (g := (mkF m 36 #[vr o1, vi (Int32.ofNat f), vi (Int32.ofNat (f + m1)), vr oc, vi (0 : Int32)] [(.int (0 : Int32)), (.ref oc), (.int (Int32.ofNat (f + m1))), (.int (Int32.ofNat f)), (.ref ob)])) rfl (by rw [hml]; rfl) (argsL := [(.ref ob), (.int (Int32.ofNat f)), (.int (Int32.ofNat (f + m1))), (.ref oc), (.int (0 : Int32))]) (rest := []) (lenOf pd_14 rfl) rfl (by show 2 * 0 + _ ≤ _; exact Nat.le_of_eq rfl) (hb hby d18_36) (fun _ _ => ⟨rfl, e9, (by decide : ((((0 + 0) + 0) + 0) + 0) + 0 ≤ _), (by decide : ((((0 + 0) + 0) + 0) + 0) + 0 ≤ _)⟩)
    dsimp only [Pt.U, Pt.locs, Pt.cells, Pt.slots] at X10 l10 y10 z10 st10 hQ10
    subst l10 y10 z10
    obtain ⟨rfl, Nq10, K10q, P0_10⟩ := hQ10
    have N10 := Fr.app N5 Nq10
    have E1'10 := E1.keep K10q
    have F1'10 := F1.keep K10q (ninS ne_1c nin0)
    have F2'10 := F2.keep K10q (ninS ne_1c nin0)
    have VB'10 := VB.keep K10q (ninS ne_bc nin0)
    have SC'10 := own_stakeep SC K10q (allS (own_objV VC) all0)
    have SA'10 := own_stakeep SA K10q (allS (own_objV VC) all0)
    have SH'10 := own_stakeep SH K10q (allS (own_objV VC) all0)
    have SL'10 := own_stakeep SL K10q (allS (own_objV VC) all0)
    have SF'10 := own_stakeep SF K10q (allS (own_objV VC) all0)
    have K10 := ((Keep.refl h0 [oc])).trans K10q (allS (Or.inl (List.mem_of_getElem? (i := 0) rfl)) all0)
    have Z10 : n0 ≤ T10.heap.size := Nat.le_trans Z0 K10q.1
    refine vs T10 39 [] (fun t k => st10 t k) ?_
    refine vs T10 54 [] (fun t k => XS.goto X10.here hx rfl (pc0 := 39) (pc' := 54) rfl (hb hby d18_39) (by decide) (by decide) k) ?_
    exact own_fin X10 rfl (v := none) (fun _ => rfl) hlk (fun fs hr => X10.returnOut hx hret (hb hby d18_54) hr) (show ((fun (v : Option Value) (h : Heap) (L : List Loc) => Q18 Z o1 ob kb ln bs cd cs cps fmv oc kc f m1 h0 n0 v h L)) none T10.heap _ from ⟨rfl, N10, K10, (P0_10)⟩) (by decide) (by decide)
theorem ef_18 (m : MethodId) (o1 : Addr) (oc : Addr) (f : Nat) (m1 : Nat) : entryFrame m #[(.ref o1), (.int (Int32.ofNat f)), (.int (Int32.ofNat (f + m1))), (.ref oc), (.int (0 : Int32))] 5 = mkF m 0 #[vr o1, vi (Int32.ofNat f), vi (Int32.ofNat (f + m1)), vr oc, vi (0 : Int32)] [] := by first | (simp [entryFrame, mkF, argsToLocals, Value.category, maxLocals]; done) | rfl
theorem rm18 (l : Launch) (Z : State) (a0 : Array Value) (hw : ∀ d ∈ tables_1, d.before a0 Z = true) (ws : List Jvm.Cond) (o1 : Addr) (ob : Addr) (kb : ClassId) (ln : Nat) (bs : List Int32) (cd : Int32) (cs : List Int32) (cps : Int32) (fmv : Value) (oc : Addr) (kc : ClassId) (f : Nat) (m1 : Nat) (h0 : Heap) (n0 : Nat) (Z0 : n0 ≤ h0.size) (E1 : Exa Z h0 o1 "java/lang/String") (F1 : Fld Z h0 o1 "java/lang/String" "value" "[B" (.ref ob)) (F2 : Fld Z h0 o1 "java/lang/String" "coder" "B" (.int cd)) (VB : Arv Z h0 ob kb .byte (Int32.ofNat ln) (own_iv bs) (.int (0 : Int32))) (SC : Sta Z h0 "java/lang/String" "COMPACT_STRINGS" "Z" (.int cps)) (SA : Sta Z h0 "java/lang/StringUTF16" "$assertionsDisabled" "Z" (.int (1 : Int32))) (SH : Sta Z h0 "java/lang/StringUTF16" "HI_BYTE_SHIFT" "I" (.int (0 : Int32))) (SL : Sta Z h0 "java/lang/StringUTF16" "LO_BYTE_SHIFT" "I" (.int (8 : Int32))) (SF : Sta Z h0 "jdk/internal/util/Preconditions" "SIOOBE_FORMATTER" "Ljava/util/function/BiFunction;" fmv) (VC : Arv Z h0 oc kc .char (Int32.ofNat m1) (own_iv (List.replicate m1 0)) (.int (0 : Int32))) (g_oc : n0 ≤ oc) (hcp : ¬ cps = 0) (henc : own_enc cs cd ln bs) (hc4 : cs.length ≤ 4) (hc1 : 1 ≤ cs.length) (hch : ∀ j, j < cs.length → own_ch (cs.getD j 0)) (hrf : fmv.isRef = true) (hfm : f + m1 ≤ cs.length) (ne_1c : o1 ≠ oc) (ne_bc : ob ≠ oc) :
    MetFree l (⟨"java/lang/String", "getChars", "(II[CI)V"⟩ : MethodName) (head1 (Jvm.Cond.code (⟨"java/lang/String", "getChars", "(II[CI)V"⟩ : MethodName) jdk_42_method_61_code 5 none :: ws) ({ frames := 4, cells := 0, slots := 0, locals := 60 } : Room)) (fun a U => a = #[(.ref o1), (.int (Int32.ofNat f)), (.int (Int32.ofNat (f + m1))), (.ref oc), (.int (0 : Int32))] ∧ Z.Warmed39 U.vm ∧ U.heap = h0) (fun _ _ _ _ _ => True) (fun _ U o U' => ∃ v L, o = .returned v ∧ Q18 Z o1 ob kb ln bs cd cs cps fmv oc kc f m1 h0 n0 v U'.heap L ∧ FrameEnd U o U' L ({ frames := 4, cells := 0, slots := 0, locals := 60 } : Room).cells ({ frames := 4, cells := 0, slots := 0, locals := 60 } : Room).slots) := by
  refine MetFree.of_bodySF (plainFor_of_name pn_1) hisR ?_
  intro p e s m args below meth c s₁ Bd hml0 hP hK
  obtain ⟨rfl, hZ, hh⟩ := hP
  have e0 : s₁.heap = h0 := by rw [← hh, Bd.state]; rfl
  rw [ef_18 m o1 oc f m1]
  exact b18 o1 ob kb ln bs cd cs cps fmv oc kc f m1 ⟨Bd.exec, hZ, hw, Bd.bytes, hml0, findClass_of_methodNamed Bd.named, Bd.returns, Bd.notSynchronized, (name_of_methodNamed Bd.named Bd.method).1⟩ (Stand.of_body Bd) e0 Z0 (Fr.nil n0) E1 F1 F2 VB SC SA SH SL SF VC g_oc hcp henc hc4 hc1 hch hrf hfm ne_1c ne_bc
theorem own_psel {Z s : State} {a0 args : Array Value} {y : MethodName} {k : Nat} (hZ : Z.Warmed39 s.vm) (hi : (Cond.instantiable y.cls k).before a0 Z = true) (hp : (Cond.privateMethod y).before a0 Z = true) (hn : (Cond.instanceMethod y).before a0 Z = true) (hy : y.cls ≠ "java/lang/invoke/MethodHandle" ∧ y.cls ≠ "java/lang/invoke/VarHandle") : (Cond.selects y.cls y y).before args s = true := by
  have q : (Cond.instantiable y.cls k).before args s = true := mvT hZ hi
  obtain ⟨c, k, h1, h2, -, h4, -, -⟩ := Cond.instantiable_spec q
  exact Jvm.Stand.selects_self_of_private h1 h2 (by simp at h4; exact h4.1) (Cond.privateMethod_at (mvP hZ hp (args := #[]))) (mvT hZ hn) hy
def own_sh (n : Nat) : Int32 := if 3 ≤ n then 30 else 31
def own_nq (n : Nat) : Nat := if 3 ≤ n then 4 else 2
def own_bt (n : Nat) : Int32 := if 3 ≤ n then 2 else 1
theorem own_nq4 (n : Nat) : own_nq n ≤ 4 := by unfold own_nq; split <;> omega
/-- a unit's bucket -/
def own_bk (x sh : Int32) : Int32 := XT.ushr (x * (-1640531527 : Int32)) sh
def own_bi (n : Nat) (x : Int32) : Nat := (own_bk x (own_sh n)).toUInt32.toNat
theorem own_bkbi (n : Nat) (x : Int32) : own_bk x (own_sh n) = Int32.ofNat (own_bi n x) := by
  apply Int32.toBitVec_inj.mp
  show (own_bk x (own_sh n)).toBitVec = BitVec.ofNat 32 (own_bk x (own_sh n)).toBitVec.toNat
  simp
theorem own_bilt (n : Nat) (x : Int32) : own_bi n x < own_nq n := by
  have all : ∀ y : UInt32, (y >>> ((30 : Int32) &&& 31).toUInt32).toNat < 4 ∧ (y >>> ((31 : Int32) &&& 31).toUInt32).toNat < 2 := by
    intro y
    have hy := y.toNat_lt
    have k1 : ((30 : Int32) &&& 31).toUInt32.toNat % 32 = 30 := by decide
    have k2 : ((31 : Int32) &&& 31).toUInt32.toNat % 32 = 31 := by decide
    rw [UInt32.toNat_shiftRight, UInt32.toNat_shiftRight, k1, k2, Nat.shiftRight_eq_div_pow, Nat.shiftRight_eq_div_pow]
    omega
  unfold own_nq
  by_cases h : 3 ≤ n
  · rw [if_pos h]
    have e : own_sh n = 30 := if_pos h
    unfold own_bi; rw [e]
    exact (all _).1
  · rw [if_neg h]
    have e : own_sh n = 31 := if_neg h
    unfold own_bi; rw [e]
    exact (all _).2
def own_adds (n : Nat) (ds : List Int32) : Nat → List Int32 → List Int32
  | 0, ks => ks
  | i + 1, ks => (own_adds n ds i ks).set (own_bi n (ds.getD i 0)) ((own_adds n ds i ks).getD (own_bi n (ds.getD i 0)) 0 + 1)
theorem own_addslen (n : Nat) (ds : List Int32) (i : Nat) (ks : List Int32) : (own_adds n ds i ks).length = ks.length := by
  induction i with
  | zero => rfl
  | succ i ih => show ((own_adds n ds i ks).set _ _).length = _; rw [List.length_set, ih]
def own_cn (n : Nat) (ds : List Int32) (b : Nat) : Nat → Int32
  | 0 => 0
  | i + 1 => own_cn n ds b i + (if own_bi n (ds.getD i 0) = b then 1 else 0)
theorem own_setS (l : List Int32) (k : Nat) (v : Int32) (h : k < l.length) : (l.set k v).getD k 0 = v := by
  simp only [List.getD_eq_getElem?_getD]; rw [List.getElem?_set_self h]; rfl
theorem own_setN (l : List Int32) (k b : Nat) (v : Int32) (h : ¬ k = b) : (l.set k v).getD b 0 = l.getD b 0 := by
  simp only [List.getD_eq_getElem?_getD]; rw [List.getElem?_set_ne h]
theorem own_addsget (n : Nat) (ds : List Int32) (i : Nat) (ks : List Int32) (hk : ks.length = own_nq n) (b : Nat) : (own_adds n ds i ks).getD b 0 = ks.getD b 0 + (if b < own_nq n then own_cn n ds b i else 0) := by
  induction i with
  | zero => show ks.getD b 0 = ks.getD b 0 + (if b < own_nq n then 0 else 0); split <;> exact (Int32.add_zero _).symm
  | succ i ih =>
    have hl := own_addslen n ds i ks
    have hb := own_bilt n (ds.getD i 0)
    show ((own_adds n ds i ks).set (own_bi n (ds.getD i 0)) ((own_adds n ds i ks).getD (own_bi n (ds.getD i 0)) 0 + 1)).getD b 0 = ks.getD b 0 + (if b < own_nq n then own_cn n ds b i + (if own_bi n (ds.getD i 0) = b then 1 else 0) else 0)
    by_cases h : own_bi n (ds.getD i 0) = b
    · subst h
      rw [if_pos rfl, if_pos hb]
      rw [if_pos hb] at ih
      rw [← Int32.add_assoc, ← ih]
      exact own_setS _ _ _ (by omega)
    · rw [if_neg h, Int32.add_zero, ← ih]
      exact own_setN _ _ _ _ h
def own_mx (ma : Int32) (mb : Int32) : Int32 := (if ma < mb then mb else ma)
def Q16 (Z : State) (ma : Int32) (mb : Int32) (h0 : Heap) (n0 : Nat) (v : Option Value) (h : Heap) (L : List Loc) : Prop := v = some (.int (own_mx ma mb)) ∧ Fr n0 L ∧ h = h0
theorem d16_0 : dq cb26 0 (.iload_n 0) 1 := by decide +kernel
theorem d16_1 : dq cb26 1 (.iload_n 1) 1 := by decide +kernel
theorem d16_2 : dq cb26 2 (.if_icmp .lt 7) 3 := by decide +kernel
theorem d16_9 : dq cb26 9 (.iload_n 1) 1 := by decide +kernel
theorem d16_10 : dq cb26 10 .ireturn 1 := by decide +kernel
theorem d16_5 : dq cb26 5 (.iload_n 0) 1 := by decide +kernel
theorem d16_6 : dq cb26 6 (.goto 4) 3 := by decide +kernel
theorem b16  (ma : Int32) (mb : Int32)
    (C : own_C p s m meth c Z a0 jdk_29_method_65_code 2 "java/lang/Math" (some .int) "max") (X0 : Stand p l e ({ frames := 0, cells := 0, slots := 0, locals := 0 } : Room) s m args below meth c T0 locs 0 0) (e0 : T0.heap = h0) (Z0 : n0 ≤ h0.size) (N0 : Fr n0 locs) :
    own_Go p.tables e below (T0.setTop (mkF m 0 #[vi ma, vi mb] [])) (own_K s (fun (v : Option Value) (h : Heap) (L : List Loc) => Q16 Z ma mb h0 n0 v h L) ({ frames := 0, cells := 0, slots := 0, locals := 0 } : Room).cells ({ frames := 0, cells := 0, slots := 0, locals := 0 } : Room).slots) := by
  obtain ⟨hx, hZ, hw, hby, hml, hown, hret, hlk, hnm⟩ := C
  refine vs T0 1 [(.int ma)] (fun t k => XS.iloadN X0.here hx rfl (hb hby d16_0) rfl k) ?_
  refine vs T0 2 [(.int mb), (.int ma)] (fun t k => XS.iloadN X0.here hx rfl (hb hby d16_1) rfl k) ?_
  by_cases hc1_2 : ma < mb
  · refine vs T0 9 [] (fun t k => XS.icmpYes X0.here hx rfl (pc0 := 2) (pc' := 9) rfl (hb hby d16_2) rfl (XT.ii_lt_t hc1_2) (by decide) (by decide) k) ?_
    refine vs T0 10 [(.int mb)] (fun t k => XS.iloadN X0.here hx rfl (hb hby d16_9) rfl k) ?_
    exact own_fin X0 e0 (v := some (.int mb)) (fun h => by rw [hret] at h; cases h) hlk (fun fs hr => retI X0 hx hret (hb hby d16_10) hr) (show ((fun (v : Option Value) (h : Heap) (L : List Loc) => Q16 Z ma mb h0 n0 v h L)) (some (.int mb)) h0 _ from ⟨(by unfold own_mx; rw [if_pos hc1_2]), N0, rfl⟩) (by decide) (by decide)
  · refine vs T0 5 [] (fun t k => XS.icmpNo X0.here hx rfl (hb hby d16_2) rfl (XT.ii_lt_f hc1_2) k) ?_
    refine vs T0 6 [(.int ma)] (fun t k => XS.iloadN X0.here hx rfl (hb hby d16_5) rfl k) ?_
    refine vs T0 10 [(.int ma)] (fun t k => XS.goto X0.here hx rfl (pc0 := 6) (pc' := 10) rfl (hb hby d16_6) (by decide) (by decide) k) ?_
    exact own_fin X0 e0 (v := some (.int ma)) (fun h => by rw [hret] at h; cases h) hlk (fun fs hr => retI X0 hx hret (hb hby d16_10) hr) (show ((fun (v : Option Value) (h : Heap) (L : List Loc) => Q16 Z ma mb h0 n0 v h L)) (some (.int ma)) h0 _ from ⟨(by unfold own_mx; rw [if_neg hc1_2]), N0, rfl⟩) (by decide) (by decide)
theorem ef_16 (m : MethodId) (ma : Int32) (mb : Int32) : entryFrame m #[(.int ma), (.int mb)] 2 = mkF m 0 #[vi ma, vi mb] [] := by first | (simp [entryFrame, mkF, argsToLocals, Value.category, maxLocals]; done) | rfl
theorem rm16 (l : Launch) (Z : State) (a0 : Array Value) (hw : ∀ d ∈ tables_1, d.before a0 Z = true) (ws : List Jvm.Cond) (ma : Int32) (mb : Int32) (h0 : Heap) (n0 : Nat) (Z0 : n0 ≤ h0.size) :
    MetFree l (⟨"java/lang/Math", "max", "(II)I"⟩ : MethodName) (head1 (Jvm.Cond.code (⟨"java/lang/Math", "max", "(II)I"⟩ : MethodName) jdk_29_method_65_code 2 (some .int) :: ws) ({ frames := 0, cells := 0, slots := 0, locals := 0 } : Room)) (fun a U => a = #[(.int ma), (.int mb)] ∧ Z.Warmed39 U.vm ∧ U.heap = h0) (fun _ _ _ _ _ => True) (fun _ U o U' => ∃ v L, o = .returned v ∧ Q16 Z ma mb h0 n0 v U'.heap L ∧ FrameEnd U o U' L ({ frames := 0, cells := 0, slots := 0, locals := 0 } : Room).cells ({ frames := 0, cells := 0, slots := 0, locals := 0 } : Room).slots) := by
  refine MetFree.of_bodySF (Jvm.Free.JP.mathPlain rfl (by decide +kernel)) hisR ?_
  intro p e s m args below meth c s₁ Bd hml0 hP hK
  obtain ⟨rfl, hZ, hh⟩ := hP
  have e0 : s₁.heap = h0 := by rw [← hh, Bd.state]; rfl
  rw [ef_16 m ma mb]
  exact b16 ma mb ⟨Bd.exec, hZ, hw, Bd.bytes, hml0, findClass_of_methodNamed Bd.named, Bd.returns, Bd.notSynchronized, (name_of_methodNamed Bd.named Bd.method).1⟩ (Stand.of_body Bd) e0 Z0 (Fr.nil n0)
def own_mn (ma : Int32) (mb : Int32) : Int32 := (if mb < ma then mb else ma)
def Q12 (Z : State) (ma : Int32) (mb : Int32) (h0 : Heap) (n0 : Nat) (v : Option Value) (h : Heap) (L : List Loc) : Prop := v = some (.int (own_mn ma mb)) ∧ Fr n0 L ∧ h = h0
theorem d12_0 : dq cb27 0 (.iload_n 0) 1 := by decide +kernel
theorem d12_1 : dq cb27 1 (.iload_n 1) 1 := by decide +kernel
theorem d12_2 : dq cb27 2 (.if_icmp .gt 7) 3 := by decide +kernel
theorem d12_9 : dq cb27 9 (.iload_n 1) 1 := by decide +kernel
theorem d12_10 : dq cb27 10 .ireturn 1 := by decide +kernel
theorem d12_5 : dq cb27 5 (.iload_n 0) 1 := by decide +kernel
theorem d12_6 : dq cb27 6 (.goto 4) 3 := by decide +kernel
theorem b12  (ma : Int32) (mb : Int32)
    (C : own_C p s m meth c Z a0 jdk_29_method_69_code 2 "java/lang/Math" (some .int) "min") (X0 : Stand p l e ({ frames := 0, cells := 0, slots := 0, locals := 0 } : Room) s m args below meth c T0 locs 0 0) (e0 : T0.heap = h0) (Z0 : n0 ≤ h0.size) (N0 : Fr n0 locs) :
    own_Go p.tables e below (T0.setTop (mkF m 0 #[vi ma, vi mb] [])) (own_K s (fun (v : Option Value) (h : Heap) (L : List Loc) => Q12 Z ma mb h0 n0 v h L) ({ frames := 0, cells := 0, slots := 0, locals := 0 } : Room).cells ({ frames := 0, cells := 0, slots := 0, locals := 0 } : Room).slots) := by
  obtain ⟨hx, hZ, hw, hby, hml, hown, hret, hlk, hnm⟩ := C
  refine vs T0 1 [(.int ma)] (fun t k => XS.iloadN X0.here hx rfl (hb hby d12_0) rfl k) ?_
  refine vs T0 2 [(.int mb), (.int ma)] (fun t k => XS.iloadN X0.here hx rfl (hb hby d12_1) rfl k) ?_
  by_cases hc1_2 : mb < ma
  · refine vs T0 9 [] (fun t k => XS.icmpYes X0.here hx rfl (pc0 := 2) (pc' := 9) rfl (hb hby d12_2) rfl (XT.ii_gt_t hc1_2) (by decide) (by decide) k) ?_
    refine vs T0 10 [(.int mb)] (fun t k => XS.iloadN X0.here hx rfl (hb hby d12_9) rfl k) ?_
    exact own_fin X0 e0 (v := some (.int mb)) (fun h => by rw [hret] at h; cases h) hlk (fun fs hr => retI X0 hx hret (hb hby d12_10) hr) (show ((fun (v : Option Value) (h : Heap) (L : List Loc) => Q12 Z ma mb h0 n0 v h L)) (some (.int mb)) h0 _ from ⟨(by unfold own_mn; rw [if_pos hc1_2]), N0, rfl⟩) (by decide) (by decide)
  · refine vs T0 5 [] (fun t k => XS.icmpNo X0.here hx rfl (hb hby d12_2) rfl (XT.ii_gt_f hc1_2) k) ?_
    refine vs T0 6 [(.int ma)] (fun t k => XS.iloadN X0.here hx rfl (hb hby d12_5) rfl k) ?_
    refine vs T0 10 [(.int ma)] (fun t k => XS.goto X0.here hx rfl (pc0 := 6) (pc' := 10) rfl (hb hby d12_6) (by decide) (by decide) k) ?_
    exact own_fin X0 e0 (v := some (.int ma)) (fun h => by rw [hret] at h; cases h) hlk (fun fs hr => retI X0 hx hret (hb hby d12_10) hr) (show ((fun (v : Option Value) (h : Heap) (L : List Loc) => Q12 Z ma mb h0 n0 v h L)) (some (.int ma)) h0 _ from ⟨(by unfold own_mn; rw [if_neg hc1_2]), N0, rfl⟩) (by decide) (by decide)
theorem ef_12 (m : MethodId) (ma : Int32) (mb : Int32) : entryFrame m #[(.int ma), (.int mb)] 2 = mkF m 0 #[vi ma, vi mb] [] := by first | (simp [entryFrame, mkF, argsToLocals, Value.category, maxLocals]; done) | rfl
theorem rm12 (l : Launch) (Z : State) (a0 : Array Value) (hw : ∀ d ∈ tables_1, d.before a0 Z = true) (ws : List Jvm.Cond) (ma : Int32) (mb : Int32) (h0 : Heap) (n0 : Nat) (Z0 : n0 ≤ h0.size) :
    MetFree l (⟨"java/lang/Math", "min", "(II)I"⟩ : MethodName) (head1 (Jvm.Cond.code (⟨"java/lang/Math", "min", "(II)I"⟩ : MethodName) jdk_29_method_69_code 2 (some .int) :: ws) ({ frames := 0, cells := 0, slots := 0, locals := 0 } : Room)) (fun a U => a = #[(.int ma), (.int mb)] ∧ Z.Warmed39 U.vm ∧ U.heap = h0) (fun _ _ _ _ _ => True) (fun _ U o U' => ∃ v L, o = .returned v ∧ Q12 Z ma mb h0 n0 v U'.heap L ∧ FrameEnd U o U' L ({ frames := 0, cells := 0, slots := 0, locals := 0 } : Room).cells ({ frames := 0, cells := 0, slots := 0, locals := 0 } : Room).slots) := by
  refine MetFree.of_bodySF (Jvm.Free.JP.mathPlain rfl (by decide +kernel)) hisR ?_
  intro p e s m args below meth c s₁ Bd hml0 hP hK
  obtain ⟨rfl, hZ, hh⟩ := hP
  have e0 : s₁.heap = h0 := by rw [← hh, Bd.state]; rfl
  rw [ef_12 m ma mb]
  exact b12 ma mb ⟨Bd.exec, hZ, hw, Bd.bytes, hml0, findClass_of_methodNamed Bd.named, Bd.returns, Bd.notSynchronized, (name_of_methodNamed Bd.named Bd.method).1⟩ (Stand.of_body Bd) e0 Z0 (Fr.nil n0)
def own_ab (ma : Int32) : Int32 := (if ma < (0 : Int32) then (-ma) else ma)
def Q27 (Z : State) (ma : Int32) (h0 : Heap) (n0 : Nat) (v : Option Value) (h : Heap) (L : List Loc) : Prop := v = some (.int (own_ab ma)) ∧ Fr n0 L ∧ h = h0
theorem d27_0 : dq cb28 0 (.iload_n 0) 1 := by decide +kernel
theorem d27_1 : dq cb28 1 (.ifCond .ge 8) 3 := by decide +kernel
theorem d27_4 : dq cb28 4 (.iload_n 0) 1 := by decide +kernel
theorem d27_5 : dq cb28 5 .ineg 1 := by decide +kernel
theorem d27_6 : dq cb28 6 (.goto 4) 3 := by decide +kernel
theorem d27_10 : dq cb28 10 .ireturn 1 := by decide +kernel
theorem d27_9 : dq cb28 9 (.iload_n 0) 1 := by decide +kernel
theorem b27  (ma : Int32)
    (C : own_C p s m meth c Z a0 jdk_29_method_59_code 1 "java/lang/Math" (some .int) "abs") (X0 : Stand p l e ({ frames := 0, cells := 0, slots := 0, locals := 0 } : Room) s m args below meth c T0 locs 0 0) (e0 : T0.heap = h0) (Z0 : n0 ≤ h0.size) (N0 : Fr n0 locs) :
    own_Go p.tables e below (T0.setTop (mkF m 0 #[vi ma] [])) (own_K s (fun (v : Option Value) (h : Heap) (L : List Loc) => Q27 Z ma h0 n0 v h L) ({ frames := 0, cells := 0, slots := 0, locals := 0 } : Room).cells ({ frames := 0, cells := 0, slots := 0, locals := 0 } : Room).slots) := by
  obtain ⟨hx, hZ, hw, hby, hml, hown, hret, hlk, hnm⟩ := C
  refine vs T0 1 [(.int ma)] (fun t k => XS.iloadN X0.here hx rfl (hb hby d27_0) rfl k) ?_
  by_cases hc1_1 : ma < (0 : Int32)
  · refine vs T0 4 [] (fun t k => XS.ifNo X0.here hx rfl (hb hby d27_1) rfl (XT.i0_ge_f hc1_1) k) ?_
    refine vs T0 5 [(.int ma)] (fun t k => XS.iloadN X0.here hx rfl (hb hby d27_4) rfl k) ?_
    refine vs T0 6 [(.int (-ma))] (fun t k => XS.ineg X0.here hx rfl (hb hby d27_5) rfl k) ?_
    refine vs T0 10 [(.int (-ma))] (fun t k => XS.goto X0.here hx rfl (pc0 := 6) (pc' := 10) rfl (hb hby d27_6) (by decide) (by decide) k) ?_
    exact own_fin X0 e0 (v := some (.int (-ma))) (fun h => by rw [hret] at h; cases h) hlk (fun fs hr => retI X0 hx hret (hb hby d27_10) hr) (show ((fun (v : Option Value) (h : Heap) (L : List Loc) => Q27 Z ma h0 n0 v h L)) (some (.int (-ma))) h0 _ from ⟨(by unfold own_ab; rw [if_pos hc1_1]), N0, rfl⟩) (by decide) (by decide)
  · refine vs T0 9 [] (fun t k => XS.ifYes X0.here hx rfl (pc0 := 1) (pc' := 9) rfl (hb hby d27_1) rfl (XT.i0_ge_t hc1_1) (by decide) (by decide) k) ?_
    refine vs T0 10 [(.int ma)] (fun t k => XS.iloadN X0.here hx rfl (hb hby d27_9) rfl k) ?_
    exact own_fin X0 e0 (v := some (.int ma)) (fun h => by rw [hret] at h; cases h) hlk (fun fs hr => retI X0 hx hret (hb hby d27_10) hr) (show ((fun (v : Option Value) (h : Heap) (L : List Loc) => Q27 Z ma h0 n0 v h L)) (some (.int ma)) h0 _ from ⟨(by unfold own_ab; rw [if_neg hc1_1]), N0, rfl⟩) (by decide) (by decide)
theorem ef_27 (m : MethodId) (ma : Int32) : entryFrame m #[(.int ma)] 1 = mkF m 0 #[vi ma] [] := by first | (simp [entryFrame, mkF, argsToLocals, Value.category, maxLocals]; done) | rfl
theorem rm27 (l : Launch) (Z : State) (a0 : Array Value) (hw : ∀ d ∈ tables_1, d.before a0 Z = true) (ws : List Jvm.Cond) (ma : Int32) (h0 : Heap) (n0 : Nat) (Z0 : n0 ≤ h0.size) :
    MetFree l (⟨"java/lang/Math", "abs", "(I)I"⟩ : MethodName) (head1 (Jvm.Cond.code (⟨"java/lang/Math", "abs", "(I)I"⟩ : MethodName) jdk_29_method_59_code 1 (some .int) :: ws) ({ frames := 0, cells := 0, slots := 0, locals := 0 } : Room)) (fun a U => a = #[(.int ma)] ∧ Z.Warmed39 U.vm ∧ U.heap = h0) (fun _ _ _ _ _ => True) (fun _ U o U' => ∃ v L, o = .returned v ∧ Q27 Z ma h0 n0 v U'.heap L ∧ FrameEnd U o U' L ({ frames := 0, cells := 0, slots := 0, locals := 0 } : Room).cells ({ frames := 0, cells := 0, slots := 0, locals := 0 } : Room).slots) := by
  refine MetFree.of_bodySF (Jvm.Free.JP.mathPlain rfl (by decide +kernel)) hisR ?_
  intro p e s m args below meth c s₁ Bd hml0 hP hK
  obtain ⟨rfl, hZ, hh⟩ := hP
  have e0 : s₁.heap = h0 := by rw [← hh, Bd.state]; rfl
  rw [ef_27 m ma]
  exact b27 ma ⟨Bd.exec, hZ, hw, Bd.bytes, hml0, findClass_of_methodNamed Bd.named, Bd.returns, Bd.notSynchronized, (name_of_methodNamed Bd.named Bd.method).1⟩ (Stand.of_body Bd) e0 Z0 (Fr.nil n0)
def Q17 (Z : State) (ma : Int32) (h0 : Heap) (n0 : Nat) (v : Option Value) (h : Heap) (L : List Loc) : Prop := v = some (.int ((31 : Int32) - (XT.ushr ma (1 : Int32)))) ∧ Fr n0 L ∧ h = h0
theorem d17_0 : dq cb29 0 (.iload_n 0) 1 := by decide +kernel
theorem d17_1 : dq cb29 1 (.ifCond .gt 14) 3 := by decide +kernel
theorem d17_15 : dq cb29 15 (.bipush 31) 2 := by decide +kernel
theorem d17_17 : dq cb29 17 (.istore_n 1) 1 := by decide +kernel
theorem d17_18 : dq cb29 18 (.iload_n 0) 1 := by decide +kernel
theorem d17_19 : dq cb29 19 (.ldc_w 264) 3 := by decide +kernel
theorem d17_22 : dq cb29 22 (.if_icmp .lt 11) 3 := by decide +kernel
theorem d17_33 : dq cb29 33 (.iload_n 0) 1 := by decide +kernel
theorem d17_34 : dq cb29 34 (.sipush 256) 3 := by decide +kernel
theorem d17_37 : dq cb29 37 (.if_icmp .lt 11) 3 := by decide +kernel
theorem d17_48 : dq cb29 48 (.iload_n 0) 1 := by decide +kernel
theorem d17_49 : dq cb29 49 (.bipush 16) 2 := by decide +kernel
theorem d17_51 : dq cb29 51 (.if_icmp .lt 10) 3 := by decide +kernel
theorem d17_61 : dq cb29 61 (.iload_n 0) 1 := by decide +kernel
theorem d17_62 : dq cb29 62 (.iconst 4) 1 := by decide +kernel
theorem d17_63 : dq cb29 63 (.if_icmp .lt 10) 3 := by decide +kernel
theorem d17_73 : dq cb29 73 (.iload_n 1) 1 := by decide +kernel
theorem d17_74 : dq cb29 74 (.iload_n 0) 1 := by decide +kernel
theorem d17_75 : dq cb29 75 (.iconst 1) 1 := by decide +kernel
theorem d17_76 : dq cb29 76 .iushr 1 := by decide +kernel
theorem d17_77 : dq cb29 77 .isub 1 := by decide +kernel
theorem d17_78 : dq cb29 78 .ireturn 1 := by decide +kernel
theorem b17  (ma : Int32)
    (C : own_C p s m meth c Z a0 jdk_33_method_47_code 2 "java/lang/Integer" (some .int) "numberOfLeadingZeros") (X0 : Stand p l e ({ frames := 0, cells := 0, slots := 0, locals := 0 } : Room) s m args below meth c T0 locs 0 0) (e0 : T0.heap = h0) (Z0 : n0 ≤ h0.size) (N0 : Fr n0 locs) (h3 : ma = 1 ∨ ma = 2 ∨ ma = 3) :
    own_Go p.tables e below (T0.setTop (mkF m 0 #[vi ma, .unset] [])) (own_K s (fun (v : Option Value) (h : Heap) (L : List Loc) => Q17 Z ma h0 n0 v h L) ({ frames := 0, cells := 0, slots := 0, locals := 0 } : Room).cells ({ frames := 0, cells := 0, slots := 0, locals := 0 } : Room).slots) := by
  obtain ⟨hx, hZ, hw, hby, hml, hown, hret, hlk, hnm⟩ := C
  refine vs T0 1 [(.int ma)] (fun t k => XS.iloadN X0.here hx rfl (hb hby d17_0) rfl k) ?_
  have hc1_1 : (0 : Int32) < ma := (by rcases h3 with rfl | rfl | rfl <;> decide)
  refine vs T0 15 [] (fun t k => XS.ifYes X0.here hx rfl (pc0 := 1) (pc' := 15) rfl (hb hby d17_1) rfl (XT.i0_gt_t hc1_1) (by decide) (by decide) k) ?_
  refine vs T0 17 [(.int (31 : Int32))] (fun t k => XS.bipush X0.here hx rfl (hb hby d17_15) k) ?_
  refine vv T0 m 18 #[vi ma, vi (31 : Int32)] [] (fun t k => XS.istoreN X0.here hx rfl (hb hby d17_17) rfl (l' := #[vi ma, vi (31 : Int32)]) rfl k) ?_
  refine vs T0 19 [(.int ma)] (fun t k => XS.iloadN X0.here hx rfl (hb hby d17_18) rfl k) ?_
  refine vs T0 22 [(.int (65536 : Int32)), (.int ma)] (fun t k => X0.ldcWI hx hown (mvT hZ (ww hw 99 rfl)) (g := (mkF m 19 #[vi ma, vi (31 : Int32)] [(.int ma)])) rfl (hb hby d17_19) k) ?_
  have hc2_22 : ma < (65536 : Int32) := (by rcases h3 with rfl | rfl | rfl <;> decide)
  refine vs T0 33 [] (fun t k => XS.icmpYes X0.here hx rfl (pc0 := 22) (pc' := 33) rfl (hb hby d17_22) rfl (XT.ii_lt_t hc2_22) (by decide) (by decide) k) ?_
  refine vs T0 34 [(.int ma)] (fun t k => XS.iloadN X0.here hx rfl (hb hby d17_33) rfl k) ?_
  refine vs T0 37 [(.int (256 : Int32)), (.int ma)] (fun t k => XS.sipush X0.here hx rfl (hb hby d17_34) k) ?_
  have hc3_37 : ma < (256 : Int32) := (by rcases h3 with rfl | rfl | rfl <;> decide)
  refine vs T0 48 [] (fun t k => XS.icmpYes X0.here hx rfl (pc0 := 37) (pc' := 48) rfl (hb hby d17_37) rfl (XT.ii_lt_t hc3_37) (by decide) (by decide) k) ?_
  refine vs T0 49 [(.int ma)] (fun t k => XS.iloadN X0.here hx rfl (hb hby d17_48) rfl k) ?_
  refine vs T0 51 [(.int (16 : Int32)), (.int ma)] (fun t k => XS.bipush X0.here hx rfl (hb hby d17_49) k) ?_
  have hc4_51 : ma < (16 : Int32) := (by rcases h3 with rfl | rfl | rfl <;> decide)
  refine vs T0 61 [] (fun t k => XS.icmpYes X0.here hx rfl (pc0 := 51) (pc' := 61) rfl (hb hby d17_51) rfl (XT.ii_lt_t hc4_51) (by decide) (by decide) k) ?_
  refine vs T0 62 [(.int ma)] (fun t k => XS.iloadN X0.here hx rfl (hb hby d17_61) rfl k) ?_
  refine vs T0 63 [(.int (4 : Int32)), (.int ma)] (fun t k => XS.iconst X0.here hx rfl (hb hby d17_62) k) ?_
  have hc5_63 : ma < (4 : Int32) := (by rcases h3 with rfl | rfl | rfl <;> decide)
  refine vs T0 73 [] (fun t k => XS.icmpYes X0.here hx rfl (pc0 := 63) (pc' := 73) rfl (hb hby d17_63) rfl (XT.ii_lt_t hc5_63) (by decide) (by decide) k) ?_
  refine vs T0 74 [(.int (31 : Int32))] (fun t k => XS.iloadN X0.here hx rfl (hb hby d17_73) rfl k) ?_
  refine vs T0 75 [(.int ma), (.int (31 : Int32))] (fun t k => XS.iloadN X0.here hx rfl (hb hby d17_74) rfl k) ?_
  refine vs T0 76 [(.int (1 : Int32)), (.int ma), (.int (31 : Int32))] (fun t k => XS.iconst X0.here hx rfl (hb hby d17_75) k) ?_
  refine vs T0 77 [(.int (XT.ushr ma (1 : Int32))), (.int (31 : Int32))] (fun t k => XT.iushr X0.here hx rfl (hb hby d17_76) rfl k) ?_
  refine vs T0 78 [(.int ((31 : Int32) - (XT.ushr ma (1 : Int32))))] (fun t k => XS.isub X0.here hx rfl (hb hby d17_77) rfl k) ?_
  exact own_fin X0 e0 (v := some (.int ((31 : Int32) - (XT.ushr ma (1 : Int32))))) (fun h => by rw [hret] at h; cases h) hlk (fun fs hr => retI X0 hx hret (hb hby d17_78) hr) (show ((fun (v : Option Value) (h : Heap) (L : List Loc) => Q17 Z ma h0 n0 v h L)) (some (.int ((31 : Int32) - (XT.ushr ma (1 : Int32))))) h0 _ from ⟨rfl, N0, rfl⟩) (by decide) (by decide)
theorem pn_4 : plainName "java/lang/Integer" = true := by first | (simp [plainName, overriddenIn]; done) | decide +kernel
theorem ef_17 (m : MethodId) (ma : Int32) : entryFrame m #[(.int ma)] 2 = mkF m 0 #[vi ma, .unset] [] := by first | (simp [entryFrame, mkF, argsToLocals, Value.category, maxLocals]; done) | rfl
theorem rm17 (l : Launch) (Z : State) (a0 : Array Value) (hw : ∀ d ∈ tables_1, d.before a0 Z = true) (ws : List Jvm.Cond) (ma : Int32) (h0 : Heap) (n0 : Nat) (Z0 : n0 ≤ h0.size) (h3 : ma = 1 ∨ ma = 2 ∨ ma = 3) :
    MetFree l (⟨"java/lang/Integer", "numberOfLeadingZeros", "(I)I"⟩ : MethodName) (head1 (Jvm.Cond.code (⟨"java/lang/Integer", "numberOfLeadingZeros", "(I)I"⟩ : MethodName) jdk_33_method_47_code 2 (some .int) :: ws) ({ frames := 0, cells := 0, slots := 0, locals := 0 } : Room)) (fun a U => a = #[(.int ma)] ∧ Z.Warmed39 U.vm ∧ U.heap = h0) (fun _ _ _ _ _ => True) (fun _ U o U' => ∃ v L, o = .returned v ∧ Q17 Z ma h0 n0 v U'.heap L ∧ FrameEnd U o U' L ({ frames := 0, cells := 0, slots := 0, locals := 0 } : Room).cells ({ frames := 0, cells := 0, slots := 0, locals := 0 } : Room).slots) := by
  refine MetFree.of_bodySF (plainFor_of_name pn_4) hisR ?_
  intro p e s m args below meth c s₁ Bd hml0 hP hK
  obtain ⟨rfl, hZ, hh⟩ := hP
  have e0 : s₁.heap = h0 := by rw [← hh, Bd.state]; rfl
  rw [ef_17 m ma]
  exact b17 ma ⟨Bd.exec, hZ, hw, Bd.bytes, hml0, findClass_of_methodNamed Bd.named, Bd.returns, Bd.notSynchronized, (name_of_methodNamed Bd.named Bd.method).1⟩ (Stand.of_body Bd) e0 Z0 (Fr.nil n0) h3
theorem own_mx3 {n : Nat} (h : n ≤ 4) : own_mx (1 : Int32) (Int32.ofNat n - (1 : Int32)) = 1 ∨ own_mx (1 : Int32) (Int32.ofNat n - (1 : Int32)) = 2 ∨ own_mx (1 : Int32) (Int32.ofNat n - (1 : Int32)) = 3 := by
  have : n = 0 ∨ n = 1 ∨ n = 2 ∨ n = 3 ∨ n = 4 := by omega
  rcases this with rfl | rfl | rfl | rfl | rfl <;> decide
theorem own_bits {n : Nat} (h : n ≤ 4) : (32 : Int32) - ((31 : Int32) - (XT.ushr (own_mx (1 : Int32) (Int32.ofNat n - (1 : Int32))) (1 : Int32))) = own_bt n := by
  have : n = 0 ∨ n = 1 ∨ n = 2 ∨ n = 3 ∨ n = 4 := by omega
  rcases this with rfl | rfl | rfl | rfl | rfl <;> decide
theorem own_cbk {n : Nat} : (1 : Int32) <<< ((own_mn (own_bt n) (12 : Int32)) &&& 31) = Int32.ofNat (own_nq n) := by
  unfold own_bt own_nq
  by_cases h : 3 ≤ n
  · rw [if_pos h, if_pos h]; decide
  · rw [if_neg h, if_neg h]; decide
theorem own_csh {n : Nat} : (32 : Int32) - (own_mn (own_bt n) (12 : Int32)) = own_sh n := by
  unfold own_bt own_sh
  by_cases h : 3 ≤ n
  · rw [if_pos h, if_pos h]; decide
  · rw [if_neg h, if_neg h]; decide
def Q15 (Z : State) (oq : Addr) (n : Nat) (h0 : Heap) (n0 : Nat) (v : Option Value) (h : Heap) (L : List Loc) : Prop := ∃ bz : Addr, ∃ kz : ClassId, v = none ∧ Fr n0 L ∧ Keep h0 h [oq] ∧ h0.size ≤ bz ∧ Exa Z h oq "com/example/clew/clew/CharFilter$Counts" ∧ Fld Z h oq "com/example/clew/clew/CharFilter$Counts" "buckets" "[I" (.ref bz) ∧ Fld Z h oq "com/example/clew/clew/CharFilter$Counts" "shift" "I" (.int (own_sh n)) ∧ Arv Z h bz kz .int (Int32.ofNat (own_nq n)) (own_iv (List.replicate (own_nq n) 0)) (.int (0 : Int32))
theorem d15_0 : dq cb30 0 (.aload_n 0) 1 := by decide +kernel
theorem d15_1 : dq cb30 1 (.invokespecial 1) 3 := by decide +kernel
theorem d15_4 : dq cb30 4 (.bipush 32) 2 := by decide +kernel
theorem d15_6 : dq cb30 6 (.iconst 1) 1 := by decide +kernel
theorem d15_7 : dq cb30 7 (.iload_n 1) 1 := by decide +kernel
theorem d15_8 : dq cb30 8 (.iconst 1) 1 := by decide +kernel
theorem d15_9 : dq cb30 9 .isub 1 := by decide +kernel
theorem d15_10 : dq cb30 10 (.invokestatic 7) 3 := by decide +kernel
theorem pd_19 : parseMethodDescriptor "(II)I" = some ⟨[.int, .int], some .int⟩ := by decide +kernel
theorem d15_13 : dq cb30 13 (.invokestatic 13) 3 := by decide +kernel
theorem d15_16 : dq cb30 16 .isub 1 := by decide +kernel
theorem d15_17 : dq cb30 17 (.istore_n 2) 1 := by decide +kernel
theorem d15_18 : dq cb30 18 (.aload_n 0) 1 := by decide +kernel
theorem d15_19 : dq cb30 19 (.iconst 1) 1 := by decide +kernel
theorem d15_20 : dq cb30 20 (.iload_n 2) 1 := by decide +kernel
theorem d15_21 : dq cb30 21 (.bipush 12) 2 := by decide +kernel
theorem d15_23 : dq cb30 23 (.invokestatic 21) 3 := by decide +kernel
theorem d15_26 : dq cb30 26 .ishl 1 := by decide +kernel
theorem d15_27 : dq cb30 27 (.newarray .int) 2 := by decide +kernel
theorem d15_29 : dq cb30 29 (.putfield 24) 3 := by decide +kernel
theorem d15_32 : dq cb30 32 (.aload_n 0) 1 := by decide +kernel
theorem d15_33 : dq cb30 33 (.bipush 32) 2 := by decide +kernel
theorem d15_35 : dq cb30 35 (.iload_n 2) 1 := by decide +kernel
theorem d15_36 : dq cb30 36 (.bipush 12) 2 := by decide +kernel
theorem d15_38 : dq cb30 38 (.invokestatic 21) 3 := by decide +kernel
theorem d15_41 : dq cb30 41 .isub 1 := by decide +kernel
theorem d15_42 : dq cb30 42 (.putfield 28) 3 := by decide +kernel
theorem d15_45 : dq cb30 45 .return_ 1 := by decide +kernel
theorem b15  (oq : Addr) (n : Nat)
    (C : own_C p s m meth c Z a0 prog_7_method_1_code 3 "com/example/clew/clew/CharFilter$Counts" none "<init>") (X0 : Stand p l e ({ frames := 1, cells := 1, slots := 4, locals := 15 } : Room) s m args below meth c T0 locs 0 0) (e0 : T0.heap = h0) (Z0 : n0 ≤ h0.size) (N0 : Fr n0 locs) (EC : Exa Z h0 oq "com/example/clew/clew/CharFilter$Counts") (FB : Fld Z h0 oq "com/example/clew/clew/CharFilter$Counts" "buckets" "[I" .null) (FS : Fld Z h0 oq "com/example/clew/clew/CharFilter$Counts" "shift" "I" (.int (0 : Int32))) (g_oq : n0 ≤ oq) (hn : n ≤ 4) :
    own_Go p.tables e below (T0.setTop (mkF m 0 #[vr oq, vi (Int32.ofNat n), .unset] [])) (own_K s (fun (v : Option Value) (h : Heap) (L : List Loc) => Q15 Z oq n h0 n0 v h L) ({ frames := 1, cells := 1, slots := 4, locals := 15 } : Room).cells ({ frames := 1, cells := 1, slots := 4, locals := 15 } : Room).slots) := by
  obtain ⟨hx, hZ, hw, hby, hml, hown, hret, hlk, hnm⟩ := C
  have hq := own_nq4 n
  refine vs T0 1 [(.ref oq)] (fun t k => XS.aloadN X0.here hx rfl (hb hby d15_0) rfl rfl k) ?_
  obtain ⟨T1, X1, e1, st1⟩ := initO X0 hx hZ hown (ww hw 91 rfl) (ww hw 12 rfl) (ww hw 13 rfl) e0 (g := (mkF m 1 #[vr oq, vi (Int32.ofNat n), .unset] [(.ref oq)])) rfl (by rw [hml]; rfl) rfl (hb hby d15_1) (by decide) (W := 0) (by show 2 * 0 + _ ≤ _; exact Nat.le_of_eq rfl) (by decide)
  refine vs T1 4 [] (fun t k => st1 t k) ?_
  refine vs T1 6 [(.int (32 : Int32))] (fun t k => XS.bipush X1.here hx rfl (hb hby d15_4) k) ?_
  refine vs T1 7 [(.int (1 : Int32)), (.int (32 : Int32))] (fun t k => XS.iconst X1.here hx rfl (hb hby d15_6) k) ?_
  refine vs T1 8 [(.int (Int32.ofNat n)), (.int (1 : Int32)), (.int (32 : Int32))] (fun t k => XS.iloadN X1.here hx rfl (hb hby d15_7) rfl k) ?_
  refine vs T1 9 [(.int (1 : Int32)), (.int (Int32.ofNat n)), (.int (1 : Int32)), (.int (32 : Int32))] (fun t k => XS.iconst X1.here hx rfl (hb hby d15_8) k) ?_
  refine vs T1 10 [(.int ((Int32.ofNat n) - (1 : Int32))), (.int (1 : Int32)), (.int (32 : Int32))] (fun t k => XS.isub X1.here hx rfl (hb hby d15_9) rfl k) ?_
  obtain ⟨_, _, ⟨T2, L2, k2, n2⟩, -, X2, ⟨Lc2, hQ2, l2, y2, z2⟩, st2⟩ := Jvm.LawKit.callS X1 hx (y := (⟨"java/lang/Math", "max", "(II)I"⟩ : MethodName)) hown (mvT hZ (ww hw 92 rfl)) (mvT hZ (ww hw 93 rfl)) (mvT hZ (ww hw 69 rfl)) (mvT hZ (ww hw 94 rfl)) (by decide) (backOf (W := 1) (rm16 l Z a0 hw [] (1 : Int32) ((Int32.ofNat n) - (1 : Int32)) h0 n0 Z0) hZ (ww hw 94 rfl) (ww hw 69 rfl) (by decide) (by decide)) (g := (mkF m 10 #[vr oq, vi (Int32.ofNat n), .unset] [(.int ((Int32.ofNat n) - (1 : Int32))), (.int (1 : Int32)), (.int (32 : Int32))])) rfl (by rw [hml]; rfl) (argsL := [(.int (1 : Int32)), (.int ((Int32.ofNat n) - (1 : Int32)))]) (rest := [(.int (32 : Int32))]) (lenOf pd_19 rfl) rfl (by show 2 * 0 + _ ≤ _; exact Nat.le_of_eq rfl) (hb hby d15_10) (fun _ _ => ⟨rfl, e1, (by decide : 0 + 0 ≤ _), (by decide : 0 + 0 ≤ _)⟩)
  dsimp only [Pt.U, Pt.locs, Pt.cells, Pt.slots] at X2 l2 y2 z2 st2 hQ2
  subst l2 y2 z2
  obtain ⟨rfl, Nq2, eh2⟩ := hQ2
  have N2 := Fr.app N0 Nq2
  refine vs T2 13 [(.int (own_mx (1 : Int32) ((Int32.ofNat n) - (1 : Int32)))), (.int (32 : Int32))] (fun t k => st2 t k) ?_
  obtain ⟨_, _, ⟨T3, L3, k3, n3⟩, -, X3, ⟨Lc3, hQ3, l3, y3, z3⟩, st3⟩ := Jvm.LawKit.callS X2 hx (y := (⟨"java/lang/Integer", "numberOfLeadingZeros", "(I)I"⟩ : MethodName)) hown (mvT hZ (ww hw 95 rfl)) (mvT hZ (ww hw 96 rfl)) (mvT hZ (ww hw 97 rfl)) (mvT hZ (ww hw 98 rfl)) (by decide) (backOf (W := 1) (rm17 l Z a0 hw [] (own_mx (1 : Int32) ((Int32.ofNat n) - (1 : Int32))) h0 n0 Z0 (own_mx3 hn)) hZ (ww hw 98 rfl) (ww hw 97 rfl) (by decide) (by decide)) (g := (mkF m 13 #[vr oq, vi (Int32.ofNat n), .unset] [(.int (own_mx (1 : Int32) ((Int32.ofNat n) - (1 : Int32)))), (.int (32 : Int32))])) rfl (by rw [hml]; rfl) (argsL := [(.int (own_mx (1 : Int32) ((Int32.ofNat n) - (1 : Int32))))]) (rest := [(.int (32 : Int32))]) (lenOf pd_0 rfl) rfl (by show 2 * 0 + _ ≤ _; exact Nat.le_of_eq rfl) (hb hby d15_13) (fun _ _ => ⟨rfl, eh2, (by decide : (0 + 0) + 0 ≤ _), (by decide : (0 + 0) + 0 ≤ _)⟩)
  dsimp only [Pt.U, Pt.locs, Pt.cells, Pt.slots] at X3 l3 y3 z3 st3 hQ3
  subst l3 y3 z3
  obtain ⟨rfl, Nq3, eh3⟩ := hQ3
  have N3 := Fr.app N2 Nq3
  refine vs T3 16 [(.int ((31 : Int32) - (XT.ushr (own_mx (1 : Int32) ((Int32.ofNat n) - (1 : Int32))) (1 : Int32)))), (.int (32 : Int32))] (fun t k => st3 t k) ?_
  refine vs T3 17 [(.int ((32 : Int32) - ((31 : Int32) - (XT.ushr (own_mx (1 : Int32) ((Int32.ofNat n) - (1 : Int32))) (1 : Int32)))))] (fun t k => XS.isub X3.here hx rfl (hb hby d15_16) rfl k) ?_
  refine vv T3 m 18 #[vr oq, vi (Int32.ofNat n), vi ((32 : Int32) - ((31 : Int32) - (XT.ushr (own_mx (1 : Int32) ((Int32.ofNat n) - (1 : Int32))) (1 : Int32))))] [] (fun t k => XS.istoreN X3.here hx rfl (hb hby d15_17) rfl (l' := #[vr oq, vi (Int32.ofNat n), vi ((32 : Int32) - ((31 : Int32) - (XT.ushr (own_mx (1 : Int32) ((Int32.ofNat n) - (1 : Int32))) (1 : Int32))))]) rfl k) ?_
  rw [own_bits hn]
  refine vs T3 19 [(.ref oq)] (fun t k => XS.aloadN X3.here hx rfl (hb hby d15_18) rfl rfl k) ?_
  refine vs T3 20 [(.int (1 : Int32)), (.ref oq)] (fun t k => XS.iconst X3.here hx rfl (hb hby d15_19) k) ?_
  refine vs T3 21 [(.int (own_bt n)), (.int (1 : Int32)), (.ref oq)] (fun t k => XS.iloadN X3.here hx rfl (hb hby d15_20) rfl k) ?_
  refine vs T3 23 [(.int (12 : Int32)), (.int (own_bt n)), (.int (1 : Int32)), (.ref oq)] (fun t k => XS.bipush X3.here hx rfl (hb hby d15_21) k) ?_
  obtain ⟨_, _, ⟨T4, L4, k4, n4⟩, -, X4, ⟨Lc4, hQ4, l4, y4, z4⟩, st4⟩ := Jvm.LawKit.callS X3 hx (y := (⟨"java/lang/Math", "min", "(II)I"⟩ : MethodName)) hown (mvT hZ (ww hw 100 rfl)) (mvT hZ (ww hw 68 rfl)) (mvT hZ (ww hw 69 rfl)) (mvT hZ (ww hw 70 rfl)) (by decide) (backOf (W := 2) (rm12 l Z a0 hw [] (own_bt n) (12 : Int32) h0 n0 Z0) hZ (ww hw 70 rfl) (ww hw 69 rfl) (by decide) (by decide)) (g := (mkF m 23 #[vr oq, vi (Int32.ofNat n), vi (own_bt n)] [(.int (12 : Int32)), (.int (own_bt n)), (.int (1 : Int32)), (.ref oq)])) rfl (by rw [hml]; rfl) (argsL := [(.int (own_bt n)), (.int (12 : Int32))]) (rest := [(.int (1 : Int32)), (.ref oq)]) (lenOf pd_19 rfl) rfl (by show 2 * 0 + _ ≤ _; exact Nat.le_of_eq rfl) (hb hby d15_23) (fun _ _ => ⟨rfl, eh3, (by decide : ((0 + 0) + 0) + 0 ≤ _), (by decide : ((0 + 0) + 0) + 0 ≤ _)⟩)
  dsimp only [Pt.U, Pt.locs, Pt.cells, Pt.slots] at X4 l4 y4 z4 st4 hQ4
  subst l4 y4 z4
  obtain ⟨rfl, Nq4, eh4⟩ := hQ4
  have N4 := Fr.app N3 Nq4
  refine vs T4 26 [(.int (own_mn (own_bt n) (12 : Int32))), (.int (1 : Int32)), (.ref oq)] (fun t k => st4 t k) ?_
  refine vs T4 27 [(.int ((1 : Int32) <<< ((own_mn (own_bt n) (12 : Int32)) &&& 31))), (.ref oq)] (fun t k => XT.ishl X4.here hx rfl (hb hby d15_26) rfl k) ?_
  rw [own_cbk]
  obtain ⟨T5, h5, k5, X5, e5, E5, A5, st5⟩ := newP X4 hx hZ (ww hw 101 rfl) eh4 (g := (mkF m 27 #[vr oq, vi (Int32.ofNat n), vi (own_bt n)] [(.int (Int32.ofNat (own_nq n))), (.ref oq)])) rfl (hb hby d15_27) rfl (own_inb (i := own_nq n) (n := own_nq n + 1) (by omega) (by omega)).1 (cap := 4) (by rw [own_cl (by omega)]; omega) (by decide) (by decide) (by decide)
  obtain ⟨b5, g5⟩ : ∃ z, z = h0.size := ⟨_, rfl⟩
  rw [← g5] at A5 st5
  have ne_oq_b5 : oq ≠ b5 := Nat.ne_of_lt (Nat.lt_of_lt_of_le EC.lt (Nat.le_of_eq g5.symm))
  have g_b5 : n0 ≤ b5 := Nat.le_trans Z0 (Nat.le_of_eq g5.symm)
  have EC'5 := EC.ext E5
  have FB'5 := FB.ext E5
  have FS'5 := FS.ext E5
  have sz_b5 : h0.size ≤ b5 := Nat.le_trans ((Keep.refl h0 [oq])).1 (Nat.le_of_eq g5.symm)
  have K5 := ((Keep.refl h0 [oq])).ext E5
  have Z5 : n0 ≤ h5.size := Nat.le_trans Z0 E5.1
  have V_b5 : Arv Z h5 b5 k5 .int (Int32.ofNat (own_nq n)) (own_iv (List.replicate (own_nq n) 0)) (.int (0 : Int32)) := ((Arv.new A5 (own_inb (i := own_nq n) (n := own_nq n + 1) (by omega) (by omega)).1)).pad (by intro i; rw [own_ivrep]; exact pad_rep [] _ (own_nq n) i)
  refine vs T5 29 [(.ref b5), (.ref oq)] (fun t k => st5 t k) ?_
  obtain ⟨T6, h6, X6, e6, W6, st6⟩ := putF X5 hx hZ hown (host := "") (Or.inl (ww hw 102 rfl)) Via.refl e5 FB'5 EC'5 (Or.inr ⟨(ww hw 103 rfl), rfl, hnm⟩) (ww hw 86 rfl) (ty := (.array .int)) (by decide) rfl rfl (g := (mkF m 29 #[vr oq, vi (Int32.ofNat n), vi (own_bt n)] [(.ref b5), (.ref oq)])) rfl rfl (hb hby d15_29)
  have FB'6 := FB'5.same W6
  have EC'6 := EC'5.wr W6
  have FS'6 := FS'5.other W6 (Or.inr (slot_ne (Or.inr (ww hw 105 rfl)) (Or.inr (ww hw 103 rfl)) (by decide) (t := .int) (t' := (.array .int)) (by decide) (by decide)))
  have V_b5'6 := V_b5.other W6 (Ne.symm ne_oq_b5)
  have N6 := Fr.snoc X6 N4 g_oq
  have Z6 : n0 ≤ h6.size := Nat.le_trans Z5 (Keep.of_wr W6).1
  have K6 := (K5).wr W6 (Or.inl (List.mem_of_getElem? (i := 0) rfl))
  refine vs T6 32 [] (fun t k => st6 t k) ?_
  refine vs T6 33 [(.ref oq)] (fun t k => XS.aloadN X6.here hx rfl (hb hby d15_32) rfl rfl k) ?_
  refine vs T6 35 [(.int (32 : Int32)), (.ref oq)] (fun t k => XS.bipush X6.here hx rfl (hb hby d15_33) k) ?_
  refine vs T6 36 [(.int (own_bt n)), (.int (32 : Int32)), (.ref oq)] (fun t k => XS.iloadN X6.here hx rfl (hb hby d15_35) rfl k) ?_
  refine vs T6 38 [(.int (12 : Int32)), (.int (own_bt n)), (.int (32 : Int32)), (.ref oq)] (fun t k => XS.bipush X6.here hx rfl (hb hby d15_36) k) ?_
  obtain ⟨_, _, ⟨T7, L7, k7, n7⟩, -, X7, ⟨Lc7, hQ7, l7, y7, z7⟩, st7⟩ := Jvm.LawKit.callS X6 hx (y := (⟨"java/lang/Math", "min", "(II)I"⟩ : MethodName)) hown (mvT hZ (ww hw 100 rfl)) (mvT hZ (ww hw 68 rfl)) (mvT hZ (ww hw 69 rfl)) (mvT hZ (ww hw 70 rfl)) (by decide) (backOf (W := 2) (rm12 l Z a0 hw [] (own_bt n) (12 : Int32) h6 n0 Z6) hZ (ww hw 70 rfl) (ww hw 69 rfl) (by decide) (by decide)) (g := (mkF m 38 #[vr oq, vi (Int32.ofNat n), vi (own_bt n)] [(.int (12 : Int32)), (.int (own_bt n)), (.int (32 : Int32)), (.ref oq)])) rfl (by rw [hml]; rfl) (argsL := [(.int (own_bt n)), (.int (12 : Int32))]) (rest := [(.int (32 : Int32)), (.ref oq)]) (lenOf pd_19 rfl) rfl (by show 2 * 0 + _ ≤ _; exact Nat.le_of_eq rfl) (hb hby d15_38) (fun _ _ => ⟨rfl, e6, (by decide : ((((0 + 0) + 0) + 0) + 1) + 0 ≤ _), (by decide : ((((0 + 0) + 0) + 0) + 4) + 0 ≤ _)⟩)
  dsimp only [Pt.U, Pt.locs, Pt.cells, Pt.slots] at X7 l7 y7 z7 st7 hQ7
  subst l7 y7 z7
  obtain ⟨rfl, Nq7, eh7⟩ := hQ7
  have N7 := Fr.app N6 Nq7
  refine vs T7 41 [(.int (own_mn (own_bt n) (12 : Int32))), (.int (32 : Int32)), (.ref oq)] (fun t k => st7 t k) ?_
  refine vs T7 42 [(.int ((32 : Int32) - (own_mn (own_bt n) (12 : Int32)))), (.ref oq)] (fun t k => XS.isub X7.here hx rfl (hb hby d15_41) rfl k) ?_
  rw [own_csh]
  obtain ⟨T8, h8, X8, e8, W8, st8⟩ := putF X7 hx hZ hown (host := "") (Or.inl (ww hw 104 rfl)) Via.refl eh7 FS'6 EC'6 (Or.inr ⟨(ww hw 105 rfl), rfl, hnm⟩) (ww hw 86 rfl) (ty := .int) (by decide) rfl rfl (g := (mkF m 42 #[vr oq, vi (Int32.ofNat n), vi (own_bt n)] [(.int (own_sh n)), (.ref oq)])) rfl rfl (hb hby d15_42)
  have FS'8 := FS'6.same W8
  have EC'8 := EC'6.wr W8
  have FB'8 := FB'6.other W8 (Or.inr (slot_ne (Or.inr (ww hw 103 rfl)) (Or.inr (ww hw 105 rfl)) (by decide) (t := (.array .int)) (t' := .int) (by decide) (by decide)))
  have V_b5'8 := V_b5'6.other W8 (Ne.symm ne_oq_b5)
  have N8 := Fr.snoc X8 N7 g_oq
  have Z8 : n0 ≤ h8.size := Nat.le_trans Z6 (Keep.of_wr W8).1
  have K8 := (K6).wr W8 (Or.inl (List.mem_of_getElem? (i := 0) rfl))
  refine vs T8 45 [] (fun t k => st8 t k) ?_
  exact own_fin X8 e8 (v := none) (fun _ => rfl) hlk (fun fs hr => X8.returnOut hx hret (hb hby d15_45) hr) (show ((fun (v : Option Value) (h : Heap) (L : List Loc) => Q15 Z oq n h0 n0 v h L)) none h8 _ from ⟨b5, k5, rfl, N8, K8, sz_b5, (EC'8), (FB'8), (FS'8), (V_b5'8)⟩) (by decide) (by decide)
theorem pn_5 : plainName "com/example/clew/clew/CharFilter$Counts" = true := by first | (simp [plainName, overriddenIn]; done) | decide +kernel
theorem ef_15 (m : MethodId) (oq : Addr) (n : Nat) : entryFrame m #[(.ref oq), (.int (Int32.ofNat n))] 3 = mkF m 0 #[vr oq, vi (Int32.ofNat n), .unset] [] := by first | (simp [entryFrame, mkF, argsToLocals, Value.category, maxLocals]; done) | rfl
theorem rm15 (l : Launch) (Z : State) (a0 : Array Value) (hw : ∀ d ∈ tables_1, d.before a0 Z = true) (ws : List Jvm.Cond) (oq : Addr) (n : Nat) (h0 : Heap) (n0 : Nat) (Z0 : n0 ≤ h0.size) (EC : Exa Z h0 oq "com/example/clew/clew/CharFilter$Counts") (FB : Fld Z h0 oq "com/example/clew/clew/CharFilter$Counts" "buckets" "[I" .null) (FS : Fld Z h0 oq "com/example/clew/clew/CharFilter$Counts" "shift" "I" (.int (0 : Int32))) (g_oq : n0 ≤ oq) (hn : n ≤ 4) :
    MetFree l (⟨"com/example/clew/clew/CharFilter$Counts", "<init>", "(I)V"⟩ : MethodName) (head1 (Jvm.Cond.code (⟨"com/example/clew/clew/CharFilter$Counts", "<init>", "(I)V"⟩ : MethodName) prog_7_method_1_code 3 none :: ws) ({ frames := 1, cells := 1, slots := 4, locals := 15 } : Room)) (fun a U => a = #[(.ref oq), (.int (Int32.ofNat n))] ∧ Z.Warmed39 U.vm ∧ U.heap = h0) (fun _ _ _ _ _ => True) (fun _ U o U' => ∃ v L, o = .returned v ∧ Q15 Z oq n h0 n0 v U'.heap L ∧ FrameEnd U o U' L ({ frames := 1, cells := 1, slots := 4, locals := 15 } : Room).cells ({ frames := 1, cells := 1, slots := 4, locals := 15 } : Room).slots) := by
  refine MetFree.of_bodySF (plainFor_of_name pn_5) hisR ?_
  intro p e s m args below meth c s₁ Bd hml0 hP hK
  obtain ⟨rfl, hZ, hh⟩ := hP
  have e0 : s₁.heap = h0 := by rw [← hh, Bd.state]; rfl
  rw [ef_15 m oq n]
  exact b15 oq n ⟨Bd.exec, hZ, hw, Bd.bytes, hml0, findClass_of_methodNamed Bd.named, Bd.returns, Bd.notSynchronized, (name_of_methodNamed Bd.named Bd.method).1⟩ (Stand.of_body Bd) e0 Z0 (Fr.nil n0) EC FB FS g_oq hn
def Q25 (Z : State) (oq : Addr) (ch : Int32) (sh : Int32) (h0 : Heap) (n0 : Nat) (v : Option Value) (h : Heap) (L : List Loc) : Prop := v = some (.int (own_bk ch sh)) ∧ Fr n0 L ∧ h = h0
theorem d25_0 : dq cb31 0 (.iload_n 1) 1 := by decide +kernel
theorem d25_1 : dq cb31 1 (.ldc 35) 2 := by decide +kernel
theorem d25_3 : dq cb31 3 .imul 1 := by decide +kernel
theorem d25_4 : dq cb31 4 (.aload_n 0) 1 := by decide +kernel
theorem d25_5 : dq cb31 5 (.getfield 28) 3 := by decide +kernel
theorem d25_8 : dq cb31 8 .iushr 1 := by decide +kernel
theorem d25_9 : dq cb31 9 .ireturn 1 := by decide +kernel
theorem b25  (oq : Addr) (ch : Int32) (sh : Int32)
    (C : own_C p s m meth c Z a0 prog_7_method_4_code 2 "com/example/clew/clew/CharFilter$Counts" (some .int) "bucket") (X0 : Stand p l e ({ frames := 0, cells := 0, slots := 0, locals := 0 } : Room) s m args below meth c T0 locs 0 0) (e0 : T0.heap = h0) (Z0 : n0 ≤ h0.size) (N0 : Fr n0 locs) (FS : Fld Z h0 oq "com/example/clew/clew/CharFilter$Counts" "shift" "I" (.int sh)) :
    own_Go p.tables e below (T0.setTop (mkF m 0 #[vr oq, vi ch] [])) (own_K s (fun (v : Option Value) (h : Heap) (L : List Loc) => Q25 Z oq ch sh h0 n0 v h L) ({ frames := 0, cells := 0, slots := 0, locals := 0 } : Room).cells ({ frames := 0, cells := 0, slots := 0, locals := 0 } : Room).slots) := by
  obtain ⟨hx, hZ, hw, hby, hml, hown, hret, hlk, hnm⟩ := C
  refine vs T0 1 [(.int ch)] (fun t k => XS.iloadN X0.here hx rfl (hb hby d25_0) rfl k) ?_
  refine vs T0 3 [(.int (-1640531527 : Int32)), (.int ch)] (fun t k => X0.ldcI hx hown (mvT hZ (ww hw 138 rfl)) (g := (mkF m 1 #[vr oq, vi ch] [(.int ch)])) rfl (hb hby d25_1) k) ?_
  refine vs T0 4 [(.int (ch * (-1640531527 : Int32)))] (fun t k => XS.imul X0.here hx rfl (hb hby d25_3) rfl k) ?_
  refine vs T0 5 [(.ref oq), (.int (ch * (-1640531527 : Int32)))] (fun t k => XS.aloadN X0.here hx rfl (hb hby d25_4) rfl rfl k) ?_
  obtain ⟨T1, X1, e1, st1⟩ := getF X0 hx hZ hown (host := "") (Or.inl (ww hw 104 rfl)) Via.refl e0 FS (g := (mkF m 5 #[vr oq, vi ch] [(.ref oq), (.int (ch * (-1640531527 : Int32)))])) rfl rfl (hb hby d25_5)
  refine vs T1 8 [(.int sh), (.int (ch * (-1640531527 : Int32)))] (fun t k => st1 t k) ?_
  refine vs T1 9 [(.int (XT.ushr (ch * (-1640531527 : Int32)) sh))] (fun t k => XT.iushr X1.here hx rfl (hb hby d25_8) rfl k) ?_
  exact own_fin X1 e1 (v := some (.int (XT.ushr (ch * (-1640531527 : Int32)) sh))) (fun h => by rw [hret] at h; cases h) hlk (fun fs hr => retI X1 hx hret (hb hby d25_9) hr) (show ((fun (v : Option Value) (h : Heap) (L : List Loc) => Q25 Z oq ch sh h0 n0 v h L)) (some (.int (XT.ushr (ch * (-1640531527 : Int32)) sh))) h0 _ from ⟨rfl, N0, rfl⟩) (by decide) (by decide)
theorem ef_25 (m : MethodId) (oq : Addr) (ch : Int32) : entryFrame m #[(.ref oq), (.int ch)] 2 = mkF m 0 #[vr oq, vi ch] [] := by first | (simp [entryFrame, mkF, argsToLocals, Value.category, maxLocals]; done) | rfl
theorem rm25 (l : Launch) (Z : State) (a0 : Array Value) (hw : ∀ d ∈ tables_1, d.before a0 Z = true) (ws : List Jvm.Cond) (oq : Addr) (ch : Int32) (sh : Int32) (h0 : Heap) (n0 : Nat) (Z0 : n0 ≤ h0.size) (FS : Fld Z h0 oq "com/example/clew/clew/CharFilter$Counts" "shift" "I" (.int sh)) :
    MetFree l (⟨"com/example/clew/clew/CharFilter$Counts", "bucket", "(I)I"⟩ : MethodName) (head1 (Jvm.Cond.code (⟨"com/example/clew/clew/CharFilter$Counts", "bucket", "(I)I"⟩ : MethodName) prog_7_method_4_code 2 (some .int) :: ws) ({ frames := 0, cells := 0, slots := 0, locals := 0 } : Room)) (fun a U => a = #[(.ref oq), (.int ch)] ∧ Z.Warmed39 U.vm ∧ U.heap = h0) (fun _ _ _ _ _ => True) (fun _ U o U' => ∃ v L, o = .returned v ∧ Q25 Z oq ch sh h0 n0 v U'.heap L ∧ FrameEnd U o U' L ({ frames := 0, cells := 0, slots := 0, locals := 0 } : Room).cells ({ frames := 0, cells := 0, slots := 0, locals := 0 } : Room).slots) := by
  refine MetFree.of_bodySF (plainFor_of_name pn_5) hisR ?_
  intro p e s m args below meth c s₁ Bd hml0 hP hK
  obtain ⟨rfl, hZ, hh⟩ := hP
  have e0 : s₁.heap = h0 := by rw [← hh, Bd.state]; rfl
  rw [ef_25 m oq ch]
  exact b25 oq ch sh ⟨Bd.exec, hZ, hw, Bd.bytes, hml0, findClass_of_methodNamed Bd.named, Bd.returns, Bd.notSynchronized, (name_of_methodNamed Bd.named Bd.method).1⟩ (Stand.of_body Bd) e0 Z0 (Fr.nil n0) FS
def Q28 (Z : State) (oq : Addr) (ok : Addr) (kk : ClassId) (n : Nat) (ks : List Int32) (ch : Int32) (h0 : Heap) (n0 : Nat) (v : Option Value) (h : Heap) (L : List Loc) : Prop := v = some (.int (ks.getD (own_bi n ch) 0)) ∧ Fr n0 L ∧ h = h0
theorem d28_0 : dq cb32 0 (.aload_n 0) 1 := by decide +kernel
theorem d28_1 : dq cb32 1 (.getfield 24) 3 := by decide +kernel
theorem d28_4 : dq cb32 4 (.aload_n 0) 1 := by decide +kernel
theorem d28_5 : dq cb32 5 (.iload_n 1) 1 := by decide +kernel
theorem d28_6 : dq cb32 6 (.invokevirtual 32) 3 := by decide +kernel
theorem d28_9 : dq cb32 9 .iaload 1 := by decide +kernel
theorem d28_10 : dq cb32 10 .ireturn 1 := by decide +kernel
theorem b28  (oq : Addr) (ok : Addr) (kk : ClassId) (n : Nat) (ks : List Int32) (ch : Int32)
    (C : own_C p s m meth c Z a0 prog_7_method_3_code 2 "com/example/clew/clew/CharFilter$Counts" (some .int) "of") (X0 : Stand p l e ({ frames := 1, cells := 0, slots := 0, locals := 14 } : Room) s m args below meth c T0 locs 0 0) (e0 : T0.heap = h0) (Z0 : n0 ≤ h0.size) (N0 : Fr n0 locs) (EC : Exa Z h0 oq "com/example/clew/clew/CharFilter$Counts") (FB : Fld Z h0 oq "com/example/clew/clew/CharFilter$Counts" "buckets" "[I" (.ref ok)) (FS : Fld Z h0 oq "com/example/clew/clew/CharFilter$Counts" "shift" "I" (.int (own_sh n))) (VK : Arv Z h0 ok kk .int (Int32.ofNat (own_nq n)) (own_iv ks) (.int (0 : Int32))) :
    own_Go p.tables e below (T0.setTop (mkF m 0 #[vr oq, vi ch] [])) (own_K s (fun (v : Option Value) (h : Heap) (L : List Loc) => Q28 Z oq ok kk n ks ch h0 n0 v h L) ({ frames := 1, cells := 0, slots := 0, locals := 14 } : Room).cells ({ frames := 1, cells := 0, slots := 0, locals := 14 } : Room).slots) := by
  obtain ⟨hx, hZ, hw, hby, hml, hown, hret, hlk, hnm⟩ := C
  have hq := own_nq4 n
  have hlt := own_bilt n ch
  refine vs T0 1 [(.ref oq)] (fun t k => XS.aloadN X0.here hx rfl (hb hby d28_0) rfl rfl k) ?_
  obtain ⟨T1, X1, e1, st1⟩ := getF X0 hx hZ hown (host := "") (Or.inl (ww hw 102 rfl)) Via.refl e0 FB (g := (mkF m 1 #[vr oq, vi ch] [(.ref oq)])) rfl rfl (hb hby d28_1)
  refine vs T1 4 [(.ref ok)] (fun t k => st1 t k) ?_
  refine vs T1 5 [(.ref oq), (.ref ok)] (fun t k => XS.aloadN X1.here hx rfl (hb hby d28_4) rfl rfl k) ?_
  refine vs T1 6 [(.int ch), (.ref oq), (.ref ok)] (fun t k => XS.iloadN X1.here hx rfl (hb hby d28_5) rfl k) ?_
  obtain ⟨cq2, q2, q2'⟩ := EC.cell
  obtain ⟨_, _, ⟨T2, L2, k2, n2⟩, -, X2, ⟨Lc2, hQ2, l2, y2, z2⟩, st2⟩ := X1.privateBack hx (y := (⟨"com/example/clew/clew/CharFilter$Counts", "bucket", "(I)I"⟩ : MethodName)) hown (mvT hZ (ww hw 134 rfl)) (mvT hZ (ww hw 135 rfl)) (own_psel hZ (ww hw 86 rfl) (ww hw 136 rfl) (ww hw 135 rfl) (by decide)) (Cond.privateMethod_at (mvP hZ (ww hw 136 rfl) (args := #[]))) (mvT hZ (ww hw 137 rfl)) (by decide) (backOf (W := 1) (rm25 l Z a0 hw [] oq ch (own_sh n) h0 n0 Z0 FS) hZ (ww hw 137 rfl) (ww hw 87 rfl) (by decide) (by decide)) (g := (mkF m 6 #[vr oq, vi ch] [(.int ch), (.ref oq), (.ref ok)])) rfl (by rw [hml]; rfl) (Steps.refl _) (a := oq) (by rw [e1]; exact q2) q2' (argsL := [(.int ch)]) (rest := [(.ref ok)]) (lenOf pd_0 rfl) rfl (by show 2 * 0 + _ ≤ _; exact Nat.le_of_eq rfl) (hb hby d28_6) (fun _ _ => ⟨rfl, e1, (by decide : 0 + 0 ≤ _), (by decide : 0 + 0 ≤ _)⟩)
  dsimp only [Pt.U, Pt.locs, Pt.cells, Pt.slots] at X2 l2 y2 z2 st2 hQ2
  subst l2 y2 z2
  obtain ⟨rfl, Nq2, eh2⟩ := hQ2
  have N2 := Fr.app N0 Nq2
  refine vs T2 9 [(.int (own_bk ch (own_sh n))), (.ref ok)] (fun t k => st2.trans k) ?_
  rw [own_bkbi]
  obtain ⟨cl3, Ar3, qc3, S3, NN3, H3, G3⟩ := id VK
  have in3 := inb_of (j := (Int32.ofNat (own_bi n ch))) S3 (own_inb (i := own_bi n ch) (by omega) (by omega))
  have hat3 : cl3.slots[((Int32.ofNat (own_bi n ch))).toNatClampNeg]? = some (.int (ks.getD (own_bi n ch) 0)) := H3.at in3 (own_ivget ks (i := own_bi n ch) (by omega))
  refine vs T2 10 [(.int (ks.getD (own_bi n ch) 0))] (fun t k => X2.iaload hx (j := (Int32.ofNat (own_bi n ch))) (v := (.int (ks.getD (own_bi n ch) 0))) (own_eqh eh2 Ar3.1) (State.isArrayOf_alike hZ.alike Ar3.2.1) Ar3.2.2 in3 hat3 (g := (mkF m 9 #[vr oq, vi ch] [(.int (Int32.ofNat (own_bi n ch))), (.ref ok)])) rfl rfl (hb hby d28_9) t k) ?_
  exact own_fin X2 eh2 (v := some (.int (ks.getD (own_bi n ch) 0))) (fun h => by rw [hret] at h; cases h) hlk (fun fs hr => retI X2 hx hret (hb hby d28_10) hr) (show ((fun (v : Option Value) (h : Heap) (L : List Loc) => Q28 Z oq ok kk n ks ch h0 n0 v h L)) (some (.int (ks.getD (own_bi n ch) 0))) h0 _ from ⟨rfl, N2, rfl⟩) (by decide) (by decide)
theorem ef_28 (m : MethodId) (oq : Addr) (ch : Int32) : entryFrame m #[(.ref oq), (.int ch)] 2 = mkF m 0 #[vr oq, vi ch] [] := by first | (simp [entryFrame, mkF, argsToLocals, Value.category, maxLocals]; done) | rfl
theorem rm28 (l : Launch) (Z : State) (a0 : Array Value) (hw : ∀ d ∈ tables_1, d.before a0 Z = true) (ws : List Jvm.Cond) (oq : Addr) (ok : Addr) (kk : ClassId) (n : Nat) (ks : List Int32) (ch : Int32) (h0 : Heap) (n0 : Nat) (Z0 : n0 ≤ h0.size) (EC : Exa Z h0 oq "com/example/clew/clew/CharFilter$Counts") (FB : Fld Z h0 oq "com/example/clew/clew/CharFilter$Counts" "buckets" "[I" (.ref ok)) (FS : Fld Z h0 oq "com/example/clew/clew/CharFilter$Counts" "shift" "I" (.int (own_sh n))) (VK : Arv Z h0 ok kk .int (Int32.ofNat (own_nq n)) (own_iv ks) (.int (0 : Int32))) :
    MetFree l (⟨"com/example/clew/clew/CharFilter$Counts", "of", "(I)I"⟩ : MethodName) (head1 (Jvm.Cond.code (⟨"com/example/clew/clew/CharFilter$Counts", "of", "(I)I"⟩ : MethodName) prog_7_method_3_code 2 (some .int) :: ws) ({ frames := 1, cells := 0, slots := 0, locals := 14 } : Room)) (fun a U => a = #[(.ref oq), (.int ch)] ∧ Z.Warmed39 U.vm ∧ U.heap = h0) (fun _ _ _ _ _ => True) (fun _ U o U' => ∃ v L, o = .returned v ∧ Q28 Z oq ok kk n ks ch h0 n0 v U'.heap L ∧ FrameEnd U o U' L ({ frames := 1, cells := 0, slots := 0, locals := 14 } : Room).cells ({ frames := 1, cells := 0, slots := 0, locals := 14 } : Room).slots) := by
  refine MetFree.of_bodySF (plainFor_of_name pn_5) hisR ?_
  intro p e s m args below meth c s₁ Bd hml0 hP hK
  obtain ⟨rfl, hZ, hh⟩ := hP
  have e0 : s₁.heap = h0 := by rw [← hh, Bd.state]; rfl
  rw [ef_28 m oq ch]
  exact b28 oq ok kk n ks ch ⟨Bd.exec, hZ, hw, Bd.bytes, hml0, findClass_of_methodNamed Bd.named, Bd.returns, Bd.notSynchronized, (name_of_methodNamed Bd.named Bd.method).1⟩ (Stand.of_body Bd) e0 Z0 (Fr.nil n0) EC FB FS VK
theorem d24_3 : dq cb33 3 (.iload 4) 2 := by decide +kernel
theorem d24_5 : dq cb33 5 (.iload_n 3) 1 := by decide +kernel
theorem d24_6 : dq cb33 6 (.if_icmp .ge 26) 3 := by decide +kernel
theorem d24_32 : dq cb33 32 .return_ 1 := by decide +kernel
theorem d24_9 : dq cb33 9 (.aload_n 0) 1 := by decide +kernel
theorem d24_10 : dq cb33 10 (.getfield 24) 3 := by decide +kernel
theorem d24_13 : dq cb33 13 (.aload_n 0) 1 := by decide +kernel
theorem d24_14 : dq cb33 14 (.aload_n 1) 1 := by decide +kernel
theorem d24_15 : dq cb33 15 (.iload 4) 2 := by decide +kernel
theorem d24_17 : dq cb33 17 .caload 1 := by decide +kernel
theorem d24_18 : dq cb33 18 (.invokevirtual 32) 3 := by decide +kernel
theorem d24_21 : dq cb33 21 .dup2 1 := by decide +kernel
theorem d24_22 : dq cb33 22 .iaload 1 := by decide +kernel
theorem d24_23 : dq cb33 23 (.iconst 1) 1 := by decide +kernel
theorem d24_24 : dq cb33 24 .iadd 1 := by decide +kernel
theorem d24_25 : dq cb33 25 .iastore 1 := by decide +kernel
theorem d24_26 : dq cb33 26 (.iinc 4 1) 3 := by decide +kernel
theorem d24_29 : dq cb33 29 (.goto (-26)) 3 := by decide +kernel
theorem b24_3  (oq : Addr) (ok : Addr) (kk : ClassId) (n : Nat) (ks : List Int32) (oc : Addr) (kc : ClassId) (m1 : Nat) (ds : List Int32) (hE : Heap) (C : own_C p s m meth c Z a0 prog_7_method_2_code 5 "com/example/clew/clew/CharFilter$Counts" none "add") (g_ok : n0 ≤ ok) (hds : ds.length = m1) (hm4 : m1 ≤ 4) (hks : ks.length = own_nq n) (ne_qk : oq ≠ ok) (ne_ck : oc ≠ ok) :
    ∀ (r : Nat) (i : Nat) (kz : List Int32) (T0 : State) (locs : List Loc) (h0 : Heap) (X0 : Stand p l e ({ frames := 1, cells := 0, slots := 0, locals := 14 } : Room) s m args below meth c T0 locs 0 0) (e0 : T0.heap = h0) (Z0 : n0 ≤ h0.size) (N0 : Fr n0 locs) (EC : Exa Z h0 oq "com/example/clew/clew/CharFilter$Counts") (FB : Fld Z h0 oq "com/example/clew/clew/CharFilter$Counts" "buckets" "[I" (.ref ok)) (FS : Fld Z h0 oq "com/example/clew/clew/CharFilter$Counts" "shift" "I" (.int (own_sh n))) (VK : Arv Z h0 ok kk .int (Int32.ofNat (own_nq n)) (own_iv kz) (.int (0 : Int32))) (VC : Arv Z h0 oc kc .char (Int32.ofNat m1) (own_iv ds) (.int (0 : Int32))) (KE : Keep hE h0 [ok]) (hr : r = m1 - i) (hin : i ≤ m1) (hkz : kz = own_adds n ds i ks), own_Go p.tables e below (T0.setTop (mkF m 3 #[vr oq, vr oc, vi (0 : Int32), vi (Int32.ofNat m1), vi (Int32.ofNat i)] [])) (own_K s (fun (v : Option Value) (h : Heap) (L : List Loc) => v = none ∧ Fr n0 L ∧ Keep hE h [ok] ∧ Arv Z h ok kk .int (Int32.ofNat (own_nq n)) (own_iv (own_adds n ds m1 ks)) (.int (0 : Int32))) ({ frames := 1, cells := 0, slots := 0, locals := 14 } : Room).cells ({ frames := 1, cells := 0, slots := 0, locals := 14 } : Room).slots) := by
  obtain ⟨hx, hZ, hw, hby, hml, hown, hret, hlk, hnm⟩ := C
  intro r
  induction r with
  | zero =>
    intro i kz T0 locs h0 X0 e0 Z0 N0 EC FB FS VK VC KE hr hin hkz
    refine vs T0 5 [(.int (Int32.ofNat i))] (fun t k => XS.iload X0.here hx rfl (hb hby d24_3) rfl k) ?_
    refine vs T0 6 [(.int (Int32.ofNat m1)), (.int (Int32.ofNat i))] (fun t k => XS.iloadN X0.here hx rfl (hb hby d24_5) rfl k) ?_
    have hc1_6 : ¬ ((Int32.ofNat i) < (Int32.ofNat m1)) := own_nlt (by omega) (by omega) (by omega)
    refine vs T0 32 [] (fun t k => XS.icmpYes X0.here hx rfl (pc0 := 6) (pc' := 32) rfl (hb hby d24_6) rfl (XT.ii_ge_t hc1_6) (by decide) (by decide) k) ?_
    exact own_fin X0 e0 (v := none) (fun _ => rfl) hlk (fun fs hr => X0.returnOut hx hret (hb hby d24_32) hr) (show ((fun (v : Option Value) (h : Heap) (L : List Loc) => v = none ∧ Fr n0 L ∧ Keep hE h [ok] ∧ Arv Z h ok kk .int (Int32.ofNat (own_nq n)) (own_iv (own_adds n ds m1 ks)) (.int (0 : Int32)))) none h0 _ from ⟨rfl, N0, KE, (by have q := VK; rw [hkz, show i = m1 by omega] at q; exact q)⟩) (by decide) (by decide)
  | succ r ih =>
    intro i kz T0 locs h0 X0 e0 Z0 N0 EC FB FS VK VC KE hr hin hkz
    refine vs T0 5 [(.int (Int32.ofNat i))] (fun t k => XS.iload X0.here hx rfl (hb hby d24_3) rfl k) ?_
    refine vs T0 6 [(.int (Int32.ofNat m1)), (.int (Int32.ofNat i))] (fun t k => XS.iloadN X0.here hx rfl (hb hby d24_5) rfl k) ?_
    have hc1_6 : (Int32.ofNat i) < (Int32.ofNat m1) := own_lt (by omega) (by omega)
    refine vs T0 9 [] (fun t k => XS.icmpNo X0.here hx rfl (hb hby d24_6) rfl (XT.ii_ge_f hc1_6) k) ?_
    refine vs T0 10 [(.ref oq)] (fun t k => XS.aloadN X0.here hx rfl (hb hby d24_9) rfl rfl k) ?_
    obtain ⟨T2, X2, e2, st2⟩ := getF X0 hx hZ hown (host := "") (Or.inl (ww hw 102 rfl)) Via.refl e0 FB (g := (mkF m 10 #[vr oq, vr oc, vi (0 : Int32), vi (Int32.ofNat m1), vi (Int32.ofNat i)] [(.ref oq)])) rfl rfl (hb hby d24_10)
    refine vs T2 13 [(.ref ok)] (fun t k => st2 t k) ?_
    refine vs T2 14 [(.ref oq), (.ref ok)] (fun t k => XS.aloadN X2.here hx rfl (hb hby d24_13) rfl rfl k) ?_
    refine vs T2 15 [(.ref oc), (.ref oq), (.ref ok)] (fun t k => XS.aloadN X2.here hx rfl (hb hby d24_14) rfl rfl k) ?_
    refine vs T2 17 [(.int (Int32.ofNat i)), (.ref oc), (.ref oq), (.ref ok)] (fun t k => XS.iload X2.here hx rfl (hb hby d24_15) rfl k) ?_
    obtain ⟨cl3, Ar3, qc3, S3, NN3, H3, G3⟩ := id VC
    have in3 := inb_of (j := (Int32.ofNat i)) S3 (own_inb (i := i) (by omega) (by omega))
    have hat3 : cl3.slots[((Int32.ofNat i)).toNatClampNeg]? = some (.int (ds.getD i 0)) := H3.at in3 (own_ivget ds (i := i) (by omega))
    refine vs T2 18 [(.int (ds.getD i 0)), (.ref oq), (.ref ok)] (fun t k => X2.caload hx (j := (Int32.ofNat i)) (v := (.int (ds.getD i 0))) (own_eqh e2 Ar3.1) (State.isArrayOf_alike hZ.alike Ar3.2.1) Ar3.2.2 in3 hat3 (g := (mkF m 17 #[vr oq, vr oc, vi (0 : Int32), vi (Int32.ofNat m1), vi (Int32.ofNat i)] [(.int (Int32.ofNat i)), (.ref oc), (.ref oq), (.ref ok)])) rfl rfl (hb hby d24_17) t k) ?_
    obtain ⟨cq4, q4, q4'⟩ := EC.cell
    obtain ⟨_, _, ⟨T4, L4, k4, n4⟩, -, X4, ⟨Lc4, hQ4, l4, y4, z4⟩, st4⟩ := X2.privateBack hx (y := (⟨"com/example/clew/clew/CharFilter$Counts", "bucket", "(I)I"⟩ : MethodName)) hown (mvT hZ (ww hw 134 rfl)) (mvT hZ (ww hw 135 rfl)) (own_psel hZ (ww hw 86 rfl) (ww hw 136 rfl) (ww hw 135 rfl) (by decide)) (Cond.privateMethod_at (mvP hZ (ww hw 136 rfl) (args := #[]))) (mvT hZ (ww hw 137 rfl)) (by decide) (backOf (W := 1) (rm25 l Z a0 hw [] oq (ds.getD i 0) (own_sh n) h0 n0 Z0 FS) hZ (ww hw 137 rfl) (ww hw 87 rfl) (by decide) (by decide)) (g := (mkF m 18 #[vr oq, vr oc, vi (0 : Int32), vi (Int32.ofNat m1), vi (Int32.ofNat i)] [(.int (ds.getD i 0)), (.ref oq), (.ref ok)])) rfl (by rw [hml]; rfl) (Steps.refl _) (a := oq) (by rw [e2]; exact q4) q4' (argsL := [(.int (ds.getD i 0))]) (rest := [(.ref ok)]) (lenOf pd_0 rfl) rfl (by show 2 * 0 + _ ≤ _; exact Nat.le_of_eq rfl) (hb hby d24_18) (fun _ _ => ⟨rfl, e2, (by decide : 0 + 0 ≤ _), (by decide : 0 + 0 ≤ _)⟩)
    dsimp only [Pt.U, Pt.locs, Pt.cells, Pt.slots] at X4 l4 y4 z4 st4 hQ4
    subst l4 y4 z4
    obtain ⟨rfl, Nq4, eh4⟩ := hQ4
    have N4 := Fr.app N0 Nq4
    refine vs T4 21 [(.int (own_bk (ds.getD i 0) (own_sh n))), (.ref ok)] (fun t k => st4.trans k) ?_
    rw [own_bkbi]
    refine vs T4 22 [(.int (Int32.ofNat (own_bi n (ds.getD i 0)))), (.ref ok), (.int (Int32.ofNat (own_bi n (ds.getD i 0)))), (.ref ok)] (fun t k => XT.dup2 X4.here hx rfl (hb hby d24_21) rfl rfl rfl k) ?_
    obtain ⟨cl5, Ar5, qc5, S5, NN5, H5, G5⟩ := id VK
    have in5 := inb_of (j := (Int32.ofNat (own_bi n (ds.getD i 0)))) S5 (own_inb (i := (own_bi n (ds.getD i 0))) (own_bilt n _) (by have := own_nq4 n; omega))
    have hat5 : cl5.slots[((Int32.ofNat (own_bi n (ds.getD i 0)))).toNatClampNeg]? = some (.int (kz.getD (own_bi n (ds.getD i 0)) 0)) := H5.at in5 (own_ivget kz (i := (own_bi n (ds.getD i 0))) (by have := own_nq4 n; have := own_bilt n (ds.getD i 0); omega))
    refine vs T4 23 [(.int (kz.getD (own_bi n (ds.getD i 0)) 0)), (.int (Int32.ofNat (own_bi n (ds.getD i 0)))), (.ref ok)] (fun t k => X4.iaload hx (j := (Int32.ofNat (own_bi n (ds.getD i 0)))) (v := (.int (kz.getD (own_bi n (ds.getD i 0)) 0))) (own_eqh eh4 Ar5.1) (State.isArrayOf_alike hZ.alike Ar5.2.1) Ar5.2.2 in5 hat5 (g := (mkF m 22 #[vr oq, vr oc, vi (0 : Int32), vi (Int32.ofNat m1), vi (Int32.ofNat i)] [(.int (Int32.ofNat (own_bi n (ds.getD i 0)))), (.ref ok), (.int (Int32.ofNat (own_bi n (ds.getD i 0)))), (.ref ok)])) rfl rfl (hb hby d24_22) t k) ?_
    refine vs T4 24 [(.int (1 : Int32)), (.int (kz.getD (own_bi n (ds.getD i 0)) 0)), (.int (Int32.ofNat (own_bi n (ds.getD i 0)))), (.ref ok)] (fun t k => XS.iconst X4.here hx rfl (hb hby d24_23) k) ?_
    refine vs T4 25 [(.int ((kz.getD (own_bi n (ds.getD i 0)) 0) + (1 : Int32))), (.int (Int32.ofNat (own_bi n (ds.getD i 0)))), (.ref ok)] (fun t k => XS.iadd X4.here hx rfl (hb hby d24_24) rfl k) ?_
    obtain ⟨cl6, Ar6, qc6, S6, NN6, H6, G6⟩ := id VK
    obtain ⟨T6, h6, X6, e6, W6, st6⟩ := stI X4 hx hZ eh4 Ar6 (j := (Int32.ofNat (own_bi n (ds.getD i 0)))) (inb_of S6 (own_inb (i := (own_bi n (ds.getD i 0))) (own_bilt n _) (by have := own_nq4 n; omega))) (g := (mkF m 25 #[vr oq, vr oc, vi (0 : Int32), vi (Int32.ofNat m1), vi (Int32.ofNat i)] [(.int ((kz.getD (own_bi n (ds.getD i 0)) 0) + (1 : Int32))), (.int (Int32.ofNat (own_bi n (ds.getD i 0)))), (.ref ok)])) rfl rfl (hb hby d24_25)
    have V_ok'6 : Arv Z h6 ok kk .int (Int32.ofNat (own_nq n)) (own_iv (kz.set (own_bi n (ds.getD i 0)) (kz.getD (own_bi n (ds.getD i 0)) 0 + 1))) (.int (0 : Int32)) := (by have q := Arv.set Ar6 qc6 S6 NN6 H6 G6 rfl W6 (own_bi n (ds.getD i 0)) (own_cl (by have := own_nq4 n; have := own_bilt n (ds.getD i 0); omega)) (by rw [own_ivlen, hkz, own_addslen, hks]; exact own_bilt n _); rw [own_ivset] at q; exact q)
    have EC'6 := EC.wr W6
    have FB'6 := FB.other W6 (Or.inl ne_qk)
    have FS'6 := FS.other W6 (Or.inl ne_qk)
    have VC'6 := VC.other W6 ne_ck
    have N6 := Fr.snoc X6 N4 g_ok
    have Z6 : n0 ≤ h6.size := Nat.le_trans Z0 (Keep.of_wr W6).1
    have K6 := (KE).wr W6 (Or.inl (List.mem_of_getElem? (i := 0) rfl))
    refine vs T6 26 [] (fun t k => st6 t k) ?_
    refine vv T6 m 29 #[vr oq, vr oc, vi (0 : Int32), vi (Int32.ofNat m1), vi ((Int32.ofNat i) + (1 : Int32))] [] (fun t k => XS.iinc X6.here hx rfl (hb hby d24_26) rfl (l' := #[vr oq, vr oc, vi (0 : Int32), vi (Int32.ofNat m1), vi ((Int32.ofNat i) + (1 : Int32))]) rfl k) ?_
    refine vs T6 3 [] (fun t k => XS.goto X6.here hx rfl (pc0 := 29) (pc' := 3) rfl (hb hby d24_29) (by decide) (by decide) k) ?_
    rw [own_one]
    exact ih (i + 1) _ T6 _ _ X6 e6 Z6 N6 EC'6 FB'6 FS'6 V_ok'6 VC'6 K6 (by omega) (by omega) (by rw [hkz]; rfl)
theorem d24_0 : dq cb33 0 (.iload_n 2) 1 := by decide +kernel
theorem d24_1 : dq cb33 1 (.istore 4) 2 := by decide +kernel
theorem b24_0  (oq : Addr) (ok : Addr) (kk : ClassId) (n : Nat) (ks : List Int32) (oc : Addr) (kc : ClassId) (m1 : Nat) (ds : List Int32)
    (C : own_C p s m meth c Z a0 prog_7_method_2_code 5 "com/example/clew/clew/CharFilter$Counts" none "add") (X0 : Stand p l e ({ frames := 1, cells := 0, slots := 0, locals := 14 } : Room) s m args below meth c T0 locs 0 0) (e0 : T0.heap = h0) (Z0 : n0 ≤ h0.size) (N0 : Fr n0 locs) (EC : Exa Z h0 oq "com/example/clew/clew/CharFilter$Counts") (FB : Fld Z h0 oq "com/example/clew/clew/CharFilter$Counts" "buckets" "[I" (.ref ok)) (FS : Fld Z h0 oq "com/example/clew/clew/CharFilter$Counts" "shift" "I" (.int (own_sh n))) (VK : Arv Z h0 ok kk .int (Int32.ofNat (own_nq n)) (own_iv ks) (.int (0 : Int32))) (VC : Arv Z h0 oc kc .char (Int32.ofNat m1) (own_iv ds) (.int (0 : Int32))) (g_ok : n0 ≤ ok) (hds : ds.length = m1) (hm4 : m1 ≤ 4) (hks : ks.length = own_nq n) (ne_qk : oq ≠ ok) (ne_ck : oc ≠ ok) :
    own_Go p.tables e below (T0.setTop (mkF m 0 #[vr oq, vr oc, vi (0 : Int32), vi (Int32.ofNat m1), .unset] [])) (own_K s (fun (v : Option Value) (h : Heap) (L : List Loc) => v = none ∧ Fr n0 L ∧ Keep h0 h [ok] ∧ Arv Z h ok kk .int (Int32.ofNat (own_nq n)) (own_iv (own_adds n ds m1 ks)) (.int (0 : Int32))) ({ frames := 1, cells := 0, slots := 0, locals := 14 } : Room).cells ({ frames := 1, cells := 0, slots := 0, locals := 14 } : Room).slots) := by
  obtain ⟨hx, hZ, hw, hby, hml, hown, hret, hlk, hnm⟩ := C
  refine vs T0 1 [(.int (0 : Int32))] (fun t k => XS.iloadN X0.here hx rfl (hb hby d24_0) rfl k) ?_
  refine vv T0 m 3 #[vr oq, vr oc, vi (0 : Int32), vi (Int32.ofNat m1), vi (0 : Int32)] [] (fun t k => XS.istore X0.here hx rfl (hb hby d24_1) rfl (l' := #[vr oq, vr oc, vi (0 : Int32), vi (Int32.ofNat m1), vi (0 : Int32)]) rfl k) ?_
  exact b24_3 oq ok kk n ks oc kc m1 ds h0 ⟨hx, hZ, hw, hby, hml, hown, hret, hlk, hnm⟩ g_ok hds hm4 hks ne_qk ne_ck m1 0 _ T0 _ _ X0 e0 Z0 N0 EC FB FS VK VC (Keep.refl h0 [ok]) (by omega) (by omega) rfl
def Q24 (Z : State) (oq : Addr) (ok : Addr) (kk : ClassId) (n : Nat) (ks : List Int32) (oc : Addr) (kc : ClassId) (m1 : Nat) (ds : List Int32) (h0 : Heap) (n0 : Nat) (v : Option Value) (h : Heap) (L : List Loc) : Prop := v = none ∧ Fr n0 L ∧ Keep h0 h [ok] ∧ Arv Z h ok kk .int (Int32.ofNat (own_nq n)) (own_iv (own_adds n ds m1 ks)) (.int (0 : Int32))
theorem ef_24 (m : MethodId) (oq : Addr) (oc : Addr) (m1 : Nat) : entryFrame m #[(.ref oq), (.ref oc), (.int (0 : Int32)), (.int (Int32.ofNat m1))] 5 = mkF m 0 #[vr oq, vr oc, vi (0 : Int32), vi (Int32.ofNat m1), .unset] [] := by first | (simp [entryFrame, mkF, argsToLocals, Value.category, maxLocals]; done) | rfl
theorem rm24 (l : Launch) (Z : State) (a0 : Array Value) (hw : ∀ d ∈ tables_1, d.before a0 Z = true) (ws : List Jvm.Cond) (oq : Addr) (ok : Addr) (kk : ClassId) (n : Nat) (ks : List Int32) (oc : Addr) (kc : ClassId) (m1 : Nat) (ds : List Int32) (h0 : Heap) (n0 : Nat) (Z0 : n0 ≤ h0.size) (EC : Exa Z h0 oq "com/example/clew/clew/CharFilter$Counts") (FB : Fld Z h0 oq "com/example/clew/clew/CharFilter$Counts" "buckets" "[I" (.ref ok)) (FS : Fld Z h0 oq "com/example/clew/clew/CharFilter$Counts" "shift" "I" (.int (own_sh n))) (VK : Arv Z h0 ok kk .int (Int32.ofNat (own_nq n)) (own_iv ks) (.int (0 : Int32))) (VC : Arv Z h0 oc kc .char (Int32.ofNat m1) (own_iv ds) (.int (0 : Int32))) (g_ok : n0 ≤ ok) (hds : ds.length = m1) (hm4 : m1 ≤ 4) (hks : ks.length = own_nq n) (ne_qk : oq ≠ ok) (ne_ck : oc ≠ ok) :
    MetFree l (⟨"com/example/clew/clew/CharFilter$Counts", "add", "([CII)V"⟩ : MethodName) (head1 (Jvm.Cond.code (⟨"com/example/clew/clew/CharFilter$Counts", "add", "([CII)V"⟩ : MethodName) prog_7_method_2_code 5 none :: ws) ({ frames := 1, cells := 0, slots := 0, locals := 14 } : Room)) (fun a U => a = #[(.ref oq), (.ref oc), (.int (0 : Int32)), (.int (Int32.ofNat m1))] ∧ Z.Warmed39 U.vm ∧ U.heap = h0) (fun _ _ _ _ _ => True) (fun _ U o U' => ∃ v L, o = .returned v ∧ Q24 Z oq ok kk n ks oc kc m1 ds h0 n0 v U'.heap L ∧ FrameEnd U o U' L ({ frames := 1, cells := 0, slots := 0, locals := 14 } : Room).cells ({ frames := 1, cells := 0, slots := 0, locals := 14 } : Room).slots) := by
  refine MetFree.of_bodySF (plainFor_of_name pn_5) hisR ?_
  intro p e s m args below meth c s₁ Bd hml0 hP hK
  obtain ⟨rfl, hZ, hh⟩ := hP
  have e0 : s₁.heap = h0 := by rw [← hh, Bd.state]; rfl
  rw [ef_24 m oq oc m1]
  exact b24_0 oq ok kk n ks oc kc m1 ds ⟨Bd.exec, hZ, hw, Bd.bytes, hml0, findClass_of_methodNamed Bd.named, Bd.returns, Bd.notSynchronized, (name_of_methodNamed Bd.named Bd.method).1⟩ (Stand.of_body Bd) e0 Z0 (Fr.nil n0) EC FB FS VK VC g_ok hds hm4 hks ne_qk ne_ck
def own_sg : Lambda.Shape := (Jvm.Lambda.Shape.mk "java/util/function/IntUnaryOperator" "applyAsInt" (Jvm.ClassFile.MethodDescriptor.mk ([Jvm.ClassFile.FieldType.int] : List Jvm.ClassFile.FieldType) (Option.some Jvm.ClassFile.FieldType.int)) ([(Jvm.ClassFile.FieldType.object "com/example/clew/clew/CharFilter")] : List Jvm.ClassFile.FieldType) (5 : Nat) "com/example/clew/clew/CharFilter" "lambda$spreadPair$0" (Jvm.ClassFile.MethodDescriptor.mk ([Jvm.ClassFile.FieldType.int] : List Jvm.ClassFile.FieldType) (Option.some Jvm.ClassFile.FieldType.int)) false (Jvm.ClassFile.MethodDescriptor.mk ([Jvm.ClassFile.FieldType.int] : List Jvm.ClassFile.FieldType) (Option.some Jvm.ClassFile.FieldType.int)))
def own_fc : ByteArray := ⟨#[0x2a, 0xb4, 0x00, 0x0f, 0x1b, 0xb6, 0x00, 0x16, 0xac]⟩
theorem own_f0 : decode own_fc 0 = .ok (.aload_n 0, 1) := by decide +kernel
theorem own_f1 : decode own_fc 1 = .ok (.getfield 15, 3) := by decide +kernel
theorem own_f4 : decode own_fc 4 = .ok (.iload_n 1, 1) := by decide +kernel
theorem own_f5 : decode own_fc 5 = .ok (.invokevirtual 22, 3) := by decide +kernel
theorem own_f8 : decode own_fc 8 = .ok (.ireturn, 1) := by decide +kernel
theorem own_fok : Jvm.LamKit.fwdOK own_sg "com/example/clew/clew/CharFilter" own_fc 2 (some .int) 22 19 = true := by decide +kernel
theorem own_cok : Jvm.LamKit.capOK own_sg "com/example/clew/clew/CharFilter" 15 0 = true := by decide +kernel
/-- the function object at fa, which holds b -/
def own_Lam (Z : State) (h : Heap) (fa b : Addr) : Prop := ∃ cK : ClassId, Jvm.LamKit.Made Z "com/example/clew/clew/CharFilter" own_sg cK ∧ ∃ cell : Cell, h[fa]? = some cell ∧ cell.cls = cK ∧ cell.vm = .none ∧ cell.slots[0]? = some (.ref b)
theorem own_Lam.lt {Z : State} {h : Heap} {fa b : Addr} (F : own_Lam Z h fa b) : fa < h.size := by obtain ⟨_, -, c, q, -⟩ := F; exact (Array.getElem?_eq_some_iff.mp q).1
theorem own_Lam.ext {Z : State} {h h' : Heap} {fa b : Addr} (F : own_Lam Z h fa b) (E : Ext h h') : own_Lam Z h' fa b := by obtain ⟨k, q, c, q2, r⟩ := F; exact ⟨k, q, c, E.2 _ _ q2, r⟩
theorem own_Lam.other {Z : State} {h h' : Heap} {fa b a : Addr} {sl : Nat} {v : Value} (F : own_Lam Z h fa b) (W : Wr h h' a sl v) (ne : fa ≠ a) : own_Lam Z h' fa b := by
  obtain ⟨k, q, c, q2, r⟩ := F
  obtain ⟨cell, -, -, -, rfl⟩ := W
  exact ⟨k, q, c, by rw [Array.getElem?_setIfInBounds_ne (Ne.symm ne)]; exact q2, r⟩
theorem own_Lam.keep {Z : State} {h h' : Heap} {fa b : Addr} {ws : List Addr} (F : own_Lam Z h fa b) (K : Keep h h' ws) (ne : fa ∉ ws) : own_Lam Z h' fa b := by obtain ⟨k, q, c, q2, r⟩ := F; exact ⟨k, q, c, K.2.1 _ _ q2 ne, r⟩
theorem own_objM {Z : State} {h : Heap} {fa b : Addr} (F : own_Lam Z h fa b) : own_obj h fa := by obtain ⟨_, -, c, q, -, q2, -⟩ := F; exact ⟨c, q, by rw [q2]; rfl⟩
theorem own_w39 {Z : State} {vm' : Vm} (hW : Z.Warmed39 vm') {d i : Nat} {k : Class} {r : Resolved} (hk : Z.vm.classes[d]? = some k) (h : k.resolved[i]? = some (some r)) : ∃ k', vm'.classes[d]? = some k' ∧ k'.resolved[i]? = some (some r) := by
  obtain ⟨k', h1, -, -, h4, -⟩ := hW.2.2.2 d k hk
  refine ⟨k', h1, ?_⟩
  rcases h4 i with q | ⟨q, -⟩
  · rw [q]; exact h
  · rw [q] at h; cases h
set_option maxHeartbeats 4000000 in
/-- one call of the function object: the forwarder, the target by its own theorem, and back -/
theorem own_fwd {p : Program} {l : Launch} {e : Env} {R : Room} {s : State} {m : MethodId} {args : Array Value} {below : List Frame} {meth : Method} {c : Code} {T : State} {locs : List Loc} {cells slots : Nat} {Z : State} {a0 : Array Value} {h : Heap} {n0 : Nat}
    (X : Stand p l e R s m args below meth c T locs cells slots) (hx : p.tables.exec = Jvm.exec) (hZ : Z.Warmed39 s.vm) (hw : ∀ d ∈ tables_1, d.before a0 Z = true) (hown : s.vm.findClass "com/example/clew/clew/DefaultSearch$Sieve" = some m.cls) (eT : T.heap = h)
    {fa b : Addr} (F : own_Lam Z h fa b) (Eb : Exa Z h b "com/example/clew/clew/CharFilter") {x r : Int32} {rm : Room} {bytes : ByteArray} {Qx : Option Value → Heap → List Loc → Prop}
    (hM : MetFree l (⟨"com/example/clew/clew/CharFilter", "lambda$spreadPair$0", "(I)I"⟩ : MethodName) (head1 [Cond.code (⟨"com/example/clew/clew/CharFilter", "lambda$spreadPair$0", "(I)I"⟩ : MethodName) bytes 2 (some .int)] rm) (fun a U => a = #[.ref b, .int x] ∧ Z.Warmed39 U.vm ∧ U.heap = h) (fun _ _ _ _ _ => True) (fun _ U o U' => ∃ v L, o = .returned v ∧ Qx v U'.heap L ∧ FrameEnd U o U' L rm.cells rm.slots))
    (wc : (Cond.code (⟨"com/example/clew/clew/CharFilter", "lambda$spreadPair$0", "(I)I"⟩ : MethodName) bytes 2 (some .int)).before a0 Z = true) (hrc : rm.cells = 0) (hrs : rm.slots = 0) (hQ : ∀ v h' L, Qx v h' L → v = some (.int r) ∧ Fr n0 L ∧ h' = h)
    {g : JFrame} (hg : g.method = m) (hsize : g.locals.size = c.maxLocals) {rest : List Value} (hs : g.stack = .int x :: .ref fa :: rest) (hdg : decode c.code g.pc = .ok (.invokeinterface 18 2, 5))
    (hfr : rm.frames + 2 ≤ R.frames) (hlo : 2 * g.monitorRoom + (rest.map fun v => v.category).sum + (2 + 11) + ((2 + 11) + rm.locals) ≤ R.locals) (hcl : cells ≤ R.cells) (hsl : slots ≤ R.slots) :
    ∃ (T' : State) (L : List Loc), Stand p l e R s m args below meth c T' (locs ++ L) cells slots ∧ T'.heap = h ∧ Fr n0 L ∧ ∀ target, Steps p.tables e below (T'.setTop { g with pc := g.pc + 5, stack := .int r :: rest }) target → Steps p.tables e below (T.setTop g) target := by
  obtain ⟨cK, hmd, cell, hcell, rfl, hvmc, hslot⟩ := F
  have face : (Cond.interfaceMethod "java/util/function/IntUnaryOperator" "java/util/function/IntUnaryOperator" "applyAsInt" "(I)I").before a0 Z = true := (ww hw 169 rfl)
  have hA := hZ.alike
  obtain ⟨kK, methk, hkK, hmk, hpub, habs, hsel⟩ := Jvm.LamKit.madeSelects (xi := (⟨"java/util/function/IntUnaryOperator", "applyAsInt", "(I)I"⟩ : MethodName)) hmd own_fok face ⟨rfl, rfl, rfl⟩
  have hdecl : (Cond.declares (⟨"java/util/function/IntUnaryOperator", "applyAsInt", "(I)I"⟩ : MethodName)).before args s = true := mvT hZ (ww hw 168 rfl)
  have hface : (Cond.interfaceMethod "java/util/function/IntUnaryOperator" "java/util/function/IntUnaryOperator" "applyAsInt" "(I)I").before args s = true := mvT hZ face
  obtain ⟨r0, rr, hn, hrm, hstR, hsigR⟩ := Cond.declares_spec hdecl
  obtain ⟨cL, kL, r1, hcL, hkL, hiL, -, -⟩ := Cond.interfaceMethod_spec hface
  have hr0cls : r0.cls = cL := Option.some.inj ((findClass_of_methodNamed hn).symm.trans hcL)
  have hnZ : Z.methodNamed? (⟨"java/util/function/IntUnaryOperator", "applyAsInt", "(I)I"⟩ : MethodName) = some r0 := by rw [← State.methodNamed?_setVm (s := Z) hA]; exact hn
  have hrmZ : Z.vm.method? r0 = some rr := by rw [← hA.method?]; exact hrm
  obtain ⟨hasg, hsel', hway⟩ := hsel r0 rr hnZ hrmZ
  obtain ⟨kK', hkK', -⟩ := hA.2.2 _ _ hkK
  have hps : rr.sig = ⟨[.int], some .int⟩ := Option.some.inj (hsigR.symm.trans (show parseMethodDescriptor "(I)I" = some ⟨[.int], some .int⟩ by decide +kernel))
  obtain ⟨vm₁, X₁, hstep₁⟩ := X.invokeinterface hx hown (mvT hZ (ww hw 167 rfl)) hn hrm hstR (by rw [hr0cls]; exact hkL) hiL (by decide) (a := fa) (cell := cell) (kcell := kK') (by rw [eT]; exact hcell) (fun z q => by rw [hvmc] at q; cases q) hkK' (by rw [hA.assignable]; exact hasg)
    (m' := ⟨cell.cls, 1⟩) (meth' := methk) (by rw [Launch.admits_selectMethod X.admits, hA.selectMethod]; exact hsel') (by rw [hA.method?]; exact hmk) (by simp only [hA.superclasses, hA.declaredIn]; exact hway) hpub habs hg (argsL := [.int x]) (rest := rest) (by rw [hps]; rfl) hs hdg
  have hW₁ : Z.Warmed39 (T.setVm vm₁).vm := wtrans (U := T.setVm vm₁) hZ X₁.warmed
  have hA₁ := hW₁.alike
  obtain ⟨d, dk, hd, hdn, hmade, -⟩ := hmd
  obtain ⟨kZ, tkZ, file, methk', ck, toy, t, nt, c1, c2, c3, c4, c5, c6, c7, c8, c9, c10, c11, c12, c13, c14, c15, c16, c17⟩ := Jvm.LamKit.made_static own_fok hd hdn hmade
  obtain ⟨kc, f, q1, q2, q3, q4, q5, q6⟩ := Jvm.LamKit.made_cap own_cok hd hdn hmade (Jvm.LamKit.noFields (ww hw 157 rfl) (State.WarmedH.refl Z))
  have hinst : (Cond.instanceMethod (⟨"com/example/clew/clew/CharFilter", "lambda$spreadPair$0", "(I)I"⟩ : MethodName)).before a0 Z = true := (ww hw 170 rfl)
  obtain ⟨mk, methM, hnamedZ, hmethM, hstM, habM⟩ := Cond.instanceMethod_spec hinst
  have ht : t = mk := by
    have h1 : Z.methodFound? "com/example/clew/clew/CharFilter" "lambda$spreadPair$0" "(I)I" = some mk := State.methodFound?_of_named hnamedZ (by decide)
    have c13' : Z.vm.findClass "com/example/clew/clew/CharFilter" = some toy := c13
    simp only [State.methodFound?, c13', c14, Option.bind_eq_bind, Option.bind_some] at h1
    have c15' : ((methodIn toy "lambda$spreadPair$0" "(I)I" tkZ.isInterface none).ask { classPath := fun _ => none } Z.vm).1 = .ok t := c15
    rw [c15'] at h1
    exact Option.some.inj h1
  subst ht
  have hpriv := Cond.privateMethod_at (s := Z) (ww hw 171 rfl)
  obtain ⟨kT, hkT, hnameT⟩ := className_of_methodNamed hnamedZ
  obtain ⟨methM', cM, hmethM', -, -, -, -, -, -, hsigM⟩ := Cond.code_spec hnamedZ wc
  cases hmethM.symm.trans hmethM'
  have hpsM : methM.sig = ⟨[.int], some .int⟩ := Option.some.inj (hsigM.symm.trans (show parseMethodDescriptor "(I)I" = some ⟨[.int], some .int⟩ by decide +kernel))
  have htc : t.cls = toy := Option.some.inj ((findClass_of_methodNamed hnamedZ).symm.trans c13)
  obtain ⟨cI, kI, i1, i2, -, i4, -, -⟩ := Cond.instantiable_spec (show (Cond.instantiable "com/example/clew/clew/CharFilter" 14).before a0 Z = true from (ww hw 31 rfl))
  have hnoI : tkZ.isInterface = false := by
    cases (show Z.vm.findClass "com/example/clew/clew/CharFilter" = some toy from c13).symm.trans i1
    cases c14.symm.trans i2
    simp at i4; exact i4.1
  -- in the tables as they are now
  obtain ⟨kZ', z1, z2⟩ := hA₁.2.2 _ _ c1
  obtain ⟨tk', z3, z4⟩ := hA₁.2.2 _ _ c14
  obtain ⟨kT', z5, z6⟩ := hA₁.2.2 _ _ hkT
  have hmk₁ : (T.setVm vm₁).vm.method? ⟨cell.cls, 1⟩ = some methk' := by rw [hA₁.method?]; exact c6
  have hmM₁ : (T.setVm vm₁).vm.method? t = some methM := by rw [hA₁.method?]; exact hmethM
  have hpk : (T.setVm vm₁).plainMethod ⟨cell.cls, 1⟩ := State.plainMethod.of_name (fun k' hk' => by rw [← Option.some.inj (z1.symm.trans hk'), show kZ'.name = kZ.name by rw [z2]]; exact c2)
  have hready : (T.setVm vm₁).vm.methodReady cell.cls 22 t := by obtain ⟨k, a, b⟩ := c16; exact own_w39 hW₁ a b
  have hclsR : (T.setVm vm₁).vm.classReady cell.cls 19 toy := by obtain ⟨k, a, b⟩ := c17; exact own_w39 hW₁ a b
  have hfld : (T.setVm vm₁).vm.fieldReady cell.cls 15 cell.cls f := by
    obtain ⟨k, i, kk, a, b, a2, b2⟩ := q4
    obtain ⟨k', a', b'⟩ := own_w39 hW₁ a b
    obtain ⟨kk', a2', e2⟩ := hA₁.2.2 _ _ a2
    exact ⟨k', i, kk', a', b', a2', by rw [e2]; exact b2⟩
  obtain ⟨Y₀, hin⟩ := X₁.into (g := { g with stack := rest }) hg hsize hdg #[.ref fa, .int x] (R' := { frames := rm.frames + 1, cells := 0, slots := 0, locals := (2 + 11) + rm.locals }) hmk₁ c7 c10 hpk hfr (by rw [c9]; exact hlo) hcl hsl
  have hloc : entryFrame ⟨cell.cls, 1⟩ #[.ref fa, .int x] ck.maxLocals = { method := ⟨cell.cls, 1⟩, pc := 0, locals := #[vr fa, vi x], stack := [], locked := none } := by rw [c9]; rfl
  rw [hloc] at Y₀ hin
  generalize hU : ((T.setVm vm₁).setTop { g with stack := rest }).pushFrame (.java { method := ⟨cell.cls, 1⟩, pc := 0, locals := #[vr fa, vi x], stack := [], locked := none }) = U at Y₀ hin
  have hvmU : U.vm = (T.setVm vm₁).vm := by rw [← hU]; rfl
  have hheapU : U.heap = h := by rw [← hU, ← eT]; rfl
  generalize hs' : (T.setVm vm₁).calling { g with stack := rest } ⟨cell.cls, 1⟩ #[.ref fa, .int x] = s' at Y₀
  have hWs : Z.Warmed39 s'.vm := by rw [← hs']; exact hW₁
  have hK := backOf (p := p) (e := e) (R := { frames := rm.frames + 1, cells := 0, slots := 0, locals := (2 + 11) + rm.locals }) (below := .java { g with stack := rest } :: below) (args := #[.ref fa, .int x]) (s := s') (len := 3) (W := 0) hM hWs wc (ww hw 32 rfl) (Nat.le_refl _) (by show 0 + (2 + 11) + rm.locals ≤ (2 + 11) + rm.locals; omega)
  have hnamedU : U.methodNamed? (⟨"com/example/clew/clew/CharFilter", "lambda$spreadPair$0", "(I)I"⟩ : MethodName) = some t := by
    have q : (Z.setVm (T.setVm vm₁).vm).methodNamed? (⟨"com/example/clew/clew/CharFilter", "lambda$spreadPair$0", "(I)I"⟩ : MethodName) = some t := by rw [State.methodNamed?_setVm hA₁]; exact hnamedZ
    rw [← hU]; exact q
  obtain ⟨v, ⟨U', ls, cc, sl⟩, Y₁, ⟨L, hq, hl, hc, hss⟩, hsteps⟩ := hK ⟨cell.cls, 1⟩ methk' ck ⟨U, [], 0, 0⟩ { method := ⟨cell.cls, 1⟩, pc := 5, locals := #[vr fa, vi x], stack := [], locked := none } (.invokevirtual 22) t #[.ref b, .int x] Y₀ rfl (by rw [c9]; rfl)
    (by rw [c8]; exact own_f5) (Nat.le_refl _) hnamedU ⟨rfl, hheapU, by show 0 + rm.cells ≤ 0; omega, by show 0 + rm.slots ≤ 0; omega⟩
  dsimp only [Pt.U, Pt.locs, Pt.cells, Pt.slots] at Y₁ hq hl hc hss hsteps
  rw [hrc] at hc; rw [hrs] at hss
  subst hl; subst hc; subst hss
  obtain ⟨rfl, hFr, hh'⟩ := hQ _ _ _ hq
  obtain ⟨fs, hleave, -, hended, hWe, hsame⟩ := Y₁.leave (v := some (.int r)) (fun q => by rw [c12] at q; cases q) c10
  subst hs'
  obtain ⟨T', X', -, -, ht⟩ := X₁.outOf (g := { g with stack := rest }) hg hdg hended hWe hsame
  have hheap' : T'.heap = h := by
    have q : (U'.setFrames fs).heap = (T'.setTop { g with pc := g.pc + 5, stack := (some (Value.int r)).toList ++ rest }).heap := congrArg State.heap ht
    exact (show T'.heap = U'.heap from q.symm).trans hh'
  refine ⟨T', ls, by simpa using X', hheap', by simpa using hFr, fun target k => hstep₁ _ fun acts => ?_⟩
  rw [hin acts]
  refine Steps.trans ?_ k
  show Steps p.tables e below _ (T'.setTop { g with pc := g.pc + 5, stack := (some (Value.int r)).toList ++ rest })
  rw [← ht]
  refine Steps.weaken (mid := [.java { g with stack := rest }]) ?_
  have hsU : U.topJava?.isSome := Y₀.here.top
  obtain ⟨cb, cbk, b1, -, -, b4, -⟩ := Eb
  have hn' : kT'.name = "com/example/clew/clew/CharFilter" := by rw [z6]; exact hnameT
  have hpoly : signaturePolymorphic kT' methM = false := by simp [signaturePolymorphic, hn']
  jvm_step Y₀.here [hx, c8, own_f0, Value.isRef]
  jvm_step Y₀.here [hx, c8, own_f1, getfield.wp_ready (e := e) (s := U) (c := cell.cls) (field := f) (a := fa) (rest := []) (cell := cell) (v := .ref b)
    (f := { method := ⟨cell.cls, 1⟩, pc := 1, locals := #[vr fa, vi x], stack := [.ref fa], locked := none }) hsU (by rw [hvmU]; exact hfld) q5 rfl (by rw [hheapU]; exact hcell) (by rw [hvmc]; decide) (by rw [q6]; exact hslot)]
  jvm_step Y₀.here [hx, c8, own_f4]
  jvm_step Y₀.here [hx, c8, own_f5, invokevirtual.wp_ready (e := e) (s := U) (r := t) (m := t) (k := kT') (mk := kT') (rmeth := methM) (meth := methM) (a := b) (args := [.int x]) (rest := []) (cell := cb)
    (f := { method := ⟨cell.cls, 1⟩, pc := 5, locals := #[vr fa, vi x], stack := [.int x, .ref b], locked := none }) hsU ⟨kZ', file, 19, nt, toy, tk', by rw [hvmU]; exact z1, by rw [z2]; exact c3, c4, by rw [hvmU]; exact hclsR, by rw [hvmU]; exact z3, by rw [z4]; exact hnoI⟩
    (by rw [hvmU]; exact hready) (by rw [hvmU]; exact z5) (by rw [hvmU]; exact hmM₁) hpoly hstM (by rw [hpsM]; rfl) rfl
    (by rw [hheapU]; exact b1) (fun q z => by rw [z] at b4; cases b4) (selectMethod_private (by rw [hvmU]; exact hmM₁) (hpriv t methM hnamedZ hmethM)) (by rw [hvmU]; exact hmM₁) habM (by rw [hvmU]; exact z5) (by rw [z6]; rw [htc] at hkT; cases hkT.symm.trans c14; exact hnoI)]
  intro acts'
  rw [doInvoke_state]
  refine hsteps.trans ?_
  exact Jvm.RoadKit.retI Y₁ hx (pc := 8) c12 (by rw [c8]; exact own_f8) hleave
set_option maxHeartbeats 4000000 in
/-- the site: a new function object that holds b -/
theorem own_site {p : Program} {l : Launch} {e : Env} {R : Room} {s : State} {m : MethodId} {args : Array Value} {below : List Frame} {meth : Method} {c : Code} {T : State} {locs : List Loc} {cells slots : Nat} {Z : State} {a0 : Array Value} {h : Heap}
    (X : Stand p l e R s m args below meth c T locs cells slots) (hx : p.tables.exec = Jvm.exec) (hZ : Z.Warmed39 s.vm) (hw : ∀ d ∈ tables_1, d.before a0 Z = true) (hmn : s.methodNamed? (⟨"com/example/clew/clew/CharFilter", "spreadPair", "(Lcom/example/clew/clew/CharFilter$Counts;)Lcom/example/clew/clew/DefaultSearch$Sieve;"⟩ : MethodName) = some m) (eT : T.heap = h) {b : Addr} {g : JFrame} (hg : g.method = m) (hpc : g.pc = 171) (hsize : g.locals.size = c.maxLocals) {rest : List Value} (hs : g.stack = .ref b :: rest)
    (hdg : decode c.code g.pc = .ok (.invokedynamic 105, 5)) (hwd : 2 * g.monitorRoom + (g.stack.map fun v => v.category).sum + 3072 ≤ R.locals) (hcl : cells + 1 ≤ R.cells) (hsl : slots + 1 ≤ R.slots) :
    ∃ (T' : State) (h' : Heap), Stand p l e R s m args below meth c T' locs (cells + 1) (slots + 1) ∧ T'.heap = h' ∧ Ext h h' ∧ own_Lam Z h' h.size b ∧ ∀ target, Steps p.tables e below (T'.setTop { g with pc := g.pc + 5, stack := .ref h.size :: rest }) target → Steps p.tables e below (T.setTop g) target := by
  have hA := hZ.alike
  obtain ⟨cK, one, hat⟩ := Cond.lambdaSite_spec (show (Cond.lambdaSite (⟨"com/example/clew/clew/CharFilter", "spreadPair", "(Lcom/example/clew/clew/CharFilter$Counts;)Lcom/example/clew/clew/DefaultSearch$Sieve;"⟩ : MethodName) 171 105 own_sg).before a0 Z = true from (ww hw 154 rfl))
  obtain ⟨mD, kD, cfD, i0, p0, lk, hmD, hkD, hcfD, hsh, -, hfind, hmade, hcan, hl⟩ := State.lambdaAt?_spec hat
  have hmZ : Z.methodNamed? (⟨"com/example/clew/clew/CharFilter", "spreadPair", "(Lcom/example/clew/clew/CharFilter$Counts;)Lcom/example/clew/clew/DefaultSearch$Sieve;"⟩ : MethodName) = some m := by rw [← State.methodNamed?_setVm (s := Z) hA]; exact hmn
  cases hmZ.symm.trans hmD
  obtain ⟨kD0, hkD0, hnameD⟩ := className_of_methodNamed hmZ
  cases hkD.symm.trans hkD0
  rcases hl with ⟨a, cell, -, -, hc0, -⟩ | ⟨rfl, -, -⟩
  · exact absurd hc0 (by decide)
  · obtain ⟨bi, nt, desc, st, h1, h2, h3, h4⟩ := Jvm.Lambda.shapeOf?_site hsh
    obtain ⟨kc, f, hkc, hkind, hty, -⟩ := Jvm.LamKit.made_cap own_cok hkD hnameD hmade (Jvm.LamKit.noFields (ww hw 157 rfl) (State.WarmedH.refl Z))
    obtain ⟨kD', z1, z2⟩ := hA.2.2 _ _ hkD
    obtain ⟨kc', z3, z4⟩ := hA.2.2 _ _ hkc
    have ht' : kc'.instanceTypes = own_sg.captured.toArray := by rw [z4]; exact hty
    have hz : ((kc'.instanceTypes.toList.zip [Value.ref b]).map fun (t, v) => narrow t v) = [Value.ref b] := by rw [ht']; rfl
    have hwk : e.platform.lambdaLinkWords = 3072 := by rw [X.admits.platform]
    have q := X.lambdaMakes hx hg hsize hdg (vals := [.ref b]) (rest := rest) z1 (by rw [z2, hpc]; exact hfind) (by rw [z2]; exact hcfD) h1 h2 (parseLong_of_parse h3) (by rw [h4]; rfl) hs z3 (by rw [hwk]; exact hwd) hcl (by rw [hz]; exact hsl)
      (fun i v hv => by
        rw [hz] at hv
        match i, hv with
        | 0, hv =>
          obtain rfl : Value.ref b = v := Option.some.inj hv
          have hk' : kc'.kind = .ordinary := by rw [z4]; exact hkind
          simp [State.fitsSlot, State.slotType?, z3, hk', ht', own_sg, fits]
        | i + 1, hv => simp at hv)
    rw [hz] at q
    subst eT
    refine ⟨_, _, q.1, rfl, ⟨by show T.heap.size ≤ (T.heap.push _).size; simp, fun a cc hc => ?_⟩, ⟨cK, ⟨m.cls, kD, hkD, hnameD, hmade, hcan⟩, { cls := cK, slots := #[.ref b], vm := .none }, ?_, rfl, rfl, rfl⟩, q.2⟩
    · show (T.heap.push _)[a]? = _
      rw [Array.getElem?_push_lt (Array.getElem?_eq_some_iff.mp hc).1]; exact (Array.getElem?_eq_getElem _).symm.trans hc
    · show (T.heap.push _)[T.heap.size]? = _
      simp
def Q30 (Z : State) (o1 : Addr) (ow : Addr) (kw : ClassId) (cs : List Int32) (i : Nat) (h0 : Heap) (n0 : Nat) (v : Option Value) (h : Heap) (L : List Loc) : Prop := v = some (.int (cs.getD i 0)) ∧ Fr n0 L ∧ h = h0
theorem d30_0 : dq cb34 0 (.aload_n 0) 1 := by decide +kernel
theorem d30_1 : dq cb34 1 (.getfield 26) 3 := by decide +kernel
theorem d30_4 : dq cb34 4 (.iload_n 1) 1 := by decide +kernel
theorem d30_5 : dq cb34 5 .caload 1 := by decide +kernel
theorem d30_6 : dq cb34 6 .ireturn 1 := by decide +kernel
theorem b30  (o1 : Addr) (ow : Addr) (kw : ClassId) (cs : List Int32) (i : Nat)
    (C : own_C p s m meth c Z a0 prog_6_method_11_code 2 "com/example/clew/clew/CharFilter" (some .int) "lambda$spreadPair$0") (X0 : Stand p l e ({ frames := 0, cells := 0, slots := 0, locals := 0 } : Room) s m args below meth c T0 locs 0 0) (e0 : T0.heap = h0) (Z0 : n0 ≤ h0.size) (N0 : Fr n0 locs) (FP : Fld Z h0 o1 "com/example/clew/clew/CharFilter" "pattern" "[C" (.ref ow)) (VW : Arv Z h0 ow kw .char (Int32.ofNat cs.length) (own_iv cs) (.int (0 : Int32))) (hi : i < cs.length) (hc4 : cs.length ≤ 4) :
    own_Go p.tables e below (T0.setTop (mkF m 0 #[vr o1, vi (Int32.ofNat i)] [])) (own_K s (fun (v : Option Value) (h : Heap) (L : List Loc) => Q30 Z o1 ow kw cs i h0 n0 v h L) ({ frames := 0, cells := 0, slots := 0, locals := 0 } : Room).cells ({ frames := 0, cells := 0, slots := 0, locals := 0 } : Room).slots) := by
  obtain ⟨hx, hZ, hw, hby, hml, hown, hret, hlk, hnm⟩ := C
  refine vs T0 1 [(.ref o1)] (fun t k => XS.aloadN X0.here hx rfl (hb hby d30_0) rfl rfl k) ?_
  obtain ⟨T1, X1, e1, st1⟩ := getF X0 hx hZ hown (host := "") (Or.inl (ww hw 61 rfl)) Via.refl e0 FP (g := (mkF m 1 #[vr o1, vi (Int32.ofNat i)] [(.ref o1)])) rfl rfl (hb hby d30_1)
  refine vs T1 4 [(.ref ow)] (fun t k => st1 t k) ?_
  refine vs T1 5 [(.int (Int32.ofNat i)), (.ref ow)] (fun t k => XS.iloadN X1.here hx rfl (hb hby d30_4) rfl k) ?_
  obtain ⟨cl2, Ar2, qc2, S2, NN2, H2, G2⟩ := id VW
  have in2 := inb_of (j := (Int32.ofNat i)) S2 (own_inb (i := i) (by omega) (by omega))
  have hat2 : cl2.slots[((Int32.ofNat i)).toNatClampNeg]? = some (.int (cs.getD i 0)) := H2.at in2 (own_ivget cs (i := i) (by omega))
  refine vs T1 6 [(.int (cs.getD i 0))] (fun t k => X1.caload hx (j := (Int32.ofNat i)) (v := (.int (cs.getD i 0))) (own_eqh e1 Ar2.1) (State.isArrayOf_alike hZ.alike Ar2.2.1) Ar2.2.2 in2 hat2 (g := (mkF m 5 #[vr o1, vi (Int32.ofNat i)] [(.int (Int32.ofNat i)), (.ref ow)])) rfl rfl (hb hby d30_5) t k) ?_
  exact own_fin X1 e1 (v := some (.int (cs.getD i 0))) (fun h => by rw [hret] at h; cases h) hlk (fun fs hr => retI X1 hx hret (hb hby d30_6) hr) (show ((fun (v : Option Value) (h : Heap) (L : List Loc) => Q30 Z o1 ow kw cs i h0 n0 v h L)) (some (.int (cs.getD i 0))) h0 _ from ⟨rfl, N0, rfl⟩) (by decide) (by decide)
theorem pn_6 : plainName "com/example/clew/clew/CharFilter" = true := by first | (simp [plainName, overriddenIn]; done) | decide +kernel
theorem ef_30 (m : MethodId) (o1 : Addr) (i : Nat) : entryFrame m #[(.ref o1), (.int (Int32.ofNat i))] 2 = mkF m 0 #[vr o1, vi (Int32.ofNat i)] [] := by first | (simp [entryFrame, mkF, argsToLocals, Value.category, maxLocals]; done) | rfl
theorem rm30 (l : Launch) (Z : State) (a0 : Array Value) (hw : ∀ d ∈ tables_1, d.before a0 Z = true) (ws : List Jvm.Cond) (o1 : Addr) (ow : Addr) (kw : ClassId) (cs : List Int32) (i : Nat) (h0 : Heap) (n0 : Nat) (Z0 : n0 ≤ h0.size) (FP : Fld Z h0 o1 "com/example/clew/clew/CharFilter" "pattern" "[C" (.ref ow)) (VW : Arv Z h0 ow kw .char (Int32.ofNat cs.length) (own_iv cs) (.int (0 : Int32))) (hi : i < cs.length) (hc4 : cs.length ≤ 4) :
    MetFree l (⟨"com/example/clew/clew/CharFilter", "lambda$spreadPair$0", "(I)I"⟩ : MethodName) (head1 (Jvm.Cond.code (⟨"com/example/clew/clew/CharFilter", "lambda$spreadPair$0", "(I)I"⟩ : MethodName) prog_6_method_11_code 2 (some .int) :: ws) ({ frames := 0, cells := 0, slots := 0, locals := 0 } : Room)) (fun a U => a = #[(.ref o1), (.int (Int32.ofNat i))] ∧ Z.Warmed39 U.vm ∧ U.heap = h0) (fun _ _ _ _ _ => True) (fun _ U o U' => ∃ v L, o = .returned v ∧ Q30 Z o1 ow kw cs i h0 n0 v U'.heap L ∧ FrameEnd U o U' L ({ frames := 0, cells := 0, slots := 0, locals := 0 } : Room).cells ({ frames := 0, cells := 0, slots := 0, locals := 0 } : Room).slots) := by
  refine MetFree.of_bodySF (plainFor_of_name pn_6) hisR ?_
  intro p e s m args below meth c s₁ Bd hml0 hP hK
  obtain ⟨rfl, hZ, hh⟩ := hP
  have e0 : s₁.heap = h0 := by rw [← hh, Bd.state]; rfl
  rw [ef_30 m o1 i]
  exact b30 o1 ow kw cs i ⟨Bd.exec, hZ, hw, Bd.bytes, hml0, findClass_of_methodNamed Bd.named, Bd.returns, Bd.notSynchronized, (name_of_methodNamed Bd.named Bd.method).1⟩ (Stand.of_body Bd) e0 Z0 (Fr.nil n0) FP VW hi hc4
def Q29 (Z : State) (o2 : Addr) (fa : Addr) (oj : Addr) (kj : ClassId) (lo : Nat) (hi : Nat) (o1 : Addr) (ow : Addr) (kw : ClassId) (cs : List Int32) (h0 : Heap) (n0 : Nat) (v : Option Value) (h : Heap) (L : List Loc) : Prop := ∃ bz : Addr, ∃ kz : ClassId, v = none ∧ Fr n0 L ∧ Keep h0 h [o2] ∧ h0.size ≤ bz ∧ Exa Z h o2 "com/example/clew/clew/DefaultSearch$Sieve" ∧ Fld Z h o2 "com/example/clew/clew/DefaultSearch$Sieve" "positions" "[I" (.ref bz) ∧ Arv Z h bz kz .int (4 : Int32) [(.int (Int32.ofNat lo)), (.int (Int32.ofNat lo)), (.int (Int32.ofNat hi)), (.int (Int32.ofNat hi))] (.int (0 : Int32)) ∧ Exa Z h bz "[I"
theorem d29_0 : dq cb35 0 (.aload_n 0) 1 := by decide +kernel
theorem d29_1 : dq cb35 1 (.invokespecial 3) 3 := by decide +kernel
theorem d29_4 : dq cb35 4 (.aload_n 0) 1 := by decide +kernel
theorem d29_5 : dq cb35 5 (.iconst 4) 1 := by decide +kernel
theorem d29_6 : dq cb35 6 (.newarray .int) 2 := by decide +kernel
theorem d29_8 : dq cb35 8 (.putfield 9) 3 := by decide +kernel
theorem d29_11 : dq cb35 11 (.aload_n 0) 1 := by decide +kernel
theorem d29_12 : dq cb35 12 (.iconst 4) 1 := by decide +kernel
theorem d29_13 : dq cb35 13 (.newarray .int) 2 := by decide +kernel
theorem d29_15 : dq cb35 15 (.putfield 15) 3 := by decide +kernel
theorem d29_18 : dq cb35 18 (.iconst 0) 1 := by decide +kernel
theorem d29_19 : dq cb35 19 (.istore_n 3) 1 := by decide +kernel
theorem d29_20 : dq cb35 20 (.iload_n 3) 1 := by decide +kernel
theorem d29_21 : dq cb35 21 (.iconst 4) 1 := by decide +kernel
theorem d29_22 : dq cb35 22 (.if_icmp .ge 41) 3 := by decide +kernel
theorem d29_25 : dq cb35 25 (.aload_n 0) 1 := by decide +kernel
theorem d29_26 : dq cb35 26 (.getfield 9) 3 := by decide +kernel
theorem d29_29 : dq cb35 29 (.iload_n 3) 1 := by decide +kernel
theorem d29_30 : dq cb35 30 (.aload_n 2) 1 := by decide +kernel
theorem d29_31 : dq cb35 31 (.iload_n 3) 1 := by decide +kernel
theorem d29_32 : dq cb35 32 (.aload_n 2) 1 := by decide +kernel
theorem d29_33 : dq cb35 33 .arraylength 1 := by decide +kernel
theorem d29_34 : dq cb35 34 .imul 1 := by decide +kernel
theorem d29_35 : dq cb35 35 (.iconst 4) 1 := by decide +kernel
theorem d29_36 : dq cb35 36 .idiv 1 := by decide +kernel
theorem d29_37 : dq cb35 37 .iaload 1 := by decide +kernel
theorem d29_38 : dq cb35 38 .iastore 1 := by decide +kernel
theorem d29_39 : dq cb35 39 (.aload_n 0) 1 := by decide +kernel
theorem d29_40 : dq cb35 40 (.getfield 15) 3 := by decide +kernel
theorem d29_43 : dq cb35 43 (.iload_n 3) 1 := by decide +kernel
theorem d29_44 : dq cb35 44 (.aload_n 1) 1 := by decide +kernel
theorem d29_45 : dq cb35 45 (.aload_n 0) 1 := by decide +kernel
theorem d29_46 : dq cb35 46 (.getfield 9) 3 := by decide +kernel
theorem d29_49 : dq cb35 49 (.iload_n 3) 1 := by decide +kernel
theorem d29_50 : dq cb35 50 .iaload 1 := by decide +kernel
theorem d29_51 : dq cb35 51 (.invokeinterface 18 2) 5 := by decide +kernel
theorem d29_56 : dq cb35 56 .iastore 1 := by decide +kernel
theorem d29_57 : dq cb35 57 (.iinc 3 1) 3 := by decide +kernel
theorem d29_60 : dq cb35 60 (.goto (-40)) 3 := by decide +kernel
theorem d29_63 : dq cb35 63 .return_ 1 := by decide +kernel
theorem b29  (o2 : Addr) (fa : Addr) (oj : Addr) (kj : ClassId) (lo : Nat) (hi : Nat) (o1 : Addr) (ow : Addr) (kw : ClassId) (cs : List Int32)
    (C : own_C p s m meth c Z a0 prog_13_method_1_code 4 "com/example/clew/clew/DefaultSearch$Sieve" none "<init>") (X0 : Stand p l e ({ frames := 2, cells := 2, slots := 8, locals := 28 } : Room) s m args below meth c T0 locs 0 0) (e0 : T0.heap = h0) (Z0 : n0 ≤ h0.size) (N0 : Fr n0 locs) (ES : Exa Z h0 o2 "com/example/clew/clew/DefaultSearch$Sieve") (FO : Fld Z h0 o2 "com/example/clew/clew/DefaultSearch$Sieve" "positions" "[I" .null) (FU : Fld Z h0 o2 "com/example/clew/clew/DefaultSearch$Sieve" "units" "[I" .null) (MF : own_Lam Z h0 fa o1) (VJ : Arv Z h0 oj kj .int (2 : Int32) [(.int (Int32.ofNat lo)), (.int (Int32.ofNat hi))] (.int (0 : Int32))) (EO : Exa Z h0 o1 "com/example/clew/clew/CharFilter") (FP : Fld Z h0 o1 "com/example/clew/clew/CharFilter" "pattern" "[C" (.ref ow)) (VW : Arv Z h0 ow kw .char (Int32.ofNat cs.length) (own_iv cs) (.int (0 : Int32))) (g_o2 : n0 ≤ o2) (h_lo : lo < cs.length) (h_hi : hi < cs.length) (hc4 : cs.length ≤ 4) (ne_2f : o2 ≠ fa) (ne_2j : o2 ≠ oj) (ne_21 : o2 ≠ o1) (ne_2w : o2 ≠ ow) :
    own_Go p.tables e below (T0.setTop (mkF m 0 #[vr o2, vr fa, vr oj, .unset] [])) (own_K s (fun (v : Option Value) (h : Heap) (L : List Loc) => Q29 Z o2 fa oj kj lo hi o1 ow kw cs h0 n0 v h L) ({ frames := 2, cells := 2, slots := 8, locals := 28 } : Room).cells ({ frames := 2, cells := 2, slots := 8, locals := 28 } : Room).slots) := by
  obtain ⟨hx, hZ, hw, hby, hml, hown, hret, hlk, hnm⟩ := C
  refine vs T0 1 [(.ref o2)] (fun t k => XS.aloadN X0.here hx rfl (hb hby d29_0) rfl rfl k) ?_
  obtain ⟨T1, X1, e1, st1⟩ := initO X0 hx hZ hown (ww hw 162 rfl) (ww hw 12 rfl) (ww hw 13 rfl) e0 (g := (mkF m 1 #[vr o2, vr fa, vr oj, .unset] [(.ref o2)])) rfl (by rw [hml]; rfl) rfl (hb hby d29_1) (by decide) (W := 0) (by show 2 * 0 + _ ≤ _; exact Nat.le_of_eq rfl) (by decide)
  refine vs T1 4 [] (fun t k => st1 t k) ?_
  refine vs T1 5 [(.ref o2)] (fun t k => XS.aloadN X1.here hx rfl (hb hby d29_4) rfl rfl k) ?_
  refine vs T1 6 [(.int (4 : Int32)), (.ref o2)] (fun t k => XS.iconst X1.here hx rfl (hb hby d29_5) k) ?_
  obtain ⟨T2, h2, k2, X2, e2, E2, A2, XA2, st2⟩ := newPE X1 hx hZ (ww hw 101 rfl) e1 (g := (mkF m 6 #[vr o2, vr fa, vr oj, .unset] [(.int (4 : Int32)), (.ref o2)])) rfl (hb hby d29_6) rfl (by decide) (cap := 4) (by decide) (by decide) (by decide) (by decide) (ad := "[I") (by decide)
  obtain ⟨b2, g2⟩ : ∃ z, z = h0.size := ⟨_, rfl⟩
  rw [← g2] at A2 XA2 st2
  have ne_o2_b2 : o2 ≠ b2 := Nat.ne_of_lt (Nat.lt_of_lt_of_le ES.lt (Nat.le_of_eq g2.symm))
  have ne_fa_b2 : fa ≠ b2 := Nat.ne_of_lt (Nat.lt_of_lt_of_le MF.lt (Nat.le_of_eq g2.symm))
  have ne_oj_b2 : oj ≠ b2 := Nat.ne_of_lt (Nat.lt_of_lt_of_le VJ.lt (Nat.le_of_eq g2.symm))
  have ne_o1_b2 : o1 ≠ b2 := Nat.ne_of_lt (Nat.lt_of_lt_of_le EO.lt (Nat.le_of_eq g2.symm))
  have ne_ow_b2 : ow ≠ b2 := Nat.ne_of_lt (Nat.lt_of_lt_of_le VW.lt (Nat.le_of_eq g2.symm))
  have g_b2 : n0 ≤ b2 := Nat.le_trans Z0 (Nat.le_of_eq g2.symm)
  have ES'2 := ES.ext E2
  have FO'2 := FO.ext E2
  have FU'2 := FU.ext E2
  have MF'2 := MF.ext E2
  have VJ'2 := VJ.ext E2
  have EO'2 := EO.ext E2
  have FP'2 := FP.ext E2
  have VW'2 := VW.ext E2
  have sz_b2 : h0.size ≤ b2 := Nat.le_trans ((Keep.refl h0 [o2])).1 (Nat.le_of_eq g2.symm)
  have K2 := ((Keep.refl h0 [o2])).ext E2
  have Z2 : n0 ≤ h2.size := Nat.le_trans Z0 E2.1
  have V_b2 : Arv Z h2 b2 k2 .int (4 : Int32) [(.int (0 : Int32)), (.int (0 : Int32)), (.int (0 : Int32)), (.int (0 : Int32))] (.int (0 : Int32)) := (Arv.new A2 (by decide)).pad (pad_rep [] (.int (0 : Int32)) 4)
  refine vs T2 8 [(.ref b2), (.ref o2)] (fun t k => st2 t k) ?_
  obtain ⟨T3, h3, X3, e3, W3, st3⟩ := putF X2 hx hZ hown (host := "") (Or.inl (ww hw 163 rfl)) Via.refl e2 FO'2 ES'2 (Or.inr ⟨(ww hw 164 rfl), rfl, hnm⟩) (ww hw 152 rfl) (ty := (.array .int)) (by decide) rfl rfl (g := (mkF m 8 #[vr o2, vr fa, vr oj, .unset] [(.ref b2), (.ref o2)])) rfl rfl (hb hby d29_8)
  have FO'3 := FO'2.same W3
  have ES'3 := ES'2.wr W3
  have FU'3 := FU'2.other W3 (Or.inr (slot_ne (Or.inr (ww hw 166 rfl)) (Or.inr (ww hw 164 rfl)) (by decide) (t := (.array .int)) (t' := (.array .int)) (by decide) (by decide)))
  have MF'3 := MF'2.other W3 (Ne.symm ne_2f)
  have VJ'3 := VJ'2.other W3 (Ne.symm ne_2j)
  have EO'3 := EO'2.wr W3
  have FP'3 := FP'2.other W3 (Or.inl (Ne.symm ne_21))
  have VW'3 := VW'2.other W3 (Ne.symm ne_2w)
  have V_b2'3 := V_b2.other W3 (Ne.symm ne_o2_b2)
  have XA2'3 := XA2.wr W3
  have N3 := Fr.snoc X3 N0 g_o2
  have Z3 : n0 ≤ h3.size := Nat.le_trans Z2 (Keep.of_wr W3).1
  have K3 := (K2).wr W3 (Or.inl (List.mem_of_getElem? (i := 0) rfl))
  refine vs T3 11 [] (fun t k => st3 t k) ?_
  refine vs T3 12 [(.ref o2)] (fun t k => XS.aloadN X3.here hx rfl (hb hby d29_11) rfl rfl k) ?_
  refine vs T3 13 [(.int (4 : Int32)), (.ref o2)] (fun t k => XS.iconst X3.here hx rfl (hb hby d29_12) k) ?_
  obtain ⟨T4, h4, k4, X4, e4, E4, A4, st4⟩ := newP X3 hx hZ (ww hw 101 rfl) e3 (g := (mkF m 13 #[vr o2, vr fa, vr oj, .unset] [(.int (4 : Int32)), (.ref o2)])) rfl (hb hby d29_13) rfl (by decide) (cap := 4) (by decide) (by decide) (by decide) (by decide)
  obtain ⟨b4, g4⟩ : ∃ z, z = h3.size := ⟨_, rfl⟩
  rw [← g4] at A4 st4
  have ne_o2_b4 : o2 ≠ b4 := Nat.ne_of_lt (Nat.lt_of_lt_of_le ES'3.lt (Nat.le_of_eq g4.symm))
  have ne_fa_b4 : fa ≠ b4 := Nat.ne_of_lt (Nat.lt_of_lt_of_le MF'3.lt (Nat.le_of_eq g4.symm))
  have ne_oj_b4 : oj ≠ b4 := Nat.ne_of_lt (Nat.lt_of_lt_of_le VJ'3.lt (Nat.le_of_eq g4.symm))
  have ne_o1_b4 : o1 ≠ b4 := Nat.ne_of_lt (Nat.lt_of_lt_of_le EO'3.lt (Nat.le_of_eq g4.symm))
  have ne_ow_b4 : ow ≠ b4 := Nat.ne_of_lt (Nat.lt_of_lt_of_le VW'3.lt (Nat.le_of_eq g4.symm))
  have ne_b2_b4 : b2 ≠ b4 := Nat.ne_of_lt (Nat.lt_of_lt_of_le V_b2'3.lt (Nat.le_of_eq g4.symm))
  have g_b4 : n0 ≤ b4 := Nat.le_trans Z3 (Nat.le_of_eq g4.symm)
  have ES'4 := ES'3.ext E4
  have FO'4 := FO'3.ext E4
  have FU'4 := FU'3.ext E4
  have MF'4 := MF'3.ext E4
  have VJ'4 := VJ'3.ext E4
  have EO'4 := EO'3.ext E4
  have FP'4 := FP'3.ext E4
  have VW'4 := VW'3.ext E4
  have V_b2'4 := V_b2'3.ext E4
  have XA2'4 := XA2'3.ext E4
  have sz_b4 : h0.size ≤ b4 := Nat.le_trans (K3).1 (Nat.le_of_eq g4.symm)
  have K4 := (K3).ext E4
  have Z4 : n0 ≤ h4.size := Nat.le_trans Z3 E4.1
  have V_b4 : Arv Z h4 b4 k4 .int (4 : Int32) [(.int (0 : Int32)), (.int (0 : Int32)), (.int (0 : Int32)), (.int (0 : Int32))] (.int (0 : Int32)) := (Arv.new A4 (by decide)).pad (pad_rep [] (.int (0 : Int32)) 4)
  refine vs T4 15 [(.ref b4), (.ref o2)] (fun t k => st4 t k) ?_
  obtain ⟨T5, h5, X5, e5, W5, st5⟩ := putF X4 hx hZ hown (host := "") (Or.inl (ww hw 165 rfl)) Via.refl e4 FU'4 ES'4 (Or.inr ⟨(ww hw 166 rfl), rfl, hnm⟩) (ww hw 152 rfl) (ty := (.array .int)) (by decide) rfl rfl (g := (mkF m 15 #[vr o2, vr fa, vr oj, .unset] [(.ref b4), (.ref o2)])) rfl rfl (hb hby d29_15)
  have FU'5 := FU'4.same W5
  have ES'5 := ES'4.wr W5
  have FO'5 := FO'4.other W5 (Or.inr (slot_ne (Or.inr (ww hw 164 rfl)) (Or.inr (ww hw 166 rfl)) (by decide) (t := (.array .int)) (t' := (.array .int)) (by decide) (by decide)))
  have MF'5 := MF'4.other W5 (Ne.symm ne_2f)
  have VJ'5 := VJ'4.other W5 (Ne.symm ne_2j)
  have EO'5 := EO'4.wr W5
  have FP'5 := FP'4.other W5 (Or.inl (Ne.symm ne_21))
  have VW'5 := VW'4.other W5 (Ne.symm ne_2w)
  have V_b2'5 := V_b2'4.other W5 (Ne.symm ne_o2_b2)
  have XA2'5 := XA2'4.wr W5
  have V_b4'5 := V_b4.other W5 (Ne.symm ne_o2_b4)
  have N5 := Fr.snoc X5 N3 g_o2
  have Z5 : n0 ≤ h5.size := Nat.le_trans Z4 (Keep.of_wr W5).1
  have K5 := (K4).wr W5 (Or.inl (List.mem_of_getElem? (i := 0) rfl))
  refine vs T5 18 [] (fun t k => st5 t k) ?_
  refine vs T5 19 [(.int (0 : Int32))] (fun t k => XS.iconst X5.here hx rfl (hb hby d29_18) k) ?_
  refine vv T5 m 20 #[vr o2, vr fa, vr oj, vi (0 : Int32)] [] (fun t k => XS.istoreN X5.here hx rfl (hb hby d29_19) rfl (l' := #[vr o2, vr fa, vr oj, vi (0 : Int32)]) rfl k) ?_
  refine vs T5 21 [(.int (0 : Int32))] (fun t k => XS.iloadN X5.here hx rfl (hb hby d29_20) rfl k) ?_
  refine vs T5 22 [(.int (4 : Int32)), (.int (0 : Int32))] (fun t k => XS.iconst X5.here hx rfl (hb hby d29_21) k) ?_
  have hc6_22 : (0 : Int32) < (4 : Int32) := (by decide)
  refine vs T5 25 [] (fun t k => XS.icmpNo X5.here hx rfl (hb hby d29_22) rfl (XT.ii_ge_f hc6_22) k) ?_
  refine vs T5 26 [(.ref o2)] (fun t k => XS.aloadN X5.here hx rfl (hb hby d29_25) rfl rfl k) ?_
  obtain ⟨T7, X7, e7, st7⟩ := getF X5 hx hZ hown (host := "") (Or.inl (ww hw 163 rfl)) Via.refl e5 FO'5 (g := (mkF m 26 #[vr o2, vr fa, vr oj, vi (0 : Int32)] [(.ref o2)])) rfl rfl (hb hby d29_26)
  refine vs T7 29 [(.ref b2)] (fun t k => st7 t k) ?_
  refine vs T7 30 [(.int (0 : Int32)), (.ref b2)] (fun t k => XS.iloadN X7.here hx rfl (hb hby d29_29) rfl k) ?_
  refine vs T7 31 [(.ref oj), (.int (0 : Int32)), (.ref b2)] (fun t k => XS.aloadN X7.here hx rfl (hb hby d29_30) rfl rfl k) ?_
  refine vs T7 32 [(.int (0 : Int32)), (.ref oj), (.int (0 : Int32)), (.ref b2)] (fun t k => XS.iloadN X7.here hx rfl (hb hby d29_31) rfl k) ?_
  refine vs T7 33 [(.ref oj), (.int (0 : Int32)), (.ref oj), (.int (0 : Int32)), (.ref b2)] (fun t k => XS.aloadN X7.here hx rfl (hb hby d29_32) rfl rfl k) ?_
  obtain ⟨cl8, Ar8, -, S8, NN8, -, -⟩ := id VJ'5
  refine vs T7 34 [(.int (2 : Int32)), (.int (0 : Int32)), (.ref oj), (.int (0 : Int32)), (.ref b2)] (fun t k => own_len X7 hx hZ e7 Ar8 S8 NN8 (g := (mkF m 33 #[vr o2, vr fa, vr oj, vi (0 : Int32)] [(.ref oj), (.int (0 : Int32)), (.ref oj), (.int (0 : Int32)), (.ref b2)])) rfl rfl (hb hby d29_33) k) ?_
  refine vs T7 35 [(.int (0 : Int32)), (.ref oj), (.int (0 : Int32)), (.ref b2)] (fun t k => XS.imul X7.here hx rfl (hb hby d29_34) rfl k) ?_
  refine vs T7 36 [(.int (4 : Int32)), (.int (0 : Int32)), (.ref oj), (.int (0 : Int32)), (.ref b2)] (fun t k => XS.iconst X7.here hx rfl (hb hby d29_35) k) ?_
  refine vs T7 37 [(.int (0 : Int32)), (.ref oj), (.int (0 : Int32)), (.ref b2)] (fun t k => XS.idiv X7.here hx rfl (hb hby d29_36) rfl (by decide) k) ?_
  obtain ⟨cl9, Ar9, qc9, S9, NN9, H9, G9⟩ := id VJ'5
  have in9 := inb_of (j := (0 : Int32)) S9 ⟨by decide, by decide⟩
  have hat9 : cl9.slots[((0 : Int32)).toNatClampNeg]? = some (.int (Int32.ofNat lo)) := H9.at in9 rfl
  refine vs T7 38 [(.int (Int32.ofNat lo)), (.int (0 : Int32)), (.ref b2)] (fun t k => X7.iaload hx (j := (0 : Int32)) (v := (.int (Int32.ofNat lo))) (own_eqh e7 Ar9.1) (State.isArrayOf_alike hZ.alike Ar9.2.1) Ar9.2.2 in9 hat9 (g := (mkF m 37 #[vr o2, vr fa, vr oj, vi (0 : Int32)] [(.int (0 : Int32)), (.ref oj), (.int (0 : Int32)), (.ref b2)])) rfl rfl (hb hby d29_37) t k) ?_
  obtain ⟨cl10, Ar10, qc10, S10, NN10, H10, G10⟩ := id V_b2'5
  obtain ⟨T10, h10, X10, e10, W10, st10⟩ := stI X7 hx hZ e7 Ar10 (j := (0 : Int32)) (inb_of S10 ⟨by decide, by decide⟩) (g := (mkF m 38 #[vr o2, vr fa, vr oj, vi (0 : Int32)] [(.int (Int32.ofNat lo)), (.int (0 : Int32)), (.ref b2)])) rfl rfl (hb hby d29_38)
  have V_b2'10 : Arv Z h10 b2 k2 .int (4 : Int32) [(.int (Int32.ofNat lo)), (.int (0 : Int32)), (.int (0 : Int32)), (.int (0 : Int32))] (.int (0 : Int32)) := Arv.set Ar10 qc10 S10 NN10 H10 G10 rfl W10 0 rfl (Nat.le_of_ble_eq_true rfl)
  have ES'10 := ES'5.wr W10
  have FO'10 := FO'5.other W10 (Or.inl ne_o2_b2)
  have FU'10 := FU'5.other W10 (Or.inl ne_o2_b2)
  have MF'10 := MF'5.other W10 ne_fa_b2
  have VJ'10 := VJ'5.other W10 ne_oj_b2
  have EO'10 := EO'5.wr W10
  have FP'10 := FP'5.other W10 (Or.inl ne_o1_b2)
  have VW'10 := VW'5.other W10 ne_ow_b2
  have XA2'10 := XA2'5.wr W10
  have V_b4'10 := V_b4'5.other W10 (Ne.symm ne_b2_b4)
  have N10 := Fr.snoc X10 N5 g_b2
  have Z10 : n0 ≤ h10.size := Nat.le_trans Z5 (Keep.of_wr W10).1
  have K10 := (K5).wr W10 (Or.inr sz_b2)
  refine vs T10 39 [] (fun t k => st10 t k) ?_
  refine vs T10 40 [(.ref o2)] (fun t k => XS.aloadN X10.here hx rfl (hb hby d29_39) rfl rfl k) ?_
  obtain ⟨T11, X11, e11, st11⟩ := getF X10 hx hZ hown (host := "") (Or.inl (ww hw 165 rfl)) Via.refl e10 FU'10 (g := (mkF m 40 #[vr o2, vr fa, vr oj, vi (0 : Int32)] [(.ref o2)])) rfl rfl (hb hby d29_40)
  refine vs T11 43 [(.ref b4)] (fun t k => st11 t k) ?_
  refine vs T11 44 [(.int (0 : Int32)), (.ref b4)] (fun t k => XS.iloadN X11.here hx rfl (hb hby d29_43) rfl k) ?_
  refine vs T11 45 [(.ref fa), (.int (0 : Int32)), (.ref b4)] (fun t k => XS.aloadN X11.here hx rfl (hb hby d29_44) rfl rfl k) ?_
  refine vs T11 46 [(.ref o2), (.ref fa), (.int (0 : Int32)), (.ref b4)] (fun t k => XS.aloadN X11.here hx rfl (hb hby d29_45) rfl rfl k) ?_
  obtain ⟨T12, X12, e12, st12⟩ := getF X11 hx hZ hown (host := "") (Or.inl (ww hw 163 rfl)) Via.refl e11 FO'10 (g := (mkF m 46 #[vr o2, vr fa, vr oj, vi (0 : Int32)] [(.ref o2), (.ref fa), (.int (0 : Int32)), (.ref b4)])) rfl rfl (hb hby d29_46)
  refine vs T12 49 [(.ref b2), (.ref fa), (.int (0 : Int32)), (.ref b4)] (fun t k => st12 t k) ?_
  refine vs T12 50 [(.int (0 : Int32)), (.ref b2), (.ref fa), (.int (0 : Int32)), (.ref b4)] (fun t k => XS.iloadN X12.here hx rfl (hb hby d29_49) rfl k) ?_
  obtain ⟨cl13, Ar13, qc13, S13, NN13, H13, G13⟩ := id V_b2'10
  have in13 := inb_of (j := (0 : Int32)) S13 ⟨by decide, by decide⟩
  have hat13 : cl13.slots[((0 : Int32)).toNatClampNeg]? = some (.int (Int32.ofNat lo)) := H13.at in13 rfl
  refine vs T12 51 [(.int (Int32.ofNat lo)), (.ref fa), (.int (0 : Int32)), (.ref b4)] (fun t k => X12.iaload hx (j := (0 : Int32)) (v := (.int (Int32.ofNat lo))) (own_eqh e12 Ar13.1) (State.isArrayOf_alike hZ.alike Ar13.2.1) Ar13.2.2 in13 hat13 (g := (mkF m 50 #[vr o2, vr fa, vr oj, vi (0 : Int32)] [(.int (0 : Int32)), (.ref b2), (.ref fa), (.int (0 : Int32)), (.ref b4)])) rfl rfl (hb hby d29_50) t k) ?_
  obtain ⟨T14, L14, X14, e14, Nq14, st14⟩ := own_fwd (n0 := n0) X12 hx hZ hw hown e12 MF'10 EO'10 (r := (cs.getD lo 0)) (rm := ({ frames := 0, cells := 0, slots := 0, locals := 0 } : Room)) (Qx := fun v h L => Q30 Z o1 ow kw cs lo h10 n0 v h L) (rm30 l Z a0 hw [] o1 ow kw cs lo h10 n0 Z10 FP'10 VW'10 h_lo hc4) (ww hw 172 rfl) rfl rfl (fun v h' L q => ⟨q.1, q.2.1, q.2.2⟩) (g := (mkF m 51 #[vr o2, vr fa, vr oj, vi (0 : Int32)] [(.int (Int32.ofNat lo)), (.ref fa), (.int (0 : Int32)), (.ref b4)])) rfl (by rw [hml]; rfl) rfl (hb hby d29_51) (by decide) (by show 2 * 0 + 2 + (2 + 11) + ((2 + 11) + _) ≤ _; decide) (by decide) (by decide)
  have N14 := Fr.app N10 Nq14
  refine vs T14 56 [(.int (cs.getD lo 0)), (.int (0 : Int32)), (.ref b4)] (fun t k => st14 t k) ?_
  obtain ⟨cl15, Ar15, qc15, S15, NN15, H15, G15⟩ := id V_b4'10
  obtain ⟨T15, h15, X15, e15, W15, st15⟩ := stI X14 hx hZ e14 Ar15 (j := (0 : Int32)) (inb_of S15 ⟨by decide, by decide⟩) (g := (mkF m 56 #[vr o2, vr fa, vr oj, vi (0 : Int32)] [(.int (cs.getD lo 0)), (.int (0 : Int32)), (.ref b4)])) rfl rfl (hb hby d29_56)
  have V_b4'15 : Arv Z h15 b4 k4 .int (4 : Int32) [(.int (cs.getD lo 0)), (.int (0 : Int32)), (.int (0 : Int32)), (.int (0 : Int32))] (.int (0 : Int32)) := Arv.set Ar15 qc15 S15 NN15 H15 G15 rfl W15 0 rfl (Nat.le_of_ble_eq_true rfl)
  have ES'15 := ES'10.wr W15
  have FO'15 := FO'10.other W15 (Or.inl ne_o2_b4)
  have FU'15 := FU'10.other W15 (Or.inl ne_o2_b4)
  have MF'15 := MF'10.other W15 ne_fa_b4
  have VJ'15 := VJ'10.other W15 ne_oj_b4
  have EO'15 := EO'10.wr W15
  have FP'15 := FP'10.other W15 (Or.inl ne_o1_b4)
  have VW'15 := VW'10.other W15 ne_ow_b4
  have V_b2'15 := V_b2'10.other W15 ne_b2_b4
  have XA2'15 := XA2'10.wr W15
  have N15 := Fr.snoc X15 N14 g_b4
  have Z15 : n0 ≤ h15.size := Nat.le_trans Z10 (Keep.of_wr W15).1
  have K15 := (K10).wr W15 (Or.inr sz_b4)
  refine vs T15 57 [] (fun t k => st15 t k) ?_
  refine vv T15 m 60 #[vr o2, vr fa, vr oj, vi (1 : Int32)] [] (fun t k => XS.iinc X15.here hx rfl (hb hby d29_57) rfl (l' := #[vr o2, vr fa, vr oj, vi (1 : Int32)]) rfl k) ?_
  refine vs T15 20 [] (fun t k => XS.goto X15.here hx rfl (pc0 := 60) (pc' := 20) rfl (hb hby d29_60) (by decide) (by decide) k) ?_
  refine vs T15 21 [(.int (1 : Int32))] (fun t k => XS.iloadN X15.here hx rfl (hb hby d29_20) rfl k) ?_
  refine vs T15 22 [(.int (4 : Int32)), (.int (1 : Int32))] (fun t k => XS.iconst X15.here hx rfl (hb hby d29_21) k) ?_
  have hc16_22 : (1 : Int32) < (4 : Int32) := (by decide)
  refine vs T15 25 [] (fun t k => XS.icmpNo X15.here hx rfl (hb hby d29_22) rfl (XT.ii_ge_f hc16_22) k) ?_
  refine vs T15 26 [(.ref o2)] (fun t k => XS.aloadN X15.here hx rfl (hb hby d29_25) rfl rfl k) ?_
  obtain ⟨T17, X17, e17, st17⟩ := getF X15 hx hZ hown (host := "") (Or.inl (ww hw 163 rfl)) Via.refl e15 FO'15 (g := (mkF m 26 #[vr o2, vr fa, vr oj, vi (1 : Int32)] [(.ref o2)])) rfl rfl (hb hby d29_26)
  refine vs T17 29 [(.ref b2)] (fun t k => st17 t k) ?_
  refine vs T17 30 [(.int (1 : Int32)), (.ref b2)] (fun t k => XS.iloadN X17.here hx rfl (hb hby d29_29) rfl k) ?_
  refine vs T17 31 [(.ref oj), (.int (1 : Int32)), (.ref b2)] (fun t k => XS.aloadN X17.here hx rfl (hb hby d29_30) rfl rfl k) ?_
  refine vs T17 32 [(.int (1 : Int32)), (.ref oj), (.int (1 : Int32)), (.ref b2)] (fun t k => XS.iloadN X17.here hx rfl (hb hby d29_31) rfl k) ?_
  refine vs T17 33 [(.ref oj), (.int (1 : Int32)), (.ref oj), (.int (1 : Int32)), (.ref b2)] (fun t k => XS.aloadN X17.here hx rfl (hb hby d29_32) rfl rfl k) ?_
  obtain ⟨cl18, Ar18, -, S18, NN18, -, -⟩ := id VJ'15
  refine vs T17 34 [(.int (2 : Int32)), (.int (1 : Int32)), (.ref oj), (.int (1 : Int32)), (.ref b2)] (fun t k => own_len X17 hx hZ e17 Ar18 S18 NN18 (g := (mkF m 33 #[vr o2, vr fa, vr oj, vi (1 : Int32)] [(.ref oj), (.int (1 : Int32)), (.ref oj), (.int (1 : Int32)), (.ref b2)])) rfl rfl (hb hby d29_33) k) ?_
  refine vs T17 35 [(.int (2 : Int32)), (.ref oj), (.int (1 : Int32)), (.ref b2)] (fun t k => XS.imul X17.here hx rfl (hb hby d29_34) rfl k) ?_
  refine vs T17 36 [(.int (4 : Int32)), (.int (2 : Int32)), (.ref oj), (.int (1 : Int32)), (.ref b2)] (fun t k => XS.iconst X17.here hx rfl (hb hby d29_35) k) ?_
  refine vs T17 37 [(.int (0 : Int32)), (.ref oj), (.int (1 : Int32)), (.ref b2)] (fun t k => XS.idiv X17.here hx rfl (hb hby d29_36) rfl (by decide) k) ?_
  obtain ⟨cl19, Ar19, qc19, S19, NN19, H19, G19⟩ := id VJ'15
  have in19 := inb_of (j := (0 : Int32)) S19 ⟨by decide, by decide⟩
  have hat19 : cl19.slots[((0 : Int32)).toNatClampNeg]? = some (.int (Int32.ofNat lo)) := H19.at in19 rfl
  refine vs T17 38 [(.int (Int32.ofNat lo)), (.int (1 : Int32)), (.ref b2)] (fun t k => X17.iaload hx (j := (0 : Int32)) (v := (.int (Int32.ofNat lo))) (own_eqh e17 Ar19.1) (State.isArrayOf_alike hZ.alike Ar19.2.1) Ar19.2.2 in19 hat19 (g := (mkF m 37 #[vr o2, vr fa, vr oj, vi (1 : Int32)] [(.int (0 : Int32)), (.ref oj), (.int (1 : Int32)), (.ref b2)])) rfl rfl (hb hby d29_37) t k) ?_
  obtain ⟨cl20, Ar20, qc20, S20, NN20, H20, G20⟩ := id V_b2'15
  obtain ⟨T20, h20, X20, e20, W20, st20⟩ := stI X17 hx hZ e17 Ar20 (j := (1 : Int32)) (inb_of S20 ⟨by decide, by decide⟩) (g := (mkF m 38 #[vr o2, vr fa, vr oj, vi (1 : Int32)] [(.int (Int32.ofNat lo)), (.int (1 : Int32)), (.ref b2)])) rfl rfl (hb hby d29_38)
  have V_b2'20 : Arv Z h20 b2 k2 .int (4 : Int32) [(.int (Int32.ofNat lo)), (.int (Int32.ofNat lo)), (.int (0 : Int32)), (.int (0 : Int32))] (.int (0 : Int32)) := Arv.set Ar20 qc20 S20 NN20 H20 G20 rfl W20 1 rfl (Nat.le_of_ble_eq_true rfl)
  have ES'20 := ES'15.wr W20
  have FO'20 := FO'15.other W20 (Or.inl ne_o2_b2)
  have FU'20 := FU'15.other W20 (Or.inl ne_o2_b2)
  have MF'20 := MF'15.other W20 ne_fa_b2
  have VJ'20 := VJ'15.other W20 ne_oj_b2
  have EO'20 := EO'15.wr W20
  have FP'20 := FP'15.other W20 (Or.inl ne_o1_b2)
  have VW'20 := VW'15.other W20 ne_ow_b2
  have XA2'20 := XA2'15.wr W20
  have V_b4'20 := V_b4'15.other W20 (Ne.symm ne_b2_b4)
  have N20 := Fr.snoc X20 N15 g_b2
  have Z20 : n0 ≤ h20.size := Nat.le_trans Z15 (Keep.of_wr W20).1
  have K20 := (K15).wr W20 (Or.inr sz_b2)
  refine vs T20 39 [] (fun t k => st20 t k) ?_
  refine vs T20 40 [(.ref o2)] (fun t k => XS.aloadN X20.here hx rfl (hb hby d29_39) rfl rfl k) ?_
  obtain ⟨T21, X21, e21, st21⟩ := getF X20 hx hZ hown (host := "") (Or.inl (ww hw 165 rfl)) Via.refl e20 FU'20 (g := (mkF m 40 #[vr o2, vr fa, vr oj, vi (1 : Int32)] [(.ref o2)])) rfl rfl (hb hby d29_40)
  refine vs T21 43 [(.ref b4)] (fun t k => st21 t k) ?_
  refine vs T21 44 [(.int (1 : Int32)), (.ref b4)] (fun t k => XS.iloadN X21.here hx rfl (hb hby d29_43) rfl k) ?_
  refine vs T21 45 [(.ref fa), (.int (1 : Int32)), (.ref b4)] (fun t k => XS.aloadN X21.here hx rfl (hb hby d29_44) rfl rfl k) ?_
  refine vs T21 46 [(.ref o2), (.ref fa), (.int (1 : Int32)), (.ref b4)] (fun t k => XS.aloadN X21.here hx rfl (hb hby d29_45) rfl rfl k) ?_
  obtain ⟨T22, X22, e22, st22⟩ := getF X21 hx hZ hown (host := "") (Or.inl (ww hw 163 rfl)) Via.refl e21 FO'20 (g := (mkF m 46 #[vr o2, vr fa, vr oj, vi (1 : Int32)] [(.ref o2), (.ref fa), (.int (1 : Int32)), (.ref b4)])) rfl rfl (hb hby d29_46)
  refine vs T22 49 [(.ref b2), (.ref fa), (.int (1 : Int32)), (.ref b4)] (fun t k => st22 t k) ?_
  refine vs T22 50 [(.int (1 : Int32)), (.ref b2), (.ref fa), (.int (1 : Int32)), (.ref b4)] (fun t k => XS.iloadN X22.here hx rfl (hb hby d29_49) rfl k) ?_
  obtain ⟨cl23, Ar23, qc23, S23, NN23, H23, G23⟩ := id V_b2'20
  have in23 := inb_of (j := (1 : Int32)) S23 ⟨by decide, by decide⟩
  have hat23 : cl23.slots[((1 : Int32)).toNatClampNeg]? = some (.int (Int32.ofNat lo)) := H23.at in23 rfl
  refine vs T22 51 [(.int (Int32.ofNat lo)), (.ref fa), (.int (1 : Int32)), (.ref b4)] (fun t k => X22.iaload hx (j := (1 : Int32)) (v := (.int (Int32.ofNat lo))) (own_eqh e22 Ar23.1) (State.isArrayOf_alike hZ.alike Ar23.2.1) Ar23.2.2 in23 hat23 (g := (mkF m 50 #[vr o2, vr fa, vr oj, vi (1 : Int32)] [(.int (1 : Int32)), (.ref b2), (.ref fa), (.int (1 : Int32)), (.ref b4)])) rfl rfl (hb hby d29_50) t k) ?_
  obtain ⟨T24, L24, X24, e24, Nq24, st24⟩ := own_fwd (n0 := n0) X22 hx hZ hw hown e22 MF'20 EO'20 (r := (cs.getD lo 0)) (rm := ({ frames := 0, cells := 0, slots := 0, locals := 0 } : Room)) (Qx := fun v h L => Q30 Z o1 ow kw cs lo h20 n0 v h L) (rm30 l Z a0 hw [] o1 ow kw cs lo h20 n0 Z20 FP'20 VW'20 h_lo hc4) (ww hw 172 rfl) rfl rfl (fun v h' L q => ⟨q.1, q.2.1, q.2.2⟩) (g := (mkF m 51 #[vr o2, vr fa, vr oj, vi (1 : Int32)] [(.int (Int32.ofNat lo)), (.ref fa), (.int (1 : Int32)), (.ref b4)])) rfl (by rw [hml]; rfl) rfl (hb hby d29_51) (by decide) (by show 2 * 0 + 2 + (2 + 11) + ((2 + 11) + _) ≤ _; decide) (by decide) (by decide)
  have N24 := Fr.app N20 Nq24
  refine vs T24 56 [(.int (cs.getD lo 0)), (.int (1 : Int32)), (.ref b4)] (fun t k => st24 t k) ?_
  obtain ⟨cl25, Ar25, qc25, S25, NN25, H25, G25⟩ := id V_b4'20
  obtain ⟨T25, h25, X25, e25, W25, st25⟩ := stI X24 hx hZ e24 Ar25 (j := (1 : Int32)) (inb_of S25 ⟨by decide, by decide⟩) (g := (mkF m 56 #[vr o2, vr fa, vr oj, vi (1 : Int32)] [(.int (cs.getD lo 0)), (.int (1 : Int32)), (.ref b4)])) rfl rfl (hb hby d29_56)
  have V_b4'25 : Arv Z h25 b4 k4 .int (4 : Int32) [(.int (cs.getD lo 0)), (.int (cs.getD lo 0)), (.int (0 : Int32)), (.int (0 : Int32))] (.int (0 : Int32)) := Arv.set Ar25 qc25 S25 NN25 H25 G25 rfl W25 1 rfl (Nat.le_of_ble_eq_true rfl)
  have ES'25 := ES'20.wr W25
  have FO'25 := FO'20.other W25 (Or.inl ne_o2_b4)
  have FU'25 := FU'20.other W25 (Or.inl ne_o2_b4)
  have MF'25 := MF'20.other W25 ne_fa_b4
  have VJ'25 := VJ'20.other W25 ne_oj_b4
  have EO'25 := EO'20.wr W25
  have FP'25 := FP'20.other W25 (Or.inl ne_o1_b4)
  have VW'25 := VW'20.other W25 ne_ow_b4
  have V_b2'25 := V_b2'20.other W25 ne_b2_b4
  have XA2'25 := XA2'20.wr W25
  have N25 := Fr.snoc X25 N24 g_b4
  have Z25 : n0 ≤ h25.size := Nat.le_trans Z20 (Keep.of_wr W25).1
  have K25 := (K20).wr W25 (Or.inr sz_b4)
  refine vs T25 57 [] (fun t k => st25 t k) ?_
  refine vv T25 m 60 #[vr o2, vr fa, vr oj, vi (2 : Int32)] [] (fun t k => XS.iinc X25.here hx rfl (hb hby d29_57) rfl (l' := #[vr o2, vr fa, vr oj, vi (2 : Int32)]) rfl k) ?_
  refine vs T25 20 [] (fun t k => XS.goto X25.here hx rfl (pc0 := 60) (pc' := 20) rfl (hb hby d29_60) (by decide) (by decide) k) ?_
  refine vs T25 21 [(.int (2 : Int32))] (fun t k => XS.iloadN X25.here hx rfl (hb hby d29_20) rfl k) ?_
  refine vs T25 22 [(.int (4 : Int32)), (.int (2 : Int32))] (fun t k => XS.iconst X25.here hx rfl (hb hby d29_21) k) ?_
  have hc26_22 : (2 : Int32) < (4 : Int32) := (by decide)
  refine vs T25 25 [] (fun t k => XS.icmpNo X25.here hx rfl (hb hby d29_22) rfl (XT.ii_ge_f hc26_22) k) ?_
  refine vs T25 26 [(.ref o2)] (fun t k => XS.aloadN X25.here hx rfl (hb hby d29_25) rfl rfl k) ?_
  obtain ⟨T27, X27, e27, st27⟩ := getF X25 hx hZ hown (host := "") (Or.inl (ww hw 163 rfl)) Via.refl e25 FO'25 (g := (mkF m 26 #[vr o2, vr fa, vr oj, vi (2 : Int32)] [(.ref o2)])) rfl rfl (hb hby d29_26)
  refine vs T27 29 [(.ref b2)] (fun t k => st27 t k) ?_
  refine vs T27 30 [(.int (2 : Int32)), (.ref b2)] (fun t k => XS.iloadN X27.here hx rfl (hb hby d29_29) rfl k) ?_
  refine vs T27 31 [(.ref oj), (.int (2 : Int32)), (.ref b2)] (fun t k => XS.aloadN X27.here hx rfl (hb hby d29_30) rfl rfl k) ?_
  refine vs T27 32 [(.int (2 : Int32)), (.ref oj), (.int (2 : Int32)), (.ref b2)] (fun t k => XS.iloadN X27.here hx rfl (hb hby d29_31) rfl k) ?_
  refine vs T27 33 [(.ref oj), (.int (2 : Int32)), (.ref oj), (.int (2 : Int32)), (.ref b2)] (fun t k => XS.aloadN X27.here hx rfl (hb hby d29_32) rfl rfl k) ?_
  obtain ⟨cl28, Ar28, -, S28, NN28, -, -⟩ := id VJ'25
  refine vs T27 34 [(.int (2 : Int32)), (.int (2 : Int32)), (.ref oj), (.int (2 : Int32)), (.ref b2)] (fun t k => own_len X27 hx hZ e27 Ar28 S28 NN28 (g := (mkF m 33 #[vr o2, vr fa, vr oj, vi (2 : Int32)] [(.ref oj), (.int (2 : Int32)), (.ref oj), (.int (2 : Int32)), (.ref b2)])) rfl rfl (hb hby d29_33) k) ?_
  refine vs T27 35 [(.int (4 : Int32)), (.ref oj), (.int (2 : Int32)), (.ref b2)] (fun t k => XS.imul X27.here hx rfl (hb hby d29_34) rfl k) ?_
  refine vs T27 36 [(.int (4 : Int32)), (.int (4 : Int32)), (.ref oj), (.int (2 : Int32)), (.ref b2)] (fun t k => XS.iconst X27.here hx rfl (hb hby d29_35) k) ?_
  refine vs T27 37 [(.int (1 : Int32)), (.ref oj), (.int (2 : Int32)), (.ref b2)] (fun t k => XS.idiv X27.here hx rfl (hb hby d29_36) rfl (by decide) k) ?_
  obtain ⟨cl29, Ar29, qc29, S29, NN29, H29, G29⟩ := id VJ'25
  have in29 := inb_of (j := (1 : Int32)) S29 ⟨by decide, by decide⟩
  have hat29 : cl29.slots[((1 : Int32)).toNatClampNeg]? = some (.int (Int32.ofNat hi)) := H29.at in29 rfl
  refine vs T27 38 [(.int (Int32.ofNat hi)), (.int (2 : Int32)), (.ref b2)] (fun t k => X27.iaload hx (j := (1 : Int32)) (v := (.int (Int32.ofNat hi))) (own_eqh e27 Ar29.1) (State.isArrayOf_alike hZ.alike Ar29.2.1) Ar29.2.2 in29 hat29 (g := (mkF m 37 #[vr o2, vr fa, vr oj, vi (2 : Int32)] [(.int (1 : Int32)), (.ref oj), (.int (2 : Int32)), (.ref b2)])) rfl rfl (hb hby d29_37) t k) ?_
  obtain ⟨cl30, Ar30, qc30, S30, NN30, H30, G30⟩ := id V_b2'25
  obtain ⟨T30, h30, X30, e30, W30, st30⟩ := stI X27 hx hZ e27 Ar30 (j := (2 : Int32)) (inb_of S30 ⟨by decide, by decide⟩) (g := (mkF m 38 #[vr o2, vr fa, vr oj, vi (2 : Int32)] [(.int (Int32.ofNat hi)), (.int (2 : Int32)), (.ref b2)])) rfl rfl (hb hby d29_38)
  have V_b2'30 : Arv Z h30 b2 k2 .int (4 : Int32) [(.int (Int32.ofNat lo)), (.int (Int32.ofNat lo)), (.int (Int32.ofNat hi)), (.int (0 : Int32))] (.int (0 : Int32)) := Arv.set Ar30 qc30 S30 NN30 H30 G30 rfl W30 2 rfl (Nat.le_of_ble_eq_true rfl)
  have ES'30 := ES'25.wr W30
  have FO'30 := FO'25.other W30 (Or.inl ne_o2_b2)
  have FU'30 := FU'25.other W30 (Or.inl ne_o2_b2)
  have MF'30 := MF'25.other W30 ne_fa_b2
  have VJ'30 := VJ'25.other W30 ne_oj_b2
  have EO'30 := EO'25.wr W30
  have FP'30 := FP'25.other W30 (Or.inl ne_o1_b2)
  have VW'30 := VW'25.other W30 ne_ow_b2
  have XA2'30 := XA2'25.wr W30
  have V_b4'30 := V_b4'25.other W30 (Ne.symm ne_b2_b4)
  have N30 := Fr.snoc X30 N25 g_b2
  have Z30 : n0 ≤ h30.size := Nat.le_trans Z25 (Keep.of_wr W30).1
  have K30 := (K25).wr W30 (Or.inr sz_b2)
  refine vs T30 39 [] (fun t k => st30 t k) ?_
  refine vs T30 40 [(.ref o2)] (fun t k => XS.aloadN X30.here hx rfl (hb hby d29_39) rfl rfl k) ?_
  obtain ⟨T31, X31, e31, st31⟩ := getF X30 hx hZ hown (host := "") (Or.inl (ww hw 165 rfl)) Via.refl e30 FU'30 (g := (mkF m 40 #[vr o2, vr fa, vr oj, vi (2 : Int32)] [(.ref o2)])) rfl rfl (hb hby d29_40)
  refine vs T31 43 [(.ref b4)] (fun t k => st31 t k) ?_
  refine vs T31 44 [(.int (2 : Int32)), (.ref b4)] (fun t k => XS.iloadN X31.here hx rfl (hb hby d29_43) rfl k) ?_
  refine vs T31 45 [(.ref fa), (.int (2 : Int32)), (.ref b4)] (fun t k => XS.aloadN X31.here hx rfl (hb hby d29_44) rfl rfl k) ?_
  refine vs T31 46 [(.ref o2), (.ref fa), (.int (2 : Int32)), (.ref b4)] (fun t k => XS.aloadN X31.here hx rfl (hb hby d29_45) rfl rfl k) ?_
  obtain ⟨T32, X32, e32, st32⟩ := getF X31 hx hZ hown (host := "") (Or.inl (ww hw 163 rfl)) Via.refl e31 FO'30 (g := (mkF m 46 #[vr o2, vr fa, vr oj, vi (2 : Int32)] [(.ref o2), (.ref fa), (.int (2 : Int32)), (.ref b4)])) rfl rfl (hb hby d29_46)
  refine vs T32 49 [(.ref b2), (.ref fa), (.int (2 : Int32)), (.ref b4)] (fun t k => st32 t k) ?_
  refine vs T32 50 [(.int (2 : Int32)), (.ref b2), (.ref fa), (.int (2 : Int32)), (.ref b4)] (fun t k => XS.iloadN X32.here hx rfl (hb hby d29_49) rfl k) ?_
  obtain ⟨cl33, Ar33, qc33, S33, NN33, H33, G33⟩ := id V_b2'30
  have in33 := inb_of (j := (2 : Int32)) S33 ⟨by decide, by decide⟩
  have hat33 : cl33.slots[((2 : Int32)).toNatClampNeg]? = some (.int (Int32.ofNat hi)) := H33.at in33 rfl
  refine vs T32 51 [(.int (Int32.ofNat hi)), (.ref fa), (.int (2 : Int32)), (.ref b4)] (fun t k => X32.iaload hx (j := (2 : Int32)) (v := (.int (Int32.ofNat hi))) (own_eqh e32 Ar33.1) (State.isArrayOf_alike hZ.alike Ar33.2.1) Ar33.2.2 in33 hat33 (g := (mkF m 50 #[vr o2, vr fa, vr oj, vi (2 : Int32)] [(.int (2 : Int32)), (.ref b2), (.ref fa), (.int (2 : Int32)), (.ref b4)])) rfl rfl (hb hby d29_50) t k) ?_
  obtain ⟨T34, L34, X34, e34, Nq34, st34⟩ := own_fwd (n0 := n0) X32 hx hZ hw hown e32 MF'30 EO'30 (r := (cs.getD hi 0)) (rm := ({ frames := 0, cells := 0, slots := 0, locals := 0 } : Room)) (Qx := fun v h L => Q30 Z o1 ow kw cs hi h30 n0 v h L) (rm30 l Z a0 hw [] o1 ow kw cs hi h30 n0 Z30 FP'30 VW'30 h_hi hc4) (ww hw 172 rfl) rfl rfl (fun v h' L q => ⟨q.1, q.2.1, q.2.2⟩) (g := (mkF m 51 #[vr o2, vr fa, vr oj, vi (2 : Int32)] [(.int (Int32.ofNat hi)), (.ref fa), (.int (2 : Int32)), (.ref b4)])) rfl (by rw [hml]; rfl) rfl (hb hby d29_51) (by decide) (by show 2 * 0 + 2 + (2 + 11) + ((2 + 11) + _) ≤ _; decide) (by decide) (by decide)
  have N34 := Fr.app N30 Nq34
  refine vs T34 56 [(.int (cs.getD hi 0)), (.int (2 : Int32)), (.ref b4)] (fun t k => st34 t k) ?_
  obtain ⟨cl35, Ar35, qc35, S35, NN35, H35, G35⟩ := id V_b4'30
  obtain ⟨T35, h35, X35, e35, W35, st35⟩ := stI X34 hx hZ e34 Ar35 (j := (2 : Int32)) (inb_of S35 ⟨by decide, by decide⟩) (g := (mkF m 56 #[vr o2, vr fa, vr oj, vi (2 : Int32)] [(.int (cs.getD hi 0)), (.int (2 : Int32)), (.ref b4)])) rfl rfl (hb hby d29_56)
  have V_b4'35 : Arv Z h35 b4 k4 .int (4 : Int32) [(.int (cs.getD lo 0)), (.int (cs.getD lo 0)), (.int (cs.getD hi 0)), (.int (0 : Int32))] (.int (0 : Int32)) := Arv.set Ar35 qc35 S35 NN35 H35 G35 rfl W35 2 rfl (Nat.le_of_ble_eq_true rfl)
  have ES'35 := ES'30.wr W35
  have FO'35 := FO'30.other W35 (Or.inl ne_o2_b4)
  have FU'35 := FU'30.other W35 (Or.inl ne_o2_b4)
  have MF'35 := MF'30.other W35 ne_fa_b4
  have VJ'35 := VJ'30.other W35 ne_oj_b4
  have EO'35 := EO'30.wr W35
  have FP'35 := FP'30.other W35 (Or.inl ne_o1_b4)
  have VW'35 := VW'30.other W35 ne_ow_b4
  have V_b2'35 := V_b2'30.other W35 ne_b2_b4
  have XA2'35 := XA2'30.wr W35
  have N35 := Fr.snoc X35 N34 g_b4
  have Z35 : n0 ≤ h35.size := Nat.le_trans Z30 (Keep.of_wr W35).1
  have K35 := (K30).wr W35 (Or.inr sz_b4)
  refine vs T35 57 [] (fun t k => st35 t k) ?_
  refine vv T35 m 60 #[vr o2, vr fa, vr oj, vi (3 : Int32)] [] (fun t k => XS.iinc X35.here hx rfl (hb hby d29_57) rfl (l' := #[vr o2, vr fa, vr oj, vi (3 : Int32)]) rfl k) ?_
  refine vs T35 20 [] (fun t k => XS.goto X35.here hx rfl (pc0 := 60) (pc' := 20) rfl (hb hby d29_60) (by decide) (by decide) k) ?_
  refine vs T35 21 [(.int (3 : Int32))] (fun t k => XS.iloadN X35.here hx rfl (hb hby d29_20) rfl k) ?_
  refine vs T35 22 [(.int (4 : Int32)), (.int (3 : Int32))] (fun t k => XS.iconst X35.here hx rfl (hb hby d29_21) k) ?_
  have hc36_22 : (3 : Int32) < (4 : Int32) := (by decide)
  refine vs T35 25 [] (fun t k => XS.icmpNo X35.here hx rfl (hb hby d29_22) rfl (XT.ii_ge_f hc36_22) k) ?_
  refine vs T35 26 [(.ref o2)] (fun t k => XS.aloadN X35.here hx rfl (hb hby d29_25) rfl rfl k) ?_
  obtain ⟨T37, X37, e37, st37⟩ := getF X35 hx hZ hown (host := "") (Or.inl (ww hw 163 rfl)) Via.refl e35 FO'35 (g := (mkF m 26 #[vr o2, vr fa, vr oj, vi (3 : Int32)] [(.ref o2)])) rfl rfl (hb hby d29_26)
  refine vs T37 29 [(.ref b2)] (fun t k => st37 t k) ?_
  refine vs T37 30 [(.int (3 : Int32)), (.ref b2)] (fun t k => XS.iloadN X37.here hx rfl (hb hby d29_29) rfl k) ?_
  refine vs T37 31 [(.ref oj), (.int (3 : Int32)), (.ref b2)] (fun t k => XS.aloadN X37.here hx rfl (hb hby d29_30) rfl rfl k) ?_
  refine vs T37 32 [(.int (3 : Int32)), (.ref oj), (.int (3 : Int32)), (.ref b2)] (fun t k => XS.iloadN X37.here hx rfl (hb hby d29_31) rfl k) ?_
  refine vs T37 33 [(.ref oj), (.int (3 : Int32)), (.ref oj), (.int (3 : Int32)), (.ref b2)] (fun t k => XS.aloadN X37.here hx rfl (hb hby d29_32) rfl rfl k) ?_
  obtain ⟨cl38, Ar38, -, S38, NN38, -, -⟩ := id VJ'35
  refine vs T37 34 [(.int (2 : Int32)), (.int (3 : Int32)), (.ref oj), (.int (3 : Int32)), (.ref b2)] (fun t k => own_len X37 hx hZ e37 Ar38 S38 NN38 (g := (mkF m 33 #[vr o2, vr fa, vr oj, vi (3 : Int32)] [(.ref oj), (.int (3 : Int32)), (.ref oj), (.int (3 : Int32)), (.ref b2)])) rfl rfl (hb hby d29_33) k) ?_
  refine vs T37 35 [(.int (6 : Int32)), (.ref oj), (.int (3 : Int32)), (.ref b2)] (fun t k => XS.imul X37.here hx rfl (hb hby d29_34) rfl k) ?_
  refine vs T37 36 [(.int (4 : Int32)), (.int (6 : Int32)), (.ref oj), (.int (3 : Int32)), (.ref b2)] (fun t k => XS.iconst X37.here hx rfl (hb hby d29_35) k) ?_
  refine vs T37 37 [(.int (1 : Int32)), (.ref oj), (.int (3 : Int32)), (.ref b2)] (fun t k => XS.idiv X37.here hx rfl (hb hby d29_36) rfl (by decide) k) ?_
  obtain ⟨cl39, Ar39, qc39, S39, NN39, H39, G39⟩ := id VJ'35
  have in39 := inb_of (j := (1 : Int32)) S39 ⟨by decide, by decide⟩
  have hat39 : cl39.slots[((1 : Int32)).toNatClampNeg]? = some (.int (Int32.ofNat hi)) := H39.at in39 rfl
  refine vs T37 38 [(.int (Int32.ofNat hi)), (.int (3 : Int32)), (.ref b2)] (fun t k => X37.iaload hx (j := (1 : Int32)) (v := (.int (Int32.ofNat hi))) (own_eqh e37 Ar39.1) (State.isArrayOf_alike hZ.alike Ar39.2.1) Ar39.2.2 in39 hat39 (g := (mkF m 37 #[vr o2, vr fa, vr oj, vi (3 : Int32)] [(.int (1 : Int32)), (.ref oj), (.int (3 : Int32)), (.ref b2)])) rfl rfl (hb hby d29_37) t k) ?_
  obtain ⟨cl40, Ar40, qc40, S40, NN40, H40, G40⟩ := id V_b2'35
  obtain ⟨T40, h40, X40, e40, W40, st40⟩ := stI X37 hx hZ e37 Ar40 (j := (3 : Int32)) (inb_of S40 ⟨by decide, by decide⟩) (g := (mkF m 38 #[vr o2, vr fa, vr oj, vi (3 : Int32)] [(.int (Int32.ofNat hi)), (.int (3 : Int32)), (.ref b2)])) rfl rfl (hb hby d29_38)
  have V_b2'40 : Arv Z h40 b2 k2 .int (4 : Int32) [(.int (Int32.ofNat lo)), (.int (Int32.ofNat lo)), (.int (Int32.ofNat hi)), (.int (Int32.ofNat hi))] (.int (0 : Int32)) := Arv.set Ar40 qc40 S40 NN40 H40 G40 rfl W40 3 rfl (Nat.le_of_ble_eq_true rfl)
  have ES'40 := ES'35.wr W40
  have FO'40 := FO'35.other W40 (Or.inl ne_o2_b2)
  have FU'40 := FU'35.other W40 (Or.inl ne_o2_b2)
  have MF'40 := MF'35.other W40 ne_fa_b2
  have VJ'40 := VJ'35.other W40 ne_oj_b2
  have EO'40 := EO'35.wr W40
  have FP'40 := FP'35.other W40 (Or.inl ne_o1_b2)
  have VW'40 := VW'35.other W40 ne_ow_b2
  have XA2'40 := XA2'35.wr W40
  have V_b4'40 := V_b4'35.other W40 (Ne.symm ne_b2_b4)
  have N40 := Fr.snoc X40 N35 g_b2
  have Z40 : n0 ≤ h40.size := Nat.le_trans Z35 (Keep.of_wr W40).1
  have K40 := (K35).wr W40 (Or.inr sz_b2)
  refine vs T40 39 [] (fun t k => st40 t k) ?_
  refine vs T40 40 [(.ref o2)] (fun t k => XS.aloadN X40.here hx rfl (hb hby d29_39) rfl rfl k) ?_
  obtain ⟨T41, X41, e41, st41⟩ := getF X40 hx hZ hown (host := "") (Or.inl (ww hw 165 rfl)) Via.refl e40 FU'40 (g := (mkF m 40 #[vr o2, vr fa, vr oj, vi (3 : Int32)] [(.ref o2)])) rfl rfl (hb hby d29_40)
  refine vs T41 43 [(.ref b4)] (fun t k => st41 t k) ?_
  refine vs T41 44 [(.int (3 : Int32)), (.ref b4)] (fun t k => XS.iloadN X41.here hx rfl (hb hby d29_43) rfl k) ?_
  refine vs T41 45 [(.ref fa), (.int (3 : Int32)), (.ref b4)] (fun t k => XS.aloadN X41.here hx rfl (hb hby d29_44) rfl rfl k) ?_
  refine vs T41 46 [(.ref o2), (.ref fa), (.int (3 : Int32)), (.ref b4)] (fun t k => XS.aloadN X41.here hx rfl (hb hby d29_45) rfl rfl k) ?_
  obtain ⟨T42, X42, e42, st42⟩ := getF X41 hx hZ hown (host := "") (Or.inl (ww hw 163 rfl)) Via.refl e41 FO'40 (g := (mkF m 46 #[vr o2, vr fa, vr oj, vi (3 : Int32)] [(.ref o2), (.ref fa), (.int (3 : Int32)), (.ref b4)])) rfl rfl (hb hby d29_46)
  refine vs T42 49 [(.ref b2), (.ref fa), (.int (3 : Int32)), (.ref b4)] (fun t k => st42 t k) ?_
  refine vs T42 50 [(.int (3 : Int32)), (.ref b2), (.ref fa), (.int (3 : Int32)), (.ref b4)] (fun t k => XS.iloadN X42.here hx rfl (hb hby d29_49) rfl k) ?_
  obtain ⟨cl43, Ar43, qc43, S43, NN43, H43, G43⟩ := id V_b2'40
  have in43 := inb_of (j := (3 : Int32)) S43 ⟨by decide, by decide⟩
  have hat43 : cl43.slots[((3 : Int32)).toNatClampNeg]? = some (.int (Int32.ofNat hi)) := H43.at in43 rfl
  refine vs T42 51 [(.int (Int32.ofNat hi)), (.ref fa), (.int (3 : Int32)), (.ref b4)] (fun t k => X42.iaload hx (j := (3 : Int32)) (v := (.int (Int32.ofNat hi))) (own_eqh e42 Ar43.1) (State.isArrayOf_alike hZ.alike Ar43.2.1) Ar43.2.2 in43 hat43 (g := (mkF m 50 #[vr o2, vr fa, vr oj, vi (3 : Int32)] [(.int (3 : Int32)), (.ref b2), (.ref fa), (.int (3 : Int32)), (.ref b4)])) rfl rfl (hb hby d29_50) t k) ?_
  obtain ⟨T44, L44, X44, e44, Nq44, st44⟩ := own_fwd (n0 := n0) X42 hx hZ hw hown e42 MF'40 EO'40 (r := (cs.getD hi 0)) (rm := ({ frames := 0, cells := 0, slots := 0, locals := 0 } : Room)) (Qx := fun v h L => Q30 Z o1 ow kw cs hi h40 n0 v h L) (rm30 l Z a0 hw [] o1 ow kw cs hi h40 n0 Z40 FP'40 VW'40 h_hi hc4) (ww hw 172 rfl) rfl rfl (fun v h' L q => ⟨q.1, q.2.1, q.2.2⟩) (g := (mkF m 51 #[vr o2, vr fa, vr oj, vi (3 : Int32)] [(.int (Int32.ofNat hi)), (.ref fa), (.int (3 : Int32)), (.ref b4)])) rfl (by rw [hml]; rfl) rfl (hb hby d29_51) (by decide) (by show 2 * 0 + 2 + (2 + 11) + ((2 + 11) + _) ≤ _; decide) (by decide) (by decide)
  have N44 := Fr.app N40 Nq44
  refine vs T44 56 [(.int (cs.getD hi 0)), (.int (3 : Int32)), (.ref b4)] (fun t k => st44 t k) ?_
  obtain ⟨cl45, Ar45, qc45, S45, NN45, H45, G45⟩ := id V_b4'40
  obtain ⟨T45, h45, X45, e45, W45, st45⟩ := stI X44 hx hZ e44 Ar45 (j := (3 : Int32)) (inb_of S45 ⟨by decide, by decide⟩) (g := (mkF m 56 #[vr o2, vr fa, vr oj, vi (3 : Int32)] [(.int (cs.getD hi 0)), (.int (3 : Int32)), (.ref b4)])) rfl rfl (hb hby d29_56)
  have V_b4'45 : Arv Z h45 b4 k4 .int (4 : Int32) [(.int (cs.getD lo 0)), (.int (cs.getD lo 0)), (.int (cs.getD hi 0)), (.int (cs.getD hi 0))] (.int (0 : Int32)) := Arv.set Ar45 qc45 S45 NN45 H45 G45 rfl W45 3 rfl (Nat.le_of_ble_eq_true rfl)
  have ES'45 := ES'40.wr W45
  have FO'45 := FO'40.other W45 (Or.inl ne_o2_b4)
  have FU'45 := FU'40.other W45 (Or.inl ne_o2_b4)
  have MF'45 := MF'40.other W45 ne_fa_b4
  have VJ'45 := VJ'40.other W45 ne_oj_b4
  have EO'45 := EO'40.wr W45
  have FP'45 := FP'40.other W45 (Or.inl ne_o1_b4)
  have VW'45 := VW'40.other W45 ne_ow_b4
  have V_b2'45 := V_b2'40.other W45 ne_b2_b4
  have XA2'45 := XA2'40.wr W45
  have N45 := Fr.snoc X45 N44 g_b4
  have Z45 : n0 ≤ h45.size := Nat.le_trans Z40 (Keep.of_wr W45).1
  have K45 := (K40).wr W45 (Or.inr sz_b4)
  refine vs T45 57 [] (fun t k => st45 t k) ?_
  refine vv T45 m 60 #[vr o2, vr fa, vr oj, vi (4 : Int32)] [] (fun t k => XS.iinc X45.here hx rfl (hb hby d29_57) rfl (l' := #[vr o2, vr fa, vr oj, vi (4 : Int32)]) rfl k) ?_
  refine vs T45 20 [] (fun t k => XS.goto X45.here hx rfl (pc0 := 60) (pc' := 20) rfl (hb hby d29_60) (by decide) (by decide) k) ?_
  refine vs T45 21 [(.int (4 : Int32))] (fun t k => XS.iloadN X45.here hx rfl (hb hby d29_20) rfl k) ?_
  refine vs T45 22 [(.int (4 : Int32)), (.int (4 : Int32))] (fun t k => XS.iconst X45.here hx rfl (hb hby d29_21) k) ?_
  have hc46_22 : ¬ ((4 : Int32) < (4 : Int32)) := (by decide)
  refine vs T45 63 [] (fun t k => XS.icmpYes X45.here hx rfl (pc0 := 22) (pc' := 63) rfl (hb hby d29_22) rfl (XT.ii_ge_t hc46_22) (by decide) (by decide) k) ?_
  exact own_fin X45 e45 (v := none) (fun _ => rfl) hlk (fun fs hr => X45.returnOut hx hret (hb hby d29_63) hr) (show ((fun (v : Option Value) (h : Heap) (L : List Loc) => Q29 Z o2 fa oj kj lo hi o1 ow kw cs h0 n0 v h L)) none h45 _ from ⟨b2, k2, rfl, N45, K45, sz_b2, (ES'45), (FO'45), (V_b2'45), (XA2'45)⟩) (by decide) (by decide)
theorem pn_7 : plainName "com/example/clew/clew/DefaultSearch$Sieve" = true := by first | (simp [plainName, overriddenIn]; done) | decide +kernel
theorem ef_29 (m : MethodId) (o2 : Addr) (fa : Addr) (oj : Addr) : entryFrame m #[(.ref o2), (.ref fa), (.ref oj)] 4 = mkF m 0 #[vr o2, vr fa, vr oj, .unset] [] := by first | (simp [entryFrame, mkF, argsToLocals, Value.category, maxLocals]; done) | rfl
theorem rm29 (l : Launch) (Z : State) (a0 : Array Value) (hw : ∀ d ∈ tables_1, d.before a0 Z = true) (ws : List Jvm.Cond) (o2 : Addr) (fa : Addr) (oj : Addr) (kj : ClassId) (lo : Nat) (hi : Nat) (o1 : Addr) (ow : Addr) (kw : ClassId) (cs : List Int32) (h0 : Heap) (n0 : Nat) (Z0 : n0 ≤ h0.size) (ES : Exa Z h0 o2 "com/example/clew/clew/DefaultSearch$Sieve") (FO : Fld Z h0 o2 "com/example/clew/clew/DefaultSearch$Sieve" "positions" "[I" .null) (FU : Fld Z h0 o2 "com/example/clew/clew/DefaultSearch$Sieve" "units" "[I" .null) (MF : own_Lam Z h0 fa o1) (VJ : Arv Z h0 oj kj .int (2 : Int32) [(.int (Int32.ofNat lo)), (.int (Int32.ofNat hi))] (.int (0 : Int32))) (EO : Exa Z h0 o1 "com/example/clew/clew/CharFilter") (FP : Fld Z h0 o1 "com/example/clew/clew/CharFilter" "pattern" "[C" (.ref ow)) (VW : Arv Z h0 ow kw .char (Int32.ofNat cs.length) (own_iv cs) (.int (0 : Int32))) (g_o2 : n0 ≤ o2) (h_lo : lo < cs.length) (h_hi : hi < cs.length) (hc4 : cs.length ≤ 4) (ne_2f : o2 ≠ fa) (ne_2j : o2 ≠ oj) (ne_21 : o2 ≠ o1) (ne_2w : o2 ≠ ow) :
    MetFree l (⟨"com/example/clew/clew/DefaultSearch$Sieve", "<init>", "(Ljava/util/function/IntUnaryOperator;[I)V"⟩ : MethodName) (head1 (Jvm.Cond.code (⟨"com/example/clew/clew/DefaultSearch$Sieve", "<init>", "(Ljava/util/function/IntUnaryOperator;[I)V"⟩ : MethodName) prog_13_method_1_code 4 none :: ws) ({ frames := 2, cells := 2, slots := 8, locals := 28 } : Room)) (fun a U => a = #[(.ref o2), (.ref fa), (.ref oj)] ∧ Z.Warmed39 U.vm ∧ U.heap = h0) (fun _ _ _ _ _ => True) (fun _ U o U' => ∃ v L, o = .returned v ∧ Q29 Z o2 fa oj kj lo hi o1 ow kw cs h0 n0 v U'.heap L ∧ FrameEnd U o U' L ({ frames := 2, cells := 2, slots := 8, locals := 28 } : Room).cells ({ frames := 2, cells := 2, slots := 8, locals := 28 } : Room).slots) := by
  refine MetFree.of_bodySF (plainFor_of_name pn_7) hisR ?_
  intro p e s m args below meth c s₁ Bd hml0 hP hK
  obtain ⟨rfl, hZ, hh⟩ := hP
  have e0 : s₁.heap = h0 := by rw [← hh, Bd.state]; rfl
  rw [ef_29 m o2 fa oj]
  exact b29 o2 fa oj kj lo hi o1 ow kw cs ⟨Bd.exec, hZ, hw, Bd.bytes, hml0, findClass_of_methodNamed Bd.named, Bd.returns, Bd.notSynchronized, (name_of_methodNamed Bd.named Bd.method).1⟩ (Stand.of_body Bd) e0 Z0 (Fr.nil n0) ES FO FU MF VJ EO FP VW g_o2 h_lo h_hi hc4 ne_2f ne_2j ne_21 ne_2w
def Q32 (Z : State) (o2 : Addr) (oj : Addr) (kj : ClassId) (lo : Nat) (hi : Nat) (n : Int32) (h0 : Heap) (n0 : Nat) (v : Option Value) (h : Heap) (L : List Loc) : Prop := ∃ tz : Int32, v = some (.int tz) ∧ Fr n0 L ∧ h = h0
theorem d32_0 : dq cb36 0 (.iconst 1) 1 := by decide +kernel
theorem d32_1 : dq cb36 1 (.istore_n 2) 1 := by decide +kernel
theorem d32_2 : dq cb36 2 (.iconst 1) 1 := by decide +kernel
theorem d32_3 : dq cb36 3 (.istore_n 3) 1 := by decide +kernel
theorem d32_4 : dq cb36 4 (.iload_n 3) 1 := by decide +kernel
theorem d32_5 : dq cb36 5 (.iconst 4) 1 := by decide +kernel
theorem d32_6 : dq cb36 6 (.if_icmp .ge 29) 3 := by decide +kernel
theorem d32_9 : dq cb36 9 (.aload_n 0) 1 := by decide +kernel
theorem d32_10 : dq cb36 10 (.getfield 9) 3 := by decide +kernel
theorem d32_13 : dq cb36 13 (.iload_n 3) 1 := by decide +kernel
theorem d32_14 : dq cb36 14 .iaload 1 := by decide +kernel
theorem d32_15 : dq cb36 15 (.aload_n 0) 1 := by decide +kernel
theorem d32_16 : dq cb36 16 (.getfield 9) 3 := by decide +kernel
theorem d32_19 : dq cb36 19 (.iload_n 3) 1 := by decide +kernel
theorem d32_20 : dq cb36 20 (.iconst 1) 1 := by decide +kernel
theorem d32_21 : dq cb36 21 .isub 1 := by decide +kernel
theorem d32_22 : dq cb36 22 .iaload 1 := by decide +kernel
theorem d32_23 : dq cb36 23 (.if_icmp .eq 6) 3 := by decide +kernel
theorem d32_29 : dq cb36 29 (.iinc 3 1) 3 := by decide +kernel
theorem d32_32 : dq cb36 32 (.goto (-28)) 3 := by decide +kernel
theorem d32_35 : dq cb36 35 (.iload_n 2) 1 := by decide +kernel
theorem d32_36 : dq cb36 36 (.iload_n 1) 1 := by decide +kernel
theorem d32_37 : dq cb36 37 (.if_icmp .ne 7) 3 := by decide +kernel
theorem d32_40 : dq cb36 40 (.iconst 1) 1 := by decide +kernel
theorem d32_41 : dq cb36 41 (.goto 4) 3 := by decide +kernel
theorem d32_45 : dq cb36 45 .ireturn 1 := by decide +kernel
theorem d32_44 : dq cb36 44 (.iconst 0) 1 := by decide +kernel
theorem d32_26 : dq cb36 26 (.iinc 2 1) 3 := by decide +kernel
theorem b32  (o2 : Addr) (oj : Addr) (kj : ClassId) (lo : Nat) (hi : Nat) (n : Int32)
    (C : own_C p s m meth c Z a0 prog_13_method_2_code 4 "com/example/clew/clew/DefaultSearch$Sieve" (some .boolean) "testsEvery") (X0 : Stand p l e ({ frames := 0, cells := 0, slots := 0, locals := 0 } : Room) s m args below meth c T0 locs 0 0) (e0 : T0.heap = h0) (Z0 : n0 ≤ h0.size) (N0 : Fr n0 locs) (FO : Fld Z h0 o2 "com/example/clew/clew/DefaultSearch$Sieve" "positions" "[I" (.ref oj)) (VQ : Arv Z h0 oj kj .int (4 : Int32) [(.int (Int32.ofNat lo)), (.int (Int32.ofNat lo)), (.int (Int32.ofNat hi)), (.int (Int32.ofNat hi))] (.int (0 : Int32))) :
    own_Go p.tables e below (T0.setTop (mkF m 0 #[vr o2, vi n, .unset, .unset] [])) (own_K s (fun (v : Option Value) (h : Heap) (L : List Loc) => Q32 Z o2 oj kj lo hi n h0 n0 v h L) ({ frames := 0, cells := 0, slots := 0, locals := 0 } : Room).cells ({ frames := 0, cells := 0, slots := 0, locals := 0 } : Room).slots) := by
  obtain ⟨hx, hZ, hw, hby, hml, hown, hret, hlk, hnm⟩ := C
  refine vs T0 1 [(.int (1 : Int32))] (fun t k => XS.iconst X0.here hx rfl (hb hby d32_0) k) ?_
  refine vv T0 m 2 #[vr o2, vi n, vi (1 : Int32), .unset] [] (fun t k => XS.istoreN X0.here hx rfl (hb hby d32_1) rfl (l' := #[vr o2, vi n, vi (1 : Int32), .unset]) rfl k) ?_
  refine vs T0 3 [(.int (1 : Int32))] (fun t k => XS.iconst X0.here hx rfl (hb hby d32_2) k) ?_
  refine vv T0 m 4 #[vr o2, vi n, vi (1 : Int32), vi (1 : Int32)] [] (fun t k => XS.istoreN X0.here hx rfl (hb hby d32_3) rfl (l' := #[vr o2, vi n, vi (1 : Int32), vi (1 : Int32)]) rfl k) ?_
  refine vs T0 5 [(.int (1 : Int32))] (fun t k => XS.iloadN X0.here hx rfl (hb hby d32_4) rfl k) ?_
  refine vs T0 6 [(.int (4 : Int32)), (.int (1 : Int32))] (fun t k => XS.iconst X0.here hx rfl (hb hby d32_5) k) ?_
  have hc1_6 : (1 : Int32) < (4 : Int32) := (by decide)
  refine vs T0 9 [] (fun t k => XS.icmpNo X0.here hx rfl (hb hby d32_6) rfl (XT.ii_ge_f hc1_6) k) ?_
  refine vs T0 10 [(.ref o2)] (fun t k => XS.aloadN X0.here hx rfl (hb hby d32_9) rfl rfl k) ?_
  obtain ⟨T2, X2, e2, st2⟩ := getF X0 hx hZ hown (host := "") (Or.inl (ww hw 163 rfl)) Via.refl e0 FO (g := (mkF m 10 #[vr o2, vi n, vi (1 : Int32), vi (1 : Int32)] [(.ref o2)])) rfl rfl (hb hby d32_10)
  refine vs T2 13 [(.ref oj)] (fun t k => st2 t k) ?_
  refine vs T2 14 [(.int (1 : Int32)), (.ref oj)] (fun t k => XS.iloadN X2.here hx rfl (hb hby d32_13) rfl k) ?_
  obtain ⟨cl3, Ar3, qc3, S3, NN3, H3, G3⟩ := id VQ
  have in3 := inb_of (j := (1 : Int32)) S3 ⟨by decide, by decide⟩
  have hat3 : cl3.slots[((1 : Int32)).toNatClampNeg]? = some (.int (Int32.ofNat lo)) := H3.at in3 rfl
  refine vs T2 15 [(.int (Int32.ofNat lo))] (fun t k => X2.iaload hx (j := (1 : Int32)) (v := (.int (Int32.ofNat lo))) (own_eqh e2 Ar3.1) (State.isArrayOf_alike hZ.alike Ar3.2.1) Ar3.2.2 in3 hat3 (g := (mkF m 14 #[vr o2, vi n, vi (1 : Int32), vi (1 : Int32)] [(.int (1 : Int32)), (.ref oj)])) rfl rfl (hb hby d32_14) t k) ?_
  refine vs T2 16 [(.ref o2), (.int (Int32.ofNat lo))] (fun t k => XS.aloadN X2.here hx rfl (hb hby d32_15) rfl rfl k) ?_
  obtain ⟨T4, X4, e4, st4⟩ := getF X2 hx hZ hown (host := "") (Or.inl (ww hw 163 rfl)) Via.refl e2 FO (g := (mkF m 16 #[vr o2, vi n, vi (1 : Int32), vi (1 : Int32)] [(.ref o2), (.int (Int32.ofNat lo))])) rfl rfl (hb hby d32_16)
  refine vs T4 19 [(.ref oj), (.int (Int32.ofNat lo))] (fun t k => st4 t k) ?_
  refine vs T4 20 [(.int (1 : Int32)), (.ref oj), (.int (Int32.ofNat lo))] (fun t k => XS.iloadN X4.here hx rfl (hb hby d32_19) rfl k) ?_
  refine vs T4 21 [(.int (1 : Int32)), (.int (1 : Int32)), (.ref oj), (.int (Int32.ofNat lo))] (fun t k => XS.iconst X4.here hx rfl (hb hby d32_20) k) ?_
  refine vs T4 22 [(.int (0 : Int32)), (.ref oj), (.int (Int32.ofNat lo))] (fun t k => XS.isub X4.here hx rfl (hb hby d32_21) rfl k) ?_
  obtain ⟨cl5, Ar5, qc5, S5, NN5, H5, G5⟩ := id VQ
  have in5 := inb_of (j := (0 : Int32)) S5 ⟨by decide, by decide⟩
  have hat5 : cl5.slots[((0 : Int32)).toNatClampNeg]? = some (.int (Int32.ofNat lo)) := H5.at in5 rfl
  refine vs T4 23 [(.int (Int32.ofNat lo)), (.int (Int32.ofNat lo))] (fun t k => X4.iaload hx (j := (0 : Int32)) (v := (.int (Int32.ofNat lo))) (own_eqh e4 Ar5.1) (State.isArrayOf_alike hZ.alike Ar5.2.1) Ar5.2.2 in5 hat5 (g := (mkF m 22 #[vr o2, vi n, vi (1 : Int32), vi (1 : Int32)] [(.int (0 : Int32)), (.ref oj), (.int (Int32.ofNat lo))])) rfl rfl (hb hby d32_22) t k) ?_
  have hc6_23 : (Int32.ofNat lo) = (Int32.ofNat lo) := rfl
  refine vs T4 29 [] (fun t k => XS.icmpYes X4.here hx rfl (pc0 := 23) (pc' := 29) rfl (hb hby d32_23) rfl (XT.ii_eq_t hc6_23) (by decide) (by decide) k) ?_
  refine vv T4 m 32 #[vr o2, vi n, vi (1 : Int32), vi (2 : Int32)] [] (fun t k => XS.iinc X4.here hx rfl (hb hby d32_29) rfl (l' := #[vr o2, vi n, vi (1 : Int32), vi (2 : Int32)]) rfl k) ?_
  refine vs T4 4 [] (fun t k => XS.goto X4.here hx rfl (pc0 := 32) (pc' := 4) rfl (hb hby d32_32) (by decide) (by decide) k) ?_
  refine vs T4 5 [(.int (2 : Int32))] (fun t k => XS.iloadN X4.here hx rfl (hb hby d32_4) rfl k) ?_
  refine vs T4 6 [(.int (4 : Int32)), (.int (2 : Int32))] (fun t k => XS.iconst X4.here hx rfl (hb hby d32_5) k) ?_
  have hc7_6 : (2 : Int32) < (4 : Int32) := (by decide)
  refine vs T4 9 [] (fun t k => XS.icmpNo X4.here hx rfl (hb hby d32_6) rfl (XT.ii_ge_f hc7_6) k) ?_
  refine vs T4 10 [(.ref o2)] (fun t k => XS.aloadN X4.here hx rfl (hb hby d32_9) rfl rfl k) ?_
  obtain ⟨T8, X8, e8, st8⟩ := getF X4 hx hZ hown (host := "") (Or.inl (ww hw 163 rfl)) Via.refl e4 FO (g := (mkF m 10 #[vr o2, vi n, vi (1 : Int32), vi (2 : Int32)] [(.ref o2)])) rfl rfl (hb hby d32_10)
  refine vs T8 13 [(.ref oj)] (fun t k => st8 t k) ?_
  refine vs T8 14 [(.int (2 : Int32)), (.ref oj)] (fun t k => XS.iloadN X8.here hx rfl (hb hby d32_13) rfl k) ?_
  obtain ⟨cl9, Ar9, qc9, S9, NN9, H9, G9⟩ := id VQ
  have in9 := inb_of (j := (2 : Int32)) S9 ⟨by decide, by decide⟩
  have hat9 : cl9.slots[((2 : Int32)).toNatClampNeg]? = some (.int (Int32.ofNat hi)) := H9.at in9 rfl
  refine vs T8 15 [(.int (Int32.ofNat hi))] (fun t k => X8.iaload hx (j := (2 : Int32)) (v := (.int (Int32.ofNat hi))) (own_eqh e8 Ar9.1) (State.isArrayOf_alike hZ.alike Ar9.2.1) Ar9.2.2 in9 hat9 (g := (mkF m 14 #[vr o2, vi n, vi (1 : Int32), vi (2 : Int32)] [(.int (2 : Int32)), (.ref oj)])) rfl rfl (hb hby d32_14) t k) ?_
  refine vs T8 16 [(.ref o2), (.int (Int32.ofNat hi))] (fun t k => XS.aloadN X8.here hx rfl (hb hby d32_15) rfl rfl k) ?_
  obtain ⟨T10, X10, e10, st10⟩ := getF X8 hx hZ hown (host := "") (Or.inl (ww hw 163 rfl)) Via.refl e8 FO (g := (mkF m 16 #[vr o2, vi n, vi (1 : Int32), vi (2 : Int32)] [(.ref o2), (.int (Int32.ofNat hi))])) rfl rfl (hb hby d32_16)
  refine vs T10 19 [(.ref oj), (.int (Int32.ofNat hi))] (fun t k => st10 t k) ?_
  refine vs T10 20 [(.int (2 : Int32)), (.ref oj), (.int (Int32.ofNat hi))] (fun t k => XS.iloadN X10.here hx rfl (hb hby d32_19) rfl k) ?_
  refine vs T10 21 [(.int (1 : Int32)), (.int (2 : Int32)), (.ref oj), (.int (Int32.ofNat hi))] (fun t k => XS.iconst X10.here hx rfl (hb hby d32_20) k) ?_
  refine vs T10 22 [(.int (1 : Int32)), (.ref oj), (.int (Int32.ofNat hi))] (fun t k => XS.isub X10.here hx rfl (hb hby d32_21) rfl k) ?_
  obtain ⟨cl11, Ar11, qc11, S11, NN11, H11, G11⟩ := id VQ
  have in11 := inb_of (j := (1 : Int32)) S11 ⟨by decide, by decide⟩
  have hat11 : cl11.slots[((1 : Int32)).toNatClampNeg]? = some (.int (Int32.ofNat lo)) := H11.at in11 rfl
  refine vs T10 23 [(.int (Int32.ofNat lo)), (.int (Int32.ofNat hi))] (fun t k => X10.iaload hx (j := (1 : Int32)) (v := (.int (Int32.ofNat lo))) (own_eqh e10 Ar11.1) (State.isArrayOf_alike hZ.alike Ar11.2.1) Ar11.2.2 in11 hat11 (g := (mkF m 22 #[vr o2, vi n, vi (1 : Int32), vi (2 : Int32)] [(.int (1 : Int32)), (.ref oj), (.int (Int32.ofNat hi))])) rfl rfl (hb hby d32_22) t k) ?_
  by_cases hc12_23 : (Int32.ofNat hi) = (Int32.ofNat lo)
  · refine vs T10 29 [] (fun t k => XS.icmpYes X10.here hx rfl (pc0 := 23) (pc' := 29) rfl (hb hby d32_23) rfl (XT.ii_eq_t hc12_23) (by decide) (by decide) k) ?_
    refine vv T10 m 32 #[vr o2, vi n, vi (1 : Int32), vi (3 : Int32)] [] (fun t k => XS.iinc X10.here hx rfl (hb hby d32_29) rfl (l' := #[vr o2, vi n, vi (1 : Int32), vi (3 : Int32)]) rfl k) ?_
    refine vs T10 4 [] (fun t k => XS.goto X10.here hx rfl (pc0 := 32) (pc' := 4) rfl (hb hby d32_32) (by decide) (by decide) k) ?_
    refine vs T10 5 [(.int (3 : Int32))] (fun t k => XS.iloadN X10.here hx rfl (hb hby d32_4) rfl k) ?_
    refine vs T10 6 [(.int (4 : Int32)), (.int (3 : Int32))] (fun t k => XS.iconst X10.here hx rfl (hb hby d32_5) k) ?_
    have hc13_6 : (3 : Int32) < (4 : Int32) := (by decide)
    refine vs T10 9 [] (fun t k => XS.icmpNo X10.here hx rfl (hb hby d32_6) rfl (XT.ii_ge_f hc13_6) k) ?_
    refine vs T10 10 [(.ref o2)] (fun t k => XS.aloadN X10.here hx rfl (hb hby d32_9) rfl rfl k) ?_
    obtain ⟨T14, X14, e14, st14⟩ := getF X10 hx hZ hown (host := "") (Or.inl (ww hw 163 rfl)) Via.refl e10 FO (g := (mkF m 10 #[vr o2, vi n, vi (1 : Int32), vi (3 : Int32)] [(.ref o2)])) rfl rfl (hb hby d32_10)
    refine vs T14 13 [(.ref oj)] (fun t k => st14 t k) ?_
    refine vs T14 14 [(.int (3 : Int32)), (.ref oj)] (fun t k => XS.iloadN X14.here hx rfl (hb hby d32_13) rfl k) ?_
    obtain ⟨cl15, Ar15, qc15, S15, NN15, H15, G15⟩ := id VQ
    have in15 := inb_of (j := (3 : Int32)) S15 ⟨by decide, by decide⟩
    have hat15 : cl15.slots[((3 : Int32)).toNatClampNeg]? = some (.int (Int32.ofNat hi)) := H15.at in15 rfl
    refine vs T14 15 [(.int (Int32.ofNat hi))] (fun t k => X14.iaload hx (j := (3 : Int32)) (v := (.int (Int32.ofNat hi))) (own_eqh e14 Ar15.1) (State.isArrayOf_alike hZ.alike Ar15.2.1) Ar15.2.2 in15 hat15 (g := (mkF m 14 #[vr o2, vi n, vi (1 : Int32), vi (3 : Int32)] [(.int (3 : Int32)), (.ref oj)])) rfl rfl (hb hby d32_14) t k) ?_
    refine vs T14 16 [(.ref o2), (.int (Int32.ofNat hi))] (fun t k => XS.aloadN X14.here hx rfl (hb hby d32_15) rfl rfl k) ?_
    obtain ⟨T16, X16, e16, st16⟩ := getF X14 hx hZ hown (host := "") (Or.inl (ww hw 163 rfl)) Via.refl e14 FO (g := (mkF m 16 #[vr o2, vi n, vi (1 : Int32), vi (3 : Int32)] [(.ref o2), (.int (Int32.ofNat hi))])) rfl rfl (hb hby d32_16)
    refine vs T16 19 [(.ref oj), (.int (Int32.ofNat hi))] (fun t k => st16 t k) ?_
    refine vs T16 20 [(.int (3 : Int32)), (.ref oj), (.int (Int32.ofNat hi))] (fun t k => XS.iloadN X16.here hx rfl (hb hby d32_19) rfl k) ?_
    refine vs T16 21 [(.int (1 : Int32)), (.int (3 : Int32)), (.ref oj), (.int (Int32.ofNat hi))] (fun t k => XS.iconst X16.here hx rfl (hb hby d32_20) k) ?_
    refine vs T16 22 [(.int (2 : Int32)), (.ref oj), (.int (Int32.ofNat hi))] (fun t k => XS.isub X16.here hx rfl (hb hby d32_21) rfl k) ?_
    obtain ⟨cl17, Ar17, qc17, S17, NN17, H17, G17⟩ := id VQ
    have in17 := inb_of (j := (2 : Int32)) S17 ⟨by decide, by decide⟩
    have hat17 : cl17.slots[((2 : Int32)).toNatClampNeg]? = some (.int (Int32.ofNat hi)) := H17.at in17 rfl
    refine vs T16 23 [(.int (Int32.ofNat hi)), (.int (Int32.ofNat hi))] (fun t k => X16.iaload hx (j := (2 : Int32)) (v := (.int (Int32.ofNat hi))) (own_eqh e16 Ar17.1) (State.isArrayOf_alike hZ.alike Ar17.2.1) Ar17.2.2 in17 hat17 (g := (mkF m 22 #[vr o2, vi n, vi (1 : Int32), vi (3 : Int32)] [(.int (2 : Int32)), (.ref oj), (.int (Int32.ofNat hi))])) rfl rfl (hb hby d32_22) t k) ?_
    have hc18_23 : (Int32.ofNat hi) = (Int32.ofNat hi) := rfl
    refine vs T16 29 [] (fun t k => XS.icmpYes X16.here hx rfl (pc0 := 23) (pc' := 29) rfl (hb hby d32_23) rfl (XT.ii_eq_t hc18_23) (by decide) (by decide) k) ?_
    refine vv T16 m 32 #[vr o2, vi n, vi (1 : Int32), vi (4 : Int32)] [] (fun t k => XS.iinc X16.here hx rfl (hb hby d32_29) rfl (l' := #[vr o2, vi n, vi (1 : Int32), vi (4 : Int32)]) rfl k) ?_
    refine vs T16 4 [] (fun t k => XS.goto X16.here hx rfl (pc0 := 32) (pc' := 4) rfl (hb hby d32_32) (by decide) (by decide) k) ?_
    refine vs T16 5 [(.int (4 : Int32))] (fun t k => XS.iloadN X16.here hx rfl (hb hby d32_4) rfl k) ?_
    refine vs T16 6 [(.int (4 : Int32)), (.int (4 : Int32))] (fun t k => XS.iconst X16.here hx rfl (hb hby d32_5) k) ?_
    have hc19_6 : ¬ ((4 : Int32) < (4 : Int32)) := (by decide)
    refine vs T16 35 [] (fun t k => XS.icmpYes X16.here hx rfl (pc0 := 6) (pc' := 35) rfl (hb hby d32_6) rfl (XT.ii_ge_t hc19_6) (by decide) (by decide) k) ?_
    refine vs T16 36 [(.int (1 : Int32))] (fun t k => XS.iloadN X16.here hx rfl (hb hby d32_35) rfl k) ?_
    refine vs T16 37 [(.int n), (.int (1 : Int32))] (fun t k => XS.iloadN X16.here hx rfl (hb hby d32_36) rfl k) ?_
    by_cases hc20_37 : (1 : Int32) = n
    · refine vs T16 40 [] (fun t k => XS.icmpNo X16.here hx rfl (hb hby d32_37) rfl (XT.ii_ne_f hc20_37) k) ?_
      refine vs T16 41 [(.int (1 : Int32))] (fun t k => XS.iconst X16.here hx rfl (hb hby d32_40) k) ?_
      refine vs T16 45 [(.int (1 : Int32))] (fun t k => XS.goto X16.here hx rfl (pc0 := 41) (pc' := 45) rfl (hb hby d32_41) (by decide) (by decide) k) ?_
      exact own_fin X16 e16 (v := some (.int (1 : Int32))) (fun h => by rw [hret] at h; cases h) hlk (fun fs hr => retN X16 hx (t := .boolean) hret (by simp) (hb hby d32_45) hr) (show ((fun (v : Option Value) (h : Heap) (L : List Loc) => Q32 Z o2 oj kj lo hi n h0 n0 v h L)) (some (.int (1 : Int32))) h0 _ from ⟨(1 : Int32), rfl, N0, rfl⟩) (by decide) (by decide)
    · refine vs T16 44 [] (fun t k => XS.icmpYes X16.here hx rfl (pc0 := 37) (pc' := 44) rfl (hb hby d32_37) rfl (XT.ii_ne_t hc20_37) (by decide) (by decide) k) ?_
      refine vs T16 45 [(.int (0 : Int32))] (fun t k => XS.iconst X16.here hx rfl (hb hby d32_44) k) ?_
      exact own_fin X16 e16 (v := some (.int (0 : Int32))) (fun h => by rw [hret] at h; cases h) hlk (fun fs hr => retN X16 hx (t := .boolean) hret (by simp) (hb hby d32_45) hr) (show ((fun (v : Option Value) (h : Heap) (L : List Loc) => Q32 Z o2 oj kj lo hi n h0 n0 v h L)) (some (.int (0 : Int32))) h0 _ from ⟨(0 : Int32), rfl, N0, rfl⟩) (by decide) (by decide)
  · refine vs T10 26 [] (fun t k => XS.icmpNo X10.here hx rfl (hb hby d32_23) rfl (XT.ii_eq_f hc12_23) k) ?_
    refine vv T10 m 29 #[vr o2, vi n, vi (2 : Int32), vi (2 : Int32)] [] (fun t k => XS.iinc X10.here hx rfl (hb hby d32_26) rfl (l' := #[vr o2, vi n, vi (2 : Int32), vi (2 : Int32)]) rfl k) ?_
    refine vv T10 m 32 #[vr o2, vi n, vi (2 : Int32), vi (3 : Int32)] [] (fun t k => XS.iinc X10.here hx rfl (hb hby d32_29) rfl (l' := #[vr o2, vi n, vi (2 : Int32), vi (3 : Int32)]) rfl k) ?_
    refine vs T10 4 [] (fun t k => XS.goto X10.here hx rfl (pc0 := 32) (pc' := 4) rfl (hb hby d32_32) (by decide) (by decide) k) ?_
    refine vs T10 5 [(.int (3 : Int32))] (fun t k => XS.iloadN X10.here hx rfl (hb hby d32_4) rfl k) ?_
    refine vs T10 6 [(.int (4 : Int32)), (.int (3 : Int32))] (fun t k => XS.iconst X10.here hx rfl (hb hby d32_5) k) ?_
    have hc21_6 : (3 : Int32) < (4 : Int32) := (by decide)
    refine vs T10 9 [] (fun t k => XS.icmpNo X10.here hx rfl (hb hby d32_6) rfl (XT.ii_ge_f hc21_6) k) ?_
    refine vs T10 10 [(.ref o2)] (fun t k => XS.aloadN X10.here hx rfl (hb hby d32_9) rfl rfl k) ?_
    obtain ⟨T22, X22, e22, st22⟩ := getF X10 hx hZ hown (host := "") (Or.inl (ww hw 163 rfl)) Via.refl e10 FO (g := (mkF m 10 #[vr o2, vi n, vi (2 : Int32), vi (3 : Int32)] [(.ref o2)])) rfl rfl (hb hby d32_10)
    refine vs T22 13 [(.ref oj)] (fun t k => st22 t k) ?_
    refine vs T22 14 [(.int (3 : Int32)), (.ref oj)] (fun t k => XS.iloadN X22.here hx rfl (hb hby d32_13) rfl k) ?_
    obtain ⟨cl23, Ar23, qc23, S23, NN23, H23, G23⟩ := id VQ
    have in23 := inb_of (j := (3 : Int32)) S23 ⟨by decide, by decide⟩
    have hat23 : cl23.slots[((3 : Int32)).toNatClampNeg]? = some (.int (Int32.ofNat hi)) := H23.at in23 rfl
    refine vs T22 15 [(.int (Int32.ofNat hi))] (fun t k => X22.iaload hx (j := (3 : Int32)) (v := (.int (Int32.ofNat hi))) (own_eqh e22 Ar23.1) (State.isArrayOf_alike hZ.alike Ar23.2.1) Ar23.2.2 in23 hat23 (g := (mkF m 14 #[vr o2, vi n, vi (2 : Int32), vi (3 : Int32)] [(.int (3 : Int32)), (.ref oj)])) rfl rfl (hb hby d32_14) t k) ?_
    refine vs T22 16 [(.ref o2), (.int (Int32.ofNat hi))] (fun t k => XS.aloadN X22.here hx rfl (hb hby d32_15) rfl rfl k) ?_
    obtain ⟨T24, X24, e24, st24⟩ := getF X22 hx hZ hown (host := "") (Or.inl (ww hw 163 rfl)) Via.refl e22 FO (g := (mkF m 16 #[vr o2, vi n, vi (2 : Int32), vi (3 : Int32)] [(.ref o2), (.int (Int32.ofNat hi))])) rfl rfl (hb hby d32_16)
    refine vs T24 19 [(.ref oj), (.int (Int32.ofNat hi))] (fun t k => st24 t k) ?_
    refine vs T24 20 [(.int (3 : Int32)), (.ref oj), (.int (Int32.ofNat hi))] (fun t k => XS.iloadN X24.here hx rfl (hb hby d32_19) rfl k) ?_
    refine vs T24 21 [(.int (1 : Int32)), (.int (3 : Int32)), (.ref oj), (.int (Int32.ofNat hi))] (fun t k => XS.iconst X24.here hx rfl (hb hby d32_20) k) ?_
    refine vs T24 22 [(.int (2 : Int32)), (.ref oj), (.int (Int32.ofNat hi))] (fun t k => XS.isub X24.here hx rfl (hb hby d32_21) rfl k) ?_
    obtain ⟨cl25, Ar25, qc25, S25, NN25, H25, G25⟩ := id VQ
    have in25 := inb_of (j := (2 : Int32)) S25 ⟨by decide, by decide⟩
    have hat25 : cl25.slots[((2 : Int32)).toNatClampNeg]? = some (.int (Int32.ofNat hi)) := H25.at in25 rfl
    refine vs T24 23 [(.int (Int32.ofNat hi)), (.int (Int32.ofNat hi))] (fun t k => X24.iaload hx (j := (2 : Int32)) (v := (.int (Int32.ofNat hi))) (own_eqh e24 Ar25.1) (State.isArrayOf_alike hZ.alike Ar25.2.1) Ar25.2.2 in25 hat25 (g := (mkF m 22 #[vr o2, vi n, vi (2 : Int32), vi (3 : Int32)] [(.int (2 : Int32)), (.ref oj), (.int (Int32.ofNat hi))])) rfl rfl (hb hby d32_22) t k) ?_
    have hc26_23 : (Int32.ofNat hi) = (Int32.ofNat hi) := rfl
    refine vs T24 29 [] (fun t k => XS.icmpYes X24.here hx rfl (pc0 := 23) (pc' := 29) rfl (hb hby d32_23) rfl (XT.ii_eq_t hc26_23) (by decide) (by decide) k) ?_
    refine vv T24 m 32 #[vr o2, vi n, vi (2 : Int32), vi (4 : Int32)] [] (fun t k => XS.iinc X24.here hx rfl (hb hby d32_29) rfl (l' := #[vr o2, vi n, vi (2 : Int32), vi (4 : Int32)]) rfl k) ?_
    refine vs T24 4 [] (fun t k => XS.goto X24.here hx rfl (pc0 := 32) (pc' := 4) rfl (hb hby d32_32) (by decide) (by decide) k) ?_
    refine vs T24 5 [(.int (4 : Int32))] (fun t k => XS.iloadN X24.here hx rfl (hb hby d32_4) rfl k) ?_
    refine vs T24 6 [(.int (4 : Int32)), (.int (4 : Int32))] (fun t k => XS.iconst X24.here hx rfl (hb hby d32_5) k) ?_
    have hc27_6 : ¬ ((4 : Int32) < (4 : Int32)) := (by decide)
    refine vs T24 35 [] (fun t k => XS.icmpYes X24.here hx rfl (pc0 := 6) (pc' := 35) rfl (hb hby d32_6) rfl (XT.ii_ge_t hc27_6) (by decide) (by decide) k) ?_
    refine vs T24 36 [(.int (2 : Int32))] (fun t k => XS.iloadN X24.here hx rfl (hb hby d32_35) rfl k) ?_
    refine vs T24 37 [(.int n), (.int (2 : Int32))] (fun t k => XS.iloadN X24.here hx rfl (hb hby d32_36) rfl k) ?_
    by_cases hc28_37 : (2 : Int32) = n
    · refine vs T24 40 [] (fun t k => XS.icmpNo X24.here hx rfl (hb hby d32_37) rfl (XT.ii_ne_f hc28_37) k) ?_
      refine vs T24 41 [(.int (1 : Int32))] (fun t k => XS.iconst X24.here hx rfl (hb hby d32_40) k) ?_
      refine vs T24 45 [(.int (1 : Int32))] (fun t k => XS.goto X24.here hx rfl (pc0 := 41) (pc' := 45) rfl (hb hby d32_41) (by decide) (by decide) k) ?_
      exact own_fin X24 e24 (v := some (.int (1 : Int32))) (fun h => by rw [hret] at h; cases h) hlk (fun fs hr => retN X24 hx (t := .boolean) hret (by simp) (hb hby d32_45) hr) (show ((fun (v : Option Value) (h : Heap) (L : List Loc) => Q32 Z o2 oj kj lo hi n h0 n0 v h L)) (some (.int (1 : Int32))) h0 _ from ⟨(1 : Int32), rfl, N0, rfl⟩) (by decide) (by decide)
    · refine vs T24 44 [] (fun t k => XS.icmpYes X24.here hx rfl (pc0 := 37) (pc' := 44) rfl (hb hby d32_37) rfl (XT.ii_ne_t hc28_37) (by decide) (by decide) k) ?_
      refine vs T24 45 [(.int (0 : Int32))] (fun t k => XS.iconst X24.here hx rfl (hb hby d32_44) k) ?_
      exact own_fin X24 e24 (v := some (.int (0 : Int32))) (fun h => by rw [hret] at h; cases h) hlk (fun fs hr => retN X24 hx (t := .boolean) hret (by simp) (hb hby d32_45) hr) (show ((fun (v : Option Value) (h : Heap) (L : List Loc) => Q32 Z o2 oj kj lo hi n h0 n0 v h L)) (some (.int (0 : Int32))) h0 _ from ⟨(0 : Int32), rfl, N0, rfl⟩) (by decide) (by decide)
theorem ef_32 (m : MethodId) (o2 : Addr) (n : Int32) : entryFrame m #[(.ref o2), (.int n)] 4 = mkF m 0 #[vr o2, vi n, .unset, .unset] [] := by first | (simp [entryFrame, mkF, argsToLocals, Value.category, maxLocals]; done) | rfl
theorem rm32 (l : Launch) (Z : State) (a0 : Array Value) (hw : ∀ d ∈ tables_1, d.before a0 Z = true) (ws : List Jvm.Cond) (o2 : Addr) (oj : Addr) (kj : ClassId) (lo : Nat) (hi : Nat) (n : Int32) (h0 : Heap) (n0 : Nat) (Z0 : n0 ≤ h0.size) (FO : Fld Z h0 o2 "com/example/clew/clew/DefaultSearch$Sieve" "positions" "[I" (.ref oj)) (VQ : Arv Z h0 oj kj .int (4 : Int32) [(.int (Int32.ofNat lo)), (.int (Int32.ofNat lo)), (.int (Int32.ofNat hi)), (.int (Int32.ofNat hi))] (.int (0 : Int32))) :
    MetFree l (⟨"com/example/clew/clew/DefaultSearch$Sieve", "testsEvery", "(I)Z"⟩ : MethodName) (head1 (Jvm.Cond.code (⟨"com/example/clew/clew/DefaultSearch$Sieve", "testsEvery", "(I)Z"⟩ : MethodName) prog_13_method_2_code 4 (some .boolean) :: ws) ({ frames := 0, cells := 0, slots := 0, locals := 0 } : Room)) (fun a U => a = #[(.ref o2), (.int n)] ∧ Z.Warmed39 U.vm ∧ U.heap = h0) (fun _ _ _ _ _ => True) (fun _ U o U' => ∃ v L, o = .returned v ∧ Q32 Z o2 oj kj lo hi n h0 n0 v U'.heap L ∧ FrameEnd U o U' L ({ frames := 0, cells := 0, slots := 0, locals := 0 } : Room).cells ({ frames := 0, cells := 0, slots := 0, locals := 0 } : Room).slots) := by
  refine MetFree.of_bodySF (plainFor_of_name pn_7) hisR ?_
  intro p e s m args below meth c s₁ Bd hml0 hP hK
  obtain ⟨rfl, hZ, hh⟩ := hP
  have e0 : s₁.heap = h0 := by rw [← hh, Bd.state]; rfl
  rw [ef_32 m o2 n]
  exact b32 o2 oj kj lo hi n ⟨Bd.exec, hZ, hw, Bd.bytes, hml0, findClass_of_methodNamed Bd.named, Bd.returns, Bd.notSynchronized, (name_of_methodNamed Bd.named Bd.method).1⟩ (Stand.of_body Bd) e0 Z0 (Fr.nil n0) FO VQ
def Q31 (Z : State) (o1 : Addr) (ow : Addr) (kw : ClassId) (cs : List Int32) (o2 : Addr) (oj : Addr) (kj : ClassId) (lo : Nat) (hi : Nat) (wv : Int32) (h0 : Heap) (n0 : Nat) (v : Option Value) (h : Heap) (L : List Loc) : Prop := v = none ∧ Fr n0 L ∧ Keep h0 h [o1] ∧ Fld Z h o1 "com/example/clew/clew/CharFilter" "sieve" "Lcom/example/clew/clew/DefaultSearch$Sieve;" (.ref o2)
theorem d31_0 : dq cb37 0 (.aload_n 0) 1 := by decide +kernel
theorem d31_1 : dq cb37 1 (.aload_n 1) 1 := by decide +kernel
theorem d31_2 : dq cb37 2 (.putfield 75) 3 := by decide +kernel
theorem d31_5 : dq cb37 5 (.aload_n 0) 1 := by decide +kernel
theorem d31_6 : dq cb37 6 (.aload_n 1) 1 := by decide +kernel
theorem d31_7 : dq cb37 7 (.aload_n 0) 1 := by decide +kernel
theorem d31_8 : dq cb37 8 (.getfield 26) 3 := by decide +kernel
theorem d31_11 : dq cb37 11 .arraylength 1 := by decide +kernel
theorem d31_12 : dq cb37 12 (.invokevirtual 79) 3 := by decide +kernel
theorem pd_20 : parseMethodDescriptor "(I)Z" = some ⟨[.int], some .boolean⟩ := by decide +kernel
theorem d31_15 : dq cb37 15 (.putfield 85) 3 := by decide +kernel
theorem d31_18 : dq cb37 18 .return_ 1 := by decide +kernel
theorem b31  (o1 : Addr) (ow : Addr) (kw : ClassId) (cs : List Int32) (o2 : Addr) (oj : Addr) (kj : ClassId) (lo : Nat) (hi : Nat) (wv : Int32)
    (C : own_C p s m meth c Z a0 prog_6_method_2_code 2 "com/example/clew/clew/CharFilter" none "test") (X0 : Stand p l e ({ frames := 1, cells := 0, slots := 0, locals := 16 } : Room) s m args below meth c T0 locs 0 0) (e0 : T0.heap = h0) (Z0 : n0 ≤ h0.size) (N0 : Fr n0 locs) (EO : Exa Z h0 o1 "com/example/clew/clew/CharFilter") (FP : Fld Z h0 o1 "com/example/clew/clew/CharFilter" "pattern" "[C" (.ref ow)) (VW : Arv Z h0 ow kw .char (Int32.ofNat cs.length) (own_iv cs) (.int (0 : Int32))) (FV : Fld Z h0 o1 "com/example/clew/clew/CharFilter" "sieve" "Lcom/example/clew/clew/DefaultSearch$Sieve;" .null) (FH : Fld Z h0 o1 "com/example/clew/clew/CharFilter" "whole" "Z" (.int wv)) (ES : Exa Z h0 o2 "com/example/clew/clew/DefaultSearch$Sieve") (FO : Fld Z h0 o2 "com/example/clew/clew/DefaultSearch$Sieve" "positions" "[I" (.ref oj)) (VQ : Arv Z h0 oj kj .int (4 : Int32) [(.int (Int32.ofNat lo)), (.int (Int32.ofNat lo)), (.int (Int32.ofNat hi)), (.int (Int32.ofNat hi))] (.int (0 : Int32))) (g_o1 : n0 ≤ o1) (ne_12 : o1 ≠ o2) (ne_1j : o1 ≠ oj) (ne_1w : o1 ≠ ow) :
    own_Go p.tables e below (T0.setTop (mkF m 0 #[vr o1, vr o2] [])) (own_K s (fun (v : Option Value) (h : Heap) (L : List Loc) => Q31 Z o1 ow kw cs o2 oj kj lo hi wv h0 n0 v h L) ({ frames := 1, cells := 0, slots := 0, locals := 16 } : Room).cells ({ frames := 1, cells := 0, slots := 0, locals := 16 } : Room).slots) := by
  obtain ⟨hx, hZ, hw, hby, hml, hown, hret, hlk, hnm⟩ := C
  refine vs T0 1 [(.ref o1)] (fun t k => XS.aloadN X0.here hx rfl (hb hby d31_0) rfl rfl k) ?_
  refine vs T0 2 [(.ref o2), (.ref o1)] (fun t k => XS.aloadN X0.here hx rfl (hb hby d31_1) rfl rfl k) ?_
  obtain ⟨T1, h1, X1, e1, W1, st1⟩ := putF X0 hx hZ hown (host := "") (Or.inl (ww hw 177 rfl)) Via.refl e0 FV EO (Or.inl (ww hw 178 rfl)) (ww hw 31 rfl) (ty := (.object "com/example/clew/clew/DefaultSearch$Sieve")) (by decide) rfl rfl (g := (mkF m 2 #[vr o1, vr o2] [(.ref o2), (.ref o1)])) rfl rfl (hb hby d31_2)
  have FV'1 := FV.same W1
  have EO'1 := EO.wr W1
  have FP'1 := FP.other W1 (Or.inr (slot_ne (Or.inr (ww hw 62 rfl)) (Or.inl (ww hw 178 rfl)) (by decide) (t := (.array .char)) (t' := (.object "com/example/clew/clew/DefaultSearch$Sieve")) (by decide) (by decide)))
  have VW'1 := VW.other W1 (Ne.symm ne_1w)
  have FH'1 := FH.other W1 (Or.inr (slot_ne (Or.inl (ww hw 185 rfl)) (Or.inl (ww hw 178 rfl)) (by decide) (t := .boolean) (t' := (.object "com/example/clew/clew/DefaultSearch$Sieve")) (by decide) (by decide)))
  have ES'1 := ES.wr W1
  have FO'1 := FO.other W1 (Or.inl (Ne.symm ne_12))
  have VQ'1 := VQ.other W1 (Ne.symm ne_1j)
  have N1 := Fr.snoc X1 N0 g_o1
  have Z1 : n0 ≤ h1.size := Nat.le_trans Z0 (Keep.of_wr W1).1
  have K1 := ((Keep.refl h0 [o1])).wr W1 (Or.inl (List.mem_of_getElem? (i := 0) rfl))
  refine vs T1 5 [] (fun t k => st1 t k) ?_
  refine vs T1 6 [(.ref o1)] (fun t k => XS.aloadN X1.here hx rfl (hb hby d31_5) rfl rfl k) ?_
  refine vs T1 7 [(.ref o2), (.ref o1)] (fun t k => XS.aloadN X1.here hx rfl (hb hby d31_6) rfl rfl k) ?_
  refine vs T1 8 [(.ref o1), (.ref o2), (.ref o1)] (fun t k => XS.aloadN X1.here hx rfl (hb hby d31_7) rfl rfl k) ?_
  obtain ⟨T2, X2, e2, st2⟩ := getF X1 hx hZ hown (host := "") (Or.inl (ww hw 61 rfl)) Via.refl e1 FP'1 (g := (mkF m 8 #[vr o1, vr o2] [(.ref o1), (.ref o2), (.ref o1)])) rfl rfl (hb hby d31_8)
  refine vs T2 11 [(.ref ow), (.ref o2), (.ref o1)] (fun t k => st2 t k) ?_
  obtain ⟨cl3, Ar3, -, S3, NN3, -, -⟩ := id VW'1
  refine vs T2 12 [(.int (Int32.ofNat cs.length)), (.ref o2), (.ref o1)] (fun t k => own_len X2 hx hZ e2 Ar3 S3 NN3 (g := (mkF m 11 #[vr o1, vr o2] [(.ref ow), (.ref o2), (.ref o1)])) rfl rfl (hb hby d31_11) k) ?_
  obtain ⟨cq4, kq4, q4a, q4b, q4c⟩ := isOf hZ e2 ES'1
  obtain ⟨_, _, ⟨T4, L4, k4, n4⟩, -, X4, ⟨Lc4, hQ4, l4, y4, z4⟩, st4⟩ := X2.virtualBack hx (y := (⟨"com/example/clew/clew/DefaultSearch$Sieve", "testsEvery", "(I)Z"⟩ : MethodName)) (z := (⟨"com/example/clew/clew/DefaultSearch$Sieve", "testsEvery", "(I)Z"⟩ : MethodName)) hown (mvT hZ (ww hw 179 rfl)) (mvT hZ (ww hw 180 rfl)) (notFace_of_selects (args := #[]) (mvT hZ (ww hw 182 rfl))) (mvT hZ (ww hw 182 rfl)) (mvT hZ (ww hw 181 rfl)) (by decide) (backOf (W := 1) (rm32 l Z a0 hw [] o2 oj kj lo hi (Int32.ofNat cs.length) h1 n0 Z1 FO'1 VQ'1) hZ (ww hw 183 rfl) (ww hw 153 rfl) (by decide) (by decide)) q4a q4c (g := (mkF m 12 #[vr o1, vr o2] [(.int (Int32.ofNat cs.length)), (.ref o2), (.ref o1)])) rfl (by rw [hml]; rfl) (Steps.refl _) (argsL := [(.int (Int32.ofNat cs.length))]) (rest := [(.ref o1)]) (lenOf pd_20 rfl) rfl (by show 2 * 0 + _ ≤ _; exact Nat.le_of_eq rfl) (hb hby d31_12) (fun _ _ => ⟨rfl, e2, (by decide : 0 + 0 ≤ _), (by decide : 0 + 0 ≤ _)⟩)
  dsimp only [Pt.U, Pt.locs, Pt.cells, Pt.slots] at X4 l4 y4 z4 st4 hQ4
  subst l4 y4 z4
  obtain ⟨tz_4, rfl, Nq4, eh4⟩ := hQ4
  have N4 := Fr.app N1 Nq4
  refine vs T4 15 [(.int tz_4), (.ref o1)] (fun t k => st4.trans k) ?_
  obtain ⟨T5, h5, X5, e5, W5, st5⟩ := putFN X4 hx hZ hown (ww hw 184 rfl) Via.refl eh4 FH'1 EO'1 (Or.inl (ww hw 185 rfl)) (ww hw 31 rfl) (ty := .boolean) (v' := (.int (nar .boolean tz_4))) (by decide) rfl (fits_nar_bool _) (g := (mkF m 15 #[vr o1, vr o2] [(.int tz_4), (.ref o1)])) rfl rfl (hb hby d31_15)
  have FH'5 := FH'1.same W5
  have EO'5 := EO'1.wr W5
  have FP'5 := FP'1.other W5 (Or.inr (slot_ne (Or.inr (ww hw 62 rfl)) (Or.inl (ww hw 185 rfl)) (by decide) (t := (.array .char)) (t' := .boolean) (by decide) (by decide)))
  have VW'5 := VW'1.other W5 (Ne.symm ne_1w)
  have FV'5 := FV'1.other W5 (Or.inr (slot_ne (Or.inl (ww hw 178 rfl)) (Or.inl (ww hw 185 rfl)) (by decide) (t := (.object "com/example/clew/clew/DefaultSearch$Sieve")) (t' := .boolean) (by decide) (by decide)))
  have ES'5 := ES'1.wr W5
  have FO'5 := FO'1.other W5 (Or.inl (Ne.symm ne_12))
  have VQ'5 := VQ'1.other W5 (Ne.symm ne_1j)
  have N5 := Fr.snoc X5 N4 g_o1
  have Z5 : n0 ≤ h5.size := Nat.le_trans Z1 (Keep.of_wr W5).1
  have K5 := (K1).wr W5 (Or.inl (List.mem_of_getElem? (i := 0) rfl))
  refine vs T5 18 [] (fun t k => st5 t k) ?_
  exact own_fin X5 e5 (v := none) (fun _ => rfl) hlk (fun fs hr => X5.returnOut hx hret (hb hby d31_18) hr) (show ((fun (v : Option Value) (h : Heap) (L : List Loc) => Q31 Z o1 ow kw cs o2 oj kj lo hi wv h0 n0 v h L)) none h5 _ from ⟨rfl, N5, K5, (FV'5)⟩) (by decide) (by decide)
theorem ef_31 (m : MethodId) (o1 : Addr) (o2 : Addr) : entryFrame m #[(.ref o1), (.ref o2)] 2 = mkF m 0 #[vr o1, vr o2] [] := by first | (simp [entryFrame, mkF, argsToLocals, Value.category, maxLocals]; done) | rfl
theorem rm31 (l : Launch) (Z : State) (a0 : Array Value) (hw : ∀ d ∈ tables_1, d.before a0 Z = true) (ws : List Jvm.Cond) (o1 : Addr) (ow : Addr) (kw : ClassId) (cs : List Int32) (o2 : Addr) (oj : Addr) (kj : ClassId) (lo : Nat) (hi : Nat) (wv : Int32) (h0 : Heap) (n0 : Nat) (Z0 : n0 ≤ h0.size) (EO : Exa Z h0 o1 "com/example/clew/clew/CharFilter") (FP : Fld Z h0 o1 "com/example/clew/clew/CharFilter" "pattern" "[C" (.ref ow)) (VW : Arv Z h0 ow kw .char (Int32.ofNat cs.length) (own_iv cs) (.int (0 : Int32))) (FV : Fld Z h0 o1 "com/example/clew/clew/CharFilter" "sieve" "Lcom/example/clew/clew/DefaultSearch$Sieve;" .null) (FH : Fld Z h0 o1 "com/example/clew/clew/CharFilter" "whole" "Z" (.int wv)) (ES : Exa Z h0 o2 "com/example/clew/clew/DefaultSearch$Sieve") (FO : Fld Z h0 o2 "com/example/clew/clew/DefaultSearch$Sieve" "positions" "[I" (.ref oj)) (VQ : Arv Z h0 oj kj .int (4 : Int32) [(.int (Int32.ofNat lo)), (.int (Int32.ofNat lo)), (.int (Int32.ofNat hi)), (.int (Int32.ofNat hi))] (.int (0 : Int32))) (g_o1 : n0 ≤ o1) (ne_12 : o1 ≠ o2) (ne_1j : o1 ≠ oj) (ne_1w : o1 ≠ ow) :
    MetFree l (⟨"com/example/clew/clew/CharFilter", "test", "(Lcom/example/clew/clew/DefaultSearch$Sieve;)V"⟩ : MethodName) (head1 (Jvm.Cond.code (⟨"com/example/clew/clew/CharFilter", "test", "(Lcom/example/clew/clew/DefaultSearch$Sieve;)V"⟩ : MethodName) prog_6_method_2_code 2 none :: ws) ({ frames := 1, cells := 0, slots := 0, locals := 16 } : Room)) (fun a U => a = #[(.ref o1), (.ref o2)] ∧ Z.Warmed39 U.vm ∧ U.heap = h0) (fun _ _ _ _ _ => True) (fun _ U o U' => ∃ v L, o = .returned v ∧ Q31 Z o1 ow kw cs o2 oj kj lo hi wv h0 n0 v U'.heap L ∧ FrameEnd U o U' L ({ frames := 1, cells := 0, slots := 0, locals := 16 } : Room).cells ({ frames := 1, cells := 0, slots := 0, locals := 16 } : Room).slots) := by
  refine MetFree.of_bodySF (plainFor_of_name pn_6) hisR ?_
  intro p e s m args below meth c s₁ Bd hml0 hP hK
  obtain ⟨rfl, hZ, hh⟩ := hP
  have e0 : s₁.heap = h0 := by rw [← hh, Bd.state]; rfl
  rw [ef_31 m o1 o2]
  exact b31 o1 ow kw cs o2 oj kj lo hi wv ⟨Bd.exec, hZ, hw, Bd.bytes, hml0, findClass_of_methodNamed Bd.named, Bd.returns, Bd.notSynchronized, (name_of_methodNamed Bd.named Bd.method).1⟩ (Stand.of_body Bd) e0 Z0 (Fr.nil n0) EO FP VW FV FH ES FO VQ g_o1 ne_12 ne_1j ne_1w
def Q33 (Z : State) (o1 : Addr) (o2 : Addr) (oj : Addr) (kj : ClassId) (lo : Nat) (hi : Nat) (h0 : Heap) (n0 : Nat) (v : Option Value) (h : Heap) (L : List Loc) : Prop := ∃ bz : Addr, ∃ kz : ClassId, v = some (.ref bz) ∧ Fr n0 L ∧ Keep h0 h [] ∧ h0.size ≤ bz ∧ Arv Z h bz kz .int (4 : Int32) [(.int (Int32.ofNat lo)), (.int (Int32.ofNat lo)), (.int (Int32.ofNat hi)), (.int (Int32.ofNat hi))] (.int (0 : Int32))
theorem d33_0 : dq cb38 0 (.aload_n 0) 1 := by decide +kernel
theorem d33_1 : dq cb38 1 (.getfield 75) 3 := by decide +kernel
theorem d33_4 : dq cb38 4 (.getfield 89) 3 := by decide +kernel
theorem d33_7 : dq cb38 7 (.invokevirtual 93) 3 := by decide +kernel
theorem d33_10 : dq cb38 10 (.checkcast 94) 3 := by decide +kernel
theorem d33_13 : dq cb38 13 .areturn 1 := by decide +kernel
theorem b33  (o1 : Addr) (o2 : Addr) (oj : Addr) (kj : ClassId) (lo : Nat) (hi : Nat)
    (C : own_C p s m meth c Z a0 prog_6_method_3_code 1 "com/example/clew/clew/CharFilter" (some (.array .int)) "tested") (X0 : Stand p l e ({ frames := 1, cells := 1, slots := 4, locals := 14 } : Room) s m args below meth c T0 locs 0 0) (e0 : T0.heap = h0) (Z0 : n0 ≤ h0.size) (N0 : Fr n0 locs) (FV : Fld Z h0 o1 "com/example/clew/clew/CharFilter" "sieve" "Lcom/example/clew/clew/DefaultSearch$Sieve;" (.ref o2)) (FO : Fld Z h0 o2 "com/example/clew/clew/DefaultSearch$Sieve" "positions" "[I" (.ref oj)) (VQ : Arv Z h0 oj kj .int (4 : Int32) [(.int (Int32.ofNat lo)), (.int (Int32.ofNat lo)), (.int (Int32.ofNat hi)), (.int (Int32.ofNat hi))] (.int (0 : Int32))) (EJ : Exa Z h0 oj "[I") :
    own_Go p.tables e below (T0.setTop (mkF m 0 #[vr o1] [])) (own_K s (fun (v : Option Value) (h : Heap) (L : List Loc) => Q33 Z o1 o2 oj kj lo hi h0 n0 v h L) ({ frames := 1, cells := 1, slots := 4, locals := 14 } : Room).cells ({ frames := 1, cells := 1, slots := 4, locals := 14 } : Room).slots) := by
  obtain ⟨hx, hZ, hw, hby, hml, hown, hret, hlk, hnm⟩ := C
  refine vs T0 1 [(.ref o1)] (fun t k => XS.aloadN X0.here hx rfl (hb hby d33_0) rfl rfl k) ?_
  obtain ⟨T1, X1, e1, st1⟩ := getF X0 hx hZ hown (host := "") (Or.inl (ww hw 177 rfl)) Via.refl e0 FV (g := (mkF m 1 #[vr o1] [(.ref o1)])) rfl rfl (hb hby d33_1)
  refine vs T1 4 [(.ref o2)] (fun t k => st1 t k) ?_
  obtain ⟨T2, X2, e2, st2⟩ := getF X1 hx hZ hown (host := "") (Or.inl (ww hw 191 rfl)) Via.refl e1 FO (g := (mkF m 4 #[vr o1] [(.ref o2)])) rfl rfl (hb hby d33_4)
  refine vs T2 7 [(.ref oj)] (fun t k => st2 t k) ?_
  obtain ⟨T3, h3, X3, e3, E3, A3, XA3, st3⟩ := cloneH X2 hx hZ hown (ww hw 192 rfl) (ww hw 193 rfl) (ww hw 197 rfl) (ww hw 195 rfl) (ww hw 196 rfl) (ww hw 198 rfl) e2 (Arv.arh VQ) EJ (g := (mkF m 7 #[vr o1] [(.ref oj)])) rfl (by rw [hml]; rfl) rfl (hb hby d33_7) (by decide) (W := 0) (cap := 4) (by show 2 * 0 + _ ≤ _; exact Nat.le_of_eq rfl) (by decide) (by decide) (by decide) (by decide)
  obtain ⟨b3, g3⟩ : ∃ z, z = h0.size := ⟨_, rfl⟩
  rw [← g3] at A3 XA3 st3
  have ne_o1_b3 : o1 ≠ b3 := Nat.ne_of_lt (Nat.lt_of_lt_of_le FV.lt (Nat.le_of_eq g3.symm))
  have ne_o2_b3 : o2 ≠ b3 := Nat.ne_of_lt (Nat.lt_of_lt_of_le FO.lt (Nat.le_of_eq g3.symm))
  have ne_oj_b3 : oj ≠ b3 := Nat.ne_of_lt (Nat.lt_of_lt_of_le VQ.lt (Nat.le_of_eq g3.symm))
  have g_b3 : n0 ≤ b3 := Nat.le_trans Z0 (Nat.le_of_eq g3.symm)
  have FV'3 := FV.ext E3
  have FO'3 := FO.ext E3
  have VQ'3 := VQ.ext E3
  have EJ'3 := EJ.ext E3
  have sz_b3 : h0.size ≤ b3 := Nat.le_trans ((Keep.refl h0 [])).1 (Nat.le_of_eq g3.symm)
  have K3 := ((Keep.refl h0 [])).ext E3
  have Z3 : n0 ≤ h3.size := Nat.le_trans Z0 E3.1
  have V_b3 : Arv Z h3 b3 kj .int (4 : Int32) [(.int (Int32.ofNat lo)), (.int (Int32.ofNat lo)), (.int (Int32.ofNat hi)), (.int (Int32.ofNat hi))] (.int (0 : Int32)) := A3
  refine vs T3 10 [(.ref b3)] (fun t k => st3 t k) ?_
  obtain ⟨T4, X4, e4, st4⟩ := castY X3 hx hZ hown (ww hw 199 rfl) e3 (Ins.of_exa XA3 (ww hw 200 rfl)) (g := (mkF m 10 #[vr o1] [(.ref b3)])) rfl rfl (hb hby d33_10)
  refine vs T4 13 [(.ref b3)] (fun t k => st4 t k) ?_
  exact own_fin X4 e4 (v := some (.ref b3)) (fun h => by rw [hret] at h; cases h) hlk (fun fs hr => X4.areturnOut hx rfl hret rfl (hb hby d33_13) hr) (show ((fun (v : Option Value) (h : Heap) (L : List Loc) => Q33 Z o1 o2 oj kj lo hi h0 n0 v h L)) (some (.ref b3)) h3 _ from ⟨b3, kj, rfl, N0, K3, sz_b3, (V_b3)⟩) (by decide) (by decide)
theorem ef_33 (m : MethodId) (o1 : Addr) : entryFrame m #[(.ref o1)] 1 = mkF m 0 #[vr o1] [] := by first | (simp [entryFrame, mkF, argsToLocals, Value.category, maxLocals]; done) | rfl
theorem rm33 (l : Launch) (Z : State) (a0 : Array Value) (hw : ∀ d ∈ tables_1, d.before a0 Z = true) (ws : List Jvm.Cond) (o1 : Addr) (o2 : Addr) (oj : Addr) (kj : ClassId) (lo : Nat) (hi : Nat) (h0 : Heap) (n0 : Nat) (Z0 : n0 ≤ h0.size) (FV : Fld Z h0 o1 "com/example/clew/clew/CharFilter" "sieve" "Lcom/example/clew/clew/DefaultSearch$Sieve;" (.ref o2)) (FO : Fld Z h0 o2 "com/example/clew/clew/DefaultSearch$Sieve" "positions" "[I" (.ref oj)) (VQ : Arv Z h0 oj kj .int (4 : Int32) [(.int (Int32.ofNat lo)), (.int (Int32.ofNat lo)), (.int (Int32.ofNat hi)), (.int (Int32.ofNat hi))] (.int (0 : Int32))) (EJ : Exa Z h0 oj "[I") :
    MetFree l (⟨"com/example/clew/clew/CharFilter", "tested", "()[I"⟩ : MethodName) (head1 (Jvm.Cond.code (⟨"com/example/clew/clew/CharFilter", "tested", "()[I"⟩ : MethodName) prog_6_method_3_code 1 (some (.array .int)) :: ws) ({ frames := 1, cells := 1, slots := 4, locals := 14 } : Room)) (fun a U => a = #[(.ref o1)] ∧ Z.Warmed39 U.vm ∧ U.heap = h0) (fun _ _ _ _ _ => True) (fun _ U o U' => ∃ v L, o = .returned v ∧ Q33 Z o1 o2 oj kj lo hi h0 n0 v U'.heap L ∧ FrameEnd U o U' L ({ frames := 1, cells := 1, slots := 4, locals := 14 } : Room).cells ({ frames := 1, cells := 1, slots := 4, locals := 14 } : Room).slots) := by
  refine MetFree.of_bodySF (plainFor_of_name pn_6) hisR ?_
  intro p e s m args below meth c s₁ Bd hml0 hP hK
  obtain ⟨rfl, hZ, hh⟩ := hP
  have e0 : s₁.heap = h0 := by rw [← hh, Bd.state]; rfl
  rw [ef_33 m o1]
  exact b33 o1 o2 oj kj lo hi ⟨Bd.exec, hZ, hw, Bd.bytes, hml0, findClass_of_methodNamed Bd.named, Bd.returns, Bd.notSynchronized, (name_of_methodNamed Bd.named Bd.method).1⟩ (Stand.of_body Bd) e0 Z0 (Fr.nil n0) FV FO VQ EJ
def own_gap (k f : Nat) : Nat := if k < f then f - k else k - f
theorem own_gap4 {k f : Nat} (hk : k ≤ 4) (hf : f ≤ 4) : own_gap k f ≤ 4 := by unfold own_gap; split <;> omega
theorem own_abg {i f : Nat} (hi : i ≤ 4) (hf : f ≤ 4) : own_ab (Int32.ofNat i - Int32.ofNat f) = Int32.ofNat (own_gap i f) := by
  have a : i = 0 ∨ i = 1 ∨ i = 2 ∨ i = 3 ∨ i = 4 := by omega
  have b : f = 0 ∨ f = 1 ∨ f = 2 ∨ f = 3 ∨ f = 4 := by omega
  rcases a with rfl | rfl | rfl | rfl | rfl <;> rcases b with rfl | rfl | rfl | rfl | rfl <;> decide
theorem own_half {m : Nat} (h : m ≤ 4) : Int32.ofNat m / (2 : Int32) = Int32.ofNat (m / 2) := by
  have a : m = 0 ∨ m = 1 ∨ m = 2 ∨ m = 3 ∨ m = 4 := by omega
  rcases a with rfl | rfl | rfl | rfl | rfl <;> decide
theorem own_mnv {i f : Nat} (hi : i ≤ 4) (hf : f ≤ 4) : own_mn (Int32.ofNat i) (Int32.ofNat f) = Int32.ofNat (min i f) := by
  have a : i = 0 ∨ i = 1 ∨ i = 2 ∨ i = 3 ∨ i = 4 := by omega
  have b : f = 0 ∨ f = 1 ∨ f = 2 ∨ f = 3 ∨ f = 4 := by omega
  rcases a with rfl | rfl | rfl | rfl | rfl <;> rcases b with rfl | rfl | rfl | rfl | rfl <;> decide
theorem own_mxv {i f : Nat} (hi : i ≤ 4) (hf : f ≤ 4) : own_mx (Int32.ofNat i) (Int32.ofNat f) = Int32.ofNat (max i f) := by
  have a : i = 0 ∨ i = 1 ∨ i = 2 ∨ i = 3 ∨ i = 4 := by omega
  have b : f = 0 ∨ f = 1 ∨ f = 2 ∨ f = 3 ∨ f = 4 := by omega
  rcases a with rfl | rfl | rfl | rfl | rfl <;> rcases b with rfl | rfl | rfl | rfl | rfl <;> decide
/-- how many units fall into the bucket of the pattern's unit j -/
def own_ct (n : Nat) (ks cs : List Int32) (j : Nat) : Int32 := ks.getD (own_bi n (cs.getD j 0)) 0
def own_isF (c : Nat → Int32) (m f : Nat) : Prop := f < m ∧ ∀ k, k < m → (k < f → c f < c k) ∧ (¬ k < f → ¬ c k < c f)
theorem own_isF0 (c : Nat → Int32) : own_isF c 1 0 := ⟨by omega, fun k hk => ⟨fun q => by omega, fun _ => by rw [show k = 0 by omega]; exact fun q => Int32.lt_irrefl q⟩⟩
theorem own_isFa {c : Nat → Int32} {i f : Nat} (h : own_isF c i f) (q : c i < c f) : own_isF c (i + 1) i := by
  obtain ⟨h1, h2⟩ := h
  refine ⟨by omega, fun k hk => ⟨fun hl => ?_, fun hn => by rw [show k = i by omega]; exact fun q => Int32.lt_irrefl q⟩⟩
  obtain ⟨a, b⟩ := h2 k hl
  rw [Int32.lt_iff_toInt_lt] at *
  by_cases z : k < f
  · have := a z; omega
  · have := b z; omega
theorem own_isFb {c : Nat → Int32} {i f : Nat} (h : own_isF c i f) (q : ¬ c i < c f) : own_isF c (i + 1) f := by
  obtain ⟨h1, h2⟩ := h
  refine ⟨by omega, fun k hk => ?_⟩
  by_cases z : k < i
  · exact h2 k z
  · obtain rfl : k = i := by omega
    exact ⟨fun _ => by omega, fun _ => q⟩
/-- s stands no worse than k -/
def own_nbt (c : Nat → Int32) (m f s k : Nat) : Prop := own_gap k f < m / 2 ∨ c s < c k ∨ (c k = c s ∧ (own_gap k f < own_gap s f ∨ (own_gap k f = own_gap s f ∧ s ≤ k)))
def own_isS (c : Nat → Int32) (m f i : Nat) (sv : Int32) : Prop := (sv = -1 ∧ ∀ k, k < i → own_gap k f < m / 2) ∨ ∃ s, s < i ∧ sv = Int32.ofNat s ∧ ¬ own_gap s f < m / 2 ∧ ∀ k, k < i → own_nbt c m f s k
theorem own_sA1 {c : Nat → Int32} {m f i : Nat} (h : ∀ k, k < i → own_gap k f < m / 2) (q : own_gap i f < m / 2) : own_isS c m f (i + 1) (-1) :=
  Or.inl ⟨rfl, fun k hk => if z : k < i then h k z else by rw [show k = i by omega]; exact q⟩
theorem own_sA2 {c : Nat → Int32} {m f i : Nat} (h : ∀ k, k < i → own_gap k f < m / 2) (q : ¬ own_gap i f < m / 2) : own_isS c m f (i + 1) (Int32.ofNat i) :=
  Or.inr ⟨i, by omega, rfl, q, fun k hk => if z : k < i then Or.inl (h k z) else by rw [show k = i by omega]; exact Or.inr (Or.inr ⟨rfl, Or.inr ⟨rfl, Nat.le_refl _⟩⟩)⟩
theorem own_sB {c : Nat → Int32} {m f i s : Nat} (hs : s < i) (hg : ¬ own_gap s f < m / 2) (h : ∀ k, k < i → own_nbt c m f s k) (q : own_nbt c m f s i) : own_isS c m f (i + 1) (Int32.ofNat s) :=
  Or.inr ⟨s, by omega, rfl, hg, fun k hk => if z : k < i then h k z else by rw [show k = i by omega]; exact q⟩
theorem own_sB1 {c : Nat → Int32} {m f i s : Nat} (hs : s < i) (hg : ¬ own_gap s f < m / 2) (h : ∀ k, k < i → own_nbt c m f s k) (q : own_gap i f < m / 2) : own_isS c m f (i + 1) (Int32.ofNat s) := own_sB hs hg h (Or.inl q)
theorem own_sB2 {c : Nat → Int32} {m f i s : Nat} (hs : s < i) (h : ∀ k, k < i → own_nbt c m f s k) (q0 : ¬ own_gap i f < m / 2) (q : c i < c s) : own_isS c m f (i + 1) (Int32.ofNat i) := by
  refine Or.inr ⟨i, by omega, rfl, q0, fun k hk => ?_⟩
  by_cases z : k < i
  · rcases h k z with a | a | ⟨a, -⟩
    · exact Or.inl a
    · refine Or.inr (Or.inl ?_); rw [Int32.lt_iff_toInt_lt] at *; omega
    · refine Or.inr (Or.inl ?_); rw [a]; exact q
  · rw [show k = i by omega]; exact Or.inr (Or.inr ⟨rfl, Or.inr ⟨rfl, Nat.le_refl _⟩⟩)
theorem own_sB3 {c : Nat → Int32} {m f i s : Nat} (hs : s < i) (hg : ¬ own_gap s f < m / 2) (h : ∀ k, k < i → own_nbt c m f s k) (q : ¬ c i < c s) (q2 : ¬ c i = c s) : own_isS c m f (i + 1) (Int32.ofNat s) := own_sB hs hg h (by
  refine Or.inr (Or.inl ?_)
  rw [Int32.lt_iff_toInt_lt] at *
  have : ¬ (c i).toInt = (c s).toInt := fun z => q2 (Int32.toInt_inj.mp z)
  omega)
theorem own_sB4 {c : Nat → Int32} {m f i s : Nat} (hs : s < i) (h : ∀ k, k < i → own_nbt c m f s k) (q0 : ¬ own_gap i f < m / 2) (q : c i = c s) (q2 : own_gap s f < own_gap i f) : own_isS c m f (i + 1) (Int32.ofNat i) := by
  refine Or.inr ⟨i, by omega, rfl, q0, fun k hk => ?_⟩
  by_cases z : k < i
  · rcases h k z with a | a | ⟨a, a2⟩
    · exact Or.inl a
    · refine Or.inr (Or.inl ?_); rw [q]; exact a
    · refine Or.inr (Or.inr ⟨a.trans q.symm, ?_⟩); rcases a2 with a2 | ⟨a2, -⟩ <;> exact Or.inl (by omega)
  · rw [show k = i by omega]; exact Or.inr (Or.inr ⟨rfl, Or.inr ⟨rfl, Nat.le_refl _⟩⟩)
theorem own_sB5 {c : Nat → Int32} {m f i s : Nat} (hs : s < i) (hg : ¬ own_gap s f < m / 2) (h : ∀ k, k < i → own_nbt c m f s k) (q : c i = c s) (q2 : ¬ own_gap s f < own_gap i f) : own_isS c m f (i + 1) (Int32.ofNat s) := own_sB hs hg h (by
  refine Or.inr (Or.inr ⟨q, ?_⟩)
  by_cases z : own_gap i f < own_gap s f
  · exact Or.inl z
  · exact Or.inr ⟨by omega, by omega⟩)
theorem own_some {m f : Nat} (hf : f < m) (hm : m ≤ 4) (h : ∀ k, k < m → own_gap k f < m / 2) : False := by
  by_cases z : f < m - 1 - f
  · have := h (m - 1) (by omega); unfold own_gap at this; split at this <;> omega
  · have := h 0 (by omega); unfold own_gap at this; split at this <;> omega
def own_pick (c : Nat → Int32) (m f s : Nat) : Prop := own_isF c m f ∧ s < m ∧ ¬ own_gap s f < m / 2 ∧ ∀ k, k < m → own_nbt c m f s k
theorem d26_166 : dq cb39 166 (.new 80) 3 := by decide +kernel
theorem d26_169 : dq cb39 169 .dup 1 := by decide +kernel
theorem d26_170 : dq cb39 170 (.aload_n 0) 1 := by decide +kernel
theorem d26_171 : dq cb39 171 (.invokedynamic 105) 5 := by decide +kernel
theorem d26_176 : dq cb39 176 (.iconst 2) 1 := by decide +kernel
theorem d26_177 : dq cb39 177 (.newarray .int) 2 := by decide +kernel
theorem d26_179 : dq cb39 179 .dup 1 := by decide +kernel
theorem d26_180 : dq cb39 180 (.iconst 0) 1 := by decide +kernel
theorem d26_181 : dq cb39 181 (.iload_n 3) 1 := by decide +kernel
theorem d26_182 : dq cb39 182 (.iload 4) 2 := by decide +kernel
theorem d26_184 : dq cb39 184 (.invokestatic 37) 3 := by decide +kernel
theorem d26_187 : dq cb39 187 .iastore 1 := by decide +kernel
theorem d26_188 : dq cb39 188 .dup 1 := by decide +kernel
theorem d26_189 : dq cb39 189 (.iconst 1) 1 := by decide +kernel
theorem d26_190 : dq cb39 190 (.iload_n 3) 1 := by decide +kernel
theorem d26_191 : dq cb39 191 (.iload 4) 2 := by decide +kernel
theorem d26_193 : dq cb39 193 (.invokestatic 109) 3 := by decide +kernel
theorem d26_196 : dq cb39 196 .iastore 1 := by decide +kernel
theorem d26_197 : dq cb39 197 (.invokespecial 112) 3 := by decide +kernel
theorem pd_21 : parseMethodDescriptor "(Ljava/util/function/IntUnaryOperator;[I)V" = some ⟨[(.object "java/util/function/IntUnaryOperator"), (.array .int)], none⟩ := by decide +kernel
theorem d26_200 : dq cb39 200 .areturn 1 := by decide +kernel
theorem b26_166  (o1 : Addr) (ow : Addr) (kw : ClassId) (cs : List Int32) (oq : Addr) (ok : Addr) (kk : ClassId) (n : Nat) (ks : List Int32) (fs : Nat) (se : Nat) (s6 : Slot) (s7 : Slot) (s8 : Slot)
    (C : own_C p s m meth c Z a0 prog_6_method_4_code 9 "com/example/clew/clew/CharFilter" (some (.object "com/example/clew/clew/DefaultSearch$Sieve")) "spreadPair") (X0 : Stand p l e ({ frames := 3, cells := 5, slots := 13, locals := 3075 } : Room) s m args below meth c T0 locs 0 0) (e0 : T0.heap = h0) (Z0 : n0 ≤ h0.size) (N0 : Fr n0 locs) (EO : Exa Z h0 o1 "com/example/clew/clew/CharFilter") (FP : Fld Z h0 o1 "com/example/clew/clew/CharFilter" "pattern" "[C" (.ref ow)) (VW : Arv Z h0 ow kw .char (Int32.ofNat cs.length) (own_iv cs) (.int (0 : Int32))) (EC : Exa Z h0 oq "com/example/clew/clew/CharFilter$Counts") (FB : Fld Z h0 oq "com/example/clew/clew/CharFilter$Counts" "buckets" "[I" (.ref ok)) (FS : Fld Z h0 oq "com/example/clew/clew/CharFilter$Counts" "shift" "I" (.int (own_sh n))) (VK : Arv Z h0 ok kk .int (Int32.ofNat (own_nq n)) (own_iv ks) (.int (0 : Int32))) (hc4 : cs.length ≤ 4) (hc1 : 1 ≤ cs.length) (hmn : s.methodNamed? (⟨"com/example/clew/clew/CharFilter", "spreadPair", "(Lcom/example/clew/clew/CharFilter$Counts;)Lcom/example/clew/clew/DefaultSearch$Sieve;"⟩ : MethodName) = some m) (hfs : fs < cs.length) (hse : se < cs.length) (hpk : own_pick (own_ct n ks cs) cs.length fs se) :
    own_Go p.tables e below (T0.setTop (mkF m 166 #[vr o1, vr oq, vi (Int32.ofNat cs.length), vi (Int32.ofNat fs), vi (Int32.ofNat se), vi (Int32.ofNat cs.length), s6, s7, s8] [])) (own_K s (fun (v : Option Value) (h : Heap) (L : List Loc) => ∃ sz : Addr, ∃ bz : Addr, ∃ kz : ClassId, ∃ fs : Nat, ∃ se : Nat, v = some (.ref sz) ∧ Fr n0 L ∧ Keep h0 h [] ∧ h0.size ≤ sz ∧ h0.size ≤ bz ∧ own_pick (own_ct n ks cs) cs.length fs se ∧ Exa Z h sz "com/example/clew/clew/DefaultSearch$Sieve" ∧ Fld Z h sz "com/example/clew/clew/DefaultSearch$Sieve" "positions" "[I" (.ref bz) ∧ Arv Z h bz kz .int (4 : Int32) [(.int (Int32.ofNat (min fs se))), (.int (Int32.ofNat (min fs se))), (.int (Int32.ofNat (max fs se))), (.int (Int32.ofNat (max fs se)))] (.int (0 : Int32)) ∧ Exa Z h bz "[I") ({ frames := 3, cells := 5, slots := 13, locals := 3075 } : Room).cells ({ frames := 3, cells := 5, slots := 13, locals := 3075 } : Room).slots) := by
  obtain ⟨hx, hZ, hw, hby, hml, hown, hret, hlk, hnm⟩ := C
  obtain ⟨T1, h1, X1, e1, E1, A1, D1, -, st1⟩ := newO X0 hx hZ hown (ww hw 151 rfl) (ww hw 152 rfl) (ww hw 153 rfl) e0 (g := (mkF m 166 #[vr o1, vr oq, vi (Int32.ofNat cs.length), vi (Int32.ofNat fs), vi (Int32.ofNat se), vi (Int32.ofNat cs.length), s6, s7, s8] [])) rfl (hb hby d26_166) (by decide) (by decide)
  obtain ⟨b1, g1⟩ : ∃ z, z = h0.size := ⟨_, rfl⟩
  rw [← g1] at A1 D1 st1
  have ne_o1_b1 : o1 ≠ b1 := Nat.ne_of_lt (Nat.lt_of_lt_of_le EO.lt (Nat.le_of_eq g1.symm))
  have ne_ow_b1 : ow ≠ b1 := Nat.ne_of_lt (Nat.lt_of_lt_of_le VW.lt (Nat.le_of_eq g1.symm))
  have ne_oq_b1 : oq ≠ b1 := Nat.ne_of_lt (Nat.lt_of_lt_of_le EC.lt (Nat.le_of_eq g1.symm))
  have ne_ok_b1 : ok ≠ b1 := Nat.ne_of_lt (Nat.lt_of_lt_of_le VK.lt (Nat.le_of_eq g1.symm))
  have g_b1 : n0 ≤ b1 := Nat.le_trans Z0 (Nat.le_of_eq g1.symm)
  have EO'1 := EO.ext E1
  have FP'1 := FP.ext E1
  have VW'1 := VW.ext E1
  have EC'1 := EC.ext E1
  have FB'1 := FB.ext E1
  have FS'1 := FS.ext E1
  have VK'1 := VK.ext E1
  have sz_b1 : h0.size ≤ b1 := Nat.le_trans ((Keep.refl h0 [])).1 (Nat.le_of_eq g1.symm)
  have K1 := ((Keep.refl h0 [])).ext E1
  have Z1 : n0 ≤ h1.size := Nat.le_trans Z0 E1.1
  have F_positions_b1 : Fld Z h1 b1 "com/example/clew/clew/DefaultSearch$Sieve" "positions" "[I" .null := D1 (Or.inr (ww hw 164 rfl)) (ty := (.array .int)) (by decide)
  have F_units_b1 : Fld Z h1 b1 "com/example/clew/clew/DefaultSearch$Sieve" "units" "[I" .null := D1 (Or.inr (ww hw 166 rfl)) (ty := (.array .int)) (by decide)
  refine vs T1 169 [(.ref b1)] (fun t k => st1 t k) ?_
  refine vs T1 170 [(.ref b1), (.ref b1)] (fun t k => XS.dup X1.here hx rfl (hb hby d26_169) rfl rfl k) ?_
  refine vs T1 171 [(.ref o1), (.ref b1), (.ref b1)] (fun t k => XS.aloadN X1.here hx rfl (hb hby d26_170) rfl rfl k) ?_
  obtain ⟨T2, h2, X2, e2, E2, A2, st2⟩ := own_site X1 hx hZ hw hmn e1 (g := (mkF m 171 #[vr o1, vr oq, vi (Int32.ofNat cs.length), vi (Int32.ofNat fs), vi (Int32.ofNat se), vi (Int32.ofNat cs.length), s6, s7, s8] [(.ref o1), (.ref b1), (.ref b1)])) rfl rfl (by rw [hml]; rfl) rfl (hb hby d26_171) (by show 2 * 0 + 3 + 3072 ≤ _; decide) (by decide) (by decide)
  obtain ⟨b2, g2⟩ : ∃ z, z = h1.size := ⟨_, rfl⟩
  rw [← g2] at A2 st2
  have ne_o1_b2 : o1 ≠ b2 := Nat.ne_of_lt (Nat.lt_of_lt_of_le EO'1.lt (Nat.le_of_eq g2.symm))
  have ne_ow_b2 : ow ≠ b2 := Nat.ne_of_lt (Nat.lt_of_lt_of_le VW'1.lt (Nat.le_of_eq g2.symm))
  have ne_oq_b2 : oq ≠ b2 := Nat.ne_of_lt (Nat.lt_of_lt_of_le EC'1.lt (Nat.le_of_eq g2.symm))
  have ne_ok_b2 : ok ≠ b2 := Nat.ne_of_lt (Nat.lt_of_lt_of_le VK'1.lt (Nat.le_of_eq g2.symm))
  have ne_b1_b2 : b1 ≠ b2 := Nat.ne_of_lt (Nat.lt_of_lt_of_le A1.lt (Nat.le_of_eq g2.symm))
  have g_b2 : n0 ≤ b2 := Nat.le_trans Z1 (Nat.le_of_eq g2.symm)
  have EO'2 := EO'1.ext E2
  have FP'2 := FP'1.ext E2
  have VW'2 := VW'1.ext E2
  have EC'2 := EC'1.ext E2
  have FB'2 := FB'1.ext E2
  have FS'2 := FS'1.ext E2
  have VK'2 := VK'1.ext E2
  have A1'2 := A1.ext E2
  have F_positions_b1'2 := F_positions_b1.ext E2
  have F_units_b1'2 := F_units_b1.ext E2
  have sz_b2 : h0.size ≤ b2 := Nat.le_trans (K1).1 (Nat.le_of_eq g2.symm)
  have K2 := (K1).ext E2
  have Z2 : n0 ≤ h2.size := Nat.le_trans Z1 E2.1
  refine vs T2 176 [(.ref b2), (.ref b1), (.ref b1)] (fun t k => st2 t k) ?_
  refine vs T2 177 [(.int (2 : Int32)), (.ref b2), (.ref b1), (.ref b1)] (fun t k => XS.iconst X2.here hx rfl (hb hby d26_176) k) ?_
  obtain ⟨T3, h3, k3, X3, e3, E3, A3, st3⟩ := newP X2 hx hZ (ww hw 101 rfl) e2 (g := (mkF m 177 #[vr o1, vr oq, vi (Int32.ofNat cs.length), vi (Int32.ofNat fs), vi (Int32.ofNat se), vi (Int32.ofNat cs.length), s6, s7, s8] [(.int (2 : Int32)), (.ref b2), (.ref b1), (.ref b1)])) rfl (hb hby d26_177) rfl (by decide) (cap := 2) (by decide) (by decide) (by decide) (by decide)
  obtain ⟨b3, g3⟩ : ∃ z, z = h2.size := ⟨_, rfl⟩
  rw [← g3] at A3 st3
  have ne_o1_b3 : o1 ≠ b3 := Nat.ne_of_lt (Nat.lt_of_lt_of_le EO'2.lt (Nat.le_of_eq g3.symm))
  have ne_ow_b3 : ow ≠ b3 := Nat.ne_of_lt (Nat.lt_of_lt_of_le VW'2.lt (Nat.le_of_eq g3.symm))
  have ne_oq_b3 : oq ≠ b3 := Nat.ne_of_lt (Nat.lt_of_lt_of_le EC'2.lt (Nat.le_of_eq g3.symm))
  have ne_ok_b3 : ok ≠ b3 := Nat.ne_of_lt (Nat.lt_of_lt_of_le VK'2.lt (Nat.le_of_eq g3.symm))
  have ne_b1_b3 : b1 ≠ b3 := Nat.ne_of_lt (Nat.lt_of_lt_of_le A1'2.lt (Nat.le_of_eq g3.symm))
  have ne_b2_b3 : b2 ≠ b3 := Nat.ne_of_lt (Nat.lt_of_lt_of_le A2.lt (Nat.le_of_eq g3.symm))
  have g_b3 : n0 ≤ b3 := Nat.le_trans Z2 (Nat.le_of_eq g3.symm)
  have EO'3 := EO'2.ext E3
  have FP'3 := FP'2.ext E3
  have VW'3 := VW'2.ext E3
  have EC'3 := EC'2.ext E3
  have FB'3 := FB'2.ext E3
  have FS'3 := FS'2.ext E3
  have VK'3 := VK'2.ext E3
  have A1'3 := A1'2.ext E3
  have F_positions_b1'3 := F_positions_b1'2.ext E3
  have F_units_b1'3 := F_units_b1'2.ext E3
  have A2'3 := A2.ext E3
  have sz_b3 : h0.size ≤ b3 := Nat.le_trans (K2).1 (Nat.le_of_eq g3.symm)
  have K3 := (K2).ext E3
  have Z3 : n0 ≤ h3.size := Nat.le_trans Z2 E3.1
  have V_b3 : Arv Z h3 b3 k3 .int (2 : Int32) [(.int (0 : Int32)), (.int (0 : Int32))] (.int (0 : Int32)) := (Arv.new A3 (by decide)).pad (pad_rep [] (.int (0 : Int32)) 2)
  refine vs T3 179 [(.ref b3), (.ref b2), (.ref b1), (.ref b1)] (fun t k => st3 t k) ?_
  refine vs T3 180 [(.ref b3), (.ref b3), (.ref b2), (.ref b1), (.ref b1)] (fun t k => XS.dup X3.here hx rfl (hb hby d26_179) rfl rfl k) ?_
  refine vs T3 181 [(.int (0 : Int32)), (.ref b3), (.ref b3), (.ref b2), (.ref b1), (.ref b1)] (fun t k => XS.iconst X3.here hx rfl (hb hby d26_180) k) ?_
  refine vs T3 182 [(.int (Int32.ofNat fs)), (.int (0 : Int32)), (.ref b3), (.ref b3), (.ref b2), (.ref b1), (.ref b1)] (fun t k => XS.iloadN X3.here hx rfl (hb hby d26_181) rfl k) ?_
  refine vs T3 184 [(.int (Int32.ofNat se)), (.int (Int32.ofNat fs)), (.int (0 : Int32)), (.ref b3), (.ref b3), (.ref b2), (.ref b1), (.ref b1)] (fun t k => XS.iload X3.here hx rfl (hb hby d26_182) rfl k) ?_
  obtain ⟨_, _, ⟨T4, L4, k4, n4⟩, -, X4, ⟨Lc4, hQ4, l4, y4, z4⟩, st4⟩ := Jvm.LawKit.callS X3 hx (y := (⟨"java/lang/Math", "min", "(II)I"⟩ : MethodName)) hown (mvT hZ (ww hw 67 rfl)) (mvT hZ (ww hw 68 rfl)) (mvT hZ (ww hw 69 rfl)) (mvT hZ (ww hw 70 rfl)) (by decide) (backOf (W := 6) (rm12 l Z a0 hw [] (Int32.ofNat fs) (Int32.ofNat se) h3 n0 Z3) hZ (ww hw 70 rfl) (ww hw 69 rfl) (by decide) (by decide)) (g := (mkF m 184 #[vr o1, vr oq, vi (Int32.ofNat cs.length), vi (Int32.ofNat fs), vi (Int32.ofNat se), vi (Int32.ofNat cs.length), s6, s7, s8] [(.int (Int32.ofNat se)), (.int (Int32.ofNat fs)), (.int (0 : Int32)), (.ref b3), (.ref b3), (.ref b2), (.ref b1), (.ref b1)])) rfl (by rw [hml]; rfl) (argsL := [(.int (Int32.ofNat fs)), (.int (Int32.ofNat se))]) (rest := [(.int (0 : Int32)), (.ref b3), (.ref b3), (.ref b2), (.ref b1), (.ref b1)]) (lenOf pd_19 rfl) rfl (by show 2 * 0 + _ ≤ _; exact Nat.le_of_eq rfl) (hb hby d26_184) (fun _ _ => ⟨rfl, e3, (by decide : (((0 + 1) + 1) + 1) + 0 ≤ _), (by decide : (((0 + 2) + 1) + 2) + 0 ≤ _)⟩)
  dsimp only [Pt.U, Pt.locs, Pt.cells, Pt.slots] at X4 l4 y4 z4 st4 hQ4
  subst l4 y4 z4
  obtain ⟨rfl, Nq4, eh4⟩ := hQ4
  have N4 := Fr.app N0 Nq4
  refine vs T4 187 [(.int (own_mn (Int32.ofNat fs) (Int32.ofNat se))), (.int (0 : Int32)), (.ref b3), (.ref b3), (.ref b2), (.ref b1), (.ref b1)] (fun t k => st4 t k) ?_
  rw [own_mnv (by omega) (by omega)]
  obtain ⟨cl5, Ar5, qc5, S5, NN5, H5, G5⟩ := id V_b3
  obtain ⟨T5, h5, X5, e5, W5, st5⟩ := stI X4 hx hZ eh4 Ar5 (j := (0 : Int32)) (inb_of S5 ⟨by decide, by decide⟩) (g := (mkF m 187 #[vr o1, vr oq, vi (Int32.ofNat cs.length), vi (Int32.ofNat fs), vi (Int32.ofNat se), vi (Int32.ofNat cs.length), s6, s7, s8] [(.int (Int32.ofNat (min fs se))), (.int (0 : Int32)), (.ref b3), (.ref b3), (.ref b2), (.ref b1), (.ref b1)])) rfl rfl (hb hby d26_187)
  have V_b3'5 : Arv Z h5 b3 k3 .int (2 : Int32) [(.int (Int32.ofNat (min fs se))), (.int (0 : Int32))] (.int (0 : Int32)) := Arv.set Ar5 qc5 S5 NN5 H5 G5 rfl W5 0 rfl (Nat.le_of_ble_eq_true rfl)
  have EO'5 := EO'3.wr W5
  have FP'5 := FP'3.other W5 (Or.inl ne_o1_b3)
  have VW'5 := VW'3.other W5 ne_ow_b3
  have EC'5 := EC'3.wr W5
  have FB'5 := FB'3.other W5 (Or.inl ne_oq_b3)
  have FS'5 := FS'3.other W5 (Or.inl ne_oq_b3)
  have VK'5 := VK'3.other W5 ne_ok_b3
  have A1'5 := A1'3.wr W5
  have F_positions_b1'5 := F_positions_b1'3.other W5 (Or.inl ne_b1_b3)
  have F_units_b1'5 := F_units_b1'3.other W5 (Or.inl ne_b1_b3)
  have A2'5 := A2'3.other W5 ne_b2_b3
  have N5 := Fr.snoc X5 N4 g_b3
  have Z5 : n0 ≤ h5.size := Nat.le_trans Z3 (Keep.of_wr W5).1
  have K5 := (K3).wr W5 (Or.inr sz_b3)
  refine vs T5 188 [(.ref b3), (.ref b2), (.ref b1), (.ref b1)] (fun t k => st5 t k) ?_
  refine vs T5 189 [(.ref b3), (.ref b3), (.ref b2), (.ref b1), (.ref b1)] (fun t k => XS.dup X5.here hx rfl (hb hby d26_188) rfl rfl k) ?_
  refine vs T5 190 [(.int (1 : Int32)), (.ref b3), (.ref b3), (.ref b2), (.ref b1), (.ref b1)] (fun t k => XS.iconst X5.here hx rfl (hb hby d26_189) k) ?_
  refine vs T5 191 [(.int (Int32.ofNat fs)), (.int (1 : Int32)), (.ref b3), (.ref b3), (.ref b2), (.ref b1), (.ref b1)] (fun t k => XS.iloadN X5.here hx rfl (hb hby d26_190) rfl k) ?_
  refine vs T5 193 [(.int (Int32.ofNat se)), (.int (Int32.ofNat fs)), (.int (1 : Int32)), (.ref b3), (.ref b3), (.ref b2), (.ref b1), (.ref b1)] (fun t k => XS.iload X5.here hx rfl (hb hby d26_191) rfl k) ?_
  obtain ⟨_, _, ⟨T6, L6, k6, n6⟩, -, X6, ⟨Lc6, hQ6, l6, y6, z6⟩, st6⟩ := Jvm.LawKit.callS X5 hx (y := (⟨"java/lang/Math", "max", "(II)I"⟩ : MethodName)) hown (mvT hZ (ww hw 158 rfl)) (mvT hZ (ww hw 93 rfl)) (mvT hZ (ww hw 69 rfl)) (mvT hZ (ww hw 94 rfl)) (by decide) (backOf (W := 6) (rm16 l Z a0 hw [] (Int32.ofNat fs) (Int32.ofNat se) h5 n0 Z5) hZ (ww hw 94 rfl) (ww hw 69 rfl) (by decide) (by decide)) (g := (mkF m 193 #[vr o1, vr oq, vi (Int32.ofNat cs.length), vi (Int32.ofNat fs), vi (Int32.ofNat se), vi (Int32.ofNat cs.length), s6, s7, s8] [(.int (Int32.ofNat se)), (.int (Int32.ofNat fs)), (.int (1 : Int32)), (.ref b3), (.ref b3), (.ref b2), (.ref b1), (.ref b1)])) rfl (by rw [hml]; rfl) (argsL := [(.int (Int32.ofNat fs)), (.int (Int32.ofNat se))]) (rest := [(.int (1 : Int32)), (.ref b3), (.ref b3), (.ref b2), (.ref b1), (.ref b1)]) (lenOf pd_19 rfl) rfl (by show 2 * 0 + _ ≤ _; exact Nat.le_of_eq rfl) (hb hby d26_193) (fun _ _ => ⟨rfl, e5, (by decide : ((((0 + 1) + 1) + 1) + 0) + 0 ≤ _), (by decide : ((((0 + 2) + 1) + 2) + 0) + 0 ≤ _)⟩)
  dsimp only [Pt.U, Pt.locs, Pt.cells, Pt.slots] at X6 l6 y6 z6 st6 hQ6
  subst l6 y6 z6
  obtain ⟨rfl, Nq6, eh6⟩ := hQ6
  have N6 := Fr.app N5 Nq6
  refine vs T6 196 [(.int (own_mx (Int32.ofNat fs) (Int32.ofNat se))), (.int (1 : Int32)), (.ref b3), (.ref b3), (.ref b2), (.ref b1), (.ref b1)] (fun t k => st6 t k) ?_
  rw [own_mxv (by omega) (by omega)]
  obtain ⟨cl7, Ar7, qc7, S7, NN7, H7, G7⟩ := id V_b3'5
  obtain ⟨T7, h7, X7, e7, W7, st7⟩ := stI X6 hx hZ eh6 Ar7 (j := (1 : Int32)) (inb_of S7 ⟨by decide, by decide⟩) (g := (mkF m 196 #[vr o1, vr oq, vi (Int32.ofNat cs.length), vi (Int32.ofNat fs), vi (Int32.ofNat se), vi (Int32.ofNat cs.length), s6, s7, s8] [(.int (Int32.ofNat (max fs se))), (.int (1 : Int32)), (.ref b3), (.ref b3), (.ref b2), (.ref b1), (.ref b1)])) rfl rfl (hb hby d26_196)
  have V_b3'7 : Arv Z h7 b3 k3 .int (2 : Int32) [(.int (Int32.ofNat (min fs se))), (.int (Int32.ofNat (max fs se)))] (.int (0 : Int32)) := Arv.set Ar7 qc7 S7 NN7 H7 G7 rfl W7 1 rfl (Nat.le_of_ble_eq_true rfl)
  have EO'7 := EO'5.wr W7
  have FP'7 := FP'5.other W7 (Or.inl ne_o1_b3)
  have VW'7 := VW'5.other W7 ne_ow_b3
  have EC'7 := EC'5.wr W7
  have FB'7 := FB'5.other W7 (Or.inl ne_oq_b3)
  have FS'7 := FS'5.other W7 (Or.inl ne_oq_b3)
  have VK'7 := VK'5.other W7 ne_ok_b3
  have A1'7 := A1'5.wr W7
  have F_positions_b1'7 := F_positions_b1'5.other W7 (Or.inl ne_b1_b3)
  have F_units_b1'7 := F_units_b1'5.other W7 (Or.inl ne_b1_b3)
  have A2'7 := A2'5.other W7 ne_b2_b3
  have N7 := Fr.snoc X7 N6 g_b3
  have Z7 : n0 ≤ h7.size := Nat.le_trans Z5 (Keep.of_wr W7).1
  have K7 := (K5).wr W7 (Or.inr sz_b3)
  refine vs T7 197 [(.ref b3), (.ref b2), (.ref b1), (.ref b1)] (fun t k => st7 t k) ?_
  obtain ⟨_, _, ⟨T8, L8, k8, n8⟩, -, X8, ⟨Lc8, hQ8, l8, y8, z8⟩, st8⟩ := X7.specialBack hx (y := (⟨"com/example/clew/clew/DefaultSearch$Sieve", "<init>", "(Ljava/util/function/IntUnaryOperator;[I)V"⟩ : MethodName)) rfl hown (mvT hZ (ww hw 159 rfl)) (mvT hZ (ww hw 160 rfl)) (mvT hZ (ww hw 161 rfl)) (by decide) (backOf (W := 1) (rm29 l Z a0 hw [] b1 b2 b3 k3 (min fs se) (max fs se) o1 ow kw cs h7 n0 Z7 A1'7 F_positions_b1'7 F_units_b1'7 A2'7 V_b3'7 EO'7 FP'7 VW'7 g_b1 (by omega) (by omega) hc4 ne_b1_b2 ne_b1_b3 (Ne.symm ne_o1_b1) (Ne.symm ne_ow_b1)) hZ (ww hw 161 rfl) (ww hw 153 rfl) (by decide) (by decide)) (g := (mkF m 197 #[vr o1, vr oq, vi (Int32.ofNat cs.length), vi (Int32.ofNat fs), vi (Int32.ofNat se), vi (Int32.ofNat cs.length), s6, s7, s8] [(.ref b3), (.ref b2), (.ref b1), (.ref b1)])) rfl (by rw [hml]; rfl) (Steps.refl _) (a := b1) (argsL := [(.ref b2), (.ref b3)]) (rest := [(.ref b1)]) (lenOf pd_21 rfl) rfl (by show 2 * 0 + _ ≤ _; exact Nat.le_of_eq rfl) (hb hby d26_197) (fun _ _ => ⟨rfl, e7, (by decide : (((((0 + 1) + 1) + 1) + 0) + 0) + 2 ≤ _), (by decide : (((((0 + 2) + 1) + 2) + 0) + 0) + 8 ≤ _)⟩)
  dsimp only [Pt.U, Pt.locs, Pt.cells, Pt.slots] at X8 l8 y8 z8 st8 hQ8
  subst l8 y8 z8
  obtain ⟨bz_8, kz_8, rfl, Nq8, K8q, fz_bz_8, P0_8, P1_8, P2_8, P3_8⟩ := hQ8
  have N8 := Fr.app N7 Nq8
  have EO'8 := EO'7.keep K8q
  have FP'8 := FP'7.keep K8q (ninS ne_o1_b1 nin0)
  have VW'8 := VW'7.keep K8q (ninS ne_ow_b1 nin0)
  have EC'8 := EC'7.keep K8q
  have FB'8 := FB'7.keep K8q (ninS ne_oq_b1 nin0)
  have FS'8 := FS'7.keep K8q (ninS ne_oq_b1 nin0)
  have VK'8 := VK'7.keep K8q (ninS ne_ok_b1 nin0)
  have A1'8 := A1'7.keep K8q
  have A2'8 := A2'7.keep K8q (ninS (Ne.symm ne_b1_b2) nin0)
  have V_b3'8 := V_b3'7.keep K8q (ninS (Ne.symm ne_b1_b3) nin0)
  have K8 := (K7).trans K8q (allS (Or.inr sz_b1) all0)
  have g_bz_8 : n0 ≤ bz_8 := Nat.le_trans Z7 fz_bz_8
  have sz_bz_8 : h0.size ≤ bz_8 := Nat.le_trans (K7).1 fz_bz_8
  have ne_o1_bz_8 : o1 ≠ bz_8 := Nat.ne_of_lt (Nat.lt_of_lt_of_le EO'7.lt fz_bz_8)
  have ne_ow_bz_8 : ow ≠ bz_8 := Nat.ne_of_lt (Nat.lt_of_lt_of_le VW'7.lt fz_bz_8)
  have ne_oq_bz_8 : oq ≠ bz_8 := Nat.ne_of_lt (Nat.lt_of_lt_of_le EC'7.lt fz_bz_8)
  have ne_ok_bz_8 : ok ≠ bz_8 := Nat.ne_of_lt (Nat.lt_of_lt_of_le VK'7.lt fz_bz_8)
  have ne_b1_bz_8 : b1 ≠ bz_8 := Nat.ne_of_lt (Nat.lt_of_lt_of_le A1'7.lt fz_bz_8)
  have ne_b2_bz_8 : b2 ≠ bz_8 := Nat.ne_of_lt (Nat.lt_of_lt_of_le A2'7.lt fz_bz_8)
  have ne_b3_bz_8 : b3 ≠ bz_8 := Nat.ne_of_lt (Nat.lt_of_lt_of_le V_b3'7.lt fz_bz_8)
  have Z8 : n0 ≤ T8.heap.size := Nat.le_trans Z7 K8q.1
  refine vs T8 200 [(.ref b1)] (fun t k => st8.trans k) ?_
  exact own_fin X8 rfl (v := some (.ref b1)) (fun h => by rw [hret] at h; cases h) hlk (fun fs hr => X8.areturnOut hx rfl hret rfl (hb hby d26_200) hr) (show ((fun (v : Option Value) (h : Heap) (L : List Loc) => ∃ sz : Addr, ∃ bz : Addr, ∃ kz : ClassId, ∃ fs : Nat, ∃ se : Nat, v = some (.ref sz) ∧ Fr n0 L ∧ Keep h0 h [] ∧ h0.size ≤ sz ∧ h0.size ≤ bz ∧ own_pick (own_ct n ks cs) cs.length fs se ∧ Exa Z h sz "com/example/clew/clew/DefaultSearch$Sieve" ∧ Fld Z h sz "com/example/clew/clew/DefaultSearch$Sieve" "positions" "[I" (.ref bz) ∧ Arv Z h bz kz .int (4 : Int32) [(.int (Int32.ofNat (min fs se))), (.int (Int32.ofNat (min fs se))), (.int (Int32.ofNat (max fs se))), (.int (Int32.ofNat (max fs se)))] (.int (0 : Int32)) ∧ Exa Z h bz "[I")) (some (.ref b1)) T8.heap _ from ⟨b1, bz_8, kz_8, fs, se, rfl, N8, K8, sz_b1, sz_bz_8, hpk, (P0_8), (P1_8), (P2_8), (P3_8)⟩) (by decide) (by decide)
theorem d26_56 : dq cb39 56 (.iload 5) 2 := by decide +kernel
theorem d26_58 : dq cb39 58 (.iload_n 2) 1 := by decide +kernel
theorem d26_59 : dq cb39 59 (.if_icmp .ge 107) 3 := by decide +kernel
theorem d26_62 : dq cb39 62 (.iload 5) 2 := by decide +kernel
theorem d26_64 : dq cb39 64 (.iload_n 3) 1 := by decide +kernel
theorem d26_65 : dq cb39 65 .isub 1 := by decide +kernel
theorem d26_66 : dq cb39 66 (.invokestatic 102) 3 := by decide +kernel
theorem d26_69 : dq cb39 69 (.istore 6) 2 := by decide +kernel
theorem d26_71 : dq cb39 71 (.iload 6) 2 := by decide +kernel
theorem d26_73 : dq cb39 73 (.iload_n 2) 1 := by decide +kernel
theorem d26_74 : dq cb39 74 (.iconst 2) 1 := by decide +kernel
theorem d26_75 : dq cb39 75 .idiv 1 := by decide +kernel
theorem d26_76 : dq cb39 76 (.if_icmp .ge 6) 3 := by decide +kernel
theorem d26_79 : dq cb39 79 (.goto 81) 3 := by decide +kernel
theorem d26_160 : dq cb39 160 (.iinc 5 1) 3 := by decide +kernel
theorem d26_163 : dq cb39 163 (.goto (-107)) 3 := by decide +kernel
theorem d26_82 : dq cb39 82 (.aload_n 1) 1 := by decide +kernel
theorem d26_83 : dq cb39 83 (.aload_n 0) 1 := by decide +kernel
theorem d26_84 : dq cb39 84 (.getfield 26) 3 := by decide +kernel
theorem d26_87 : dq cb39 87 (.iload 5) 2 := by decide +kernel
theorem d26_89 : dq cb39 89 .caload 1 := by decide +kernel
theorem d26_90 : dq cb39 90 (.invokevirtual 98) 3 := by decide +kernel
theorem d26_93 : dq cb39 93 (.istore 7) 2 := by decide +kernel
theorem d26_95 : dq cb39 95 (.iload 4) 2 := by decide +kernel
theorem d26_97 : dq cb39 97 (.ifCond .lt 47) 3 := by decide +kernel
theorem d26_144 : dq cb39 144 (.iconst 1) 1 := by decide +kernel
theorem d26_145 : dq cb39 145 (.goto 4) 3 := by decide +kernel
theorem d26_149 : dq cb39 149 (.istore 8) 2 := by decide +kernel
theorem d26_151 : dq cb39 151 (.iload 8) 2 := by decide +kernel
theorem d26_153 : dq cb39 153 (.ifCond .eq 7) 3 := by decide +kernel
theorem d26_156 : dq cb39 156 (.iload 5) 2 := by decide +kernel
theorem d26_158 : dq cb39 158 (.istore 4) 2 := by decide +kernel
theorem d26_100 : dq cb39 100 (.iload 7) 2 := by decide +kernel
theorem d26_102 : dq cb39 102 (.aload_n 1) 1 := by decide +kernel
theorem d26_103 : dq cb39 103 (.aload_n 0) 1 := by decide +kernel
theorem d26_104 : dq cb39 104 (.getfield 26) 3 := by decide +kernel
theorem d26_107 : dq cb39 107 (.iload 4) 2 := by decide +kernel
theorem d26_109 : dq cb39 109 .caload 1 := by decide +kernel
theorem d26_110 : dq cb39 110 (.invokevirtual 98) 3 := by decide +kernel
theorem d26_113 : dq cb39 113 (.if_icmp .lt 31) 3 := by decide +kernel
theorem d26_116 : dq cb39 116 (.iload 7) 2 := by decide +kernel
theorem d26_118 : dq cb39 118 (.aload_n 1) 1 := by decide +kernel
theorem d26_119 : dq cb39 119 (.aload_n 0) 1 := by decide +kernel
theorem d26_120 : dq cb39 120 (.getfield 26) 3 := by decide +kernel
theorem d26_123 : dq cb39 123 (.iload 4) 2 := by decide +kernel
theorem d26_125 : dq cb39 125 .caload 1 := by decide +kernel
theorem d26_126 : dq cb39 126 (.invokevirtual 98) 3 := by decide +kernel
theorem d26_129 : dq cb39 129 (.if_icmp .ne 19) 3 := by decide +kernel
theorem d26_132 : dq cb39 132 (.iload 6) 2 := by decide +kernel
theorem d26_134 : dq cb39 134 (.iload 4) 2 := by decide +kernel
theorem d26_136 : dq cb39 136 (.iload_n 3) 1 := by decide +kernel
theorem d26_137 : dq cb39 137 .isub 1 := by decide +kernel
theorem d26_138 : dq cb39 138 (.invokestatic 102) 3 := by decide +kernel
theorem d26_141 : dq cb39 141 (.if_icmp .le 7) 3 := by decide +kernel
theorem d26_148 : dq cb39 148 (.iconst 0) 1 := by decide +kernel
theorem b26_56  (o1 : Addr) (ow : Addr) (kw : ClassId) (cs : List Int32) (oq : Addr) (ok : Addr) (kk : ClassId) (n : Nat) (ks : List Int32) (fs : Nat) (hE : Heap) (C : own_C p s m meth c Z a0 prog_6_method_4_code 9 "com/example/clew/clew/CharFilter" (some (.object "com/example/clew/clew/DefaultSearch$Sieve")) "spreadPair") (hc4 : cs.length ≤ 4) (hc1 : 1 ≤ cs.length) (hmn : s.methodNamed? (⟨"com/example/clew/clew/CharFilter", "spreadPair", "(Lcom/example/clew/clew/CharFilter$Counts;)Lcom/example/clew/clew/DefaultSearch$Sieve;"⟩ : MethodName) = some m) (hF : own_isF (own_ct n ks cs) cs.length fs) :
    ∀ (r : Nat) (i : Nat) (sv : Int32) (s6 : Slot) (s7 : Slot) (s8 : Slot) (T0 : State) (locs : List Loc) (h0 : Heap) (X0 : Stand p l e ({ frames := 3, cells := 5, slots := 13, locals := 3075 } : Room) s m args below meth c T0 locs 0 0) (e0 : T0.heap = h0) (Z0 : n0 ≤ h0.size) (N0 : Fr n0 locs) (EO : Exa Z h0 o1 "com/example/clew/clew/CharFilter") (FP : Fld Z h0 o1 "com/example/clew/clew/CharFilter" "pattern" "[C" (.ref ow)) (VW : Arv Z h0 ow kw .char (Int32.ofNat cs.length) (own_iv cs) (.int (0 : Int32))) (EC : Exa Z h0 oq "com/example/clew/clew/CharFilter$Counts") (FB : Fld Z h0 oq "com/example/clew/clew/CharFilter$Counts" "buckets" "[I" (.ref ok)) (FS : Fld Z h0 oq "com/example/clew/clew/CharFilter$Counts" "shift" "I" (.int (own_sh n))) (VK : Arv Z h0 ok kk .int (Int32.ofNat (own_nq n)) (own_iv ks) (.int (0 : Int32))) (KE : Keep hE h0 []) (hr : r = cs.length - i) (hin : i ≤ cs.length) (hhe : hE = h0) (hI : own_isS (own_ct n ks cs) cs.length fs i sv) (hs6 : s6 = .unset ∨ ∃ w, s6 = .val w ∧ w.category = 1) (hs7 : s7 = .unset ∨ ∃ w, s7 = .val w ∧ w.category = 1) (hs8 : s8 = .unset ∨ ∃ w, s8 = .val w ∧ w.category = 1), own_Go p.tables e below (T0.setTop (mkF m 56 #[vr o1, vr oq, vi (Int32.ofNat cs.length), vi (Int32.ofNat fs), vi sv, vi (Int32.ofNat i), s6, s7, s8] [])) (own_K s (fun (v : Option Value) (h : Heap) (L : List Loc) => ∃ sz : Addr, ∃ bz : Addr, ∃ kz : ClassId, ∃ fs : Nat, ∃ se : Nat, v = some (.ref sz) ∧ Fr n0 L ∧ Keep hE h [] ∧ hE.size ≤ sz ∧ hE.size ≤ bz ∧ own_pick (own_ct n ks cs) cs.length fs se ∧ Exa Z h sz "com/example/clew/clew/DefaultSearch$Sieve" ∧ Fld Z h sz "com/example/clew/clew/DefaultSearch$Sieve" "positions" "[I" (.ref bz) ∧ Arv Z h bz kz .int (4 : Int32) [(.int (Int32.ofNat (min fs se))), (.int (Int32.ofNat (min fs se))), (.int (Int32.ofNat (max fs se))), (.int (Int32.ofNat (max fs se)))] (.int (0 : Int32)) ∧ Exa Z h bz "[I") ({ frames := 3, cells := 5, slots := 13, locals := 3075 } : Room).cells ({ frames := 3, cells := 5, slots := 13, locals := 3075 } : Room).slots) := by
  obtain ⟨hx, hZ, hw, hby, hml, hown, hret, hlk, hnm⟩ := C
  have hfs := hF.1
  intro r
  induction r with
  | zero =>
    intro i sv s6 s7 s8 T0 locs h0 X0 e0 Z0 N0 EO FP VW EC FB FS VK KE hr hin hhe hI hs6 hs7 hs8
    rcases hI with ⟨rfl, hA⟩ | ⟨se, hse, rfl, hge, hnb⟩
    · exact (own_some hfs hc4 (fun k hk => hA k (by omega))).elim
    · obtain rfl : i = cs.length := by omega
      refine vs T0 58 [(.int (Int32.ofNat cs.length))] (fun t k => XS.iload X0.here hx rfl (hb hby d26_56) rfl k) ?_
      refine vs T0 59 [(.int (Int32.ofNat cs.length)), (.int (Int32.ofNat cs.length))] (fun t k => XS.iloadN X0.here hx rfl (hb hby d26_58) rfl k) ?_
      have hc1_59 : ¬ ((Int32.ofNat cs.length) < (Int32.ofNat cs.length)) := own_nlt (by omega) (by omega) (by omega)
      refine vs T0 166 [] (fun t k => XS.icmpYes X0.here hx rfl (pc0 := 59) (pc' := 166) rfl (hb hby d26_59) rfl (XT.ii_ge_t hc1_59) (by decide) (by decide) k) ?_
      subst hhe
      skip
      exact b26_166 o1 ow kw cs oq ok kk n ks fs se s6 s7 s8 ⟨hx, hZ, hw, hby, hml, hown, hret, hlk, hnm⟩ X0 e0 Z0 N0 EO FP VW EC FB FS VK hc4 hc1 hmn hfs hse ⟨hF, hse, hge, hnb⟩
  | succ r ih =>
    intro i sv s6 s7 s8 T0 locs h0 X0 e0 Z0 N0 EO FP VW EC FB FS VK KE hr hin hhe hI hs6 hs7 hs8
    rcases hI with ⟨rfl, hA⟩ | ⟨se, hse, rfl, hge, hnb⟩
    · refine vs T0 58 [(.int (Int32.ofNat i))] (fun t k => XS.iload X0.here hx rfl (hb hby d26_56) rfl k) ?_
      refine vs T0 59 [(.int (Int32.ofNat cs.length)), (.int (Int32.ofNat i))] (fun t k => XS.iloadN X0.here hx rfl (hb hby d26_58) rfl k) ?_
      have hc1_59 : (Int32.ofNat i) < (Int32.ofNat cs.length) := own_lt (by omega) (by omega)
      refine vs T0 62 [] (fun t k => XS.icmpNo X0.here hx rfl (hb hby d26_59) rfl (XT.ii_ge_f hc1_59) k) ?_
      refine vs T0 64 [(.int (Int32.ofNat i))] (fun t k => XS.iload X0.here hx rfl (hb hby d26_62) rfl k) ?_
      refine vs T0 65 [(.int (Int32.ofNat fs)), (.int (Int32.ofNat i))] (fun t k => XS.iloadN X0.here hx rfl (hb hby d26_64) rfl k) ?_
      refine vs T0 66 [(.int ((Int32.ofNat i) - (Int32.ofNat fs)))] (fun t k => XS.isub X0.here hx rfl (hb hby d26_65) rfl k) ?_
      obtain ⟨_, _, ⟨T2, L2, k2, n2⟩, -, X2, ⟨Lc2, hQ2, l2, y2, z2⟩, st2⟩ := Jvm.LawKit.callS X0 hx (y := (⟨"java/lang/Math", "abs", "(I)I"⟩ : MethodName)) hown (mvT hZ (ww hw 143 rfl)) (mvT hZ (ww hw 144 rfl)) (mvT hZ (ww hw 69 rfl)) (mvT hZ (ww hw 145 rfl)) (by decide) (backOf (W := 0) (rm27 l Z a0 hw [] ((Int32.ofNat i) - (Int32.ofNat fs)) h0 n0 Z0) hZ (ww hw 145 rfl) (ww hw 69 rfl) (by decide) (by decide)) (g := (mkF m 66 #[vr o1, vr oq, vi (Int32.ofNat cs.length), vi (Int32.ofNat fs), vi (-1 : Int32), vi (Int32.ofNat i), s6, s7, s8] [(.int ((Int32.ofNat i) - (Int32.ofNat fs)))])) rfl (by rw [hml]; rfl) (argsL := [(.int ((Int32.ofNat i) - (Int32.ofNat fs)))]) (rest := []) (lenOf pd_0 rfl) rfl (by show 2 * 0 + _ ≤ _; exact Nat.le_of_eq rfl) (hb hby d26_66) (fun _ _ => ⟨rfl, e0, (by decide : 0 + 0 ≤ _), (by decide : 0 + 0 ≤ _)⟩)
      dsimp only [Pt.U, Pt.locs, Pt.cells, Pt.slots] at X2 l2 y2 z2 st2 hQ2
      subst l2 y2 z2
      obtain ⟨rfl, Nq2, eh2⟩ := hQ2
      have N2 := Fr.app N0 Nq2
      refine vs T2 69 [(.int (own_ab ((Int32.ofNat i) - (Int32.ofNat fs))))] (fun t k => st2 t k) ?_
      rw [own_abg (by omega) (by omega)]
      refine vv T2 m 71 #[vr o1, vr oq, vi (Int32.ofNat cs.length), vi (Int32.ofNat fs), vi (-1 : Int32), vi (Int32.ofNat i), vi (Int32.ofNat (own_gap i fs)), s7, s8] [] (fun t k => XS.istoreS X2.here hx rfl (hb hby d26_69) rfl rfl hs6 k) ?_
      refine vs T2 73 [(.int (Int32.ofNat (own_gap i fs)))] (fun t k => XS.iload X2.here hx rfl (hb hby d26_71) rfl k) ?_
      refine vs T2 74 [(.int (Int32.ofNat cs.length)), (.int (Int32.ofNat (own_gap i fs)))] (fun t k => XS.iloadN X2.here hx rfl (hb hby d26_73) rfl k) ?_
      refine vs T2 75 [(.int (2 : Int32)), (.int (Int32.ofNat cs.length)), (.int (Int32.ofNat (own_gap i fs)))] (fun t k => XS.iconst X2.here hx rfl (hb hby d26_74) k) ?_
      refine vs T2 76 [(.int ((Int32.ofNat cs.length) / (2 : Int32))), (.int (Int32.ofNat (own_gap i fs)))] (fun t k => XS.idiv X2.here hx rfl (hb hby d26_75) rfl (by decide) k) ?_
      rw [own_half hc4]
      by_cases hc3_76 : (Int32.ofNat (own_gap i fs)) < (Int32.ofNat (cs.length / 2))
      · refine vs T2 79 [] (fun t k => XS.icmpNo X2.here hx rfl (hb hby d26_76) rfl (XT.ii_ge_f hc3_76) k) ?_
        refine vs T2 160 [] (fun t k => XS.goto X2.here hx rfl (pc0 := 79) (pc' := 160) rfl (hb hby d26_79) (by decide) (by decide) k) ?_
        refine vv T2 m 163 #[vr o1, vr oq, vi (Int32.ofNat cs.length), vi (Int32.ofNat fs), vi (-1 : Int32), vi ((Int32.ofNat i) + (1 : Int32)), vi (Int32.ofNat (own_gap i fs)), s7, s8] [] (fun t k => XS.iinc X2.here hx rfl (hb hby d26_160) rfl (l' := #[vr o1, vr oq, vi (Int32.ofNat cs.length), vi (Int32.ofNat fs), vi (-1 : Int32), vi ((Int32.ofNat i) + (1 : Int32)), vi (Int32.ofNat (own_gap i fs)), s7, s8]) rfl k) ?_
        refine vs T2 56 [] (fun t k => XS.goto X2.here hx rfl (pc0 := 163) (pc' := 56) rfl (hb hby d26_163) (by decide) (by decide) k) ?_
        have hg4 := own_gap4 (k := i) (f := fs) (by omega) (by omega)
        rw [own_one]
        exact ih (i + 1) _ _ _ _ T2 _ _ X2 eh2 Z0 N2 EO FP VW EC FB FS VK KE (by omega) (by omega) hhe (own_sA1 hA ((own_lti (by omega) (by omega)).mp hc3_76)) (Or.inr ⟨_, rfl, rfl⟩) hs7 hs8
      · refine vs T2 82 [] (fun t k => XS.icmpYes X2.here hx rfl (pc0 := 76) (pc' := 82) rfl (hb hby d26_76) rfl (XT.ii_ge_t hc3_76) (by decide) (by decide) k) ?_
        refine vs T2 83 [(.ref oq)] (fun t k => XS.aloadN X2.here hx rfl (hb hby d26_82) rfl rfl k) ?_
        refine vs T2 84 [(.ref o1), (.ref oq)] (fun t k => XS.aloadN X2.here hx rfl (hb hby d26_83) rfl rfl k) ?_
        obtain ⟨T4, X4, e4, st4⟩ := getF X2 hx hZ hown (host := "") (Or.inl (ww hw 61 rfl)) Via.refl eh2 FP (g := (mkF m 84 #[vr o1, vr oq, vi (Int32.ofNat cs.length), vi (Int32.ofNat fs), vi (-1 : Int32), vi (Int32.ofNat i), vi (Int32.ofNat (own_gap i fs)), s7, s8] [(.ref o1), (.ref oq)])) rfl rfl (hb hby d26_84)
        refine vs T4 87 [(.ref ow), (.ref oq)] (fun t k => st4 t k) ?_
        refine vs T4 89 [(.int (Int32.ofNat i)), (.ref ow), (.ref oq)] (fun t k => XS.iload X4.here hx rfl (hb hby d26_87) rfl k) ?_
        obtain ⟨cl5, Ar5, qc5, S5, NN5, H5, G5⟩ := id VW
        have in5 := inb_of (j := (Int32.ofNat i)) S5 (own_inb (i := i) (by omega) (by omega))
        have hat5 : cl5.slots[((Int32.ofNat i)).toNatClampNeg]? = some (.int (cs.getD i 0)) := H5.at in5 (own_ivget cs (i := i) (by omega))
        refine vs T4 90 [(.int (cs.getD i 0)), (.ref oq)] (fun t k => X4.caload hx (j := (Int32.ofNat i)) (v := (.int (cs.getD i 0))) (own_eqh e4 Ar5.1) (State.isArrayOf_alike hZ.alike Ar5.2.1) Ar5.2.2 in5 hat5 (g := (mkF m 89 #[vr o1, vr oq, vi (Int32.ofNat cs.length), vi (Int32.ofNat fs), vi (-1 : Int32), vi (Int32.ofNat i), vi (Int32.ofNat (own_gap i fs)), s7, s8] [(.int (Int32.ofNat i)), (.ref ow), (.ref oq)])) rfl rfl (hb hby d26_89) t k) ?_
        obtain ⟨cq6, kq6, q6a, q6b, q6c⟩ := isOf hZ e4 EC
        obtain ⟨_, _, ⟨T6, L6, k6, n6⟩, -, X6, ⟨Lc6, hQ6, l6, y6, z6⟩, st6⟩ := X4.virtualBack hx (y := (⟨"com/example/clew/clew/CharFilter$Counts", "of", "(I)I"⟩ : MethodName)) (z := (⟨"com/example/clew/clew/CharFilter$Counts", "of", "(I)I"⟩ : MethodName)) hown (mvT hZ (ww hw 146 rfl)) (mvT hZ (ww hw 147 rfl)) (notFace_of_selects (args := #[]) (mvT hZ (ww hw 149 rfl))) (mvT hZ (ww hw 149 rfl)) (mvT hZ (ww hw 148 rfl)) (by decide) (backOf (W := 0) (rm28 l Z a0 hw [] oq ok kk n ks (cs.getD i 0) h0 n0 Z0 EC FB FS VK) hZ (ww hw 150 rfl) (ww hw 87 rfl) (by decide) (by decide)) q6a q6c (g := (mkF m 90 #[vr o1, vr oq, vi (Int32.ofNat cs.length), vi (Int32.ofNat fs), vi (-1 : Int32), vi (Int32.ofNat i), vi (Int32.ofNat (own_gap i fs)), s7, s8] [(.int (cs.getD i 0)), (.ref oq)])) rfl (by rw [hml]; rfl) (Steps.refl _) (argsL := [(.int (cs.getD i 0))]) (rest := []) (lenOf pd_0 rfl) rfl (by show 2 * 0 + _ ≤ _; exact Nat.le_of_eq rfl) (hb hby d26_90) (fun _ _ => ⟨rfl, e4, (by decide : (0 + 0) + 0 ≤ _), (by decide : (0 + 0) + 0 ≤ _)⟩)
        dsimp only [Pt.U, Pt.locs, Pt.cells, Pt.slots] at X6 l6 y6 z6 st6 hQ6
        subst l6 y6 z6
        obtain ⟨rfl, Nq6, eh6⟩ := hQ6
        have N6 := Fr.app N2 Nq6
        refine vs T6 93 [(.int (ks.getD (own_bi n (cs.getD i 0)) 0))] (fun t k => st6.trans k) ?_
        refine vv T6 m 95 #[vr o1, vr oq, vi (Int32.ofNat cs.length), vi (Int32.ofNat fs), vi (-1 : Int32), vi (Int32.ofNat i), vi (Int32.ofNat (own_gap i fs)), vi (ks.getD (own_bi n (cs.getD i 0)) 0), s8] [] (fun t k => XS.istoreS X6.here hx rfl (hb hby d26_93) rfl rfl hs7 k) ?_
        refine vs T6 97 [(.int (-1 : Int32))] (fun t k => XS.iload X6.here hx rfl (hb hby d26_95) rfl k) ?_
        have hc7_97 : (-1 : Int32) < (0 : Int32) := (by decide)
        refine vs T6 144 [] (fun t k => XS.ifYes X6.here hx rfl (pc0 := 97) (pc' := 144) rfl (hb hby d26_97) rfl (XT.i0_lt_t hc7_97) (by decide) (by decide) k) ?_
        refine vs T6 145 [(.int (1 : Int32))] (fun t k => XS.iconst X6.here hx rfl (hb hby d26_144) k) ?_
        refine vs T6 149 [(.int (1 : Int32))] (fun t k => XS.goto X6.here hx rfl (pc0 := 145) (pc' := 149) rfl (hb hby d26_145) (by decide) (by decide) k) ?_
        refine vv T6 m 151 #[vr o1, vr oq, vi (Int32.ofNat cs.length), vi (Int32.ofNat fs), vi (-1 : Int32), vi (Int32.ofNat i), vi (Int32.ofNat (own_gap i fs)), vi (ks.getD (own_bi n (cs.getD i 0)) 0), vi (1 : Int32)] [] (fun t k => XS.istoreS X6.here hx rfl (hb hby d26_149) rfl rfl hs8 k) ?_
        refine vs T6 153 [(.int (1 : Int32))] (fun t k => XS.iload X6.here hx rfl (hb hby d26_151) rfl k) ?_
        have hc8_153 : ¬ ((1 : Int32) = (0 : Int32)) := (by decide)
        refine vs T6 156 [] (fun t k => XS.ifNo X6.here hx rfl (hb hby d26_153) rfl (XT.i0_eq_f hc8_153) k) ?_
        refine vs T6 158 [(.int (Int32.ofNat i))] (fun t k => XS.iload X6.here hx rfl (hb hby d26_156) rfl k) ?_
        refine vv T6 m 160 #[vr o1, vr oq, vi (Int32.ofNat cs.length), vi (Int32.ofNat fs), vi (Int32.ofNat i), vi (Int32.ofNat i), vi (Int32.ofNat (own_gap i fs)), vi (ks.getD (own_bi n (cs.getD i 0)) 0), vi (1 : Int32)] [] (fun t k => XS.istore X6.here hx rfl (hb hby d26_158) rfl (l' := #[vr o1, vr oq, vi (Int32.ofNat cs.length), vi (Int32.ofNat fs), vi (Int32.ofNat i), vi (Int32.ofNat i), vi (Int32.ofNat (own_gap i fs)), vi (ks.getD (own_bi n (cs.getD i 0)) 0), vi (1 : Int32)]) rfl k) ?_
        refine vv T6 m 163 #[vr o1, vr oq, vi (Int32.ofNat cs.length), vi (Int32.ofNat fs), vi (Int32.ofNat i), vi ((Int32.ofNat i) + (1 : Int32)), vi (Int32.ofNat (own_gap i fs)), vi (ks.getD (own_bi n (cs.getD i 0)) 0), vi (1 : Int32)] [] (fun t k => XS.iinc X6.here hx rfl (hb hby d26_160) rfl (l' := #[vr o1, vr oq, vi (Int32.ofNat cs.length), vi (Int32.ofNat fs), vi (Int32.ofNat i), vi ((Int32.ofNat i) + (1 : Int32)), vi (Int32.ofNat (own_gap i fs)), vi (ks.getD (own_bi n (cs.getD i 0)) 0), vi (1 : Int32)]) rfl k) ?_
        refine vs T6 56 [] (fun t k => XS.goto X6.here hx rfl (pc0 := 163) (pc' := 56) rfl (hb hby d26_163) (by decide) (by decide) k) ?_
        have hg4 := own_gap4 (k := i) (f := fs) (by omega) (by omega)
        rw [own_one]
        exact ih (i + 1) _ _ _ _ T6 _ _ X6 eh6 Z0 N6 EO FP VW EC FB FS VK KE (by omega) (by omega) hhe (own_sA2 hA (fun z => hc3_76 ((own_lti (by omega) (by omega)).mpr z))) (Or.inr ⟨_, rfl, rfl⟩) (Or.inr ⟨_, rfl, rfl⟩) (Or.inr ⟨_, rfl, rfl⟩)
    · refine vs T0 58 [(.int (Int32.ofNat i))] (fun t k => XS.iload X0.here hx rfl (hb hby d26_56) rfl k) ?_
      refine vs T0 59 [(.int (Int32.ofNat cs.length)), (.int (Int32.ofNat i))] (fun t k => XS.iloadN X0.here hx rfl (hb hby d26_58) rfl k) ?_
      have hc1_59 : (Int32.ofNat i) < (Int32.ofNat cs.length) := own_lt (by omega) (by omega)
      refine vs T0 62 [] (fun t k => XS.icmpNo X0.here hx rfl (hb hby d26_59) rfl (XT.ii_ge_f hc1_59) k) ?_
      refine vs T0 64 [(.int (Int32.ofNat i))] (fun t k => XS.iload X0.here hx rfl (hb hby d26_62) rfl k) ?_
      refine vs T0 65 [(.int (Int32.ofNat fs)), (.int (Int32.ofNat i))] (fun t k => XS.iloadN X0.here hx rfl (hb hby d26_64) rfl k) ?_
      refine vs T0 66 [(.int ((Int32.ofNat i) - (Int32.ofNat fs)))] (fun t k => XS.isub X0.here hx rfl (hb hby d26_65) rfl k) ?_
      obtain ⟨_, _, ⟨T2, L2, k2, n2⟩, -, X2, ⟨Lc2, hQ2, l2, y2, z2⟩, st2⟩ := Jvm.LawKit.callS X0 hx (y := (⟨"java/lang/Math", "abs", "(I)I"⟩ : MethodName)) hown (mvT hZ (ww hw 143 rfl)) (mvT hZ (ww hw 144 rfl)) (mvT hZ (ww hw 69 rfl)) (mvT hZ (ww hw 145 rfl)) (by decide) (backOf (W := 0) (rm27 l Z a0 hw [] ((Int32.ofNat i) - (Int32.ofNat fs)) h0 n0 Z0) hZ (ww hw 145 rfl) (ww hw 69 rfl) (by decide) (by decide)) (g := (mkF m 66 #[vr o1, vr oq, vi (Int32.ofNat cs.length), vi (Int32.ofNat fs), vi (Int32.ofNat se), vi (Int32.ofNat i), s6, s7, s8] [(.int ((Int32.ofNat i) - (Int32.ofNat fs)))])) rfl (by rw [hml]; rfl) (argsL := [(.int ((Int32.ofNat i) - (Int32.ofNat fs)))]) (rest := []) (lenOf pd_0 rfl) rfl (by show 2 * 0 + _ ≤ _; exact Nat.le_of_eq rfl) (hb hby d26_66) (fun _ _ => ⟨rfl, e0, (by decide : 0 + 0 ≤ _), (by decide : 0 + 0 ≤ _)⟩)
      dsimp only [Pt.U, Pt.locs, Pt.cells, Pt.slots] at X2 l2 y2 z2 st2 hQ2
      subst l2 y2 z2
      obtain ⟨rfl, Nq2, eh2⟩ := hQ2
      have N2 := Fr.app N0 Nq2
      refine vs T2 69 [(.int (own_ab ((Int32.ofNat i) - (Int32.ofNat fs))))] (fun t k => st2 t k) ?_
      rw [own_abg (by omega) (by omega)]
      refine vv T2 m 71 #[vr o1, vr oq, vi (Int32.ofNat cs.length), vi (Int32.ofNat fs), vi (Int32.ofNat se), vi (Int32.ofNat i), vi (Int32.ofNat (own_gap i fs)), s7, s8] [] (fun t k => XS.istoreS X2.here hx rfl (hb hby d26_69) rfl rfl hs6 k) ?_
      refine vs T2 73 [(.int (Int32.ofNat (own_gap i fs)))] (fun t k => XS.iload X2.here hx rfl (hb hby d26_71) rfl k) ?_
      refine vs T2 74 [(.int (Int32.ofNat cs.length)), (.int (Int32.ofNat (own_gap i fs)))] (fun t k => XS.iloadN X2.here hx rfl (hb hby d26_73) rfl k) ?_
      refine vs T2 75 [(.int (2 : Int32)), (.int (Int32.ofNat cs.length)), (.int (Int32.ofNat (own_gap i fs)))] (fun t k => XS.iconst X2.here hx rfl (hb hby d26_74) k) ?_
      refine vs T2 76 [(.int ((Int32.ofNat cs.length) / (2 : Int32))), (.int (Int32.ofNat (own_gap i fs)))] (fun t k => XS.idiv X2.here hx rfl (hb hby d26_75) rfl (by decide) k) ?_
      rw [own_half hc4]
      by_cases hc3_76 : (Int32.ofNat (own_gap i fs)) < (Int32.ofNat (cs.length / 2))
      · refine vs T2 79 [] (fun t k => XS.icmpNo X2.here hx rfl (hb hby d26_76) rfl (XT.ii_ge_f hc3_76) k) ?_
        refine vs T2 160 [] (fun t k => XS.goto X2.here hx rfl (pc0 := 79) (pc' := 160) rfl (hb hby d26_79) (by decide) (by decide) k) ?_
        refine vv T2 m 163 #[vr o1, vr oq, vi (Int32.ofNat cs.length), vi (Int32.ofNat fs), vi (Int32.ofNat se), vi ((Int32.ofNat i) + (1 : Int32)), vi (Int32.ofNat (own_gap i fs)), s7, s8] [] (fun t k => XS.iinc X2.here hx rfl (hb hby d26_160) rfl (l' := #[vr o1, vr oq, vi (Int32.ofNat cs.length), vi (Int32.ofNat fs), vi (Int32.ofNat se), vi ((Int32.ofNat i) + (1 : Int32)), vi (Int32.ofNat (own_gap i fs)), s7, s8]) rfl k) ?_
        refine vs T2 56 [] (fun t k => XS.goto X2.here hx rfl (pc0 := 163) (pc' := 56) rfl (hb hby d26_163) (by decide) (by decide) k) ?_
        have hg4 := own_gap4 (k := i) (f := fs) (by omega) (by omega)
        have hg5 := own_gap4 (k := se) (f := fs) (by omega) (by omega)
        rw [own_one]
        exact ih (i + 1) _ _ _ _ T2 _ _ X2 eh2 Z0 N2 EO FP VW EC FB FS VK KE (by omega) (by omega) hhe (own_sB1 hse hge hnb ((own_lti (by omega) (by omega)).mp hc3_76)) (Or.inr ⟨_, rfl, rfl⟩) hs7 hs8
      · refine vs T2 82 [] (fun t k => XS.icmpYes X2.here hx rfl (pc0 := 76) (pc' := 82) rfl (hb hby d26_76) rfl (XT.ii_ge_t hc3_76) (by decide) (by decide) k) ?_
        refine vs T2 83 [(.ref oq)] (fun t k => XS.aloadN X2.here hx rfl (hb hby d26_82) rfl rfl k) ?_
        refine vs T2 84 [(.ref o1), (.ref oq)] (fun t k => XS.aloadN X2.here hx rfl (hb hby d26_83) rfl rfl k) ?_
        obtain ⟨T4, X4, e4, st4⟩ := getF X2 hx hZ hown (host := "") (Or.inl (ww hw 61 rfl)) Via.refl eh2 FP (g := (mkF m 84 #[vr o1, vr oq, vi (Int32.ofNat cs.length), vi (Int32.ofNat fs), vi (Int32.ofNat se), vi (Int32.ofNat i), vi (Int32.ofNat (own_gap i fs)), s7, s8] [(.ref o1), (.ref oq)])) rfl rfl (hb hby d26_84)
        refine vs T4 87 [(.ref ow), (.ref oq)] (fun t k => st4 t k) ?_
        refine vs T4 89 [(.int (Int32.ofNat i)), (.ref ow), (.ref oq)] (fun t k => XS.iload X4.here hx rfl (hb hby d26_87) rfl k) ?_
        obtain ⟨cl5, Ar5, qc5, S5, NN5, H5, G5⟩ := id VW
        have in5 := inb_of (j := (Int32.ofNat i)) S5 (own_inb (i := i) (by omega) (by omega))
        have hat5 : cl5.slots[((Int32.ofNat i)).toNatClampNeg]? = some (.int (cs.getD i 0)) := H5.at in5 (own_ivget cs (i := i) (by omega))
        refine vs T4 90 [(.int (cs.getD i 0)), (.ref oq)] (fun t k => X4.caload hx (j := (Int32.ofNat i)) (v := (.int (cs.getD i 0))) (own_eqh e4 Ar5.1) (State.isArrayOf_alike hZ.alike Ar5.2.1) Ar5.2.2 in5 hat5 (g := (mkF m 89 #[vr o1, vr oq, vi (Int32.ofNat cs.length), vi (Int32.ofNat fs), vi (Int32.ofNat se), vi (Int32.ofNat i), vi (Int32.ofNat (own_gap i fs)), s7, s8] [(.int (Int32.ofNat i)), (.ref ow), (.ref oq)])) rfl rfl (hb hby d26_89) t k) ?_
        obtain ⟨cq6, kq6, q6a, q6b, q6c⟩ := isOf hZ e4 EC
        obtain ⟨_, _, ⟨T6, L6, k6, n6⟩, -, X6, ⟨Lc6, hQ6, l6, y6, z6⟩, st6⟩ := X4.virtualBack hx (y := (⟨"com/example/clew/clew/CharFilter$Counts", "of", "(I)I"⟩ : MethodName)) (z := (⟨"com/example/clew/clew/CharFilter$Counts", "of", "(I)I"⟩ : MethodName)) hown (mvT hZ (ww hw 146 rfl)) (mvT hZ (ww hw 147 rfl)) (notFace_of_selects (args := #[]) (mvT hZ (ww hw 149 rfl))) (mvT hZ (ww hw 149 rfl)) (mvT hZ (ww hw 148 rfl)) (by decide) (backOf (W := 0) (rm28 l Z a0 hw [] oq ok kk n ks (cs.getD i 0) h0 n0 Z0 EC FB FS VK) hZ (ww hw 150 rfl) (ww hw 87 rfl) (by decide) (by decide)) q6a q6c (g := (mkF m 90 #[vr o1, vr oq, vi (Int32.ofNat cs.length), vi (Int32.ofNat fs), vi (Int32.ofNat se), vi (Int32.ofNat i), vi (Int32.ofNat (own_gap i fs)), s7, s8] [(.int (cs.getD i 0)), (.ref oq)])) rfl (by rw [hml]; rfl) (Steps.refl _) (argsL := [(.int (cs.getD i 0))]) (rest := []) (lenOf pd_0 rfl) rfl (by show 2 * 0 + _ ≤ _; exact Nat.le_of_eq rfl) (hb hby d26_90) (fun _ _ => ⟨rfl, e4, (by decide : (0 + 0) + 0 ≤ _), (by decide : (0 + 0) + 0 ≤ _)⟩)
        dsimp only [Pt.U, Pt.locs, Pt.cells, Pt.slots] at X6 l6 y6 z6 st6 hQ6
        subst l6 y6 z6
        obtain ⟨rfl, Nq6, eh6⟩ := hQ6
        have N6 := Fr.app N2 Nq6
        refine vs T6 93 [(.int (ks.getD (own_bi n (cs.getD i 0)) 0))] (fun t k => st6.trans k) ?_
        refine vv T6 m 95 #[vr o1, vr oq, vi (Int32.ofNat cs.length), vi (Int32.ofNat fs), vi (Int32.ofNat se), vi (Int32.ofNat i), vi (Int32.ofNat (own_gap i fs)), vi (ks.getD (own_bi n (cs.getD i 0)) 0), s8] [] (fun t k => XS.istoreS X6.here hx rfl (hb hby d26_93) rfl rfl hs7 k) ?_
        refine vs T6 97 [(.int (Int32.ofNat se))] (fun t k => XS.iload X6.here hx rfl (hb hby d26_95) rfl k) ?_
        have hc7_97 : ¬ ((Int32.ofNat se) < (0 : Int32)) := (own_inb (i := se) (n := se + 1) (by omega) (by omega)).1
        refine vs T6 100 [] (fun t k => XS.ifNo X6.here hx rfl (hb hby d26_97) rfl (XT.i0_lt_f hc7_97) k) ?_
        refine vs T6 102 [(.int (ks.getD (own_bi n (cs.getD i 0)) 0))] (fun t k => XS.iload X6.here hx rfl (hb hby d26_100) rfl k) ?_
        refine vs T6 103 [(.ref oq), (.int (ks.getD (own_bi n (cs.getD i 0)) 0))] (fun t k => XS.aloadN X6.here hx rfl (hb hby d26_102) rfl rfl k) ?_
        refine vs T6 104 [(.ref o1), (.ref oq), (.int (ks.getD (own_bi n (cs.getD i 0)) 0))] (fun t k => XS.aloadN X6.here hx rfl (hb hby d26_103) rfl rfl k) ?_
        obtain ⟨T8, X8, e8, st8⟩ := getF X6 hx hZ hown (host := "") (Or.inl (ww hw 61 rfl)) Via.refl eh6 FP (g := (mkF m 104 #[vr o1, vr oq, vi (Int32.ofNat cs.length), vi (Int32.ofNat fs), vi (Int32.ofNat se), vi (Int32.ofNat i), vi (Int32.ofNat (own_gap i fs)), vi (ks.getD (own_bi n (cs.getD i 0)) 0), s8] [(.ref o1), (.ref oq), (.int (ks.getD (own_bi n (cs.getD i 0)) 0))])) rfl rfl (hb hby d26_104)
        refine vs T8 107 [(.ref ow), (.ref oq), (.int (ks.getD (own_bi n (cs.getD i 0)) 0))] (fun t k => st8 t k) ?_
        refine vs T8 109 [(.int (Int32.ofNat se)), (.ref ow), (.ref oq), (.int (ks.getD (own_bi n (cs.getD i 0)) 0))] (fun t k => XS.iload X8.here hx rfl (hb hby d26_107) rfl k) ?_
        obtain ⟨cl9, Ar9, qc9, S9, NN9, H9, G9⟩ := id VW
        have in9 := inb_of (j := (Int32.ofNat se)) S9 (own_inb (i := se) (by omega) (by omega))
        have hat9 : cl9.slots[((Int32.ofNat se)).toNatClampNeg]? = some (.int (cs.getD se 0)) := H9.at in9 (own_ivget cs (i := se) (by omega))
        refine vs T8 110 [(.int (cs.getD se 0)), (.ref oq), (.int (ks.getD (own_bi n (cs.getD i 0)) 0))] (fun t k => X8.caload hx (j := (Int32.ofNat se)) (v := (.int (cs.getD se 0))) (own_eqh e8 Ar9.1) (State.isArrayOf_alike hZ.alike Ar9.2.1) Ar9.2.2 in9 hat9 (g := (mkF m 109 #[vr o1, vr oq, vi (Int32.ofNat cs.length), vi (Int32.ofNat fs), vi (Int32.ofNat se), vi (Int32.ofNat i), vi (Int32.ofNat (own_gap i fs)), vi (ks.getD (own_bi n (cs.getD i 0)) 0), s8] [(.int (Int32.ofNat se)), (.ref ow), (.ref oq), (.int (ks.getD (own_bi n (cs.getD i 0)) 0))])) rfl rfl (hb hby d26_109) t k) ?_
        obtain ⟨cq10, kq10, q10a, q10b, q10c⟩ := isOf hZ e8 EC
        obtain ⟨_, _, ⟨T10, L10, k10, n10⟩, -, X10, ⟨Lc10, hQ10, l10, y10, z10⟩, st10⟩ := X8.virtualBack hx (y := (⟨"com/example/clew/clew/CharFilter$Counts", "of", "(I)I"⟩ : MethodName)) (z := (⟨"com/example/clew/clew/CharFilter$Counts", "of", "(I)I"⟩ : MethodName)) hown (mvT hZ (ww hw 146 rfl)) (mvT hZ (ww hw 147 rfl)) (notFace_of_selects (args := #[]) (mvT hZ (ww hw 149 rfl))) (mvT hZ (ww hw 149 rfl)) (mvT hZ (ww hw 148 rfl)) (by decide) (backOf (W := 1) (rm28 l Z a0 hw [] oq ok kk n ks (cs.getD se 0) h0 n0 Z0 EC FB FS VK) hZ (ww hw 150 rfl) (ww hw 87 rfl) (by decide) (by decide)) q10a q10c (g := (mkF m 110 #[vr o1, vr oq, vi (Int32.ofNat cs.length), vi (Int32.ofNat fs), vi (Int32.ofNat se), vi (Int32.ofNat i), vi (Int32.ofNat (own_gap i fs)), vi (ks.getD (own_bi n (cs.getD i 0)) 0), s8] [(.int (cs.getD se 0)), (.ref oq), (.int (ks.getD (own_bi n (cs.getD i 0)) 0))])) rfl (by rw [hml]; rfl) (Steps.refl _) (argsL := [(.int (cs.getD se 0))]) (rest := [(.int (ks.getD (own_bi n (cs.getD i 0)) 0))]) (lenOf pd_0 rfl) rfl (by show 2 * 0 + _ ≤ _; exact Nat.le_of_eq rfl) (hb hby d26_110) (fun _ _ => ⟨rfl, e8, (by decide : ((0 + 0) + 0) + 0 ≤ _), (by decide : ((0 + 0) + 0) + 0 ≤ _)⟩)
        dsimp only [Pt.U, Pt.locs, Pt.cells, Pt.slots] at X10 l10 y10 z10 st10 hQ10
        subst l10 y10 z10
        obtain ⟨rfl, Nq10, eh10⟩ := hQ10
        have N10 := Fr.app N6 Nq10
        refine vs T10 113 [(.int (ks.getD (own_bi n (cs.getD se 0)) 0)), (.int (ks.getD (own_bi n (cs.getD i 0)) 0))] (fun t k => st10.trans k) ?_
        by_cases hc11_113 : (ks.getD (own_bi n (cs.getD i 0)) 0) < (ks.getD (own_bi n (cs.getD se 0)) 0)
        · refine vs T10 144 [] (fun t k => XS.icmpYes X10.here hx rfl (pc0 := 113) (pc' := 144) rfl (hb hby d26_113) rfl (XT.ii_lt_t hc11_113) (by decide) (by decide) k) ?_
          refine vs T10 145 [(.int (1 : Int32))] (fun t k => XS.iconst X10.here hx rfl (hb hby d26_144) k) ?_
          refine vs T10 149 [(.int (1 : Int32))] (fun t k => XS.goto X10.here hx rfl (pc0 := 145) (pc' := 149) rfl (hb hby d26_145) (by decide) (by decide) k) ?_
          refine vv T10 m 151 #[vr o1, vr oq, vi (Int32.ofNat cs.length), vi (Int32.ofNat fs), vi (Int32.ofNat se), vi (Int32.ofNat i), vi (Int32.ofNat (own_gap i fs)), vi (ks.getD (own_bi n (cs.getD i 0)) 0), vi (1 : Int32)] [] (fun t k => XS.istoreS X10.here hx rfl (hb hby d26_149) rfl rfl hs8 k) ?_
          refine vs T10 153 [(.int (1 : Int32))] (fun t k => XS.iload X10.here hx rfl (hb hby d26_151) rfl k) ?_
          have hc12_153 : ¬ ((1 : Int32) = (0 : Int32)) := (by decide)
          refine vs T10 156 [] (fun t k => XS.ifNo X10.here hx rfl (hb hby d26_153) rfl (XT.i0_eq_f hc12_153) k) ?_
          refine vs T10 158 [(.int (Int32.ofNat i))] (fun t k => XS.iload X10.here hx rfl (hb hby d26_156) rfl k) ?_
          refine vv T10 m 160 #[vr o1, vr oq, vi (Int32.ofNat cs.length), vi (Int32.ofNat fs), vi (Int32.ofNat i), vi (Int32.ofNat i), vi (Int32.ofNat (own_gap i fs)), vi (ks.getD (own_bi n (cs.getD i 0)) 0), vi (1 : Int32)] [] (fun t k => XS.istore X10.here hx rfl (hb hby d26_158) rfl (l' := #[vr o1, vr oq, vi (Int32.ofNat cs.length), vi (Int32.ofNat fs), vi (Int32.ofNat i), vi (Int32.ofNat i), vi (Int32.ofNat (own_gap i fs)), vi (ks.getD (own_bi n (cs.getD i 0)) 0), vi (1 : Int32)]) rfl k) ?_
          refine vv T10 m 163 #[vr o1, vr oq, vi (Int32.ofNat cs.length), vi (Int32.ofNat fs), vi (Int32.ofNat i), vi ((Int32.ofNat i) + (1 : Int32)), vi (Int32.ofNat (own_gap i fs)), vi (ks.getD (own_bi n (cs.getD i 0)) 0), vi (1 : Int32)] [] (fun t k => XS.iinc X10.here hx rfl (hb hby d26_160) rfl (l' := #[vr o1, vr oq, vi (Int32.ofNat cs.length), vi (Int32.ofNat fs), vi (Int32.ofNat i), vi ((Int32.ofNat i) + (1 : Int32)), vi (Int32.ofNat (own_gap i fs)), vi (ks.getD (own_bi n (cs.getD i 0)) 0), vi (1 : Int32)]) rfl k) ?_
          refine vs T10 56 [] (fun t k => XS.goto X10.here hx rfl (pc0 := 163) (pc' := 56) rfl (hb hby d26_163) (by decide) (by decide) k) ?_
          have hg4 := own_gap4 (k := i) (f := fs) (by omega) (by omega)
          have hg5 := own_gap4 (k := se) (f := fs) (by omega) (by omega)
          rw [own_one]
          exact ih (i + 1) _ _ _ _ T10 _ _ X10 eh10 Z0 N10 EO FP VW EC FB FS VK KE (by omega) (by omega) hhe (own_sB2 (c := (own_ct n ks cs)) hse hnb (fun z => hc3_76 ((own_lti (by omega) (by omega)).mpr z)) hc11_113) (Or.inr ⟨_, rfl, rfl⟩) (Or.inr ⟨_, rfl, rfl⟩) (Or.inr ⟨_, rfl, rfl⟩)
        · refine vs T10 116 [] (fun t k => XS.icmpNo X10.here hx rfl (hb hby d26_113) rfl (XT.ii_lt_f hc11_113) k) ?_
          refine vs T10 118 [(.int (ks.getD (own_bi n (cs.getD i 0)) 0))] (fun t k => XS.iload X10.here hx rfl (hb hby d26_116) rfl k) ?_
          refine vs T10 119 [(.ref oq), (.int (ks.getD (own_bi n (cs.getD i 0)) 0))] (fun t k => XS.aloadN X10.here hx rfl (hb hby d26_118) rfl rfl k) ?_
          refine vs T10 120 [(.ref o1), (.ref oq), (.int (ks.getD (own_bi n (cs.getD i 0)) 0))] (fun t k => XS.aloadN X10.here hx rfl (hb hby d26_119) rfl rfl k) ?_
          obtain ⟨T13, X13, e13, st13⟩ := getF X10 hx hZ hown (host := "") (Or.inl (ww hw 61 rfl)) Via.refl eh10 FP (g := (mkF m 120 #[vr o1, vr oq, vi (Int32.ofNat cs.length), vi (Int32.ofNat fs), vi (Int32.ofNat se), vi (Int32.ofNat i), vi (Int32.ofNat (own_gap i fs)), vi (ks.getD (own_bi n (cs.getD i 0)) 0), s8] [(.ref o1), (.ref oq), (.int (ks.getD (own_bi n (cs.getD i 0)) 0))])) rfl rfl (hb hby d26_120)
          refine vs T13 123 [(.ref ow), (.ref oq), (.int (ks.getD (own_bi n (cs.getD i 0)) 0))] (fun t k => st13 t k) ?_
          refine vs T13 125 [(.int (Int32.ofNat se)), (.ref ow), (.ref oq), (.int (ks.getD (own_bi n (cs.getD i 0)) 0))] (fun t k => XS.iload X13.here hx rfl (hb hby d26_123) rfl k) ?_
          obtain ⟨cl14, Ar14, qc14, S14, NN14, H14, G14⟩ := id VW
          have in14 := inb_of (j := (Int32.ofNat se)) S14 (own_inb (i := se) (by omega) (by omega))
          have hat14 : cl14.slots[((Int32.ofNat se)).toNatClampNeg]? = some (.int (cs.getD se 0)) := H14.at in14 (own_ivget cs (i := se) (by omega))
          refine vs T13 126 [(.int (cs.getD se 0)), (.ref oq), (.int (ks.getD (own_bi n (cs.getD i 0)) 0))] (fun t k => X13.caload hx (j := (Int32.ofNat se)) (v := (.int (cs.getD se 0))) (own_eqh e13 Ar14.1) (State.isArrayOf_alike hZ.alike Ar14.2.1) Ar14.2.2 in14 hat14 (g := (mkF m 125 #[vr o1, vr oq, vi (Int32.ofNat cs.length), vi (Int32.ofNat fs), vi (Int32.ofNat se), vi (Int32.ofNat i), vi (Int32.ofNat (own_gap i fs)), vi (ks.getD (own_bi n (cs.getD i 0)) 0), s8] [(.int (Int32.ofNat se)), (.ref ow), (.ref oq), (.int (ks.getD (own_bi n (cs.getD i 0)) 0))])) rfl rfl (hb hby d26_125) t k) ?_
          obtain ⟨cq15, kq15, q15a, q15b, q15c⟩ := isOf hZ e13 EC
          obtain ⟨_, _, ⟨T15, L15, k15, n15⟩, -, X15, ⟨Lc15, hQ15, l15, y15, z15⟩, st15⟩ := X13.virtualBack hx (y := (⟨"com/example/clew/clew/CharFilter$Counts", "of", "(I)I"⟩ : MethodName)) (z := (⟨"com/example/clew/clew/CharFilter$Counts", "of", "(I)I"⟩ : MethodName)) hown (mvT hZ (ww hw 146 rfl)) (mvT hZ (ww hw 147 rfl)) (notFace_of_selects (args := #[]) (mvT hZ (ww hw 149 rfl))) (mvT hZ (ww hw 149 rfl)) (mvT hZ (ww hw 148 rfl)) (by decide) (backOf (W := 1) (rm28 l Z a0 hw [] oq ok kk n ks (cs.getD se 0) h0 n0 Z0 EC FB FS VK) hZ (ww hw 150 rfl) (ww hw 87 rfl) (by decide) (by decide)) q15a q15c (g := (mkF m 126 #[vr o1, vr oq, vi (Int32.ofNat cs.length), vi (Int32.ofNat fs), vi (Int32.ofNat se), vi (Int32.ofNat i), vi (Int32.ofNat (own_gap i fs)), vi (ks.getD (own_bi n (cs.getD i 0)) 0), s8] [(.int (cs.getD se 0)), (.ref oq), (.int (ks.getD (own_bi n (cs.getD i 0)) 0))])) rfl (by rw [hml]; rfl) (Steps.refl _) (argsL := [(.int (cs.getD se 0))]) (rest := [(.int (ks.getD (own_bi n (cs.getD i 0)) 0))]) (lenOf pd_0 rfl) rfl (by show 2 * 0 + _ ≤ _; exact Nat.le_of_eq rfl) (hb hby d26_126) (fun _ _ => ⟨rfl, e13, (by decide : (((0 + 0) + 0) + 0) + 0 ≤ _), (by decide : (((0 + 0) + 0) + 0) + 0 ≤ _)⟩)
          dsimp only [Pt.U, Pt.locs, Pt.cells, Pt.slots] at X15 l15 y15 z15 st15 hQ15
          subst l15 y15 z15
          obtain ⟨rfl, Nq15, eh15⟩ := hQ15
          have N15 := Fr.app N10 Nq15
          refine vs T15 129 [(.int (ks.getD (own_bi n (cs.getD se 0)) 0)), (.int (ks.getD (own_bi n (cs.getD i 0)) 0))] (fun t k => st15.trans k) ?_
          by_cases hc16_129 : (ks.getD (own_bi n (cs.getD i 0)) 0) = (ks.getD (own_bi n (cs.getD se 0)) 0)
          · refine vs T15 132 [] (fun t k => XS.icmpNo X15.here hx rfl (hb hby d26_129) rfl (XT.ii_ne_f hc16_129) k) ?_
            refine vs T15 134 [(.int (Int32.ofNat (own_gap i fs)))] (fun t k => XS.iload X15.here hx rfl (hb hby d26_132) rfl k) ?_
            refine vs T15 136 [(.int (Int32.ofNat se)), (.int (Int32.ofNat (own_gap i fs)))] (fun t k => XS.iload X15.here hx rfl (hb hby d26_134) rfl k) ?_
            refine vs T15 137 [(.int (Int32.ofNat fs)), (.int (Int32.ofNat se)), (.int (Int32.ofNat (own_gap i fs)))] (fun t k => XS.iloadN X15.here hx rfl (hb hby d26_136) rfl k) ?_
            refine vs T15 138 [(.int ((Int32.ofNat se) - (Int32.ofNat fs))), (.int (Int32.ofNat (own_gap i fs)))] (fun t k => XS.isub X15.here hx rfl (hb hby d26_137) rfl k) ?_
            obtain ⟨_, _, ⟨T17, L17, k17, n17⟩, -, X17, ⟨Lc17, hQ17, l17, y17, z17⟩, st17⟩ := Jvm.LawKit.callS X15 hx (y := (⟨"java/lang/Math", "abs", "(I)I"⟩ : MethodName)) hown (mvT hZ (ww hw 143 rfl)) (mvT hZ (ww hw 144 rfl)) (mvT hZ (ww hw 69 rfl)) (mvT hZ (ww hw 145 rfl)) (by decide) (backOf (W := 1) (rm27 l Z a0 hw [] ((Int32.ofNat se) - (Int32.ofNat fs)) h0 n0 Z0) hZ (ww hw 145 rfl) (ww hw 69 rfl) (by decide) (by decide)) (g := (mkF m 138 #[vr o1, vr oq, vi (Int32.ofNat cs.length), vi (Int32.ofNat fs), vi (Int32.ofNat se), vi (Int32.ofNat i), vi (Int32.ofNat (own_gap i fs)), vi (ks.getD (own_bi n (cs.getD i 0)) 0), s8] [(.int ((Int32.ofNat se) - (Int32.ofNat fs))), (.int (Int32.ofNat (own_gap i fs)))])) rfl (by rw [hml]; rfl) (argsL := [(.int ((Int32.ofNat se) - (Int32.ofNat fs)))]) (rest := [(.int (Int32.ofNat (own_gap i fs)))]) (lenOf pd_0 rfl) rfl (by show 2 * 0 + _ ≤ _; exact Nat.le_of_eq rfl) (hb hby d26_138) (fun _ _ => ⟨rfl, eh15, (by decide : ((((0 + 0) + 0) + 0) + 0) + 0 ≤ _), (by decide : ((((0 + 0) + 0) + 0) + 0) + 0 ≤ _)⟩)
            dsimp only [Pt.U, Pt.locs, Pt.cells, Pt.slots] at X17 l17 y17 z17 st17 hQ17
            subst l17 y17 z17
            obtain ⟨rfl, Nq17, eh17⟩ := hQ17
            have N17 := Fr.app N15 Nq17
            refine vs T17 141 [(.int (own_ab ((Int32.ofNat se) - (Int32.ofNat fs)))), (.int (Int32.ofNat (own_gap i fs)))] (fun t k => st17 t k) ?_
            rw [own_abg (i := se) (by omega) (by omega)]
            by_cases hc18_141 : (Int32.ofNat (own_gap se fs)) < (Int32.ofNat (own_gap i fs))
            · refine vs T17 144 [] (fun t k => XS.icmpNo X17.here hx rfl (hb hby d26_141) rfl (XT.ii_le_f hc18_141) k) ?_
              refine vs T17 145 [(.int (1 : Int32))] (fun t k => XS.iconst X17.here hx rfl (hb hby d26_144) k) ?_
              refine vs T17 149 [(.int (1 : Int32))] (fun t k => XS.goto X17.here hx rfl (pc0 := 145) (pc' := 149) rfl (hb hby d26_145) (by decide) (by decide) k) ?_
              refine vv T17 m 151 #[vr o1, vr oq, vi (Int32.ofNat cs.length), vi (Int32.ofNat fs), vi (Int32.ofNat se), vi (Int32.ofNat i), vi (Int32.ofNat (own_gap i fs)), vi (ks.getD (own_bi n (cs.getD i 0)) 0), vi (1 : Int32)] [] (fun t k => XS.istoreS X17.here hx rfl (hb hby d26_149) rfl rfl hs8 k) ?_
              refine vs T17 153 [(.int (1 : Int32))] (fun t k => XS.iload X17.here hx rfl (hb hby d26_151) rfl k) ?_
              have hc19_153 : ¬ ((1 : Int32) = (0 : Int32)) := (by decide)
              refine vs T17 156 [] (fun t k => XS.ifNo X17.here hx rfl (hb hby d26_153) rfl (XT.i0_eq_f hc19_153) k) ?_
              refine vs T17 158 [(.int (Int32.ofNat i))] (fun t k => XS.iload X17.here hx rfl (hb hby d26_156) rfl k) ?_
              refine vv T17 m 160 #[vr o1, vr oq, vi (Int32.ofNat cs.length), vi (Int32.ofNat fs), vi (Int32.ofNat i), vi (Int32.ofNat i), vi (Int32.ofNat (own_gap i fs)), vi (ks.getD (own_bi n (cs.getD i 0)) 0), vi (1 : Int32)] [] (fun t k => XS.istore X17.here hx rfl (hb hby d26_158) rfl (l' := #[vr o1, vr oq, vi (Int32.ofNat cs.length), vi (Int32.ofNat fs), vi (Int32.ofNat i), vi (Int32.ofNat i), vi (Int32.ofNat (own_gap i fs)), vi (ks.getD (own_bi n (cs.getD i 0)) 0), vi (1 : Int32)]) rfl k) ?_
              refine vv T17 m 163 #[vr o1, vr oq, vi (Int32.ofNat cs.length), vi (Int32.ofNat fs), vi (Int32.ofNat i), vi ((Int32.ofNat i) + (1 : Int32)), vi (Int32.ofNat (own_gap i fs)), vi (ks.getD (own_bi n (cs.getD i 0)) 0), vi (1 : Int32)] [] (fun t k => XS.iinc X17.here hx rfl (hb hby d26_160) rfl (l' := #[vr o1, vr oq, vi (Int32.ofNat cs.length), vi (Int32.ofNat fs), vi (Int32.ofNat i), vi ((Int32.ofNat i) + (1 : Int32)), vi (Int32.ofNat (own_gap i fs)), vi (ks.getD (own_bi n (cs.getD i 0)) 0), vi (1 : Int32)]) rfl k) ?_
              refine vs T17 56 [] (fun t k => XS.goto X17.here hx rfl (pc0 := 163) (pc' := 56) rfl (hb hby d26_163) (by decide) (by decide) k) ?_
              have hg4 := own_gap4 (k := i) (f := fs) (by omega) (by omega)
              have hg5 := own_gap4 (k := se) (f := fs) (by omega) (by omega)
              rw [own_one]
              exact ih (i + 1) _ _ _ _ T17 _ _ X17 eh17 Z0 N17 EO FP VW EC FB FS VK KE (by omega) (by omega) hhe (own_sB4 (c := (own_ct n ks cs)) hse hnb (fun z => hc3_76 ((own_lti (by omega) (by omega)).mpr z)) hc16_129 ((own_lti (by omega) (by omega)).mp hc18_141)) (Or.inr ⟨_, rfl, rfl⟩) (Or.inr ⟨_, rfl, rfl⟩) (Or.inr ⟨_, rfl, rfl⟩)
            · refine vs T17 148 [] (fun t k => XS.icmpYes X17.here hx rfl (pc0 := 141) (pc' := 148) rfl (hb hby d26_141) rfl (XT.ii_le_t hc18_141) (by decide) (by decide) k) ?_
              refine vs T17 149 [(.int (0 : Int32))] (fun t k => XS.iconst X17.here hx rfl (hb hby d26_148) k) ?_
              refine vv T17 m 151 #[vr o1, vr oq, vi (Int32.ofNat cs.length), vi (Int32.ofNat fs), vi (Int32.ofNat se), vi (Int32.ofNat i), vi (Int32.ofNat (own_gap i fs)), vi (ks.getD (own_bi n (cs.getD i 0)) 0), vi (0 : Int32)] [] (fun t k => XS.istoreS X17.here hx rfl (hb hby d26_149) rfl rfl hs8 k) ?_
              refine vs T17 153 [(.int (0 : Int32))] (fun t k => XS.iload X17.here hx rfl (hb hby d26_151) rfl k) ?_
              have hc20_153 : (0 : Int32) = (0 : Int32) := (by decide)
              refine vs T17 160 [] (fun t k => XS.ifYes X17.here hx rfl (pc0 := 153) (pc' := 160) rfl (hb hby d26_153) rfl (XT.i0_eq_t hc20_153) (by decide) (by decide) k) ?_
              refine vv T17 m 163 #[vr o1, vr oq, vi (Int32.ofNat cs.length), vi (Int32.ofNat fs), vi (Int32.ofNat se), vi ((Int32.ofNat i) + (1 : Int32)), vi (Int32.ofNat (own_gap i fs)), vi (ks.getD (own_bi n (cs.getD i 0)) 0), vi (0 : Int32)] [] (fun t k => XS.iinc X17.here hx rfl (hb hby d26_160) rfl (l' := #[vr o1, vr oq, vi (Int32.ofNat cs.length), vi (Int32.ofNat fs), vi (Int32.ofNat se), vi ((Int32.ofNat i) + (1 : Int32)), vi (Int32.ofNat (own_gap i fs)), vi (ks.getD (own_bi n (cs.getD i 0)) 0), vi (0 : Int32)]) rfl k) ?_
              refine vs T17 56 [] (fun t k => XS.goto X17.here hx rfl (pc0 := 163) (pc' := 56) rfl (hb hby d26_163) (by decide) (by decide) k) ?_
              have hg4 := own_gap4 (k := i) (f := fs) (by omega) (by omega)
              have hg5 := own_gap4 (k := se) (f := fs) (by omega) (by omega)
              rw [own_one]
              exact ih (i + 1) _ _ _ _ T17 _ _ X17 eh17 Z0 N17 EO FP VW EC FB FS VK KE (by omega) (by omega) hhe (own_sB5 (c := (own_ct n ks cs)) hse hge hnb hc16_129 (fun z => hc18_141 ((own_lti (by omega) (by omega)).mpr z))) (Or.inr ⟨_, rfl, rfl⟩) (Or.inr ⟨_, rfl, rfl⟩) (Or.inr ⟨_, rfl, rfl⟩)
          · refine vs T15 148 [] (fun t k => XS.icmpYes X15.here hx rfl (pc0 := 129) (pc' := 148) rfl (hb hby d26_129) rfl (XT.ii_ne_t hc16_129) (by decide) (by decide) k) ?_
            refine vs T15 149 [(.int (0 : Int32))] (fun t k => XS.iconst X15.here hx rfl (hb hby d26_148) k) ?_
            refine vv T15 m 151 #[vr o1, vr oq, vi (Int32.ofNat cs.length), vi (Int32.ofNat fs), vi (Int32.ofNat se), vi (Int32.ofNat i), vi (Int32.ofNat (own_gap i fs)), vi (ks.getD (own_bi n (cs.getD i 0)) 0), vi (0 : Int32)] [] (fun t k => XS.istoreS X15.here hx rfl (hb hby d26_149) rfl rfl hs8 k) ?_
            refine vs T15 153 [(.int (0 : Int32))] (fun t k => XS.iload X15.here hx rfl (hb hby d26_151) rfl k) ?_
            have hc21_153 : (0 : Int32) = (0 : Int32) := (by decide)
            refine vs T15 160 [] (fun t k => XS.ifYes X15.here hx rfl (pc0 := 153) (pc' := 160) rfl (hb hby d26_153) rfl (XT.i0_eq_t hc21_153) (by decide) (by decide) k) ?_
            refine vv T15 m 163 #[vr o1, vr oq, vi (Int32.ofNat cs.length), vi (Int32.ofNat fs), vi (Int32.ofNat se), vi ((Int32.ofNat i) + (1 : Int32)), vi (Int32.ofNat (own_gap i fs)), vi (ks.getD (own_bi n (cs.getD i 0)) 0), vi (0 : Int32)] [] (fun t k => XS.iinc X15.here hx rfl (hb hby d26_160) rfl (l' := #[vr o1, vr oq, vi (Int32.ofNat cs.length), vi (Int32.ofNat fs), vi (Int32.ofNat se), vi ((Int32.ofNat i) + (1 : Int32)), vi (Int32.ofNat (own_gap i fs)), vi (ks.getD (own_bi n (cs.getD i 0)) 0), vi (0 : Int32)]) rfl k) ?_
            refine vs T15 56 [] (fun t k => XS.goto X15.here hx rfl (pc0 := 163) (pc' := 56) rfl (hb hby d26_163) (by decide) (by decide) k) ?_
            have hg4 := own_gap4 (k := i) (f := fs) (by omega) (by omega)
            have hg5 := own_gap4 (k := se) (f := fs) (by omega) (by omega)
            rw [own_one]
            exact ih (i + 1) _ _ _ _ T15 _ _ X15 eh15 Z0 N15 EO FP VW EC FB FS VK KE (by omega) (by omega) hhe (own_sB3 (c := (own_ct n ks cs)) hse hge hnb hc11_113 hc16_129) (Or.inr ⟨_, rfl, rfl⟩) (Or.inr ⟨_, rfl, rfl⟩) (Or.inr ⟨_, rfl, rfl⟩)
theorem d26_11 : dq cb39 11 (.iload 4) 2 := by decide +kernel
theorem d26_13 : dq cb39 13 (.iload_n 2) 1 := by decide +kernel
theorem d26_14 : dq cb39 14 (.if_icmp .ge 36) 3 := by decide +kernel
theorem d26_50 : dq cb39 50 (.iconst (-1)) 1 := by decide +kernel
theorem d26_51 : dq cb39 51 (.istore 4) 2 := by decide +kernel
theorem d26_53 : dq cb39 53 (.iconst 0) 1 := by decide +kernel
theorem d26_54 : dq cb39 54 (.istore 5) 2 := by decide +kernel
theorem d26_17 : dq cb39 17 (.aload_n 1) 1 := by decide +kernel
theorem d26_18 : dq cb39 18 (.aload_n 0) 1 := by decide +kernel
theorem d26_19 : dq cb39 19 (.getfield 26) 3 := by decide +kernel
theorem d26_22 : dq cb39 22 (.iload 4) 2 := by decide +kernel
theorem d26_24 : dq cb39 24 .caload 1 := by decide +kernel
theorem d26_25 : dq cb39 25 (.invokevirtual 98) 3 := by decide +kernel
theorem d26_28 : dq cb39 28 (.aload_n 1) 1 := by decide +kernel
theorem d26_29 : dq cb39 29 (.aload_n 0) 1 := by decide +kernel
theorem d26_30 : dq cb39 30 (.getfield 26) 3 := by decide +kernel
theorem d26_33 : dq cb39 33 (.iload_n 3) 1 := by decide +kernel
theorem d26_34 : dq cb39 34 .caload 1 := by decide +kernel
theorem d26_35 : dq cb39 35 (.invokevirtual 98) 3 := by decide +kernel
theorem d26_38 : dq cb39 38 (.if_icmp .ge 6) 3 := by decide +kernel
theorem d26_41 : dq cb39 41 (.iload 4) 2 := by decide +kernel
theorem d26_43 : dq cb39 43 (.istore_n 3) 1 := by decide +kernel
theorem d26_44 : dq cb39 44 (.iinc 4 1) 3 := by decide +kernel
theorem d26_47 : dq cb39 47 (.goto (-36)) 3 := by decide +kernel
theorem b26_11  (o1 : Addr) (ow : Addr) (kw : ClassId) (cs : List Int32) (oq : Addr) (ok : Addr) (kk : ClassId) (n : Nat) (ks : List Int32) (hE : Heap) (C : own_C p s m meth c Z a0 prog_6_method_4_code 9 "com/example/clew/clew/CharFilter" (some (.object "com/example/clew/clew/DefaultSearch$Sieve")) "spreadPair") (hc4 : cs.length ≤ 4) (hc1 : 1 ≤ cs.length) (hmn : s.methodNamed? (⟨"com/example/clew/clew/CharFilter", "spreadPair", "(Lcom/example/clew/clew/CharFilter$Counts;)Lcom/example/clew/clew/DefaultSearch$Sieve;"⟩ : MethodName) = some m) :
    ∀ (r : Nat) (i : Nat) (fs : Nat) (T0 : State) (locs : List Loc) (h0 : Heap) (X0 : Stand p l e ({ frames := 3, cells := 5, slots := 13, locals := 3075 } : Room) s m args below meth c T0 locs 0 0) (e0 : T0.heap = h0) (Z0 : n0 ≤ h0.size) (N0 : Fr n0 locs) (EO : Exa Z h0 o1 "com/example/clew/clew/CharFilter") (FP : Fld Z h0 o1 "com/example/clew/clew/CharFilter" "pattern" "[C" (.ref ow)) (VW : Arv Z h0 ow kw .char (Int32.ofNat cs.length) (own_iv cs) (.int (0 : Int32))) (EC : Exa Z h0 oq "com/example/clew/clew/CharFilter$Counts") (FB : Fld Z h0 oq "com/example/clew/clew/CharFilter$Counts" "buckets" "[I" (.ref ok)) (FS : Fld Z h0 oq "com/example/clew/clew/CharFilter$Counts" "shift" "I" (.int (own_sh n))) (VK : Arv Z h0 ok kk .int (Int32.ofNat (own_nq n)) (own_iv ks) (.int (0 : Int32))) (KE : Keep hE h0 []) (hr : r = cs.length - i) (hin : i ≤ cs.length) (hi1 : 1 ≤ i) (hhe : hE = h0) (hF : own_isF (own_ct n ks cs) i fs), own_Go p.tables e below (T0.setTop (mkF m 11 #[vr o1, vr oq, vi (Int32.ofNat cs.length), vi (Int32.ofNat fs), vi (Int32.ofNat i), .unset, .unset, .unset, .unset] [])) (own_K s (fun (v : Option Value) (h : Heap) (L : List Loc) => ∃ sz : Addr, ∃ bz : Addr, ∃ kz : ClassId, ∃ fs : Nat, ∃ se : Nat, v = some (.ref sz) ∧ Fr n0 L ∧ Keep hE h [] ∧ hE.size ≤ sz ∧ hE.size ≤ bz ∧ own_pick (own_ct n ks cs) cs.length fs se ∧ Exa Z h sz "com/example/clew/clew/DefaultSearch$Sieve" ∧ Fld Z h sz "com/example/clew/clew/DefaultSearch$Sieve" "positions" "[I" (.ref bz) ∧ Arv Z h bz kz .int (4 : Int32) [(.int (Int32.ofNat (min fs se))), (.int (Int32.ofNat (min fs se))), (.int (Int32.ofNat (max fs se))), (.int (Int32.ofNat (max fs se)))] (.int (0 : Int32)) ∧ Exa Z h bz "[I") ({ frames := 3, cells := 5, slots := 13, locals := 3075 } : Room).cells ({ frames := 3, cells := 5, slots := 13, locals := 3075 } : Room).slots) := by
  obtain ⟨hx, hZ, hw, hby, hml, hown, hret, hlk, hnm⟩ := C
  intro r
  induction r with
  | zero =>
    intro i fs T0 locs h0 X0 e0 Z0 N0 EO FP VW EC FB FS VK KE hr hin hi1 hhe hF
    refine vs T0 13 [(.int (Int32.ofNat i))] (fun t k => XS.iload X0.here hx rfl (hb hby d26_11) rfl k) ?_
    refine vs T0 14 [(.int (Int32.ofNat cs.length)), (.int (Int32.ofNat i))] (fun t k => XS.iloadN X0.here hx rfl (hb hby d26_13) rfl k) ?_
    have hc1_14 : ¬ ((Int32.ofNat i) < (Int32.ofNat cs.length)) := own_nlt (by omega) (by omega) (by omega)
    refine vs T0 50 [] (fun t k => XS.icmpYes X0.here hx rfl (pc0 := 14) (pc' := 50) rfl (hb hby d26_14) rfl (XT.ii_ge_t hc1_14) (by decide) (by decide) k) ?_
    refine vs T0 51 [(.int (-1 : Int32))] (fun t k => XS.iconst X0.here hx rfl (hb hby d26_50) k) ?_
    refine vv T0 m 53 #[vr o1, vr oq, vi (Int32.ofNat cs.length), vi (Int32.ofNat fs), vi (-1 : Int32), .unset, .unset, .unset, .unset] [] (fun t k => XS.istore X0.here hx rfl (hb hby d26_51) rfl (l' := #[vr o1, vr oq, vi (Int32.ofNat cs.length), vi (Int32.ofNat fs), vi (-1 : Int32), .unset, .unset, .unset, .unset]) rfl k) ?_
    refine vs T0 54 [(.int (0 : Int32))] (fun t k => XS.iconst X0.here hx rfl (hb hby d26_53) k) ?_
    refine vv T0 m 56 #[vr o1, vr oq, vi (Int32.ofNat cs.length), vi (Int32.ofNat fs), vi (-1 : Int32), vi (0 : Int32), .unset, .unset, .unset] [] (fun t k => XS.istore X0.here hx rfl (hb hby d26_54) rfl (l' := #[vr o1, vr oq, vi (Int32.ofNat cs.length), vi (Int32.ofNat fs), vi (-1 : Int32), vi (0 : Int32), .unset, .unset, .unset]) rfl k) ?_
    subst hhe
    exact b26_56 o1 ow kw cs oq ok kk n ks fs _ ⟨hx, hZ, hw, hby, hml, hown, hret, hlk, hnm⟩ hc4 hc1 hmn (show own_isF (own_ct n ks cs) cs.length fs by have := hF; rw [show i = cs.length by omega] at this; exact this) cs.length 0 _ _ _ _ T0 _ _ X0 e0 Z0 N0 EO FP VW EC FB FS VK KE (by omega) (by omega) rfl (Or.inl ⟨rfl, fun k hk => by omega⟩) (Or.inl rfl) (Or.inl rfl) (Or.inl rfl)
  | succ r ih =>
    intro i fs T0 locs h0 X0 e0 Z0 N0 EO FP VW EC FB FS VK KE hr hin hi1 hhe hF
    refine vs T0 13 [(.int (Int32.ofNat i))] (fun t k => XS.iload X0.here hx rfl (hb hby d26_11) rfl k) ?_
    refine vs T0 14 [(.int (Int32.ofNat cs.length)), (.int (Int32.ofNat i))] (fun t k => XS.iloadN X0.here hx rfl (hb hby d26_13) rfl k) ?_
    have hc1_14 : (Int32.ofNat i) < (Int32.ofNat cs.length) := own_lt (by omega) (by omega)
    refine vs T0 17 [] (fun t k => XS.icmpNo X0.here hx rfl (hb hby d26_14) rfl (XT.ii_ge_f hc1_14) k) ?_
    refine vs T0 18 [(.ref oq)] (fun t k => XS.aloadN X0.here hx rfl (hb hby d26_17) rfl rfl k) ?_
    refine vs T0 19 [(.ref o1), (.ref oq)] (fun t k => XS.aloadN X0.here hx rfl (hb hby d26_18) rfl rfl k) ?_
    obtain ⟨T2, X2, e2, st2⟩ := getF X0 hx hZ hown (host := "") (Or.inl (ww hw 61 rfl)) Via.refl e0 FP (g := (mkF m 19 #[vr o1, vr oq, vi (Int32.ofNat cs.length), vi (Int32.ofNat fs), vi (Int32.ofNat i), .unset, .unset, .unset, .unset] [(.ref o1), (.ref oq)])) rfl rfl (hb hby d26_19)
    refine vs T2 22 [(.ref ow), (.ref oq)] (fun t k => st2 t k) ?_
    refine vs T2 24 [(.int (Int32.ofNat i)), (.ref ow), (.ref oq)] (fun t k => XS.iload X2.here hx rfl (hb hby d26_22) rfl k) ?_
    obtain ⟨cl3, Ar3, qc3, S3, NN3, H3, G3⟩ := id VW
    have in3 := inb_of (j := (Int32.ofNat i)) S3 (own_inb (i := i) (by have := hF.1; omega) (by omega))
    have hat3 : cl3.slots[((Int32.ofNat i)).toNatClampNeg]? = some (.int (cs.getD i 0)) := H3.at in3 (own_ivget cs (i := i) (by have := hF.1; omega))
    refine vs T2 25 [(.int (cs.getD i 0)), (.ref oq)] (fun t k => X2.caload hx (j := (Int32.ofNat i)) (v := (.int (cs.getD i 0))) (own_eqh e2 Ar3.1) (State.isArrayOf_alike hZ.alike Ar3.2.1) Ar3.2.2 in3 hat3 (g := (mkF m 24 #[vr o1, vr oq, vi (Int32.ofNat cs.length), vi (Int32.ofNat fs), vi (Int32.ofNat i), .unset, .unset, .unset, .unset] [(.int (Int32.ofNat i)), (.ref ow), (.ref oq)])) rfl rfl (hb hby d26_24) t k) ?_
    obtain ⟨cq4, kq4, q4a, q4b, q4c⟩ := isOf hZ e2 EC
    obtain ⟨_, _, ⟨T4, L4, k4, n4⟩, -, X4, ⟨Lc4, hQ4, l4, y4, z4⟩, st4⟩ := X2.virtualBack hx (y := (⟨"com/example/clew/clew/CharFilter$Counts", "of", "(I)I"⟩ : MethodName)) (z := (⟨"com/example/clew/clew/CharFilter$Counts", "of", "(I)I"⟩ : MethodName)) hown (mvT hZ (ww hw 146 rfl)) (mvT hZ (ww hw 147 rfl)) (notFace_of_selects (args := #[]) (mvT hZ (ww hw 149 rfl))) (mvT hZ (ww hw 149 rfl)) (mvT hZ (ww hw 148 rfl)) (by decide) (backOf (W := 0) (rm28 l Z a0 hw [] oq ok kk n ks (cs.getD i 0) h0 n0 Z0 EC FB FS VK) hZ (ww hw 150 rfl) (ww hw 87 rfl) (by decide) (by decide)) q4a q4c (g := (mkF m 25 #[vr o1, vr oq, vi (Int32.ofNat cs.length), vi (Int32.ofNat fs), vi (Int32.ofNat i), .unset, .unset, .unset, .unset] [(.int (cs.getD i 0)), (.ref oq)])) rfl (by rw [hml]; rfl) (Steps.refl _) (argsL := [(.int (cs.getD i 0))]) (rest := []) (lenOf pd_0 rfl) rfl (by show 2 * 0 + _ ≤ _; exact Nat.le_of_eq rfl) (hb hby d26_25) (fun _ _ => ⟨rfl, e2, (by decide : 0 + 0 ≤ _), (by decide : 0 + 0 ≤ _)⟩)
    dsimp only [Pt.U, Pt.locs, Pt.cells, Pt.slots] at X4 l4 y4 z4 st4 hQ4
    subst l4 y4 z4
    obtain ⟨rfl, Nq4, eh4⟩ := hQ4
    have N4 := Fr.app N0 Nq4
    refine vs T4 28 [(.int (ks.getD (own_bi n (cs.getD i 0)) 0))] (fun t k => st4.trans k) ?_
    refine vs T4 29 [(.ref oq), (.int (ks.getD (own_bi n (cs.getD i 0)) 0))] (fun t k => XS.aloadN X4.here hx rfl (hb hby d26_28) rfl rfl k) ?_
    refine vs T4 30 [(.ref o1), (.ref oq), (.int (ks.getD (own_bi n (cs.getD i 0)) 0))] (fun t k => XS.aloadN X4.here hx rfl (hb hby d26_29) rfl rfl k) ?_
    obtain ⟨T5, X5, e5, st5⟩ := getF X4 hx hZ hown (host := "") (Or.inl (ww hw 61 rfl)) Via.refl eh4 FP (g := (mkF m 30 #[vr o1, vr oq, vi (Int32.ofNat cs.length), vi (Int32.ofNat fs), vi (Int32.ofNat i), .unset, .unset, .unset, .unset] [(.ref o1), (.ref oq), (.int (ks.getD (own_bi n (cs.getD i 0)) 0))])) rfl rfl (hb hby d26_30)
    refine vs T5 33 [(.ref ow), (.ref oq), (.int (ks.getD (own_bi n (cs.getD i 0)) 0))] (fun t k => st5 t k) ?_
    refine vs T5 34 [(.int (Int32.ofNat fs)), (.ref ow), (.ref oq), (.int (ks.getD (own_bi n (cs.getD i 0)) 0))] (fun t k => XS.iloadN X5.here hx rfl (hb hby d26_33) rfl k) ?_
    obtain ⟨cl6, Ar6, qc6, S6, NN6, H6, G6⟩ := id VW
    have in6 := inb_of (j := (Int32.ofNat fs)) S6 (own_inb (i := fs) (by have := hF.1; omega) (by omega))
    have hat6 : cl6.slots[((Int32.ofNat fs)).toNatClampNeg]? = some (.int (cs.getD fs 0)) := H6.at in6 (own_ivget cs (i := fs) (by have := hF.1; omega))
    refine vs T5 35 [(.int (cs.getD fs 0)), (.ref oq), (.int (ks.getD (own_bi n (cs.getD i 0)) 0))] (fun t k => X5.caload hx (j := (Int32.ofNat fs)) (v := (.int (cs.getD fs 0))) (own_eqh e5 Ar6.1) (State.isArrayOf_alike hZ.alike Ar6.2.1) Ar6.2.2 in6 hat6 (g := (mkF m 34 #[vr o1, vr oq, vi (Int32.ofNat cs.length), vi (Int32.ofNat fs), vi (Int32.ofNat i), .unset, .unset, .unset, .unset] [(.int (Int32.ofNat fs)), (.ref ow), (.ref oq), (.int (ks.getD (own_bi n (cs.getD i 0)) 0))])) rfl rfl (hb hby d26_34) t k) ?_
    obtain ⟨cq7, kq7, q7a, q7b, q7c⟩ := isOf hZ e5 EC
    obtain ⟨_, _, ⟨T7, L7, k7, n7⟩, -, X7, ⟨Lc7, hQ7, l7, y7, z7⟩, st7⟩ := X5.virtualBack hx (y := (⟨"com/example/clew/clew/CharFilter$Counts", "of", "(I)I"⟩ : MethodName)) (z := (⟨"com/example/clew/clew/CharFilter$Counts", "of", "(I)I"⟩ : MethodName)) hown (mvT hZ (ww hw 146 rfl)) (mvT hZ (ww hw 147 rfl)) (notFace_of_selects (args := #[]) (mvT hZ (ww hw 149 rfl))) (mvT hZ (ww hw 149 rfl)) (mvT hZ (ww hw 148 rfl)) (by decide) (backOf (W := 1) (rm28 l Z a0 hw [] oq ok kk n ks (cs.getD fs 0) h0 n0 Z0 EC FB FS VK) hZ (ww hw 150 rfl) (ww hw 87 rfl) (by decide) (by decide)) q7a q7c (g := (mkF m 35 #[vr o1, vr oq, vi (Int32.ofNat cs.length), vi (Int32.ofNat fs), vi (Int32.ofNat i), .unset, .unset, .unset, .unset] [(.int (cs.getD fs 0)), (.ref oq), (.int (ks.getD (own_bi n (cs.getD i 0)) 0))])) rfl (by rw [hml]; rfl) (Steps.refl _) (argsL := [(.int (cs.getD fs 0))]) (rest := [(.int (ks.getD (own_bi n (cs.getD i 0)) 0))]) (lenOf pd_0 rfl) rfl (by show 2 * 0 + _ ≤ _; exact Nat.le_of_eq rfl) (hb hby d26_35) (fun _ _ => ⟨rfl, e5, (by decide : (0 + 0) + 0 ≤ _), (by decide : (0 + 0) + 0 ≤ _)⟩)
    dsimp only [Pt.U, Pt.locs, Pt.cells, Pt.slots] at X7 l7 y7 z7 st7 hQ7
    subst l7 y7 z7
    obtain ⟨rfl, Nq7, eh7⟩ := hQ7
    have N7 := Fr.app N4 Nq7
    refine vs T7 38 [(.int (ks.getD (own_bi n (cs.getD fs 0)) 0)), (.int (ks.getD (own_bi n (cs.getD i 0)) 0))] (fun t k => st7.trans k) ?_
    by_cases hc8_38 : (ks.getD (own_bi n (cs.getD i 0)) 0) < (ks.getD (own_bi n (cs.getD fs 0)) 0)
    · refine vs T7 41 [] (fun t k => XS.icmpNo X7.here hx rfl (hb hby d26_38) rfl (XT.ii_ge_f hc8_38) k) ?_
      refine vs T7 43 [(.int (Int32.ofNat i))] (fun t k => XS.iload X7.here hx rfl (hb hby d26_41) rfl k) ?_
      refine vv T7 m 44 #[vr o1, vr oq, vi (Int32.ofNat cs.length), vi (Int32.ofNat i), vi (Int32.ofNat i), .unset, .unset, .unset, .unset] [] (fun t k => XS.istoreN X7.here hx rfl (hb hby d26_43) rfl (l' := #[vr o1, vr oq, vi (Int32.ofNat cs.length), vi (Int32.ofNat i), vi (Int32.ofNat i), .unset, .unset, .unset, .unset]) rfl k) ?_
      refine vv T7 m 47 #[vr o1, vr oq, vi (Int32.ofNat cs.length), vi (Int32.ofNat i), vi ((Int32.ofNat i) + (1 : Int32)), .unset, .unset, .unset, .unset] [] (fun t k => XS.iinc X7.here hx rfl (hb hby d26_44) rfl (l' := #[vr o1, vr oq, vi (Int32.ofNat cs.length), vi (Int32.ofNat i), vi ((Int32.ofNat i) + (1 : Int32)), .unset, .unset, .unset, .unset]) rfl k) ?_
      refine vs T7 11 [] (fun t k => XS.goto X7.here hx rfl (pc0 := 47) (pc' := 11) rfl (hb hby d26_47) (by decide) (by decide) k) ?_
      rw [own_one]
      exact ih (i + 1) _ T7 _ _ X7 eh7 Z0 N7 EO FP VW EC FB FS VK KE (by omega) (by omega) (by omega) hhe (own_isFa (c := (own_ct n ks cs)) hF hc8_38)
    · refine vs T7 44 [] (fun t k => XS.icmpYes X7.here hx rfl (pc0 := 38) (pc' := 44) rfl (hb hby d26_38) rfl (XT.ii_ge_t hc8_38) (by decide) (by decide) k) ?_
      refine vv T7 m 47 #[vr o1, vr oq, vi (Int32.ofNat cs.length), vi (Int32.ofNat fs), vi ((Int32.ofNat i) + (1 : Int32)), .unset, .unset, .unset, .unset] [] (fun t k => XS.iinc X7.here hx rfl (hb hby d26_44) rfl (l' := #[vr o1, vr oq, vi (Int32.ofNat cs.length), vi (Int32.ofNat fs), vi ((Int32.ofNat i) + (1 : Int32)), .unset, .unset, .unset, .unset]) rfl k) ?_
      refine vs T7 11 [] (fun t k => XS.goto X7.here hx rfl (pc0 := 47) (pc' := 11) rfl (hb hby d26_47) (by decide) (by decide) k) ?_
      rw [own_one]
      exact ih (i + 1) _ T7 _ _ X7 eh7 Z0 N7 EO FP VW EC FB FS VK KE (by omega) (by omega) (by omega) hhe (own_isFb (c := (own_ct n ks cs)) hF hc8_38)
theorem d26_0 : dq cb39 0 (.aload_n 0) 1 := by decide +kernel
theorem d26_1 : dq cb39 1 (.getfield 26) 3 := by decide +kernel
theorem d26_4 : dq cb39 4 .arraylength 1 := by decide +kernel
theorem d26_5 : dq cb39 5 (.istore_n 2) 1 := by decide +kernel
theorem d26_6 : dq cb39 6 (.iconst 0) 1 := by decide +kernel
theorem d26_7 : dq cb39 7 (.istore_n 3) 1 := by decide +kernel
theorem d26_8 : dq cb39 8 (.iconst 1) 1 := by decide +kernel
theorem d26_9 : dq cb39 9 (.istore 4) 2 := by decide +kernel
theorem b26_0  (o1 : Addr) (ow : Addr) (kw : ClassId) (cs : List Int32) (oq : Addr) (ok : Addr) (kk : ClassId) (n : Nat) (ks : List Int32)
    (C : own_C p s m meth c Z a0 prog_6_method_4_code 9 "com/example/clew/clew/CharFilter" (some (.object "com/example/clew/clew/DefaultSearch$Sieve")) "spreadPair") (X0 : Stand p l e ({ frames := 3, cells := 5, slots := 13, locals := 3075 } : Room) s m args below meth c T0 locs 0 0) (e0 : T0.heap = h0) (Z0 : n0 ≤ h0.size) (N0 : Fr n0 locs) (EO : Exa Z h0 o1 "com/example/clew/clew/CharFilter") (FP : Fld Z h0 o1 "com/example/clew/clew/CharFilter" "pattern" "[C" (.ref ow)) (VW : Arv Z h0 ow kw .char (Int32.ofNat cs.length) (own_iv cs) (.int (0 : Int32))) (EC : Exa Z h0 oq "com/example/clew/clew/CharFilter$Counts") (FB : Fld Z h0 oq "com/example/clew/clew/CharFilter$Counts" "buckets" "[I" (.ref ok)) (FS : Fld Z h0 oq "com/example/clew/clew/CharFilter$Counts" "shift" "I" (.int (own_sh n))) (VK : Arv Z h0 ok kk .int (Int32.ofNat (own_nq n)) (own_iv ks) (.int (0 : Int32))) (hc4 : cs.length ≤ 4) (hc1 : 1 ≤ cs.length) (hmn : s.methodNamed? (⟨"com/example/clew/clew/CharFilter", "spreadPair", "(Lcom/example/clew/clew/CharFilter$Counts;)Lcom/example/clew/clew/DefaultSearch$Sieve;"⟩ : MethodName) = some m) :
    own_Go p.tables e below (T0.setTop (mkF m 0 #[vr o1, vr oq, .unset, .unset, .unset, .unset, .unset, .unset, .unset] [])) (own_K s (fun (v : Option Value) (h : Heap) (L : List Loc) => ∃ sz : Addr, ∃ bz : Addr, ∃ kz : ClassId, ∃ fs : Nat, ∃ se : Nat, v = some (.ref sz) ∧ Fr n0 L ∧ Keep h0 h [] ∧ h0.size ≤ sz ∧ h0.size ≤ bz ∧ own_pick (own_ct n ks cs) cs.length fs se ∧ Exa Z h sz "com/example/clew/clew/DefaultSearch$Sieve" ∧ Fld Z h sz "com/example/clew/clew/DefaultSearch$Sieve" "positions" "[I" (.ref bz) ∧ Arv Z h bz kz .int (4 : Int32) [(.int (Int32.ofNat (min fs se))), (.int (Int32.ofNat (min fs se))), (.int (Int32.ofNat (max fs se))), (.int (Int32.ofNat (max fs se)))] (.int (0 : Int32)) ∧ Exa Z h bz "[I") ({ frames := 3, cells := 5, slots := 13, locals := 3075 } : Room).cells ({ frames := 3, cells := 5, slots := 13, locals := 3075 } : Room).slots) := by
  obtain ⟨hx, hZ, hw, hby, hml, hown, hret, hlk, hnm⟩ := C
  refine vs T0 1 [(.ref o1)] (fun t k => XS.aloadN X0.here hx rfl (hb hby d26_0) rfl rfl k) ?_
  obtain ⟨T1, X1, e1, st1⟩ := getF X0 hx hZ hown (host := "") (Or.inl (ww hw 61 rfl)) Via.refl e0 FP (g := (mkF m 1 #[vr o1, vr oq, .unset, .unset, .unset, .unset, .unset, .unset, .unset] [(.ref o1)])) rfl rfl (hb hby d26_1)
  refine vs T1 4 [(.ref ow)] (fun t k => st1 t k) ?_
  obtain ⟨cl2, Ar2, -, S2, NN2, -, -⟩ := id VW
  refine vs T1 5 [(.int (Int32.ofNat cs.length))] (fun t k => own_len X1 hx hZ e1 Ar2 S2 NN2 (g := (mkF m 4 #[vr o1, vr oq, .unset, .unset, .unset, .unset, .unset, .unset, .unset] [(.ref ow)])) rfl rfl (hb hby d26_4) k) ?_
  refine vv T1 m 6 #[vr o1, vr oq, vi (Int32.ofNat cs.length), .unset, .unset, .unset, .unset, .unset, .unset] [] (fun t k => XS.istoreN X1.here hx rfl (hb hby d26_5) rfl (l' := #[vr o1, vr oq, vi (Int32.ofNat cs.length), .unset, .unset, .unset, .unset, .unset, .unset]) rfl k) ?_
  refine vs T1 7 [(.int (0 : Int32))] (fun t k => XS.iconst X1.here hx rfl (hb hby d26_6) k) ?_
  refine vv T1 m 8 #[vr o1, vr oq, vi (Int32.ofNat cs.length), vi (0 : Int32), .unset, .unset, .unset, .unset, .unset] [] (fun t k => XS.istoreN X1.here hx rfl (hb hby d26_7) rfl (l' := #[vr o1, vr oq, vi (Int32.ofNat cs.length), vi (0 : Int32), .unset, .unset, .unset, .unset, .unset]) rfl k) ?_
  refine vs T1 9 [(.int (1 : Int32))] (fun t k => XS.iconst X1.here hx rfl (hb hby d26_8) k) ?_
  refine vv T1 m 11 #[vr o1, vr oq, vi (Int32.ofNat cs.length), vi (0 : Int32), vi (1 : Int32), .unset, .unset, .unset, .unset] [] (fun t k => XS.istore X1.here hx rfl (hb hby d26_9) rfl (l' := #[vr o1, vr oq, vi (Int32.ofNat cs.length), vi (0 : Int32), vi (1 : Int32), .unset, .unset, .unset, .unset]) rfl k) ?_
  exact b26_11 o1 ow kw cs oq ok kk n ks h0 ⟨hx, hZ, hw, hby, hml, hown, hret, hlk, hnm⟩ hc4 hc1 hmn (cs.length - 1) 1 0 T1 _ _ X1 e1 Z0 N0 EO FP VW EC FB FS VK (Keep.refl h0 []) (by omega) (by omega) (by omega) rfl (own_isF0 _)
def Q26 (Z : State) (o1 : Addr) (ow : Addr) (kw : ClassId) (cs : List Int32) (oq : Addr) (ok : Addr) (kk : ClassId) (n : Nat) (ks : List Int32) (h0 : Heap) (n0 : Nat) (v : Option Value) (h : Heap) (L : List Loc) : Prop := ∃ sz : Addr, ∃ bz : Addr, ∃ kz : ClassId, ∃ fs : Nat, ∃ se : Nat, v = some (.ref sz) ∧ Fr n0 L ∧ Keep h0 h [] ∧ h0.size ≤ sz ∧ h0.size ≤ bz ∧ own_pick (own_ct n ks cs) cs.length fs se ∧ Exa Z h sz "com/example/clew/clew/DefaultSearch$Sieve" ∧ Fld Z h sz "com/example/clew/clew/DefaultSearch$Sieve" "positions" "[I" (.ref bz) ∧ Arv Z h bz kz .int (4 : Int32) [(.int (Int32.ofNat (min fs se))), (.int (Int32.ofNat (min fs se))), (.int (Int32.ofNat (max fs se))), (.int (Int32.ofNat (max fs se)))] (.int (0 : Int32)) ∧ Exa Z h bz "[I"
theorem ef_26 (m : MethodId) (o1 : Addr) (oq : Addr) : entryFrame m #[(.ref o1), (.ref oq)] 9 = mkF m 0 #[vr o1, vr oq, .unset, .unset, .unset, .unset, .unset, .unset, .unset] [] := by first | (simp [entryFrame, mkF, argsToLocals, Value.category, maxLocals]; done) | rfl
theorem rm26 (l : Launch) (Z : State) (a0 : Array Value) (hw : ∀ d ∈ tables_1, d.before a0 Z = true) (ws : List Jvm.Cond) (o1 : Addr) (ow : Addr) (kw : ClassId) (cs : List Int32) (oq : Addr) (ok : Addr) (kk : ClassId) (n : Nat) (ks : List Int32) (h0 : Heap) (n0 : Nat) (Z0 : n0 ≤ h0.size) (EO : Exa Z h0 o1 "com/example/clew/clew/CharFilter") (FP : Fld Z h0 o1 "com/example/clew/clew/CharFilter" "pattern" "[C" (.ref ow)) (VW : Arv Z h0 ow kw .char (Int32.ofNat cs.length) (own_iv cs) (.int (0 : Int32))) (EC : Exa Z h0 oq "com/example/clew/clew/CharFilter$Counts") (FB : Fld Z h0 oq "com/example/clew/clew/CharFilter$Counts" "buckets" "[I" (.ref ok)) (FS : Fld Z h0 oq "com/example/clew/clew/CharFilter$Counts" "shift" "I" (.int (own_sh n))) (VK : Arv Z h0 ok kk .int (Int32.ofNat (own_nq n)) (own_iv ks) (.int (0 : Int32))) (hc4 : cs.length ≤ 4) (hc1 : 1 ≤ cs.length) :
    MetFree l (⟨"com/example/clew/clew/CharFilter", "spreadPair", "(Lcom/example/clew/clew/CharFilter$Counts;)Lcom/example/clew/clew/DefaultSearch$Sieve;"⟩ : MethodName) (head1 (Jvm.Cond.code (⟨"com/example/clew/clew/CharFilter", "spreadPair", "(Lcom/example/clew/clew/CharFilter$Counts;)Lcom/example/clew/clew/DefaultSearch$Sieve;"⟩ : MethodName) prog_6_method_4_code 9 (some (.object "com/example/clew/clew/DefaultSearch$Sieve")) :: ws) ({ frames := 3, cells := 5, slots := 13, locals := 3075 } : Room)) (fun a U => a = #[(.ref o1), (.ref oq)] ∧ Z.Warmed39 U.vm ∧ U.heap = h0) (fun _ _ _ _ _ => True) (fun _ U o U' => ∃ v L, o = .returned v ∧ Q26 Z o1 ow kw cs oq ok kk n ks h0 n0 v U'.heap L ∧ FrameEnd U o U' L ({ frames := 3, cells := 5, slots := 13, locals := 3075 } : Room).cells ({ frames := 3, cells := 5, slots := 13, locals := 3075 } : Room).slots) := by
  refine MetFree.of_bodySF (plainFor_of_name pn_6) hisR ?_
  intro p e s m args below meth c s₁ Bd hml0 hP hK
  obtain ⟨rfl, hZ, hh⟩ := hP
  have e0 : s₁.heap = h0 := by rw [← hh, Bd.state]; rfl
  rw [ef_26 m o1 oq]
  exact b26_0 o1 ow kw cs oq ok kk n ks ⟨Bd.exec, hZ, hw, Bd.bytes, hml0, findClass_of_methodNamed Bd.named, Bd.returns, Bd.notSynchronized, (name_of_methodNamed Bd.named Bd.method).1⟩ (Stand.of_body Bd) e0 Z0 (Fr.nil n0) EO FP VW EC FB FS VK hc4 hc1 Bd.named
theorem own_mn0 {x : Int32} (h : ¬ x < 0) : 0 ≤ (own_mn x (8192 : Int32)).toInt ∧ (own_mn x (8192 : Int32)).toInt ≤ 8192 := by
  have k : (8192 : Int32).toInt = 8192 := rfl
  have k0 : (0 : Int32).toInt = 0 := rfl
  unfold own_mn
  rw [Int32.lt_iff_toInt_lt] at h
  split
  · rename_i q; omega
  · rename_i q; rw [Int32.lt_iff_toInt_lt] at q; omega
theorem own_mk {x : Int32} (h : ¬ x < 0) : ((2 : Int32) * (own_mn x (8192 : Int32) + (32 : Int32))).toInt = 2 * ((own_mn x (8192 : Int32)).toInt + 32) := by
  obtain ⟨a, b⟩ := own_mn0 h
  have k : (32 : Int32).toInt = 32 := rfl
  have k2 : (2 : Int32).toInt = 2 := rfl
  have e : (own_mn x (8192 : Int32) + (32 : Int32)).toInt = (own_mn x (8192 : Int32)).toInt + 32 := by
    rw [Int32.toInt_add, k, Int.bmod_eq_of_le (by omega) (by omega)]
  rw [Int32.toInt_mul, e, k2, Int.bmod_eq_of_le (by omega) (by omega)]
theorem own_mkn {x : Int32} (h : ¬ x < 0) : ¬ ((2 : Int32) * (own_mn x (8192 : Int32) + (32 : Int32))) < 0 := by
  have k0 : (0 : Int32).toInt = 0 := rfl
  have := own_mn0 h
  rw [Int32.lt_iff_toInt_lt, own_mk h, k0]; omega
theorem own_mkc {x : Int32} (h : ¬ x < 0) : ((2 : Int32) * (own_mn x (8192 : Int32) + (32 : Int32))).toNatClampNeg ≤ 16448 := by
  have := own_mn0 h
  simp only [Int32.toNatClampNeg]; rw [own_mk h]; omega
theorem own_sml {k : Nat} (h : k ≤ 4) : ¬ (4096 : Int32) < Int32.ofNat k := by
  have e : (4096 : Int32).toInt = 4096 := rfl
  rw [Int32.lt_iff_toInt_lt, own_ti (by omega), e]; omega
def Q7 (Z : State) (o1 : Addr) (oP : Addr) (oT : Addr) (ob : Addr) (kb : ClassId) (ln : Nat) (bs : List Int32) (cd : Int32) (cs : List Int32) (ob2 : Addr) (kb2 : ClassId) (ln2 : Nat) (bs2 : List Int32) (cd2 : Int32) (ts : List Int32) (cps : Int32) (fmv : Value) (fr : Nat) (cap : Int32) (h0 : Heap) (n0 : Nat) (v : Option Value) (h : Heap) (L : List Loc) : Prop := ∃ sz : Addr, ∃ bz : Addr, ∃ kz : ClassId, ∃ fs : Nat, ∃ se : Nat, v = none ∧ Fr n0 L ∧ Keep h0 h [o1] ∧ h0.size ≤ sz ∧ h0.size ≤ bz ∧ own_pick (own_ct (4 - fr) (own_adds (4 - fr) (own_sl ts fr (4 - fr)) (4 - fr) (List.replicate (own_nq (4 - fr)) 0)) cs) cs.length fs se ∧ Exa Z h o1 "com/example/clew/clew/CharFilter" ∧ Fld Z h o1 "com/example/clew/clew/CharFilter" "sieve" "Lcom/example/clew/clew/DefaultSearch$Sieve;" (.ref sz) ∧ Exa Z h sz "com/example/clew/clew/DefaultSearch$Sieve" ∧ Fld Z h sz "com/example/clew/clew/DefaultSearch$Sieve" "positions" "[I" (.ref bz) ∧ Arv Z h bz kz .int (4 : Int32) [(.int (Int32.ofNat (min fs se))), (.int (Int32.ofNat (min fs se))), (.int (Int32.ofNat (max fs se))), (.int (Int32.ofNat (max fs se)))] (.int (0 : Int32)) ∧ Exa Z h bz "[I"
theorem d7_0 : dq cb40 0 (.aload_n 0) 1 := by decide +kernel
theorem d7_1 : dq cb40 1 (.invokespecial 3) 3 := by decide +kernel
theorem d7_4 : dq cb40 4 (.aload_n 0) 1 := by decide +kernel
theorem d7_5 : dq cb40 5 (.iconst 4) 1 := by decide +kernel
theorem d7_6 : dq cb40 6 (.anewarray 9) 3 := by decide +kernel
theorem d7_9 : dq cb40 9 (.putfield 11) 3 := by decide +kernel
theorem d7_12 : dq cb40 12 (.aload_n 0) 1 := by decide +kernel
theorem d7_13 : dq cb40 13 (.iconst 4) 1 := by decide +kernel
theorem d7_14 : dq cb40 14 (.anewarray 9) 3 := by decide +kernel
theorem d7_17 : dq cb40 17 (.putfield 17) 3 := by decide +kernel
theorem d7_20 : dq cb40 20 (.aload_n 0) 1 := by decide +kernel
theorem d7_21 : dq cb40 21 (.aload_n 1) 1 := by decide +kernel
theorem d7_22 : dq cb40 22 (.invokevirtual 20) 3 := by decide +kernel
theorem pd_22 : parseMethodDescriptor "()[C" = some ⟨[], some (.array .char)⟩ := by decide +kernel
theorem d7_25 : dq cb40 25 (.putfield 26) 3 := by decide +kernel
theorem d7_28 : dq cb40 28 (.aload_n 0) 1 := by decide +kernel
theorem d7_29 : dq cb40 29 (.aload_n 2) 1 := by decide +kernel
theorem d7_30 : dq cb40 30 (.putfield 29) 3 := by decide +kernel
theorem d7_33 : dq cb40 33 (.aload_n 0) 1 := by decide +kernel
theorem d7_34 : dq cb40 34 (.iload_n 3) 1 := by decide +kernel
theorem d7_35 : dq cb40 35 (.putfield 33) 3 := by decide +kernel
theorem d7_38 : dq cb40 38 (.aload_n 0) 1 := by decide +kernel
theorem d7_39 : dq cb40 39 (.iload 4) 2 := by decide +kernel
theorem d7_41 : dq cb40 41 (.sipush 8192) 3 := by decide +kernel
theorem d7_44 : dq cb40 44 (.invokestatic 37) 3 := by decide +kernel
theorem d7_47 : dq cb40 47 (.putfield 43) 3 := by decide +kernel
theorem d7_50 : dq cb40 50 (.aload_n 0) 1 := by decide +kernel
theorem d7_51 : dq cb40 51 (.iconst 2) 1 := by decide +kernel
theorem d7_52 : dq cb40 52 (.aload_n 0) 1 := by decide +kernel
theorem d7_53 : dq cb40 53 (.getfield 43) 3 := by decide +kernel
theorem d7_56 : dq cb40 56 (.bipush 32) 2 := by decide +kernel
theorem d7_58 : dq cb40 58 .iadd 1 := by decide +kernel
theorem d7_59 : dq cb40 59 .imul 1 := by decide +kernel
theorem d7_60 : dq cb40 60 (.newarray .byte) 2 := by decide +kernel
theorem d7_62 : dq cb40 62 (.putfield 46) 3 := by decide +kernel
theorem d7_65 : dq cb40 65 (.aload_n 2) 1 := by decide +kernel
theorem d7_66 : dq cb40 66 (.invokevirtual 50) 3 := by decide +kernel
theorem d7_69 : dq cb40 69 (.iload_n 3) 1 := by decide +kernel
theorem d7_70 : dq cb40 70 .isub 1 := by decide +kernel
theorem d7_71 : dq cb40 71 (.istore 5) 2 := by decide +kernel
theorem d7_73 : dq cb40 73 (.iload 5) 2 := by decide +kernel
theorem d7_75 : dq cb40 75 (.sipush 4096) 3 := by decide +kernel
theorem d7_78 : dq cb40 78 (.if_icmp .gt 7) 3 := by decide +kernel
theorem d7_81 : dq cb40 81 (.iconst 1) 1 := by decide +kernel
theorem d7_82 : dq cb40 82 (.goto 4) 3 := by decide +kernel
theorem d7_86 : dq cb40 86 (.istore 6) 2 := by decide +kernel
theorem d7_88 : dq cb40 88 (.iload 6) 2 := by decide +kernel
theorem d7_90 : dq cb40 90 (.ifCond .eq 8) 3 := by decide +kernel
theorem d7_93 : dq cb40 93 (.iload 5) 2 := by decide +kernel
theorem d7_95 : dq cb40 95 (.goto 6) 3 := by decide +kernel
theorem d7_101 : dq cb40 101 (.newarray .char) 2 := by decide +kernel
theorem d7_103 : dq cb40 103 (.astore 7) 2 := by decide +kernel
theorem d7_105 : dq cb40 105 (.iload 6) 2 := by decide +kernel
theorem d7_107 : dq cb40 107 (.ifCond .eq 7) 3 := by decide +kernel
theorem d7_110 : dq cb40 110 (.iconst 1) 1 := by decide +kernel
theorem d7_111 : dq cb40 111 (.goto 5) 3 := by decide +kernel
theorem d7_116 : dq cb40 116 (.istore 8) 2 := by decide +kernel
theorem d7_118 : dq cb40 118 (.new 54) 3 := by decide +kernel
theorem d7_121 : dq cb40 121 .dup 1 := by decide +kernel
theorem d7_122 : dq cb40 122 (.iload 8) 2 := by decide +kernel
theorem d7_124 : dq cb40 124 (.aload 7) 2 := by decide +kernel
theorem d7_126 : dq cb40 126 .arraylength 1 := by decide +kernel
theorem d7_127 : dq cb40 127 .imul 1 := by decide +kernel
theorem d7_128 : dq cb40 128 (.invokespecial 56) 3 := by decide +kernel
theorem pd_23 : parseMethodDescriptor "(I)V" = some ⟨[.int], none⟩ := by decide +kernel
theorem d7_131 : dq cb40 131 (.astore 9) 2 := by decide +kernel
theorem d7_133 : dq cb40 133 (.iconst 0) 1 := by decide +kernel
theorem d7_134 : dq cb40 134 (.istore 10) 2 := by decide +kernel
theorem d7_136 : dq cb40 136 (.iload 10) 2 := by decide +kernel
theorem d7_138 : dq cb40 138 (.iload 8) 2 := by decide +kernel
theorem d7_140 : dq cb40 140 (.if_icmp .ge 66) 3 := by decide +kernel
theorem d7_143 : dq cb40 143 (.iload 6) 2 := by decide +kernel
theorem d7_145 : dq cb40 145 (.ifCond .eq 7) 3 := by decide +kernel
theorem d7_148 : dq cb40 148 (.iload_n 3) 1 := by decide +kernel
theorem d7_149 : dq cb40 149 (.goto 23) 3 := by decide +kernel
theorem d7_172 : dq cb40 172 (.istore 11) 2 := by decide +kernel
theorem d7_174 : dq cb40 174 (.aload_n 2) 1 := by decide +kernel
theorem d7_175 : dq cb40 175 (.iload 11) 2 := by decide +kernel
theorem d7_177 : dq cb40 177 (.iload 11) 2 := by decide +kernel
theorem d7_179 : dq cb40 179 (.aload 7) 2 := by decide +kernel
theorem d7_181 : dq cb40 181 .arraylength 1 := by decide +kernel
theorem d7_182 : dq cb40 182 .iadd 1 := by decide +kernel
theorem d7_183 : dq cb40 183 (.aload 7) 2 := by decide +kernel
theorem d7_185 : dq cb40 185 (.iconst 0) 1 := by decide +kernel
theorem d7_186 : dq cb40 186 (.invokevirtual 59) 3 := by decide +kernel
theorem pd_24 : parseMethodDescriptor "(II[CI)V" = some ⟨[.int, .int, (.array .char), .int], none⟩ := by decide +kernel
theorem d7_189 : dq cb40 189 (.aload 9) 2 := by decide +kernel
theorem d7_191 : dq cb40 191 (.aload 7) 2 := by decide +kernel
theorem d7_193 : dq cb40 193 (.iconst 0) 1 := by decide +kernel
theorem d7_194 : dq cb40 194 (.aload 7) 2 := by decide +kernel
theorem d7_196 : dq cb40 196 .arraylength 1 := by decide +kernel
theorem d7_197 : dq cb40 197 (.invokevirtual 63) 3 := by decide +kernel
theorem pd_25 : parseMethodDescriptor "([CII)V" = some ⟨[(.array .char), .int, .int], none⟩ := by decide +kernel
theorem d7_200 : dq cb40 200 (.iinc 10 1) 3 := by decide +kernel
theorem d7_203 : dq cb40 203 (.goto (-67)) 3 := by decide +kernel
theorem d7_206 : dq cb40 206 (.aload_n 0) 1 := by decide +kernel
theorem d7_207 : dq cb40 207 (.aload_n 0) 1 := by decide +kernel
theorem d7_208 : dq cb40 208 (.aload 9) 2 := by decide +kernel
theorem d7_210 : dq cb40 210 (.invokevirtual 67) 3 := by decide +kernel
theorem pd_26 : parseMethodDescriptor "(Lcom/example/clew/clew/CharFilter$Counts;)Lcom/example/clew/clew/DefaultSearch$Sieve;" = some ⟨[(.object "com/example/clew/clew/CharFilter$Counts")], some (.object "com/example/clew/clew/DefaultSearch$Sieve")⟩ := by decide +kernel
theorem d7_213 : dq cb40 213 (.invokevirtual 71) 3 := by decide +kernel
theorem pd_27 : parseMethodDescriptor "(Lcom/example/clew/clew/DefaultSearch$Sieve;)V" = some ⟨[(.object "com/example/clew/clew/DefaultSearch$Sieve")], none⟩ := by decide +kernel
theorem d7_216 : dq cb40 216 .return_ 1 := by decide +kernel
theorem b7  (o1 : Addr) (oP : Addr) (oT : Addr) (ob : Addr) (kb : ClassId) (ln : Nat) (bs : List Int32) (cd : Int32) (cs : List Int32) (ob2 : Addr) (kb2 : ClassId) (ln2 : Nat) (bs2 : List Int32) (cd2 : Int32) (ts : List Int32) (cps : Int32) (fmv : Value) (fr : Nat) (cap : Int32)
    (C : own_C p s m meth c Z a0 prog_6_method_1_code 12 "com/example/clew/clew/CharFilter" none "<init>") (X0 : Stand p l e ({ frames := 6, cells := 12, slots := 16483, locals := 3096 } : Room) s m args below meth c T0 locs 0 0) (e0 : T0.heap = h0) (Z0 : n0 ≤ h0.size) (N0 : Fr n0 locs) (EO : Exa Z h0 o1 "com/example/clew/clew/CharFilter") (Fa : Fld Z h0 o1 "com/example/clew/clew/CharFilter" "copies" "[[C" .null) (Fb : Fld Z h0 o1 "com/example/clew/clew/CharFilter" "slots" "[[C" .null) (Fc : Fld Z h0 o1 "com/example/clew/clew/CharFilter" "pattern" "[C" .null) (Fd : Fld Z h0 o1 "com/example/clew/clew/CharFilter" "text" "Ljava/lang/String;" .null) (Fe : Fld Z h0 o1 "com/example/clew/clew/CharFilter" "from" "I" (.int (0 : Int32))) (Ff : Fld Z h0 o1 "com/example/clew/clew/CharFilter" "reach" "I" (.int (0 : Int32))) (Fg : Fld Z h0 o1 "com/example/clew/clew/CharFilter" "marks" "[B" .null) (Fh : Fld Z h0 o1 "com/example/clew/clew/CharFilter" "sieve" "Lcom/example/clew/clew/DefaultSearch$Sieve;" .null) (Fi : Fld Z h0 o1 "com/example/clew/clew/CharFilter" "whole" "Z" (.int (0 : Int32))) (Pxa : Exa Z h0 oP "java/lang/String") (Pxb : Fld Z h0 oP "java/lang/String" "value" "[B" (.ref ob)) (Pxc : Fld Z h0 oP "java/lang/String" "coder" "B" (.int cd)) (Pxd : Arv Z h0 ob kb .byte (Int32.ofNat ln) (own_iv bs) (.int (0 : Int32))) (Pya : Exa Z h0 oT "java/lang/String") (Pyb : Fld Z h0 oT "java/lang/String" "value" "[B" (.ref ob2)) (Pyc : Fld Z h0 oT "java/lang/String" "coder" "B" (.int cd2)) (Pyd : Arv Z h0 ob2 kb2 .byte (Int32.ofNat ln2) (own_iv bs2) (.int (0 : Int32))) (SC : Sta Z h0 "java/lang/String" "COMPACT_STRINGS" "Z" (.int cps)) (SA : Sta Z h0 "java/lang/StringUTF16" "$assertionsDisabled" "Z" (.int (1 : Int32))) (SH : Sta Z h0 "java/lang/StringUTF16" "HI_BYTE_SHIFT" "I" (.int (0 : Int32))) (SL : Sta Z h0 "java/lang/StringUTF16" "LO_BYTE_SHIFT" "I" (.int (8 : Int32))) (SF : Sta Z h0 "jdk/internal/util/Preconditions" "SIOOBE_FORMATTER" "Ljava/util/function/BiFunction;" fmv) (g_o1 : n0 ≤ o1) (hcp : ¬ cps = 0) (henc : own_enc cs cd ln bs) (hc4 : cs.length ≤ 4) (hc1 : 1 ≤ cs.length) (hch : ∀ j, j < cs.length → own_ch (cs.getD j 0)) (hrf : fmv.isRef = true) (henc2 : own_enc ts cd2 ln2 bs2) (hT4 : ts.length = 4) (hch2 : ∀ j, j < ts.length → own_ch (ts.getD j 0)) (hfr : fr ≤ 4) (hcap : ¬ cap < 0) (ne_1P : o1 ≠ oP) (ne_1T : o1 ≠ oT) (ne_1b : o1 ≠ ob) (ne_1c : o1 ≠ ob2) :
    own_Go p.tables e below (T0.setTop (mkF m 0 #[vr o1, vr oP, vr oT, vi (Int32.ofNat fr), vi cap, .unset, .unset, .unset, .unset, .unset, .unset, .unset] [])) (own_K s (fun (v : Option Value) (h : Heap) (L : List Loc) => Q7 Z o1 oP oT ob kb ln bs cd cs ob2 kb2 ln2 bs2 cd2 ts cps fmv fr cap h0 n0 v h L) ({ frames := 6, cells := 12, slots := 16483, locals := 3096 } : Room).cells ({ frames := 6, cells := 12, slots := 16483, locals := 3096 } : Room).slots) := by
  obtain ⟨hx, hZ, hw, hby, hml, hown, hret, hlk, hnm⟩ := C
  refine vs T0 1 [(.ref o1)] (fun t k => XS.aloadN X0.here hx rfl (hb hby d7_0) rfl rfl k) ?_
  obtain ⟨T1, X1, e1, st1⟩ := initO X0 hx hZ hown (ww hw 37 rfl) (ww hw 12 rfl) (ww hw 13 rfl) e0 (g := (mkF m 1 #[vr o1, vr oP, vr oT, vi (Int32.ofNat fr), vi cap, .unset, .unset, .unset, .unset, .unset, .unset, .unset] [(.ref o1)])) rfl (by rw [hml]; rfl) rfl (hb hby d7_1) (by decide) (W := 0) (by show 2 * 0 + _ ≤ _; exact Nat.le_of_eq rfl) (by decide)
  refine vs T1 4 [] (fun t k => st1 t k) ?_
  refine vs T1 5 [(.ref o1)] (fun t k => XS.aloadN X1.here hx rfl (hb hby d7_4) rfl rfl k) ?_
  refine vs T1 6 [(.int (4 : Int32)), (.ref o1)] (fun t k => XS.iconst X1.here hx rfl (hb hby d7_5) k) ?_
  obtain ⟨T2, h2, k2, X2, e2, E2, A2, XA2, -, st2⟩ := newRA X1 hx hZ (C := "[C") (ty := .char) hown (by decide) (ww hw 38 rfl) (ww hw 39 rfl) e1 (g := (mkF m 6 #[vr o1, vr oP, vr oT, vi (Int32.ofNat fr), vi cap, .unset, .unset, .unset, .unset, .unset, .unset, .unset] [(.int (4 : Int32)), (.ref o1)])) rfl (hb hby d7_6) rfl (by decide) (cap := 4) (by decide) (by decide) (by decide) (by decide) (ad := "[[C") (by decide)
  obtain ⟨b2, g2⟩ : ∃ z, z = h0.size := ⟨_, rfl⟩
  rw [← g2] at A2 XA2 st2
  have ne_o1_b2 : o1 ≠ b2 := Nat.ne_of_lt (Nat.lt_of_lt_of_le EO.lt (Nat.le_of_eq g2.symm))
  have ne_oP_b2 : oP ≠ b2 := Nat.ne_of_lt (Nat.lt_of_lt_of_le Pxa.lt (Nat.le_of_eq g2.symm))
  have ne_ob_b2 : ob ≠ b2 := Nat.ne_of_lt (Nat.lt_of_lt_of_le Pxd.lt (Nat.le_of_eq g2.symm))
  have ne_oT_b2 : oT ≠ b2 := Nat.ne_of_lt (Nat.lt_of_lt_of_le Pya.lt (Nat.le_of_eq g2.symm))
  have ne_ob2_b2 : ob2 ≠ b2 := Nat.ne_of_lt (Nat.lt_of_lt_of_le Pyd.lt (Nat.le_of_eq g2.symm))
  have g_b2 : n0 ≤ b2 := Nat.le_trans Z0 (Nat.le_of_eq g2.symm)
  have EO'2 := EO.ext E2
  have Fa'2 := Fa.ext E2
  have Fb'2 := Fb.ext E2
  have Fc'2 := Fc.ext E2
  have Fd'2 := Fd.ext E2
  have Fe'2 := Fe.ext E2
  have Ff'2 := Ff.ext E2
  have Fg'2 := Fg.ext E2
  have Fh'2 := Fh.ext E2
  have Fi'2 := Fi.ext E2
  have Pxa'2 := Pxa.ext E2
  have Pxb'2 := Pxb.ext E2
  have Pxc'2 := Pxc.ext E2
  have Pxd'2 := Pxd.ext E2
  have Pya'2 := Pya.ext E2
  have Pyb'2 := Pyb.ext E2
  have Pyc'2 := Pyc.ext E2
  have Pyd'2 := Pyd.ext E2
  have SC'2 := SC.ext E2
  have SA'2 := SA.ext E2
  have SH'2 := SH.ext E2
  have SL'2 := SL.ext E2
  have SF'2 := SF.ext E2
  have sz_b2 : h0.size ≤ b2 := Nat.le_trans ((Keep.refl h0 [o1])).1 (Nat.le_of_eq g2.symm)
  have K2 := ((Keep.refl h0 [o1])).ext E2
  have Z2 : n0 ≤ h2.size := Nat.le_trans Z0 E2.1
  refine vs T2 9 [(.ref b2), (.ref o1)] (fun t k => st2 t k) ?_
  obtain ⟨T3, h3, X3, e3, W3, st3⟩ := putF X2 hx hZ hown (host := "") (Or.inl (ww hw 40 rfl)) Via.refl e2 Fa'2 EO'2 (Or.inr ⟨(ww hw 41 rfl), rfl, hnm⟩) (ww hw 31 rfl) (ty := (.array (.array .char))) (by decide) rfl rfl (g := (mkF m 9 #[vr o1, vr oP, vr oT, vi (Int32.ofNat fr), vi cap, .unset, .unset, .unset, .unset, .unset, .unset, .unset] [(.ref b2), (.ref o1)])) rfl rfl (hb hby d7_9)
  have Fa'3 := Fa'2.same W3
  have EO'3 := EO'2.wr W3
  have Fb'3 := Fb'2.other W3 (Or.inr (slot_ne (Or.inr (ww hw 43 rfl)) (Or.inr (ww hw 41 rfl)) (by decide) (t := (.array (.array .char))) (t' := (.array (.array .char))) (by decide) (by decide)))
  have Fc'3 := Fc'2.other W3 (Or.inr (slot_ne (Or.inr (ww hw 62 rfl)) (Or.inr (ww hw 41 rfl)) (by decide) (t := (.array .char)) (t' := (.array (.array .char))) (by decide) (by decide)))
  have Fd'3 := Fd'2.other W3 (Or.inr (slot_ne (Or.inr (ww hw 64 rfl)) (Or.inr (ww hw 41 rfl)) (by decide) (t := (.object "java/lang/String")) (t' := (.array (.array .char))) (by decide) (by decide)))
  have Fe'3 := Fe'2.other W3 (Or.inr (slot_ne (Or.inr (ww hw 66 rfl)) (Or.inr (ww hw 41 rfl)) (by decide) (t := .int) (t' := (.array (.array .char))) (by decide) (by decide)))
  have Ff'3 := Ff'2.other W3 (Or.inr (slot_ne (Or.inr (ww hw 72 rfl)) (Or.inr (ww hw 41 rfl)) (by decide) (t := .int) (t' := (.array (.array .char))) (by decide) (by decide)))
  have Fg'3 := Fg'2.other W3 (Or.inr (slot_ne (Or.inr (ww hw 74 rfl)) (Or.inr (ww hw 41 rfl)) (by decide) (t := (.array .byte)) (t' := (.array (.array .char))) (by decide) (by decide)))
  have Fh'3 := Fh'2.other W3 (Or.inr (slot_ne (Or.inl (ww hw 178 rfl)) (Or.inr (ww hw 41 rfl)) (by decide) (t := (.object "com/example/clew/clew/DefaultSearch$Sieve")) (t' := (.array (.array .char))) (by decide) (by decide)))
  have Fi'3 := Fi'2.other W3 (Or.inr (slot_ne (Or.inl (ww hw 185 rfl)) (Or.inr (ww hw 41 rfl)) (by decide) (t := .boolean) (t' := (.array (.array .char))) (by decide) (by decide)))
  have Pxa'3 := Pxa'2.wr W3
  have Pxb'3 := Pxb'2.other W3 (Or.inl (Ne.symm ne_1P))
  have Pxc'3 := Pxc'2.other W3 (Or.inl (Ne.symm ne_1P))
  have Pxd'3 := Pxd'2.other W3 (Ne.symm ne_1b)
  have Pya'3 := Pya'2.wr W3
  have Pyb'3 := Pyb'2.other W3 (Or.inl (Ne.symm ne_1T))
  have Pyc'3 := Pyc'2.other W3 (Or.inl (Ne.symm ne_1T))
  have Pyd'3 := Pyd'2.other W3 (Ne.symm ne_1c)
  have SC'3 := SC'2.wr W3
  have SA'3 := SA'2.wr W3
  have SH'3 := SH'2.wr W3
  have SL'3 := SL'2.wr W3
  have SF'3 := SF'2.wr W3
  have N3 := Fr.snoc X3 N0 g_o1
  have Z3 : n0 ≤ h3.size := Nat.le_trans Z2 (Keep.of_wr W3).1
  have K3 := (K2).wr W3 (Or.inl (List.mem_of_getElem? (i := 0) rfl))
  refine vs T3 12 [] (fun t k => st3 t k) ?_
  refine vs T3 13 [(.ref o1)] (fun t k => XS.aloadN X3.here hx rfl (hb hby d7_12) rfl rfl k) ?_
  refine vs T3 14 [(.int (4 : Int32)), (.ref o1)] (fun t k => XS.iconst X3.here hx rfl (hb hby d7_13) k) ?_
  obtain ⟨T4, h4, k4, X4, e4, E4, A4, XA4, -, st4⟩ := newRA X3 hx hZ (C := "[C") (ty := .char) hown (by decide) (ww hw 38 rfl) (ww hw 39 rfl) e3 (g := (mkF m 14 #[vr o1, vr oP, vr oT, vi (Int32.ofNat fr), vi cap, .unset, .unset, .unset, .unset, .unset, .unset, .unset] [(.int (4 : Int32)), (.ref o1)])) rfl (hb hby d7_14) rfl (by decide) (cap := 4) (by decide) (by decide) (by decide) (by decide) (ad := "[[C") (by decide)
  obtain ⟨b4, g4⟩ : ∃ z, z = h3.size := ⟨_, rfl⟩
  rw [← g4] at A4 XA4 st4
  have ne_o1_b4 : o1 ≠ b4 := Nat.ne_of_lt (Nat.lt_of_lt_of_le EO'3.lt (Nat.le_of_eq g4.symm))
  have ne_oP_b4 : oP ≠ b4 := Nat.ne_of_lt (Nat.lt_of_lt_of_le Pxa'3.lt (Nat.le_of_eq g4.symm))
  have ne_ob_b4 : ob ≠ b4 := Nat.ne_of_lt (Nat.lt_of_lt_of_le Pxd'3.lt (Nat.le_of_eq g4.symm))
  have ne_oT_b4 : oT ≠ b4 := Nat.ne_of_lt (Nat.lt_of_lt_of_le Pya'3.lt (Nat.le_of_eq g4.symm))
  have ne_ob2_b4 : ob2 ≠ b4 := Nat.ne_of_lt (Nat.lt_of_lt_of_le Pyd'3.lt (Nat.le_of_eq g4.symm))
  have g_b4 : n0 ≤ b4 := Nat.le_trans Z3 (Nat.le_of_eq g4.symm)
  have EO'4 := EO'3.ext E4
  have Fb'4 := Fb'3.ext E4
  have Fc'4 := Fc'3.ext E4
  have Fd'4 := Fd'3.ext E4
  have Fe'4 := Fe'3.ext E4
  have Ff'4 := Ff'3.ext E4
  have Fg'4 := Fg'3.ext E4
  have Fh'4 := Fh'3.ext E4
  have Fi'4 := Fi'3.ext E4
  have Pxa'4 := Pxa'3.ext E4
  have Pxb'4 := Pxb'3.ext E4
  have Pxc'4 := Pxc'3.ext E4
  have Pxd'4 := Pxd'3.ext E4
  have Pya'4 := Pya'3.ext E4
  have Pyb'4 := Pyb'3.ext E4
  have Pyc'4 := Pyc'3.ext E4
  have Pyd'4 := Pyd'3.ext E4
  have SC'4 := SC'3.ext E4
  have SA'4 := SA'3.ext E4
  have SH'4 := SH'3.ext E4
  have SL'4 := SL'3.ext E4
  have SF'4 := SF'3.ext E4
  have sz_b4 : h0.size ≤ b4 := Nat.le_trans (K3).1 (Nat.le_of_eq g4.symm)
  have K4 := (K3).ext E4
  have Z4 : n0 ≤ h4.size := Nat.le_trans Z3 E4.1
  refine vs T4 17 [(.ref b4), (.ref o1)] (fun t k => st4 t k) ?_
  obtain ⟨T5, h5, X5, e5, W5, st5⟩ := putF X4 hx hZ hown (host := "") (Or.inl (ww hw 42 rfl)) Via.refl e4 Fb'4 EO'4 (Or.inr ⟨(ww hw 43 rfl), rfl, hnm⟩) (ww hw 31 rfl) (ty := (.array (.array .char))) (by decide) rfl rfl (g := (mkF m 17 #[vr o1, vr oP, vr oT, vi (Int32.ofNat fr), vi cap, .unset, .unset, .unset, .unset, .unset, .unset, .unset] [(.ref b4), (.ref o1)])) rfl rfl (hb hby d7_17)
  have Fb'5 := Fb'4.same W5
  have EO'5 := EO'4.wr W5
  have Fc'5 := Fc'4.other W5 (Or.inr (slot_ne (Or.inr (ww hw 62 rfl)) (Or.inr (ww hw 43 rfl)) (by decide) (t := (.array .char)) (t' := (.array (.array .char))) (by decide) (by decide)))
  have Fd'5 := Fd'4.other W5 (Or.inr (slot_ne (Or.inr (ww hw 64 rfl)) (Or.inr (ww hw 43 rfl)) (by decide) (t := (.object "java/lang/String")) (t' := (.array (.array .char))) (by decide) (by decide)))
  have Fe'5 := Fe'4.other W5 (Or.inr (slot_ne (Or.inr (ww hw 66 rfl)) (Or.inr (ww hw 43 rfl)) (by decide) (t := .int) (t' := (.array (.array .char))) (by decide) (by decide)))
  have Ff'5 := Ff'4.other W5 (Or.inr (slot_ne (Or.inr (ww hw 72 rfl)) (Or.inr (ww hw 43 rfl)) (by decide) (t := .int) (t' := (.array (.array .char))) (by decide) (by decide)))
  have Fg'5 := Fg'4.other W5 (Or.inr (slot_ne (Or.inr (ww hw 74 rfl)) (Or.inr (ww hw 43 rfl)) (by decide) (t := (.array .byte)) (t' := (.array (.array .char))) (by decide) (by decide)))
  have Fh'5 := Fh'4.other W5 (Or.inr (slot_ne (Or.inl (ww hw 178 rfl)) (Or.inr (ww hw 43 rfl)) (by decide) (t := (.object "com/example/clew/clew/DefaultSearch$Sieve")) (t' := (.array (.array .char))) (by decide) (by decide)))
  have Fi'5 := Fi'4.other W5 (Or.inr (slot_ne (Or.inl (ww hw 185 rfl)) (Or.inr (ww hw 43 rfl)) (by decide) (t := .boolean) (t' := (.array (.array .char))) (by decide) (by decide)))
  have Pxa'5 := Pxa'4.wr W5
  have Pxb'5 := Pxb'4.other W5 (Or.inl (Ne.symm ne_1P))
  have Pxc'5 := Pxc'4.other W5 (Or.inl (Ne.symm ne_1P))
  have Pxd'5 := Pxd'4.other W5 (Ne.symm ne_1b)
  have Pya'5 := Pya'4.wr W5
  have Pyb'5 := Pyb'4.other W5 (Or.inl (Ne.symm ne_1T))
  have Pyc'5 := Pyc'4.other W5 (Or.inl (Ne.symm ne_1T))
  have Pyd'5 := Pyd'4.other W5 (Ne.symm ne_1c)
  have SC'5 := SC'4.wr W5
  have SA'5 := SA'4.wr W5
  have SH'5 := SH'4.wr W5
  have SL'5 := SL'4.wr W5
  have SF'5 := SF'4.wr W5
  have N5 := Fr.snoc X5 N3 g_o1
  have Z5 : n0 ≤ h5.size := Nat.le_trans Z4 (Keep.of_wr W5).1
  have K5 := (K4).wr W5 (Or.inl (List.mem_of_getElem? (i := 0) rfl))
  refine vs T5 20 [] (fun t k => st5 t k) ?_
  refine vs T5 21 [(.ref o1)] (fun t k => XS.aloadN X5.here hx rfl (hb hby d7_20) rfl rfl k) ?_
  refine vs T5 22 [(.ref oP), (.ref o1)] (fun t k => XS.aloadN X5.here hx rfl (hb hby d7_21) rfl rfl k) ?_
  obtain ⟨cq6, kq6, q6a, q6b, q6c⟩ := isOf hZ e5 Pxa'5
  obtain ⟨_, _, ⟨T6, L6, k6, n6⟩, -, X6, ⟨Lc6, hQ6, l6, y6, z6⟩, st6⟩ := X5.virtualBack hx (y := (⟨"java/lang/String", "toCharArray", "()[C"⟩ : MethodName)) (z := (⟨"java/lang/String", "toCharArray", "()[C"⟩ : MethodName)) hown (mvT hZ (ww hw 44 rfl)) (mvT hZ (ww hw 45 rfl)) (notFace_of_selects (args := #[]) (mvT hZ (ww hw 47 rfl))) (mvT hZ (ww hw 47 rfl)) (mvT hZ (ww hw 46 rfl)) (by decide) (backOf (W := 1) (rm8 l Z a0 hw [] oP ob kb ln bs cd cs cps fmv h5 n0 Z5 Pxa'5 Pxb'5 Pxc'5 Pxd'5 SC'5 SA'5 SH'5 SL'5 SF'5 hcp henc hc4 hc1 hch hrf) hZ (ww hw 48 rfl) (ww hw 3 rfl) (by decide) (by decide)) q6a q6c (g := (mkF m 22 #[vr o1, vr oP, vr oT, vi (Int32.ofNat fr), vi cap, .unset, .unset, .unset, .unset, .unset, .unset, .unset] [(.ref oP), (.ref o1)])) rfl (by rw [hml]; rfl) (Steps.refl _) (argsL := []) (rest := [(.ref o1)]) (lenOf pd_22 rfl) rfl (by show 2 * 0 + _ ≤ _; exact Nat.le_of_eq rfl) (hb hby d7_22) (fun _ _ => ⟨rfl, e5, (by decide : ((0 + 1) + 1) + 1 ≤ _), (by decide : ((0 + 4) + 4) + 4 ≤ _)⟩)
  dsimp only [Pt.U, Pt.locs, Pt.cells, Pt.slots] at X6 l6 y6 z6 st6 hQ6
  subst l6 y6 z6
  obtain ⟨bz_6, kz_6, rfl, Nq6, K6q, fz_bz_6, P0_6⟩ := hQ6
  have N6 := Fr.app N5 Nq6
  have EO'6 := EO'5.keep K6q
  have Fc'6 := Fc'5.keep K6q nin0
  have Fd'6 := Fd'5.keep K6q nin0
  have Fe'6 := Fe'5.keep K6q nin0
  have Ff'6 := Ff'5.keep K6q nin0
  have Fg'6 := Fg'5.keep K6q nin0
  have Fh'6 := Fh'5.keep K6q nin0
  have Fi'6 := Fi'5.keep K6q nin0
  have Pxa'6 := Pxa'5.keep K6q
  have Pxb'6 := Pxb'5.keep K6q nin0
  have Pxc'6 := Pxc'5.keep K6q nin0
  have Pxd'6 := Pxd'5.keep K6q nin0
  have Pya'6 := Pya'5.keep K6q
  have Pyb'6 := Pyb'5.keep K6q nin0
  have Pyc'6 := Pyc'5.keep K6q nin0
  have Pyd'6 := Pyd'5.keep K6q nin0
  have SC'6 := own_stakeep SC'5 K6q all0
  have SA'6 := own_stakeep SA'5 K6q all0
  have SH'6 := own_stakeep SH'5 K6q all0
  have SL'6 := own_stakeep SL'5 K6q all0
  have SF'6 := own_stakeep SF'5 K6q all0
  have K6 := (K5).trans K6q all0
  have g_bz_6 : n0 ≤ bz_6 := Nat.le_trans Z5 fz_bz_6
  have sz_bz_6 : h0.size ≤ bz_6 := Nat.le_trans (K5).1 fz_bz_6
  have ne_o1_bz_6 : o1 ≠ bz_6 := Nat.ne_of_lt (Nat.lt_of_lt_of_le EO'5.lt fz_bz_6)
  have ne_oP_bz_6 : oP ≠ bz_6 := Nat.ne_of_lt (Nat.lt_of_lt_of_le Pxa'5.lt fz_bz_6)
  have ne_ob_bz_6 : ob ≠ bz_6 := Nat.ne_of_lt (Nat.lt_of_lt_of_le Pxd'5.lt fz_bz_6)
  have ne_oT_bz_6 : oT ≠ bz_6 := Nat.ne_of_lt (Nat.lt_of_lt_of_le Pya'5.lt fz_bz_6)
  have ne_ob2_bz_6 : ob2 ≠ bz_6 := Nat.ne_of_lt (Nat.lt_of_lt_of_le Pyd'5.lt fz_bz_6)
  have Z6 : n0 ≤ T6.heap.size := Nat.le_trans Z5 K6q.1
  refine vs T6 25 [(.ref bz_6), (.ref o1)] (fun t k => st6.trans k) ?_
  obtain ⟨T7, h7, X7, e7, W7, st7⟩ := putF X6 hx hZ hown (host := "") (Or.inl (ww hw 61 rfl)) Via.refl rfl Fc'6 EO'6 (Or.inr ⟨(ww hw 62 rfl), rfl, hnm⟩) (ww hw 31 rfl) (ty := (.array .char)) (by decide) rfl rfl (g := (mkF m 25 #[vr o1, vr oP, vr oT, vi (Int32.ofNat fr), vi cap, .unset, .unset, .unset, .unset, .unset, .unset, .unset] [(.ref bz_6), (.ref o1)])) rfl rfl (hb hby d7_25)
  have Fc'7 := Fc'6.same W7
  have EO'7 := EO'6.wr W7
  have Fd'7 := Fd'6.other W7 (Or.inr (slot_ne (Or.inr (ww hw 64 rfl)) (Or.inr (ww hw 62 rfl)) (by decide) (t := (.object "java/lang/String")) (t' := (.array .char)) (by decide) (by decide)))
  have Fe'7 := Fe'6.other W7 (Or.inr (slot_ne (Or.inr (ww hw 66 rfl)) (Or.inr (ww hw 62 rfl)) (by decide) (t := .int) (t' := (.array .char)) (by decide) (by decide)))
  have Ff'7 := Ff'6.other W7 (Or.inr (slot_ne (Or.inr (ww hw 72 rfl)) (Or.inr (ww hw 62 rfl)) (by decide) (t := .int) (t' := (.array .char)) (by decide) (by decide)))
  have Fg'7 := Fg'6.other W7 (Or.inr (slot_ne (Or.inr (ww hw 74 rfl)) (Or.inr (ww hw 62 rfl)) (by decide) (t := (.array .byte)) (t' := (.array .char)) (by decide) (by decide)))
  have Fh'7 := Fh'6.other W7 (Or.inr (slot_ne (Or.inl (ww hw 178 rfl)) (Or.inr (ww hw 62 rfl)) (by decide) (t := (.object "com/example/clew/clew/DefaultSearch$Sieve")) (t' := (.array .char)) (by decide) (by decide)))
  have Fi'7 := Fi'6.other W7 (Or.inr (slot_ne (Or.inl (ww hw 185 rfl)) (Or.inr (ww hw 62 rfl)) (by decide) (t := .boolean) (t' := (.array .char)) (by decide) (by decide)))
  have Pxa'7 := Pxa'6.wr W7
  have Pxb'7 := Pxb'6.other W7 (Or.inl (Ne.symm ne_1P))
  have Pxc'7 := Pxc'6.other W7 (Or.inl (Ne.symm ne_1P))
  have Pxd'7 := Pxd'6.other W7 (Ne.symm ne_1b)
  have Pya'7 := Pya'6.wr W7
  have Pyb'7 := Pyb'6.other W7 (Or.inl (Ne.symm ne_1T))
  have Pyc'7 := Pyc'6.other W7 (Or.inl (Ne.symm ne_1T))
  have Pyd'7 := Pyd'6.other W7 (Ne.symm ne_1c)
  have SC'7 := SC'6.wr W7
  have SA'7 := SA'6.wr W7
  have SH'7 := SH'6.wr W7
  have SL'7 := SL'6.wr W7
  have SF'7 := SF'6.wr W7
  have P0_6'7 := P0_6.other W7 (Ne.symm ne_o1_bz_6)
  have N7 := Fr.snoc X7 N6 g_o1
  have Z7 : n0 ≤ h7.size := Nat.le_trans Z6 (Keep.of_wr W7).1
  have K7 := (K6).wr W7 (Or.inl (List.mem_of_getElem? (i := 0) rfl))
  refine vs T7 28 [] (fun t k => st7 t k) ?_
  refine vs T7 29 [(.ref o1)] (fun t k => XS.aloadN X7.here hx rfl (hb hby d7_28) rfl rfl k) ?_
  refine vs T7 30 [(.ref oT), (.ref o1)] (fun t k => XS.aloadN X7.here hx rfl (hb hby d7_29) rfl rfl k) ?_
  obtain ⟨T8, h8, X8, e8, W8, st8⟩ := putF X7 hx hZ hown (host := "") (Or.inl (ww hw 63 rfl)) Via.refl e7 Fd'7 EO'7 (Or.inr ⟨(ww hw 64 rfl), rfl, hnm⟩) (ww hw 31 rfl) (ty := (.object "java/lang/String")) (by decide) rfl rfl (g := (mkF m 30 #[vr o1, vr oP, vr oT, vi (Int32.ofNat fr), vi cap, .unset, .unset, .unset, .unset, .unset, .unset, .unset] [(.ref oT), (.ref o1)])) rfl rfl (hb hby d7_30)
  have Fd'8 := Fd'7.same W8
  have EO'8 := EO'7.wr W8
  have Fc'8 := Fc'7.other W8 (Or.inr (slot_ne (Or.inr (ww hw 62 rfl)) (Or.inr (ww hw 64 rfl)) (by decide) (t := (.array .char)) (t' := (.object "java/lang/String")) (by decide) (by decide)))
  have Fe'8 := Fe'7.other W8 (Or.inr (slot_ne (Or.inr (ww hw 66 rfl)) (Or.inr (ww hw 64 rfl)) (by decide) (t := .int) (t' := (.object "java/lang/String")) (by decide) (by decide)))
  have Ff'8 := Ff'7.other W8 (Or.inr (slot_ne (Or.inr (ww hw 72 rfl)) (Or.inr (ww hw 64 rfl)) (by decide) (t := .int) (t' := (.object "java/lang/String")) (by decide) (by decide)))
  have Fg'8 := Fg'7.other W8 (Or.inr (slot_ne (Or.inr (ww hw 74 rfl)) (Or.inr (ww hw 64 rfl)) (by decide) (t := (.array .byte)) (t' := (.object "java/lang/String")) (by decide) (by decide)))
  have Fh'8 := Fh'7.other W8 (Or.inr (slot_ne (Or.inl (ww hw 178 rfl)) (Or.inr (ww hw 64 rfl)) (by decide) (t := (.object "com/example/clew/clew/DefaultSearch$Sieve")) (t' := (.object "java/lang/String")) (by decide) (by decide)))
  have Fi'8 := Fi'7.other W8 (Or.inr (slot_ne (Or.inl (ww hw 185 rfl)) (Or.inr (ww hw 64 rfl)) (by decide) (t := .boolean) (t' := (.object "java/lang/String")) (by decide) (by decide)))
  have Pya'8 := Pya'7.wr W8
  have Pyb'8 := Pyb'7.other W8 (Or.inl (Ne.symm ne_1T))
  have Pyc'8 := Pyc'7.other W8 (Or.inl (Ne.symm ne_1T))
  have Pyd'8 := Pyd'7.other W8 (Ne.symm ne_1c)
  have SC'8 := SC'7.wr W8
  have SA'8 := SA'7.wr W8
  have SH'8 := SH'7.wr W8
  have SL'8 := SL'7.wr W8
  have SF'8 := SF'7.wr W8
  have P0_6'8 := P0_6'7.other W8 (Ne.symm ne_o1_bz_6)
  have N8 := Fr.snoc X8 N7 g_o1
  have Z8 : n0 ≤ h8.size := Nat.le_trans Z7 (Keep.of_wr W8).1
  have K8 := (K7).wr W8 (Or.inl (List.mem_of_getElem? (i := 0) rfl))
  refine vs T8 33 [] (fun t k => st8 t k) ?_
  refine vs T8 34 [(.ref o1)] (fun t k => XS.aloadN X8.here hx rfl (hb hby d7_33) rfl rfl k) ?_
  refine vs T8 35 [(.int (Int32.ofNat fr)), (.ref o1)] (fun t k => XS.iloadN X8.here hx rfl (hb hby d7_34) rfl k) ?_
  obtain ⟨T9, h9, X9, e9, W9, st9⟩ := putF X8 hx hZ hown (host := "") (Or.inl (ww hw 65 rfl)) Via.refl e8 Fe'8 EO'8 (Or.inr ⟨(ww hw 66 rfl), rfl, hnm⟩) (ww hw 31 rfl) (ty := .int) (by decide) rfl rfl (g := (mkF m 35 #[vr o1, vr oP, vr oT, vi (Int32.ofNat fr), vi cap, .unset, .unset, .unset, .unset, .unset, .unset, .unset] [(.int (Int32.ofNat fr)), (.ref o1)])) rfl rfl (hb hby d7_35)
  have Fe'9 := Fe'8.same W9
  have EO'9 := EO'8.wr W9
  have Fc'9 := Fc'8.other W9 (Or.inr (slot_ne (Or.inr (ww hw 62 rfl)) (Or.inr (ww hw 66 rfl)) (by decide) (t := (.array .char)) (t' := .int) (by decide) (by decide)))
  have Ff'9 := Ff'8.other W9 (Or.inr (slot_ne (Or.inr (ww hw 72 rfl)) (Or.inr (ww hw 66 rfl)) (by decide) (t := .int) (t' := .int) (by decide) (by decide)))
  have Fg'9 := Fg'8.other W9 (Or.inr (slot_ne (Or.inr (ww hw 74 rfl)) (Or.inr (ww hw 66 rfl)) (by decide) (t := (.array .byte)) (t' := .int) (by decide) (by decide)))
  have Fh'9 := Fh'8.other W9 (Or.inr (slot_ne (Or.inl (ww hw 178 rfl)) (Or.inr (ww hw 66 rfl)) (by decide) (t := (.object "com/example/clew/clew/DefaultSearch$Sieve")) (t' := .int) (by decide) (by decide)))
  have Fi'9 := Fi'8.other W9 (Or.inr (slot_ne (Or.inl (ww hw 185 rfl)) (Or.inr (ww hw 66 rfl)) (by decide) (t := .boolean) (t' := .int) (by decide) (by decide)))
  have Pya'9 := Pya'8.wr W9
  have Pyb'9 := Pyb'8.other W9 (Or.inl (Ne.symm ne_1T))
  have Pyc'9 := Pyc'8.other W9 (Or.inl (Ne.symm ne_1T))
  have Pyd'9 := Pyd'8.other W9 (Ne.symm ne_1c)
  have SC'9 := SC'8.wr W9
  have SA'9 := SA'8.wr W9
  have SH'9 := SH'8.wr W9
  have SL'9 := SL'8.wr W9
  have SF'9 := SF'8.wr W9
  have P0_6'9 := P0_6'8.other W9 (Ne.symm ne_o1_bz_6)
  have N9 := Fr.snoc X9 N8 g_o1
  have Z9 : n0 ≤ h9.size := Nat.le_trans Z8 (Keep.of_wr W9).1
  have K9 := (K8).wr W9 (Or.inl (List.mem_of_getElem? (i := 0) rfl))
  refine vs T9 38 [] (fun t k => st9 t k) ?_
  refine vs T9 39 [(.ref o1)] (fun t k => XS.aloadN X9.here hx rfl (hb hby d7_38) rfl rfl k) ?_
  refine vs T9 41 [(.int cap), (.ref o1)] (fun t k => XS.iload X9.here hx rfl (hb hby d7_39) rfl k) ?_
  refine vs T9 44 [(.int (8192 : Int32)), (.int cap), (.ref o1)] (fun t k => XS.sipush X9.here hx rfl (hb hby d7_41) k) ?_
  obtain ⟨_, _, ⟨T10, L10, k10, n10⟩, -, X10, ⟨Lc10, hQ10, l10, y10, z10⟩, st10⟩ := Jvm.LawKit.callS X9 hx (y := (⟨"java/lang/Math", "min", "(II)I"⟩ : MethodName)) hown (mvT hZ (ww hw 67 rfl)) (mvT hZ (ww hw 68 rfl)) (mvT hZ (ww hw 69 rfl)) (mvT hZ (ww hw 70 rfl)) (by decide) (backOf (W := 1) (rm12 l Z a0 hw [] cap (8192 : Int32) h9 n0 Z9) hZ (ww hw 70 rfl) (ww hw 69 rfl) (by decide) (by decide)) (g := (mkF m 44 #[vr o1, vr oP, vr oT, vi (Int32.ofNat fr), vi cap, .unset, .unset, .unset, .unset, .unset, .unset, .unset] [(.int (8192 : Int32)), (.int cap), (.ref o1)])) rfl (by rw [hml]; rfl) (argsL := [(.int cap), (.int (8192 : Int32))]) (rest := [(.ref o1)]) (lenOf pd_19 rfl) rfl (by show 2 * 0 + _ ≤ _; exact Nat.le_of_eq rfl) (hb hby d7_44) (fun _ _ => ⟨rfl, e9, (by decide : (((0 + 1) + 1) + 1) + 0 ≤ _), (by decide : (((0 + 4) + 4) + 4) + 0 ≤ _)⟩)
  dsimp only [Pt.U, Pt.locs, Pt.cells, Pt.slots] at X10 l10 y10 z10 st10 hQ10
  subst l10 y10 z10
  obtain ⟨rfl, Nq10, eh10⟩ := hQ10
  have N10 := Fr.app N9 Nq10
  refine vs T10 47 [(.int (own_mn cap (8192 : Int32))), (.ref o1)] (fun t k => st10 t k) ?_
  obtain ⟨T11, h11, X11, e11, W11, st11⟩ := putF X10 hx hZ hown (host := "") (Or.inl (ww hw 71 rfl)) Via.refl eh10 Ff'9 EO'9 (Or.inr ⟨(ww hw 72 rfl), rfl, hnm⟩) (ww hw 31 rfl) (ty := .int) (by decide) rfl rfl (g := (mkF m 47 #[vr o1, vr oP, vr oT, vi (Int32.ofNat fr), vi cap, .unset, .unset, .unset, .unset, .unset, .unset, .unset] [(.int (own_mn cap (8192 : Int32))), (.ref o1)])) rfl rfl (hb hby d7_47)
  have Ff'11 := Ff'9.same W11
  have EO'11 := EO'9.wr W11
  have Fc'11 := Fc'9.other W11 (Or.inr (slot_ne (Or.inr (ww hw 62 rfl)) (Or.inr (ww hw 72 rfl)) (by decide) (t := (.array .char)) (t' := .int) (by decide) (by decide)))
  have Fg'11 := Fg'9.other W11 (Or.inr (slot_ne (Or.inr (ww hw 74 rfl)) (Or.inr (ww hw 72 rfl)) (by decide) (t := (.array .byte)) (t' := .int) (by decide) (by decide)))
  have Fh'11 := Fh'9.other W11 (Or.inr (slot_ne (Or.inl (ww hw 178 rfl)) (Or.inr (ww hw 72 rfl)) (by decide) (t := (.object "com/example/clew/clew/DefaultSearch$Sieve")) (t' := .int) (by decide) (by decide)))
  have Fi'11 := Fi'9.other W11 (Or.inr (slot_ne (Or.inl (ww hw 185 rfl)) (Or.inr (ww hw 72 rfl)) (by decide) (t := .boolean) (t' := .int) (by decide) (by decide)))
  have Pya'11 := Pya'9.wr W11
  have Pyb'11 := Pyb'9.other W11 (Or.inl (Ne.symm ne_1T))
  have Pyc'11 := Pyc'9.other W11 (Or.inl (Ne.symm ne_1T))
  have Pyd'11 := Pyd'9.other W11 (Ne.symm ne_1c)
  have SC'11 := SC'9.wr W11
  have SA'11 := SA'9.wr W11
  have SH'11 := SH'9.wr W11
  have SL'11 := SL'9.wr W11
  have SF'11 := SF'9.wr W11
  have P0_6'11 := P0_6'9.other W11 (Ne.symm ne_o1_bz_6)
  have N11 := Fr.snoc X11 N10 g_o1
  have Z11 : n0 ≤ h11.size := Nat.le_trans Z9 (Keep.of_wr W11).1
  have K11 := (K9).wr W11 (Or.inl (List.mem_of_getElem? (i := 0) rfl))
  refine vs T11 50 [] (fun t k => st11 t k) ?_
  refine vs T11 51 [(.ref o1)] (fun t k => XS.aloadN X11.here hx rfl (hb hby d7_50) rfl rfl k) ?_
  refine vs T11 52 [(.int (2 : Int32)), (.ref o1)] (fun t k => XS.iconst X11.here hx rfl (hb hby d7_51) k) ?_
  refine vs T11 53 [(.ref o1), (.int (2 : Int32)), (.ref o1)] (fun t k => XS.aloadN X11.here hx rfl (hb hby d7_52) rfl rfl k) ?_
  obtain ⟨T12, X12, e12, st12⟩ := getF X11 hx hZ hown (host := "") (Or.inl (ww hw 71 rfl)) Via.refl e11 Ff'11 (g := (mkF m 53 #[vr o1, vr oP, vr oT, vi (Int32.ofNat fr), vi cap, .unset, .unset, .unset, .unset, .unset, .unset, .unset] [(.ref o1), (.int (2 : Int32)), (.ref o1)])) rfl rfl (hb hby d7_53)
  refine vs T12 56 [(.int (own_mn cap (8192 : Int32))), (.int (2 : Int32)), (.ref o1)] (fun t k => st12 t k) ?_
  refine vs T12 58 [(.int (32 : Int32)), (.int (own_mn cap (8192 : Int32))), (.int (2 : Int32)), (.ref o1)] (fun t k => XS.bipush X12.here hx rfl (hb hby d7_56) k) ?_
  refine vs T12 59 [(.int ((own_mn cap (8192 : Int32)) + (32 : Int32))), (.int (2 : Int32)), (.ref o1)] (fun t k => XS.iadd X12.here hx rfl (hb hby d7_58) rfl k) ?_
  refine vs T12 60 [(.int ((2 : Int32) * ((own_mn cap (8192 : Int32)) + (32 : Int32)))), (.ref o1)] (fun t k => XS.imul X12.here hx rfl (hb hby d7_59) rfl k) ?_
  obtain ⟨T13, h13, k13, X13, e13, E13, A13, st13⟩ := newP X12 hx hZ (ww hw 19 rfl) e12 (g := (mkF m 60 #[vr o1, vr oP, vr oT, vi (Int32.ofNat fr), vi cap, .unset, .unset, .unset, .unset, .unset, .unset, .unset] [(.int ((2 : Int32) * ((own_mn cap (8192 : Int32)) + (32 : Int32)))), (.ref o1)])) rfl (hb hby d7_60) rfl (own_mkn hcap) (cap := 16448) (own_mkc hcap) (by decide) (by decide) (by decide)
  obtain ⟨b13, g13⟩ : ∃ z, z = h11.size := ⟨_, rfl⟩
  rw [← g13] at A13 st13
  have ne_o1_b13 : o1 ≠ b13 := Nat.ne_of_lt (Nat.lt_of_lt_of_le EO'11.lt (Nat.le_of_eq g13.symm))
  have ne_oT_b13 : oT ≠ b13 := Nat.ne_of_lt (Nat.lt_of_lt_of_le Pya'11.lt (Nat.le_of_eq g13.symm))
  have ne_ob2_b13 : ob2 ≠ b13 := Nat.ne_of_lt (Nat.lt_of_lt_of_le Pyd'11.lt (Nat.le_of_eq g13.symm))
  have ne_bz_6_b13 : bz_6 ≠ b13 := Nat.ne_of_lt (Nat.lt_of_lt_of_le P0_6'11.lt (Nat.le_of_eq g13.symm))
  have g_b13 : n0 ≤ b13 := Nat.le_trans Z11 (Nat.le_of_eq g13.symm)
  have EO'13 := EO'11.ext E13
  have Fc'13 := Fc'11.ext E13
  have Ff'13 := Ff'11.ext E13
  have Fg'13 := Fg'11.ext E13
  have Fh'13 := Fh'11.ext E13
  have Fi'13 := Fi'11.ext E13
  have Pya'13 := Pya'11.ext E13
  have Pyb'13 := Pyb'11.ext E13
  have Pyc'13 := Pyc'11.ext E13
  have Pyd'13 := Pyd'11.ext E13
  have SC'13 := SC'11.ext E13
  have SA'13 := SA'11.ext E13
  have SH'13 := SH'11.ext E13
  have SL'13 := SL'11.ext E13
  have SF'13 := SF'11.ext E13
  have P0_6'13 := P0_6'11.ext E13
  have sz_b13 : h0.size ≤ b13 := Nat.le_trans (K11).1 (Nat.le_of_eq g13.symm)
  have K13 := (K11).ext E13
  have Z13 : n0 ≤ h13.size := Nat.le_trans Z11 E13.1
  have V_b13 : Arv Z h13 b13 k13 .byte ((2 : Int32) * ((own_mn cap (8192 : Int32)) + (32 : Int32))) [] (.int (0 : Int32)) := (Arv.new A13 (own_mkn hcap))
  refine vs T13 62 [(.ref b13), (.ref o1)] (fun t k => st13 t k) ?_
  obtain ⟨T14, h14, X14, e14, W14, st14⟩ := putF X13 hx hZ hown (host := "") (Or.inl (ww hw 73 rfl)) Via.refl e13 Fg'13 EO'13 (Or.inr ⟨(ww hw 74 rfl), rfl, hnm⟩) (ww hw 31 rfl) (ty := (.array .byte)) (by decide) rfl rfl (g := (mkF m 62 #[vr o1, vr oP, vr oT, vi (Int32.ofNat fr), vi cap, .unset, .unset, .unset, .unset, .unset, .unset, .unset] [(.ref b13), (.ref o1)])) rfl rfl (hb hby d7_62)
  have Fg'14 := Fg'13.same W14
  have EO'14 := EO'13.wr W14
  have Fc'14 := Fc'13.other W14 (Or.inr (slot_ne (Or.inr (ww hw 62 rfl)) (Or.inr (ww hw 74 rfl)) (by decide) (t := (.array .char)) (t' := (.array .byte)) (by decide) (by decide)))
  have Ff'14 := Ff'13.other W14 (Or.inr (slot_ne (Or.inr (ww hw 72 rfl)) (Or.inr (ww hw 74 rfl)) (by decide) (t := .int) (t' := (.array .byte)) (by decide) (by decide)))
  have Fh'14 := Fh'13.other W14 (Or.inr (slot_ne (Or.inl (ww hw 178 rfl)) (Or.inr (ww hw 74 rfl)) (by decide) (t := (.object "com/example/clew/clew/DefaultSearch$Sieve")) (t' := (.array .byte)) (by decide) (by decide)))
  have Fi'14 := Fi'13.other W14 (Or.inr (slot_ne (Or.inl (ww hw 185 rfl)) (Or.inr (ww hw 74 rfl)) (by decide) (t := .boolean) (t' := (.array .byte)) (by decide) (by decide)))
  have Pya'14 := Pya'13.wr W14
  have Pyb'14 := Pyb'13.other W14 (Or.inl (Ne.symm ne_1T))
  have Pyc'14 := Pyc'13.other W14 (Or.inl (Ne.symm ne_1T))
  have Pyd'14 := Pyd'13.other W14 (Ne.symm ne_1c)
  have SC'14 := SC'13.wr W14
  have SA'14 := SA'13.wr W14
  have SH'14 := SH'13.wr W14
  have SL'14 := SL'13.wr W14
  have SF'14 := SF'13.wr W14
  have P0_6'14 := P0_6'13.other W14 (Ne.symm ne_o1_bz_6)
  have V_b13'14 := V_b13.other W14 (Ne.symm ne_o1_b13)
  have N14 := Fr.snoc X14 N11 g_o1
  have Z14 : n0 ≤ h14.size := Nat.le_trans Z13 (Keep.of_wr W14).1
  have K14 := (K13).wr W14 (Or.inl (List.mem_of_getElem? (i := 0) rfl))
  refine vs T14 65 [] (fun t k => st14 t k) ?_
  refine vs T14 66 [(.ref oT)] (fun t k => XS.aloadN X14.here hx rfl (hb hby d7_65) rfl rfl k) ?_
  obtain ⟨cq15, kq15, q15a, q15b, q15c⟩ := isOf hZ e14 Pya'14
  obtain ⟨_, _, ⟨T15, L15, k15, n15⟩, -, X15, ⟨Lc15, hQ15, l15, y15, z15⟩, st15⟩ := X14.virtualBack hx (y := (⟨"java/lang/String", "length", "()I"⟩ : MethodName)) (z := (⟨"java/lang/String", "length", "()I"⟩ : MethodName)) hown (mvT hZ (ww hw 75 rfl)) (mvT hZ (ww hw 76 rfl)) (notFace_of_selects (args := #[]) (mvT hZ (ww hw 78 rfl))) (mvT hZ (ww hw 78 rfl)) (mvT hZ (ww hw 77 rfl)) (by decide) (backOf (W := 0) (rm13 l Z a0 hw [] oT ob2 kb2 ln2 bs2 cd2 ts cps h14 n0 Z14 Pya'14 Pyb'14 Pyc'14 Pyd'14 SC'14 hcp henc2 (by omega) (by omega) hch2) hZ (ww hw 79 rfl) (ww hw 3 rfl) (by decide) (by decide)) q15a q15c (g := (mkF m 66 #[vr o1, vr oP, vr oT, vi (Int32.ofNat fr), vi cap, .unset, .unset, .unset, .unset, .unset, .unset, .unset] [(.ref oT)])) rfl (by rw [hml]; rfl) (Steps.refl _) (argsL := []) (rest := []) (lenOf pd_17 rfl) rfl (by show 2 * 0 + _ ≤ _; exact Nat.le_of_eq rfl) (hb hby d7_66) (fun _ _ => ⟨rfl, e14, (by decide : (((((0 + 1) + 1) + 1) + 0) + 1) + 0 ≤ _), (by decide : (((((0 + 4) + 4) + 4) + 0) + 16448) + 0 ≤ _)⟩)
  dsimp only [Pt.U, Pt.locs, Pt.cells, Pt.slots] at X15 l15 y15 z15 st15 hQ15
  subst l15 y15 z15
  obtain ⟨rfl, Nq15, eh15⟩ := hQ15
  have N15 := Fr.app N14 Nq15
  refine vs T15 69 [(.int (Int32.ofNat ts.length))] (fun t k => st15.trans k) ?_
  refine vs T15 70 [(.int (Int32.ofNat fr)), (.int (Int32.ofNat ts.length))] (fun t k => XS.iloadN X15.here hx rfl (hb hby d7_69) rfl k) ?_
  refine vs T15 71 [(.int ((Int32.ofNat ts.length) - (Int32.ofNat fr)))] (fun t k => XS.isub X15.here hx rfl (hb hby d7_70) rfl k) ?_
  rw [hT4, show Int32.ofNat 4 - Int32.ofNat fr = Int32.ofNat (4 - fr) from own_sub hfr]
  refine vv T15 m 73 #[vr o1, vr oP, vr oT, vi (Int32.ofNat fr), vi cap, vi (Int32.ofNat (4 - fr)), .unset, .unset, .unset, .unset, .unset, .unset] [] (fun t k => XS.istore X15.here hx rfl (hb hby d7_71) rfl (l' := #[vr o1, vr oP, vr oT, vi (Int32.ofNat fr), vi cap, vi (Int32.ofNat (4 - fr)), .unset, .unset, .unset, .unset, .unset, .unset]) rfl k) ?_
  refine vs T15 75 [(.int (Int32.ofNat (4 - fr)))] (fun t k => XS.iload X15.here hx rfl (hb hby d7_73) rfl k) ?_
  refine vs T15 78 [(.int (4096 : Int32)), (.int (Int32.ofNat (4 - fr)))] (fun t k => XS.sipush X15.here hx rfl (hb hby d7_75) k) ?_
  have hc16_78 : ¬ ((4096 : Int32) < (Int32.ofNat (4 - fr))) := own_sml (by omega)
  refine vs T15 81 [] (fun t k => XS.icmpNo X15.here hx rfl (hb hby d7_78) rfl (XT.ii_gt_f hc16_78) k) ?_
  refine vs T15 82 [(.int (1 : Int32))] (fun t k => XS.iconst X15.here hx rfl (hb hby d7_81) k) ?_
  refine vs T15 86 [(.int (1 : Int32))] (fun t k => XS.goto X15.here hx rfl (pc0 := 82) (pc' := 86) rfl (hb hby d7_82) (by decide) (by decide) k) ?_
  refine vv T15 m 88 #[vr o1, vr oP, vr oT, vi (Int32.ofNat fr), vi cap, vi (Int32.ofNat (4 - fr)), vi (1 : Int32), .unset, .unset, .unset, .unset, .unset] [] (fun t k => XS.istore X15.here hx rfl (hb hby d7_86) rfl (l' := #[vr o1, vr oP, vr oT, vi (Int32.ofNat fr), vi cap, vi (Int32.ofNat (4 - fr)), vi (1 : Int32), .unset, .unset, .unset, .unset, .unset]) rfl k) ?_
  refine vs T15 90 [(.int (1 : Int32))] (fun t k => XS.iload X15.here hx rfl (hb hby d7_88) rfl k) ?_
  have hc17_90 : ¬ ((1 : Int32) = (0 : Int32)) := (by decide)
  refine vs T15 93 [] (fun t k => XS.ifNo X15.here hx rfl (hb hby d7_90) rfl (XT.i0_eq_f hc17_90) k) ?_
  refine vs T15 95 [(.int (Int32.ofNat (4 - fr)))] (fun t k => XS.iload X15.here hx rfl (hb hby d7_93) rfl k) ?_
  refine vs T15 101 [(.int (Int32.ofNat (4 - fr)))] (fun t k => XS.goto X15.here hx rfl (pc0 := 95) (pc' := 101) rfl (hb hby d7_95) (by decide) (by decide) k) ?_
  obtain ⟨T18, h18, k18, X18, e18, E18, A18, st18⟩ := newP X15 hx hZ (ww hw 0 rfl) eh15 (g := (mkF m 101 #[vr o1, vr oP, vr oT, vi (Int32.ofNat fr), vi cap, vi (Int32.ofNat (4 - fr)), vi (1 : Int32), .unset, .unset, .unset, .unset, .unset] [(.int (Int32.ofNat (4 - fr)))])) rfl (hb hby d7_101) rfl (own_inb (i := 4 - fr) (n := 4 - fr + 1) (by omega) (by omega)).1 (cap := 4) (by rw [own_cl (by omega)]; omega) (by decide) (by decide) (by decide)
  obtain ⟨b18, g18⟩ : ∃ z, z = h14.size := ⟨_, rfl⟩
  rw [← g18] at A18 st18
  have ne_o1_b18 : o1 ≠ b18 := Nat.ne_of_lt (Nat.lt_of_lt_of_le EO'14.lt (Nat.le_of_eq g18.symm))
  have ne_oT_b18 : oT ≠ b18 := Nat.ne_of_lt (Nat.lt_of_lt_of_le Pya'14.lt (Nat.le_of_eq g18.symm))
  have ne_ob2_b18 : ob2 ≠ b18 := Nat.ne_of_lt (Nat.lt_of_lt_of_le Pyd'14.lt (Nat.le_of_eq g18.symm))
  have ne_bz_6_b18 : bz_6 ≠ b18 := Nat.ne_of_lt (Nat.lt_of_lt_of_le P0_6'14.lt (Nat.le_of_eq g18.symm))
  have g_b18 : n0 ≤ b18 := Nat.le_trans Z14 (Nat.le_of_eq g18.symm)
  have EO'18 := EO'14.ext E18
  have Fc'18 := Fc'14.ext E18
  have Fh'18 := Fh'14.ext E18
  have Fi'18 := Fi'14.ext E18
  have Pya'18 := Pya'14.ext E18
  have Pyb'18 := Pyb'14.ext E18
  have Pyc'18 := Pyc'14.ext E18
  have Pyd'18 := Pyd'14.ext E18
  have SC'18 := SC'14.ext E18
  have SA'18 := SA'14.ext E18
  have SH'18 := SH'14.ext E18
  have SL'18 := SL'14.ext E18
  have SF'18 := SF'14.ext E18
  have P0_6'18 := P0_6'14.ext E18
  have sz_b18 : h0.size ≤ b18 := Nat.le_trans (K14).1 (Nat.le_of_eq g18.symm)
  have K18 := (K14).ext E18
  have Z18 : n0 ≤ h18.size := Nat.le_trans Z14 E18.1
  have V_b18 : Arv Z h18 b18 k18 .char (Int32.ofNat (4 - fr)) (own_iv (List.replicate (4 - fr) 0)) (.int (0 : Int32)) := ((Arv.new A18 (own_inb (i := 4 - fr) (n := 4 - fr + 1) (by omega) (by omega)).1)).pad (by intro i; rw [own_ivrep]; exact pad_rep [] _ (4 - fr) i)
  refine vs T18 103 [(.ref b18)] (fun t k => st18 t k) ?_
  refine vv T18 m 105 #[vr o1, vr oP, vr oT, vi (Int32.ofNat fr), vi cap, vi (Int32.ofNat (4 - fr)), vi (1 : Int32), vr b18, .unset, .unset, .unset, .unset] [] (fun t k => XS.astore X18.here hx rfl (hb hby d7_103) rfl rfl (l' := #[vr o1, vr oP, vr oT, vi (Int32.ofNat fr), vi cap, vi (Int32.ofNat (4 - fr)), vi (1 : Int32), vr b18, .unset, .unset, .unset, .unset]) rfl k) ?_
  refine vs T18 107 [(.int (1 : Int32))] (fun t k => XS.iload X18.here hx rfl (hb hby d7_105) rfl k) ?_
  have hc19_107 : ¬ ((1 : Int32) = (0 : Int32)) := (by decide)
  refine vs T18 110 [] (fun t k => XS.ifNo X18.here hx rfl (hb hby d7_107) rfl (XT.i0_eq_f hc19_107) k) ?_
  refine vs T18 111 [(.int (1 : Int32))] (fun t k => XS.iconst X18.here hx rfl (hb hby d7_110) k) ?_
  refine vs T18 116 [(.int (1 : Int32))] (fun t k => XS.goto X18.here hx rfl (pc0 := 111) (pc' := 116) rfl (hb hby d7_111) (by decide) (by decide) k) ?_
  refine vv T18 m 118 #[vr o1, vr oP, vr oT, vi (Int32.ofNat fr), vi cap, vi (Int32.ofNat (4 - fr)), vi (1 : Int32), vr b18, vi (1 : Int32), .unset, .unset, .unset] [] (fun t k => XS.istore X18.here hx rfl (hb hby d7_116) rfl (l' := #[vr o1, vr oP, vr oT, vi (Int32.ofNat fr), vi cap, vi (Int32.ofNat (4 - fr)), vi (1 : Int32), vr b18, vi (1 : Int32), .unset, .unset, .unset]) rfl k) ?_
  obtain ⟨T20, h20, X20, e20, E20, A20, D20, -, st20⟩ := newO X18 hx hZ hown (ww hw 85 rfl) (ww hw 86 rfl) (ww hw 87 rfl) e18 (g := (mkF m 118 #[vr o1, vr oP, vr oT, vi (Int32.ofNat fr), vi cap, vi (Int32.ofNat (4 - fr)), vi (1 : Int32), vr b18, vi (1 : Int32), .unset, .unset, .unset] [])) rfl (hb hby d7_118) (by decide) (by decide)
  obtain ⟨b20, g20⟩ : ∃ z, z = h18.size := ⟨_, rfl⟩
  rw [← g20] at A20 D20 st20
  have ne_o1_b20 : o1 ≠ b20 := Nat.ne_of_lt (Nat.lt_of_lt_of_le EO'18.lt (Nat.le_of_eq g20.symm))
  have ne_oT_b20 : oT ≠ b20 := Nat.ne_of_lt (Nat.lt_of_lt_of_le Pya'18.lt (Nat.le_of_eq g20.symm))
  have ne_ob2_b20 : ob2 ≠ b20 := Nat.ne_of_lt (Nat.lt_of_lt_of_le Pyd'18.lt (Nat.le_of_eq g20.symm))
  have ne_bz_6_b20 : bz_6 ≠ b20 := Nat.ne_of_lt (Nat.lt_of_lt_of_le P0_6'18.lt (Nat.le_of_eq g20.symm))
  have ne_b18_b20 : b18 ≠ b20 := Nat.ne_of_lt (Nat.lt_of_lt_of_le V_b18.lt (Nat.le_of_eq g20.symm))
  have g_b20 : n0 ≤ b20 := Nat.le_trans Z18 (Nat.le_of_eq g20.symm)
  have EO'20 := EO'18.ext E20
  have Fc'20 := Fc'18.ext E20
  have Fh'20 := Fh'18.ext E20
  have Fi'20 := Fi'18.ext E20
  have Pya'20 := Pya'18.ext E20
  have Pyb'20 := Pyb'18.ext E20
  have Pyc'20 := Pyc'18.ext E20
  have Pyd'20 := Pyd'18.ext E20
  have SC'20 := SC'18.ext E20
  have SA'20 := SA'18.ext E20
  have SH'20 := SH'18.ext E20
  have SL'20 := SL'18.ext E20
  have SF'20 := SF'18.ext E20
  have P0_6'20 := P0_6'18.ext E20
  have V_b18'20 := V_b18.ext E20
  have sz_b20 : h0.size ≤ b20 := Nat.le_trans (K18).1 (Nat.le_of_eq g20.symm)
  have K20 := (K18).ext E20
  have Z20 : n0 ≤ h20.size := Nat.le_trans Z18 E20.1
  have F_buckets_b20 : Fld Z h20 b20 "com/example/clew/clew/CharFilter$Counts" "buckets" "[I" .null := D20 (Or.inr (ww hw 103 rfl)) (ty := (.array .int)) (by decide)
  have F_shift_b20 : Fld Z h20 b20 "com/example/clew/clew/CharFilter$Counts" "shift" "I" (.int (0 : Int32)) := D20 (Or.inr (ww hw 105 rfl)) (ty := .int) (by decide)
  refine vs T20 121 [(.ref b20)] (fun t k => st20 t k) ?_
  refine vs T20 122 [(.ref b20), (.ref b20)] (fun t k => XS.dup X20.here hx rfl (hb hby d7_121) rfl rfl k) ?_
  refine vs T20 124 [(.int (1 : Int32)), (.ref b20), (.ref b20)] (fun t k => XS.iload X20.here hx rfl (hb hby d7_122) rfl k) ?_
  refine vs T20 126 [(.ref b18), (.int (1 : Int32)), (.ref b20), (.ref b20)] (fun t k => XS.aload X20.here hx rfl (hb hby d7_124) rfl rfl k) ?_
  obtain ⟨cl21, Ar21, -, S21, NN21, -, -⟩ := id V_b18'20
  refine vs T20 127 [(.int (Int32.ofNat (4 - fr))), (.int (1 : Int32)), (.ref b20), (.ref b20)] (fun t k => own_len X20 hx hZ e20 Ar21 S21 NN21 (g := (mkF m 126 #[vr o1, vr oP, vr oT, vi (Int32.ofNat fr), vi cap, vi (Int32.ofNat (4 - fr)), vi (1 : Int32), vr b18, vi (1 : Int32), .unset, .unset, .unset] [(.ref b18), (.int (1 : Int32)), (.ref b20), (.ref b20)])) rfl rfl (hb hby d7_126) k) ?_
  refine vs T20 128 [(.int ((1 : Int32) * (Int32.ofNat (4 - fr)))), (.ref b20), (.ref b20)] (fun t k => XS.imul X20.here hx rfl (hb hby d7_127) rfl k) ?_
  rw [Int32.one_mul]
  obtain ⟨_, _, ⟨T22, L22, k22, n22⟩, -, X22, ⟨Lc22, hQ22, l22, y22, z22⟩, st22⟩ := X20.specialBack hx (y := (⟨"com/example/clew/clew/CharFilter$Counts", "<init>", "(I)V"⟩ : MethodName)) rfl hown (mvT hZ (ww hw 88 rfl)) (mvT hZ (ww hw 89 rfl)) (mvT hZ (ww hw 90 rfl)) (by decide) (backOf (W := 1) (rm15 l Z a0 hw [] b20 (4 - fr) h20 n0 Z20 A20 F_buckets_b20 F_shift_b20 g_b20 (by omega)) hZ (ww hw 90 rfl) (ww hw 87 rfl) (by decide) (by decide)) (g := (mkF m 128 #[vr o1, vr oP, vr oT, vi (Int32.ofNat fr), vi cap, vi (Int32.ofNat (4 - fr)), vi (1 : Int32), vr b18, vi (1 : Int32), .unset, .unset, .unset] [(.int (Int32.ofNat (4 - fr))), (.ref b20), (.ref b20)])) rfl (by rw [hml]; rfl) (Steps.refl _) (a := b20) (argsL := [(.int (Int32.ofNat (4 - fr)))]) (rest := [(.ref b20)]) (lenOf pd_23 rfl) rfl (by show 2 * 0 + _ ≤ _; exact Nat.le_of_eq rfl) (hb hby d7_128) (fun _ _ => ⟨rfl, e20, (by decide : ((((((((0 + 1) + 1) + 1) + 0) + 1) + 0) + 1) + 1) + 1 ≤ _), (by decide : ((((((((0 + 4) + 4) + 4) + 0) + 16448) + 0) + 4) + 2) + 4 ≤ _)⟩)
  dsimp only [Pt.U, Pt.locs, Pt.cells, Pt.slots] at X22 l22 y22 z22 st22 hQ22
  subst l22 y22 z22
  obtain ⟨bz_22, kz_22, rfl, Nq22, K22q, fz_bz_22, P0_22, P1_22, P2_22, P3_22⟩ := hQ22
  have N22 := Fr.app N15 Nq22
  have EO'22 := EO'20.keep K22q
  have Fc'22 := Fc'20.keep K22q (ninS ne_o1_b20 nin0)
  have Fh'22 := Fh'20.keep K22q (ninS ne_o1_b20 nin0)
  have Fi'22 := Fi'20.keep K22q (ninS ne_o1_b20 nin0)
  have Pya'22 := Pya'20.keep K22q
  have Pyb'22 := Pyb'20.keep K22q (ninS ne_oT_b20 nin0)
  have Pyc'22 := Pyc'20.keep K22q (ninS ne_oT_b20 nin0)
  have Pyd'22 := Pyd'20.keep K22q (ninS ne_ob2_b20 nin0)
  have SC'22 := own_stakeep SC'20 K22q (allS (own_objE A20) all0)
  have SA'22 := own_stakeep SA'20 K22q (allS (own_objE A20) all0)
  have SH'22 := own_stakeep SH'20 K22q (allS (own_objE A20) all0)
  have SL'22 := own_stakeep SL'20 K22q (allS (own_objE A20) all0)
  have SF'22 := own_stakeep SF'20 K22q (allS (own_objE A20) all0)
  have P0_6'22 := P0_6'20.keep K22q (ninS ne_bz_6_b20 nin0)
  have V_b18'22 := V_b18'20.keep K22q (ninS ne_b18_b20 nin0)
  have A20'22 := A20.keep K22q
  have K22 := (K20).trans K22q (allS (Or.inr sz_b20) all0)
  have g_bz_22 : n0 ≤ bz_22 := Nat.le_trans Z20 fz_bz_22
  have sz_bz_22 : h0.size ≤ bz_22 := Nat.le_trans (K20).1 fz_bz_22
  have ne_o1_bz_22 : o1 ≠ bz_22 := Nat.ne_of_lt (Nat.lt_of_lt_of_le EO'20.lt fz_bz_22)
  have ne_oT_bz_22 : oT ≠ bz_22 := Nat.ne_of_lt (Nat.lt_of_lt_of_le Pya'20.lt fz_bz_22)
  have ne_ob2_bz_22 : ob2 ≠ bz_22 := Nat.ne_of_lt (Nat.lt_of_lt_of_le Pyd'20.lt fz_bz_22)
  have ne_bz_6_bz_22 : bz_6 ≠ bz_22 := Nat.ne_of_lt (Nat.lt_of_lt_of_le P0_6'20.lt fz_bz_22)
  have ne_b18_bz_22 : b18 ≠ bz_22 := Nat.ne_of_lt (Nat.lt_of_lt_of_le V_b18'20.lt fz_bz_22)
  have ne_b20_bz_22 : b20 ≠ bz_22 := Nat.ne_of_lt (Nat.lt_of_lt_of_le A20.lt fz_bz_22)
  have Z22 : n0 ≤ T22.heap.size := Nat.le_trans Z20 K22q.1
  refine vs T22 131 [(.ref b20)] (fun t k => st22.trans k) ?_
  refine vv T22 m 133 #[vr o1, vr oP, vr oT, vi (Int32.ofNat fr), vi cap, vi (Int32.ofNat (4 - fr)), vi (1 : Int32), vr b18, vi (1 : Int32), vr b20, .unset, .unset] [] (fun t k => XS.astore X22.here hx rfl (hb hby d7_131) rfl rfl (l' := #[vr o1, vr oP, vr oT, vi (Int32.ofNat fr), vi cap, vi (Int32.ofNat (4 - fr)), vi (1 : Int32), vr b18, vi (1 : Int32), vr b20, .unset, .unset]) rfl k) ?_
  refine vs T22 134 [(.int (0 : Int32))] (fun t k => XS.iconst X22.here hx rfl (hb hby d7_133) k) ?_
  refine vv T22 m 136 #[vr o1, vr oP, vr oT, vi (Int32.ofNat fr), vi cap, vi (Int32.ofNat (4 - fr)), vi (1 : Int32), vr b18, vi (1 : Int32), vr b20, vi (0 : Int32), .unset] [] (fun t k => XS.istore X22.here hx rfl (hb hby d7_134) rfl (l' := #[vr o1, vr oP, vr oT, vi (Int32.ofNat fr), vi cap, vi (Int32.ofNat (4 - fr)), vi (1 : Int32), vr b18, vi (1 : Int32), vr b20, vi (0 : Int32), .unset]) rfl k) ?_
  refine vs T22 138 [(.int (0 : Int32))] (fun t k => XS.iload X22.here hx rfl (hb hby d7_136) rfl k) ?_
  refine vs T22 140 [(.int (1 : Int32)), (.int (0 : Int32))] (fun t k => XS.iload X22.here hx rfl (hb hby d7_138) rfl k) ?_
  have hc23_140 : (0 : Int32) < (1 : Int32) := (by decide)
  refine vs T22 143 [] (fun t k => XS.icmpNo X22.here hx rfl (hb hby d7_140) rfl (XT.ii_ge_f hc23_140) k) ?_
  refine vs T22 145 [(.int (1 : Int32))] (fun t k => XS.iload X22.here hx rfl (hb hby d7_143) rfl k) ?_
  have hc24_145 : ¬ ((1 : Int32) = (0 : Int32)) := (by decide)
  refine vs T22 148 [] (fun t k => XS.ifNo X22.here hx rfl (hb hby d7_145) rfl (XT.i0_eq_f hc24_145) k) ?_
  refine vs T22 149 [(.int (Int32.ofNat fr))] (fun t k => XS.iloadN X22.here hx rfl (hb hby d7_148) rfl k) ?_
  refine vs T22 172 [(.int (Int32.ofNat fr))] (fun t k => XS.goto X22.here hx rfl (pc0 := 149) (pc' := 172) rfl (hb hby d7_149) (by decide) (by decide) k) ?_
  refine vv T22 m 174 #[vr o1, vr oP, vr oT, vi (Int32.ofNat fr), vi cap, vi (Int32.ofNat (4 - fr)), vi (1 : Int32), vr b18, vi (1 : Int32), vr b20, vi (0 : Int32), vi (Int32.ofNat fr)] [] (fun t k => XS.istore X22.here hx rfl (hb hby d7_172) rfl (l' := #[vr o1, vr oP, vr oT, vi (Int32.ofNat fr), vi cap, vi (Int32.ofNat (4 - fr)), vi (1 : Int32), vr b18, vi (1 : Int32), vr b20, vi (0 : Int32), vi (Int32.ofNat fr)]) rfl k) ?_
  refine vs T22 175 [(.ref oT)] (fun t k => XS.aloadN X22.here hx rfl (hb hby d7_174) rfl rfl k) ?_
  refine vs T22 177 [(.int (Int32.ofNat fr)), (.ref oT)] (fun t k => XS.iload X22.here hx rfl (hb hby d7_175) rfl k) ?_
  refine vs T22 179 [(.int (Int32.ofNat fr)), (.int (Int32.ofNat fr)), (.ref oT)] (fun t k => XS.iload X22.here hx rfl (hb hby d7_177) rfl k) ?_
  refine vs T22 181 [(.ref b18), (.int (Int32.ofNat fr)), (.int (Int32.ofNat fr)), (.ref oT)] (fun t k => XS.aload X22.here hx rfl (hb hby d7_179) rfl rfl k) ?_
  obtain ⟨cl25, Ar25, -, S25, NN25, -, -⟩ := id V_b18'22
  refine vs T22 182 [(.int (Int32.ofNat (4 - fr))), (.int (Int32.ofNat fr)), (.int (Int32.ofNat fr)), (.ref oT)] (fun t k => own_len X22 hx hZ rfl Ar25 S25 NN25 (g := (mkF m 181 #[vr o1, vr oP, vr oT, vi (Int32.ofNat fr), vi cap, vi (Int32.ofNat (4 - fr)), vi (1 : Int32), vr b18, vi (1 : Int32), vr b20, vi (0 : Int32), vi (Int32.ofNat fr)] [(.ref b18), (.int (Int32.ofNat fr)), (.int (Int32.ofNat fr)), (.ref oT)])) rfl rfl (hb hby d7_181) k) ?_
  refine vs T22 183 [(.int ((Int32.ofNat fr) + (Int32.ofNat (4 - fr)))), (.int (Int32.ofNat fr)), (.ref oT)] (fun t k => XS.iadd X22.here hx rfl (hb hby d7_182) rfl k) ?_
  rw [own_addn]
  refine vs T22 185 [(.ref b18), (.int (Int32.ofNat (fr + (4 - fr)))), (.int (Int32.ofNat fr)), (.ref oT)] (fun t k => XS.aload X22.here hx rfl (hb hby d7_183) rfl rfl k) ?_
  refine vs T22 186 [(.int (0 : Int32)), (.ref b18), (.int (Int32.ofNat (fr + (4 - fr)))), (.int (Int32.ofNat fr)), (.ref oT)] (fun t k => XS.iconst X22.here hx rfl (hb hby d7_185) k) ?_
  obtain ⟨cq26, kq26, q26a, q26b, q26c⟩ := isOf hZ rfl Pya'22
  obtain ⟨_, _, ⟨T26, L26, k26, n26⟩, -, X26, ⟨Lc26, hQ26, l26, y26, z26⟩, st26⟩ := X22.virtualBack hx (y := (⟨"java/lang/String", "getChars", "(II[CI)V"⟩ : MethodName)) (z := (⟨"java/lang/String", "getChars", "(II[CI)V"⟩ : MethodName)) hown (mvT hZ (ww hw 106 rfl)) (mvT hZ (ww hw 107 rfl)) (notFace_of_selects (args := #[]) (mvT hZ (ww hw 109 rfl))) (mvT hZ (ww hw 109 rfl)) (mvT hZ (ww hw 108 rfl)) (by decide) (backOf (W := 0) (rm18 l Z a0 hw [] oT ob2 kb2 ln2 bs2 cd2 ts cps fmv b18 k18 fr (4 - fr) T22.heap n0 Z22 Pya'22 Pyb'22 Pyc'22 Pyd'22 SC'22 SA'22 SH'22 SL'22 SF'22 V_b18'22 g_b18 hcp henc2 (by omega) (by omega) hch2 hrf (by omega) ne_oT_b18 ne_ob2_b18) hZ (ww hw 110 rfl) (ww hw 3 rfl) (by decide) (by decide)) q26a q26c (g := (mkF m 186 #[vr o1, vr oP, vr oT, vi (Int32.ofNat fr), vi cap, vi (Int32.ofNat (4 - fr)), vi (1 : Int32), vr b18, vi (1 : Int32), vr b20, vi (0 : Int32), vi (Int32.ofNat fr)] [(.int (0 : Int32)), (.ref b18), (.int (Int32.ofNat (fr + (4 - fr)))), (.int (Int32.ofNat fr)), (.ref oT)])) rfl (by rw [hml]; rfl) (Steps.refl _) (argsL := [(.int (Int32.ofNat fr)), (.int (Int32.ofNat (fr + (4 - fr)))), (.ref b18), (.int (0 : Int32))]) (rest := []) (lenOf pd_24 rfl) rfl (by show 2 * 0 + _ ≤ _; exact Nat.le_of_eq rfl) (hb hby d7_186) (fun _ _ => ⟨rfl, rfl, (by decide : (((((((((0 + 1) + 1) + 1) + 0) + 1) + 0) + 1) + 1) + 1) + 0 ≤ _), (by decide : (((((((((0 + 4) + 4) + 4) + 0) + 16448) + 0) + 4) + 2) + 4) + 0 ≤ _)⟩)
  dsimp only [Pt.U, Pt.locs, Pt.cells, Pt.slots] at X26 l26 y26 z26 st26 hQ26
  subst l26 y26 z26
  obtain ⟨rfl, Nq26, K26q, P0_26⟩ := hQ26
  have N26 := Fr.app N22 Nq26
  have EO'26 := EO'22.keep K26q
  have Fc'26 := Fc'22.keep K26q (ninS ne_o1_b18 nin0)
  have Fh'26 := Fh'22.keep K26q (ninS ne_o1_b18 nin0)
  have Fi'26 := Fi'22.keep K26q (ninS ne_o1_b18 nin0)
  have Pya'26 := Pya'22.keep K26q
  have Pyb'26 := Pyb'22.keep K26q (ninS ne_oT_b18 nin0)
  have Pyc'26 := Pyc'22.keep K26q (ninS ne_oT_b18 nin0)
  have Pyd'26 := Pyd'22.keep K26q (ninS ne_ob2_b18 nin0)
  have SC'26 := own_stakeep SC'22 K26q (allS (own_objV V_b18'22) all0)
  have SA'26 := own_stakeep SA'22 K26q (allS (own_objV V_b18'22) all0)
  have SH'26 := own_stakeep SH'22 K26q (allS (own_objV V_b18'22) all0)
  have SL'26 := own_stakeep SL'22 K26q (allS (own_objV V_b18'22) all0)
  have SF'26 := own_stakeep SF'22 K26q (allS (own_objV V_b18'22) all0)
  have P0_6'26 := P0_6'22.keep K26q (ninS ne_bz_6_b18 nin0)
  have P0_22'26 := P0_22.keep K26q
  have P1_22'26 := P1_22.keep K26q (ninS (Ne.symm ne_b18_b20) nin0)
  have P2_22'26 := P2_22.keep K26q (ninS (Ne.symm ne_b18_b20) nin0)
  have P3_22'26 := P3_22.keep K26q (ninS (Ne.symm ne_b18_bz_22) nin0)
  have K26 := (K22).trans K26q (allS (Or.inr sz_b18) all0)
  have Z26 : n0 ≤ T26.heap.size := Nat.le_trans Z22 K26q.1
  refine vs T26 189 [] (fun t k => st26.trans k) ?_
  refine vs T26 191 [(.ref b20)] (fun t k => XS.aload X26.here hx rfl (hb hby d7_189) rfl rfl k) ?_
  refine vs T26 193 [(.ref b18), (.ref b20)] (fun t k => XS.aload X26.here hx rfl (hb hby d7_191) rfl rfl k) ?_
  refine vs T26 194 [(.int (0 : Int32)), (.ref b18), (.ref b20)] (fun t k => XS.iconst X26.here hx rfl (hb hby d7_193) k) ?_
  refine vs T26 196 [(.ref b18), (.int (0 : Int32)), (.ref b18), (.ref b20)] (fun t k => XS.aload X26.here hx rfl (hb hby d7_194) rfl rfl k) ?_
  obtain ⟨cl27, Ar27, -, S27, NN27, -, -⟩ := id P0_26
  refine vs T26 197 [(.int (Int32.ofNat (4 - fr))), (.int (0 : Int32)), (.ref b18), (.ref b20)] (fun t k => own_len X26 hx hZ rfl Ar27 S27 NN27 (g := (mkF m 196 #[vr o1, vr oP, vr oT, vi (Int32.ofNat fr), vi cap, vi (Int32.ofNat (4 - fr)), vi (1 : Int32), vr b18, vi (1 : Int32), vr b20, vi (0 : Int32), vi (Int32.ofNat fr)] [(.ref b18), (.int (0 : Int32)), (.ref b18), (.ref b20)])) rfl rfl (hb hby d7_196) k) ?_
  obtain ⟨cq28, kq28, q28a, q28b, q28c⟩ := isOf hZ rfl P0_22'26
  obtain ⟨_, _, ⟨T28, L28, k28, n28⟩, -, X28, ⟨Lc28, hQ28, l28, y28, z28⟩, st28⟩ := X26.virtualBack hx (y := (⟨"com/example/clew/clew/CharFilter$Counts", "add", "([CII)V"⟩ : MethodName)) (z := (⟨"com/example/clew/clew/CharFilter$Counts", "add", "([CII)V"⟩ : MethodName)) hown (mvT hZ (ww hw 129 rfl)) (mvT hZ (ww hw 130 rfl)) (notFace_of_selects (args := #[]) (mvT hZ (ww hw 132 rfl))) (mvT hZ (ww hw 132 rfl)) (mvT hZ (ww hw 131 rfl)) (by decide) (backOf (W := 0) (rm24 l Z a0 hw [] b20 bz_22 kz_22 (4 - fr) (List.replicate (own_nq (4 - fr)) 0) b18 k18 (4 - fr) (own_sl ts fr (4 - fr)) T26.heap n0 Z26 P0_22'26 P1_22'26 P2_22'26 P3_22'26 P0_26 g_bz_22 (own_sllen _ _ _) (by omega) (by simp) ne_b20_bz_22 ne_b18_bz_22) hZ (ww hw 133 rfl) (ww hw 87 rfl) (by decide) (by decide)) q28a q28c (g := (mkF m 197 #[vr o1, vr oP, vr oT, vi (Int32.ofNat fr), vi cap, vi (Int32.ofNat (4 - fr)), vi (1 : Int32), vr b18, vi (1 : Int32), vr b20, vi (0 : Int32), vi (Int32.ofNat fr)] [(.int (Int32.ofNat (4 - fr))), (.int (0 : Int32)), (.ref b18), (.ref b20)])) rfl (by rw [hml]; rfl) (Steps.refl _) (argsL := [(.ref b18), (.int (0 : Int32)), (.int (Int32.ofNat (4 - fr)))]) (rest := []) (lenOf pd_25 rfl) rfl (by show 2 * 0 + _ ≤ _; exact Nat.le_of_eq rfl) (hb hby d7_197) (fun _ _ => ⟨rfl, rfl, (by decide : ((((((((((0 + 1) + 1) + 1) + 0) + 1) + 0) + 1) + 1) + 1) + 0) + 0 ≤ _), (by decide : ((((((((((0 + 4) + 4) + 4) + 0) + 16448) + 0) + 4) + 2) + 4) + 0) + 0 ≤ _)⟩)
  dsimp only [Pt.U, Pt.locs, Pt.cells, Pt.slots] at X28 l28 y28 z28 st28 hQ28
  subst l28 y28 z28
  obtain ⟨rfl, Nq28, K28q, P0_28⟩ := hQ28
  have N28 := Fr.app N26 Nq28
  have EO'28 := EO'26.keep K28q
  have Fc'28 := Fc'26.keep K28q (ninS ne_o1_bz_22 nin0)
  have Fh'28 := Fh'26.keep K28q (ninS ne_o1_bz_22 nin0)
  have Fi'28 := Fi'26.keep K28q (ninS ne_o1_bz_22 nin0)
  have Pya'28 := Pya'26.keep K28q
  have Pyb'28 := Pyb'26.keep K28q (ninS ne_oT_bz_22 nin0)
  have Pyc'28 := Pyc'26.keep K28q (ninS ne_oT_bz_22 nin0)
  have Pyd'28 := Pyd'26.keep K28q (ninS ne_ob2_bz_22 nin0)
  have SC'28 := own_stakeep SC'26 K28q (allS (own_objV P3_22'26) all0)
  have SA'28 := own_stakeep SA'26 K28q (allS (own_objV P3_22'26) all0)
  have SH'28 := own_stakeep SH'26 K28q (allS (own_objV P3_22'26) all0)
  have SL'28 := own_stakeep SL'26 K28q (allS (own_objV P3_22'26) all0)
  have SF'28 := own_stakeep SF'26 K28q (allS (own_objV P3_22'26) all0)
  have P0_6'28 := P0_6'26.keep K28q (ninS ne_bz_6_bz_22 nin0)
  have P0_22'28 := P0_22'26.keep K28q
  have P1_22'28 := P1_22'26.keep K28q (ninS ne_b20_bz_22 nin0)
  have P2_22'28 := P2_22'26.keep K28q (ninS ne_b20_bz_22 nin0)
  have P0_26'28 := P0_26.keep K28q (ninS ne_b18_bz_22 nin0)
  have K28 := (K26).trans K28q (allS (Or.inr sz_bz_22) all0)
  have Z28 : n0 ≤ T28.heap.size := Nat.le_trans Z26 K28q.1
  refine vs T28 200 [] (fun t k => st28.trans k) ?_
  refine vv T28 m 203 #[vr o1, vr oP, vr oT, vi (Int32.ofNat fr), vi cap, vi (Int32.ofNat (4 - fr)), vi (1 : Int32), vr b18, vi (1 : Int32), vr b20, vi (1 : Int32), vi (Int32.ofNat fr)] [] (fun t k => XS.iinc X28.here hx rfl (hb hby d7_200) rfl (l' := #[vr o1, vr oP, vr oT, vi (Int32.ofNat fr), vi cap, vi (Int32.ofNat (4 - fr)), vi (1 : Int32), vr b18, vi (1 : Int32), vr b20, vi (1 : Int32), vi (Int32.ofNat fr)]) rfl k) ?_
  refine vs T28 136 [] (fun t k => XS.goto X28.here hx rfl (pc0 := 203) (pc' := 136) rfl (hb hby d7_203) (by decide) (by decide) k) ?_
  refine vs T28 138 [(.int (1 : Int32))] (fun t k => XS.iload X28.here hx rfl (hb hby d7_136) rfl k) ?_
  refine vs T28 140 [(.int (1 : Int32)), (.int (1 : Int32))] (fun t k => XS.iload X28.here hx rfl (hb hby d7_138) rfl k) ?_
  have hc29_140 : ¬ ((1 : Int32) < (1 : Int32)) := (by decide)
  refine vs T28 206 [] (fun t k => XS.icmpYes X28.here hx rfl (pc0 := 140) (pc' := 206) rfl (hb hby d7_140) rfl (XT.ii_ge_t hc29_140) (by decide) (by decide) k) ?_
  refine vs T28 207 [(.ref o1)] (fun t k => XS.aloadN X28.here hx rfl (hb hby d7_206) rfl rfl k) ?_
  refine vs T28 208 [(.ref o1), (.ref o1)] (fun t k => XS.aloadN X28.here hx rfl (hb hby d7_207) rfl rfl k) ?_
  refine vs T28 210 [(.ref b20), (.ref o1), (.ref o1)] (fun t k => XS.aload X28.here hx rfl (hb hby d7_208) rfl rfl k) ?_
  obtain ⟨cq30, q30, q30'⟩ := EO'28.cell
  obtain ⟨_, _, ⟨T30, L30, k30, n30⟩, -, X30, ⟨Lc30, hQ30, l30, y30, z30⟩, st30⟩ := X28.privateBack hx (y := (⟨"com/example/clew/clew/CharFilter", "spreadPair", "(Lcom/example/clew/clew/CharFilter$Counts;)Lcom/example/clew/clew/DefaultSearch$Sieve;"⟩ : MethodName)) hown (mvT hZ (ww hw 139 rfl)) (mvT hZ (ww hw 140 rfl)) (own_psel hZ (ww hw 31 rfl) (ww hw 141 rfl) (ww hw 140 rfl) (by decide)) (Cond.privateMethod_at (mvP hZ (ww hw 141 rfl) (args := #[]))) (mvT hZ (ww hw 142 rfl)) (by decide) (backOf (W := 1) (rm26 l Z a0 hw [] o1 bz_6 kz_6 cs b20 bz_22 kz_22 (4 - fr) (own_adds (4 - fr) (own_sl ts fr (4 - fr)) (4 - fr) (List.replicate (own_nq (4 - fr)) 0)) T28.heap n0 Z28 EO'28 Fc'28 P0_6'28 P0_22'28 P1_22'28 P2_22'28 P0_28 hc4 hc1) hZ (ww hw 142 rfl) (ww hw 32 rfl) (by decide) (by decide)) (g := (mkF m 210 #[vr o1, vr oP, vr oT, vi (Int32.ofNat fr), vi cap, vi (Int32.ofNat (4 - fr)), vi (1 : Int32), vr b18, vi (1 : Int32), vr b20, vi (1 : Int32), vi (Int32.ofNat fr)] [(.ref b20), (.ref o1), (.ref o1)])) rfl (by rw [hml]; rfl) (Steps.refl _) (a := o1) q30 q30' (argsL := [(.ref b20)]) (rest := [(.ref o1)]) (lenOf pd_26 rfl) rfl (by show 2 * 0 + _ ≤ _; exact Nat.le_of_eq rfl) (hb hby d7_210) (fun _ _ => ⟨rfl, rfl, (by decide : (((((((((((0 + 1) + 1) + 1) + 0) + 1) + 0) + 1) + 1) + 1) + 0) + 0) + 5 ≤ _), (by decide : (((((((((((0 + 4) + 4) + 4) + 0) + 16448) + 0) + 4) + 2) + 4) + 0) + 0) + 13 ≤ _)⟩)
  dsimp only [Pt.U, Pt.locs, Pt.cells, Pt.slots] at X30 l30 y30 z30 st30 hQ30
  subst l30 y30 z30
  obtain ⟨sz_30, bz_30, kz_30, fs_30, se_30, rfl, Nq30, K30q, fz_sz_30, fz_bz_30, ex0_30, P0_30, P1_30, P2_30, P3_30⟩ := hQ30
  have N30 := Fr.app N28 Nq30
  have EO'30 := EO'28.keep K30q
  have Fc'30 := Fc'28.keep K30q nin0
  have Fh'30 := Fh'28.keep K30q nin0
  have Fi'30 := Fi'28.keep K30q nin0
  have Pya'30 := Pya'28.keep K30q
  have Pyb'30 := Pyb'28.keep K30q nin0
  have Pyc'30 := Pyc'28.keep K30q nin0
  have Pyd'30 := Pyd'28.keep K30q nin0
  have SC'30 := own_stakeep SC'28 K30q all0
  have SA'30 := own_stakeep SA'28 K30q all0
  have SH'30 := own_stakeep SH'28 K30q all0
  have SL'30 := own_stakeep SL'28 K30q all0
  have SF'30 := own_stakeep SF'28 K30q all0
  have P0_6'30 := P0_6'28.keep K30q nin0
  have P0_22'30 := P0_22'28.keep K30q
  have P1_22'30 := P1_22'28.keep K30q nin0
  have P2_22'30 := P2_22'28.keep K30q nin0
  have P0_26'30 := P0_26'28.keep K30q nin0
  have P0_28'30 := P0_28.keep K30q nin0
  have K30 := (K28).trans K30q all0
  have g_sz_30 : n0 ≤ sz_30 := Nat.le_trans Z28 fz_sz_30
  have sz_sz_30 : h0.size ≤ sz_30 := Nat.le_trans (K28).1 fz_sz_30
  have g_bz_30 : n0 ≤ bz_30 := Nat.le_trans Z28 fz_bz_30
  have sz_bz_30 : h0.size ≤ bz_30 := Nat.le_trans (K28).1 fz_bz_30
  have ne_o1_sz_30 : o1 ≠ sz_30 := Nat.ne_of_lt (Nat.lt_of_lt_of_le EO'28.lt fz_sz_30)
  have ne_oT_sz_30 : oT ≠ sz_30 := Nat.ne_of_lt (Nat.lt_of_lt_of_le Pya'28.lt fz_sz_30)
  have ne_ob2_sz_30 : ob2 ≠ sz_30 := Nat.ne_of_lt (Nat.lt_of_lt_of_le Pyd'28.lt fz_sz_30)
  have ne_bz_6_sz_30 : bz_6 ≠ sz_30 := Nat.ne_of_lt (Nat.lt_of_lt_of_le P0_6'28.lt fz_sz_30)
  have ne_b20_sz_30 : b20 ≠ sz_30 := Nat.ne_of_lt (Nat.lt_of_lt_of_le P0_22'28.lt fz_sz_30)
  have ne_b18_sz_30 : b18 ≠ sz_30 := Nat.ne_of_lt (Nat.lt_of_lt_of_le P0_26'28.lt fz_sz_30)
  have ne_bz_22_sz_30 : bz_22 ≠ sz_30 := Nat.ne_of_lt (Nat.lt_of_lt_of_le P0_28.lt fz_sz_30)
  have ne_o1_bz_30 : o1 ≠ bz_30 := Nat.ne_of_lt (Nat.lt_of_lt_of_le EO'28.lt fz_bz_30)
  have ne_oT_bz_30 : oT ≠ bz_30 := Nat.ne_of_lt (Nat.lt_of_lt_of_le Pya'28.lt fz_bz_30)
  have ne_ob2_bz_30 : ob2 ≠ bz_30 := Nat.ne_of_lt (Nat.lt_of_lt_of_le Pyd'28.lt fz_bz_30)
  have ne_bz_6_bz_30 : bz_6 ≠ bz_30 := Nat.ne_of_lt (Nat.lt_of_lt_of_le P0_6'28.lt fz_bz_30)
  have ne_b20_bz_30 : b20 ≠ bz_30 := Nat.ne_of_lt (Nat.lt_of_lt_of_le P0_22'28.lt fz_bz_30)
  have ne_b18_bz_30 : b18 ≠ bz_30 := Nat.ne_of_lt (Nat.lt_of_lt_of_le P0_26'28.lt fz_bz_30)
  have ne_bz_22_bz_30 : bz_22 ≠ bz_30 := Nat.ne_of_lt (Nat.lt_of_lt_of_le P0_28.lt fz_bz_30)
  have Z30 : n0 ≤ T30.heap.size := Nat.le_trans Z28 K30q.1
  refine vs T30 213 [(.ref sz_30), (.ref o1)] (fun t k => st30.trans k) ?_
  obtain ⟨cq31, q31, q31'⟩ := EO'30.cell
  obtain ⟨_, _, ⟨T31, L31, k31, n31⟩, -, X31, ⟨Lc31, hQ31, l31, y31, z31⟩, st31⟩ := X30.privateBack hx (y := (⟨"com/example/clew/clew/CharFilter", "test", "(Lcom/example/clew/clew/DefaultSearch$Sieve;)V"⟩ : MethodName)) hown (mvT hZ (ww hw 173 rfl)) (mvT hZ (ww hw 174 rfl)) (own_psel hZ (ww hw 31 rfl) (ww hw 175 rfl) (ww hw 174 rfl) (by decide)) (Cond.privateMethod_at (mvP hZ (ww hw 175 rfl) (args := #[]))) (mvT hZ (ww hw 176 rfl)) (by decide) (backOf (W := 0) (rm31 l Z a0 hw [] o1 bz_6 kz_6 cs sz_30 bz_30 kz_30 (min fs_30 se_30) (max fs_30 se_30) (0 : Int32) T30.heap n0 Z30 EO'30 Fc'30 P0_6'30 Fh'30 Fi'30 P0_30 P1_30 P2_30 g_o1 ne_o1_sz_30 ne_o1_bz_30 ne_o1_bz_6) hZ (ww hw 176 rfl) (ww hw 32 rfl) (by decide) (by decide)) (g := (mkF m 213 #[vr o1, vr oP, vr oT, vi (Int32.ofNat fr), vi cap, vi (Int32.ofNat (4 - fr)), vi (1 : Int32), vr b18, vi (1 : Int32), vr b20, vi (1 : Int32), vi (Int32.ofNat fr)] [(.ref sz_30), (.ref o1)])) rfl (by rw [hml]; rfl) (Steps.refl _) (a := o1) q31 q31' (argsL := [(.ref sz_30)]) (rest := []) (lenOf pd_27 rfl) rfl (by show 2 * 0 + _ ≤ _; exact Nat.le_of_eq rfl) (hb hby d7_213) (fun _ _ => ⟨rfl, rfl, (by decide : ((((((((((((0 + 1) + 1) + 1) + 0) + 1) + 0) + 1) + 1) + 1) + 0) + 0) + 5) + 0 ≤ _), (by decide : ((((((((((((0 + 4) + 4) + 4) + 0) + 16448) + 0) + 4) + 2) + 4) + 0) + 0) + 13) + 0 ≤ _)⟩)
  dsimp only [Pt.U, Pt.locs, Pt.cells, Pt.slots] at X31 l31 y31 z31 st31 hQ31
  subst l31 y31 z31
  obtain ⟨rfl, Nq31, K31q, P0_31⟩ := hQ31
  have N31 := Fr.app N30 Nq31
  have EO'31 := EO'30.keep K31q
  have Pya'31 := Pya'30.keep K31q
  have Pyb'31 := Pyb'30.keep K31q (ninS (Ne.symm ne_1T) nin0)
  have Pyc'31 := Pyc'30.keep K31q (ninS (Ne.symm ne_1T) nin0)
  have Pyd'31 := Pyd'30.keep K31q (ninS (Ne.symm ne_1c) nin0)
  have SC'31 := own_stakeep SC'30 K31q (allS (own_objE EO'30) all0)
  have SA'31 := own_stakeep SA'30 K31q (allS (own_objE EO'30) all0)
  have SH'31 := own_stakeep SH'30 K31q (allS (own_objE EO'30) all0)
  have SL'31 := own_stakeep SL'30 K31q (allS (own_objE EO'30) all0)
  have SF'31 := own_stakeep SF'30 K31q (allS (own_objE EO'30) all0)
  have P0_6'31 := P0_6'30.keep K31q (ninS (Ne.symm ne_o1_bz_6) nin0)
  have P0_22'31 := P0_22'30.keep K31q
  have P1_22'31 := P1_22'30.keep K31q (ninS (Ne.symm ne_o1_b20) nin0)
  have P2_22'31 := P2_22'30.keep K31q (ninS (Ne.symm ne_o1_b20) nin0)
  have P0_26'31 := P0_26'30.keep K31q (ninS (Ne.symm ne_o1_b18) nin0)
  have P0_28'31 := P0_28'30.keep K31q (ninS (Ne.symm ne_o1_bz_22) nin0)
  have P0_30'31 := P0_30.keep K31q
  have P1_30'31 := P1_30.keep K31q (ninS (Ne.symm ne_o1_sz_30) nin0)
  have P2_30'31 := P2_30.keep K31q (ninS (Ne.symm ne_o1_bz_30) nin0)
  have P3_30'31 := P3_30.keep K31q
  have K31 := (K30).trans K31q (allS (Or.inl (List.mem_of_getElem? (i := 0) rfl)) all0)
  have Z31 : n0 ≤ T31.heap.size := Nat.le_trans Z30 K31q.1
  refine vs T31 216 [] (fun t k => st31.trans k) ?_
  exact own_fin X31 rfl (v := none) (fun _ => rfl) hlk (fun fs hr => X31.returnOut hx hret (hb hby d7_216) hr) (show ((fun (v : Option Value) (h : Heap) (L : List Loc) => Q7 Z o1 oP oT ob kb ln bs cd cs ob2 kb2 ln2 bs2 cd2 ts cps fmv fr cap h0 n0 v h L)) none T31.heap _ from ⟨sz_30, bz_30, kz_30, fs_30, se_30, rfl, N31, K31, sz_sz_30, sz_bz_30, ex0_30, (EO'31), (P0_31), (P0_30'31), (P1_30'31), (P2_30'31), (P3_30'31)⟩) (by decide) (by decide)
theorem ef_7 (m : MethodId) (o1 : Addr) (oP : Addr) (oT : Addr) (fr : Nat) (cap : Int32) : entryFrame m #[(.ref o1), (.ref oP), (.ref oT), (.int (Int32.ofNat fr)), (.int cap)] 12 = mkF m 0 #[vr o1, vr oP, vr oT, vi (Int32.ofNat fr), vi cap, .unset, .unset, .unset, .unset, .unset, .unset, .unset] [] := by first | (simp [entryFrame, mkF, argsToLocals, Value.category, maxLocals]; done) | rfl
theorem rm7 (l : Launch) (Z : State) (a0 : Array Value) (hw : ∀ d ∈ tables_1, d.before a0 Z = true) (ws : List Jvm.Cond) (o1 : Addr) (oP : Addr) (oT : Addr) (ob : Addr) (kb : ClassId) (ln : Nat) (bs : List Int32) (cd : Int32) (cs : List Int32) (ob2 : Addr) (kb2 : ClassId) (ln2 : Nat) (bs2 : List Int32) (cd2 : Int32) (ts : List Int32) (cps : Int32) (fmv : Value) (fr : Nat) (cap : Int32) (h0 : Heap) (n0 : Nat) (Z0 : n0 ≤ h0.size) (EO : Exa Z h0 o1 "com/example/clew/clew/CharFilter") (Fa : Fld Z h0 o1 "com/example/clew/clew/CharFilter" "copies" "[[C" .null) (Fb : Fld Z h0 o1 "com/example/clew/clew/CharFilter" "slots" "[[C" .null) (Fc : Fld Z h0 o1 "com/example/clew/clew/CharFilter" "pattern" "[C" .null) (Fd : Fld Z h0 o1 "com/example/clew/clew/CharFilter" "text" "Ljava/lang/String;" .null) (Fe : Fld Z h0 o1 "com/example/clew/clew/CharFilter" "from" "I" (.int (0 : Int32))) (Ff : Fld Z h0 o1 "com/example/clew/clew/CharFilter" "reach" "I" (.int (0 : Int32))) (Fg : Fld Z h0 o1 "com/example/clew/clew/CharFilter" "marks" "[B" .null) (Fh : Fld Z h0 o1 "com/example/clew/clew/CharFilter" "sieve" "Lcom/example/clew/clew/DefaultSearch$Sieve;" .null) (Fi : Fld Z h0 o1 "com/example/clew/clew/CharFilter" "whole" "Z" (.int (0 : Int32))) (Pxa : Exa Z h0 oP "java/lang/String") (Pxb : Fld Z h0 oP "java/lang/String" "value" "[B" (.ref ob)) (Pxc : Fld Z h0 oP "java/lang/String" "coder" "B" (.int cd)) (Pxd : Arv Z h0 ob kb .byte (Int32.ofNat ln) (own_iv bs) (.int (0 : Int32))) (Pya : Exa Z h0 oT "java/lang/String") (Pyb : Fld Z h0 oT "java/lang/String" "value" "[B" (.ref ob2)) (Pyc : Fld Z h0 oT "java/lang/String" "coder" "B" (.int cd2)) (Pyd : Arv Z h0 ob2 kb2 .byte (Int32.ofNat ln2) (own_iv bs2) (.int (0 : Int32))) (SC : Sta Z h0 "java/lang/String" "COMPACT_STRINGS" "Z" (.int cps)) (SA : Sta Z h0 "java/lang/StringUTF16" "$assertionsDisabled" "Z" (.int (1 : Int32))) (SH : Sta Z h0 "java/lang/StringUTF16" "HI_BYTE_SHIFT" "I" (.int (0 : Int32))) (SL : Sta Z h0 "java/lang/StringUTF16" "LO_BYTE_SHIFT" "I" (.int (8 : Int32))) (SF : Sta Z h0 "jdk/internal/util/Preconditions" "SIOOBE_FORMATTER" "Ljava/util/function/BiFunction;" fmv) (g_o1 : n0 ≤ o1) (hcp : ¬ cps = 0) (henc : own_enc cs cd ln bs) (hc4 : cs.length ≤ 4) (hc1 : 1 ≤ cs.length) (hch : ∀ j, j < cs.length → own_ch (cs.getD j 0)) (hrf : fmv.isRef = true) (henc2 : own_enc ts cd2 ln2 bs2) (hT4 : ts.length = 4) (hch2 : ∀ j, j < ts.length → own_ch (ts.getD j 0)) (hfr : fr ≤ 4) (hcap : ¬ cap < 0) (ne_1P : o1 ≠ oP) (ne_1T : o1 ≠ oT) (ne_1b : o1 ≠ ob) (ne_1c : o1 ≠ ob2) :
    MetFree l (⟨"com/example/clew/clew/CharFilter", "<init>", "(Ljava/lang/String;Ljava/lang/String;II)V"⟩ : MethodName) (head1 (Jvm.Cond.code (⟨"com/example/clew/clew/CharFilter", "<init>", "(Ljava/lang/String;Ljava/lang/String;II)V"⟩ : MethodName) prog_6_method_1_code 12 none :: ws) ({ frames := 6, cells := 12, slots := 16483, locals := 3096 } : Room)) (fun a U => a = #[(.ref o1), (.ref oP), (.ref oT), (.int (Int32.ofNat fr)), (.int cap)] ∧ Z.Warmed39 U.vm ∧ U.heap = h0) (fun _ _ _ _ _ => True) (fun _ U o U' => ∃ v L, o = .returned v ∧ Q7 Z o1 oP oT ob kb ln bs cd cs ob2 kb2 ln2 bs2 cd2 ts cps fmv fr cap h0 n0 v U'.heap L ∧ FrameEnd U o U' L ({ frames := 6, cells := 12, slots := 16483, locals := 3096 } : Room).cells ({ frames := 6, cells := 12, slots := 16483, locals := 3096 } : Room).slots) := by
  refine MetFree.of_bodySF (plainFor_of_name pn_6) hisR ?_
  intro p e s m args below meth c s₁ Bd hml0 hP hK
  obtain ⟨rfl, hZ, hh⟩ := hP
  have e0 : s₁.heap = h0 := by rw [← hh, Bd.state]; rfl
  rw [ef_7 m o1 oP oT fr cap]
  exact b7 o1 oP oT ob kb ln bs cd cs ob2 kb2 ln2 bs2 cd2 ts cps fmv fr cap ⟨Bd.exec, hZ, hw, Bd.bytes, hml0, findClass_of_methodNamed Bd.named, Bd.returns, Bd.notSynchronized, (name_of_methodNamed Bd.named Bd.method).1⟩ (Stand.of_body Bd) e0 Z0 (Fr.nil n0) EO Fa Fb Fc Fd Fe Ff Fg Fh Fi Pxa Pxb Pxc Pxd Pya Pyb Pyc Pyd SC SA SH SL SF g_o1 hcp henc hc4 hc1 hch hrf henc2 hT4 hch2 hfr hcap ne_1P ne_1T ne_1b ne_1c
def Q35 (Z : State) (ch : Int32) (sh : Int32) (h0 : Heap) (n0 : Nat) (v : Option Value) (h : Heap) (L : List Loc) : Prop := v = some (.int (own_bk ch sh)) ∧ Fr n0 L ∧ h = h0
theorem d35_0 : dq cb41 0 (.iload_n 0) 1 := by decide +kernel
theorem d35_1 : dq cb41 1 (.ldc 42) 2 := by decide +kernel
theorem d35_3 : dq cb41 3 .imul 1 := by decide +kernel
theorem d35_4 : dq cb41 4 (.iload_n 1) 1 := by decide +kernel
theorem d35_5 : dq cb41 5 .iushr 1 := by decide +kernel
theorem d35_6 : dq cb41 6 .ireturn 1 := by decide +kernel
theorem b35  (ch : Int32) (sh : Int32)
    (C : own_C p s m meth c Z a0 method_3_code 2 "com/example/clew/clew/CharFilterTestedPinLaw" (some .int) "bucket") (X0 : Stand p l e ({ frames := 0, cells := 0, slots := 0, locals := 0 } : Room) s m args below meth c T0 locs 0 0) (e0 : T0.heap = h0) (Z0 : n0 ≤ h0.size) (N0 : Fr n0 locs) :
    own_Go p.tables e below (T0.setTop (mkF m 0 #[vi ch, vi sh] [])) (own_K s (fun (v : Option Value) (h : Heap) (L : List Loc) => Q35 Z ch sh h0 n0 v h L) ({ frames := 0, cells := 0, slots := 0, locals := 0 } : Room).cells ({ frames := 0, cells := 0, slots := 0, locals := 0 } : Room).slots) := by
  obtain ⟨hx, hZ, hw, hby, hml, hown, hret, hlk, hnm⟩ := C
  refine vs T0 1 [(.int ch)] (fun t k => XS.iloadN X0.here hx rfl (hb hby d35_0) rfl k) ?_
  refine vs T0 3 [(.int (-1640531527 : Int32)), (.int ch)] (fun t k => X0.ldcI hx hown (mvT hZ (ww hw 208 rfl)) (g := (mkF m 1 #[vi ch, vi sh] [(.int ch)])) rfl (hb hby d35_1) k) ?_
  refine vs T0 4 [(.int (ch * (-1640531527 : Int32)))] (fun t k => XS.imul X0.here hx rfl (hb hby d35_3) rfl k) ?_
  refine vs T0 5 [(.int sh), (.int (ch * (-1640531527 : Int32)))] (fun t k => XS.iloadN X0.here hx rfl (hb hby d35_4) rfl k) ?_
  refine vs T0 6 [(.int (XT.ushr (ch * (-1640531527 : Int32)) sh))] (fun t k => XT.iushr X0.here hx rfl (hb hby d35_5) rfl k) ?_
  exact own_fin X0 e0 (v := some (.int (XT.ushr (ch * (-1640531527 : Int32)) sh))) (fun h => by rw [hret] at h; cases h) hlk (fun fs hr => retI X0 hx hret (hb hby d35_6) hr) (show ((fun (v : Option Value) (h : Heap) (L : List Loc) => Q35 Z ch sh h0 n0 v h L)) (some (.int (XT.ushr (ch * (-1640531527 : Int32)) sh))) h0 _ from ⟨rfl, N0, rfl⟩) (by decide) (by decide)
theorem pn_8 : plainName "com/example/clew/clew/CharFilterTestedPinLaw" = true := by first | (simp [plainName, overriddenIn]; done) | decide +kernel
theorem ef_35 (m : MethodId) (ch : Int32) (sh : Int32) : entryFrame m #[(.int ch), (.int sh)] 2 = mkF m 0 #[vi ch, vi sh] [] := by first | (simp [entryFrame, mkF, argsToLocals, Value.category, maxLocals]; done) | rfl
theorem rm35 (l : Launch) (Z : State) (a0 : Array Value) (hw : ∀ d ∈ tables_1, d.before a0 Z = true) (ws : List Jvm.Cond) (ch : Int32) (sh : Int32) (h0 : Heap) (n0 : Nat) (Z0 : n0 ≤ h0.size) :
    MetFree l (⟨"com/example/clew/clew/CharFilterTestedPinLaw", "bucket", "(II)I"⟩ : MethodName) (head1 (Jvm.Cond.code (⟨"com/example/clew/clew/CharFilterTestedPinLaw", "bucket", "(II)I"⟩ : MethodName) method_3_code 2 (some .int) :: ws) ({ frames := 0, cells := 0, slots := 0, locals := 0 } : Room)) (fun a U => a = #[(.int ch), (.int sh)] ∧ Z.Warmed39 U.vm ∧ U.heap = h0) (fun _ _ _ _ _ => True) (fun _ U o U' => ∃ v L, o = .returned v ∧ Q35 Z ch sh h0 n0 v U'.heap L ∧ FrameEnd U o U' L ({ frames := 0, cells := 0, slots := 0, locals := 0 } : Room).cells ({ frames := 0, cells := 0, slots := 0, locals := 0 } : Room).slots) := by
  refine MetFree.of_bodySF (plainFor_of_name pn_8) hisR ?_
  intro p e s m args below meth c s₁ Bd hml0 hP hK
  obtain ⟨rfl, hZ, hh⟩ := hP
  have e0 : s₁.heap = h0 := by rw [← hh, Bd.state]; rfl
  rw [ef_35 m ch sh]
  exact b35 ch sh ⟨Bd.exec, hZ, hw, Bd.bytes, hml0, findClass_of_methodNamed Bd.named, Bd.returns, Bd.notSynchronized, (name_of_methodNamed Bd.named Bd.method).1⟩ (Stand.of_body Bd) e0 Z0 (Fr.nil n0)
def own_cs (j fr sh bb t acc : Int32) : Int32 := if j < fr then acc else if own_bk t sh = bb then acc + 1 else acc
def own_cu (px ta0 ta1 ta2 ta3 fr sh : Int32) : Int32 := own_cs 3 fr sh (own_bk px sh) ta3 (own_cs 2 fr sh (own_bk px sh) ta2 (own_cs 1 fr sh (own_bk px sh) ta1 (own_cs 0 fr sh (own_bk px sh) ta0 0)))
theorem d34_89 : dq cb42 89 (.iload 5) 2 := by decide +kernel
theorem d34_91 : dq cb42 91 .ireturn 1 := by decide +kernel
theorem b34_89  (px : Int32) (oa : Addr) (ka : ClassId) (ta0 : Int32) (ta1 : Int32) (ta2 : Int32) (ta3 : Int32) (fr : Int32) (sh : Int32) (acc : Int32)
    (C : own_C p s m meth c Z a0 method_4_code 6 "com/example/clew/clew/CharFilterTestedPinLaw" (some .int) "count") (X0 : Stand p l e ({ frames := 1, cells := 0, slots := 0, locals := 15 } : Room) s m args below meth c T0 locs 0 0) (e0 : T0.heap = h0) (Z0 : n0 ≤ h0.size) (N0 : Fr n0 locs) (VA : Arv Z h0 oa ka .char (4 : Int32) [(.int ta0), (.int ta1), (.int ta2), (.int ta3)] (.int (0 : Int32))) :
    own_Go p.tables e below (T0.setTop (mkF m 89 #[vi px, vr oa, vi fr, vi sh, vi (own_bk px sh), vi acc] [])) (own_K s (fun (v : Option Value) (h : Heap) (L : List Loc) => v = some (.int acc) ∧ Fr n0 L ∧ h = h0) ({ frames := 1, cells := 0, slots := 0, locals := 15 } : Room).cells ({ frames := 1, cells := 0, slots := 0, locals := 15 } : Room).slots) := by
  obtain ⟨hx, hZ, hw, hby, hml, hown, hret, hlk, hnm⟩ := C
  refine vs T0 91 [(.int acc)] (fun t k => XS.iload X0.here hx rfl (hb hby d34_89) rfl k) ?_
  exact own_fin X0 e0 (v := some (.int acc)) (fun h => by rw [hret] at h; cases h) hlk (fun fs hr => retI X0 hx hret (hb hby d34_91) hr) (show ((fun (v : Option Value) (h : Heap) (L : List Loc) => v = some (.int acc) ∧ Fr n0 L ∧ h = h0)) (some (.int acc)) h0 _ from ⟨rfl, N0, rfl⟩) (by decide) (by decide)
theorem d34_69 : dq cb42 69 (.iload_n 2) 1 := by decide +kernel
theorem d34_70 : dq cb42 70 (.iconst 3) 1 := by decide +kernel
theorem d34_71 : dq cb42 71 (.if_icmp .gt 18) 3 := by decide +kernel
theorem d34_74 : dq cb42 74 (.aload_n 1) 1 := by decide +kernel
theorem d34_75 : dq cb42 75 (.iconst 3) 1 := by decide +kernel
theorem d34_76 : dq cb42 76 .caload 1 := by decide +kernel
theorem d34_77 : dq cb42 77 (.iload_n 3) 1 := by decide +kernel
theorem d34_78 : dq cb42 78 (.invokestatic 43) 3 := by decide +kernel
theorem d34_81 : dq cb42 81 (.iload 4) 2 := by decide +kernel
theorem d34_83 : dq cb42 83 (.if_icmp .ne 6) 3 := by decide +kernel
theorem d34_86 : dq cb42 86 (.iinc 5 1) 3 := by decide +kernel
theorem b34_69  (px : Int32) (oa : Addr) (ka : ClassId) (ta0 : Int32) (ta1 : Int32) (ta2 : Int32) (ta3 : Int32) (fr : Int32) (sh : Int32) (acc : Int32)
    (C : own_C p s m meth c Z a0 method_4_code 6 "com/example/clew/clew/CharFilterTestedPinLaw" (some .int) "count") (X0 : Stand p l e ({ frames := 1, cells := 0, slots := 0, locals := 15 } : Room) s m args below meth c T0 locs 0 0) (e0 : T0.heap = h0) (Z0 : n0 ≤ h0.size) (N0 : Fr n0 locs) (VA : Arv Z h0 oa ka .char (4 : Int32) [(.int ta0), (.int ta1), (.int ta2), (.int ta3)] (.int (0 : Int32))) :
    own_Go p.tables e below (T0.setTop (mkF m 69 #[vi px, vr oa, vi fr, vi sh, vi (own_bk px sh), vi acc] [])) (own_K s (fun (v : Option Value) (h : Heap) (L : List Loc) => v = some (.int (own_cs 3 fr sh (own_bk px sh) ta3 acc)) ∧ Fr n0 L ∧ h = h0) ({ frames := 1, cells := 0, slots := 0, locals := 15 } : Room).cells ({ frames := 1, cells := 0, slots := 0, locals := 15 } : Room).slots) := by
  obtain ⟨hx, hZ, hw, hby, hml, hown, hret, hlk, hnm⟩ := C
  refine vs T0 70 [(.int fr)] (fun t k => XS.iloadN X0.here hx rfl (hb hby d34_69) rfl k) ?_
  refine vs T0 71 [(.int (3 : Int32)), (.int fr)] (fun t k => XS.iconst X0.here hx rfl (hb hby d34_70) k) ?_
  by_cases hc1_71 : (3 : Int32) < fr
  · refine vs T0 89 [] (fun t k => XS.icmpYes X0.here hx rfl (pc0 := 71) (pc' := 89) rfl (hb hby d34_71) rfl (XT.ii_gt_t hc1_71) (by decide) (by decide) k) ?_
    have ec : own_cs 3 fr sh (own_bk px sh) ta3 acc = acc := by unfold own_cs; rw [if_pos hc1_71]
    rw [ec]
    exact b34_89 px oa ka ta0 ta1 ta2 ta3 fr sh acc ⟨hx, hZ, hw, hby, hml, hown, hret, hlk, hnm⟩ X0 e0 Z0 N0 VA
  · refine vs T0 74 [] (fun t k => XS.icmpNo X0.here hx rfl (hb hby d34_71) rfl (XT.ii_gt_f hc1_71) k) ?_
    refine vs T0 75 [(.ref oa)] (fun t k => XS.aloadN X0.here hx rfl (hb hby d34_74) rfl rfl k) ?_
    refine vs T0 76 [(.int (3 : Int32)), (.ref oa)] (fun t k => XS.iconst X0.here hx rfl (hb hby d34_75) k) ?_
    obtain ⟨cl2, Ar2, qc2, S2, NN2, H2, G2⟩ := id VA
    have in2 := inb_of (j := (3 : Int32)) S2 ⟨by decide, by decide⟩
    have hat2 : cl2.slots[((3 : Int32)).toNatClampNeg]? = some (.int ta3) := H2.at in2 rfl
    refine vs T0 77 [(.int ta3)] (fun t k => X0.caload hx (j := (3 : Int32)) (v := (.int ta3)) (own_eqh e0 Ar2.1) (State.isArrayOf_alike hZ.alike Ar2.2.1) Ar2.2.2 in2 hat2 (g := (mkF m 76 #[vi px, vr oa, vi fr, vi sh, vi (own_bk px sh), vi acc] [(.int (3 : Int32)), (.ref oa)])) rfl rfl (hb hby d34_76) t k) ?_
    refine vs T0 78 [(.int sh), (.int ta3)] (fun t k => XS.iloadN X0.here hx rfl (hb hby d34_77) rfl k) ?_
    obtain ⟨_, _, ⟨T3, L3, k3, n3⟩, -, X3, ⟨Lc3, hQ3, l3, y3, z3⟩, st3⟩ := Jvm.LawKit.callS X0 hx (y := (⟨"com/example/clew/clew/CharFilterTestedPinLaw", "bucket", "(II)I"⟩ : MethodName)) hown (mvT hZ (ww hw 205 rfl)) (mvT hZ (ww hw 206 rfl)) (mvT hZ (ww hw 203 rfl)) (mvT hZ (ww hw 207 rfl)) (by decide) (backOf (W := 0) (rm35 l Z a0 hw [] ta3 sh h0 n0 Z0) hZ (ww hw 207 rfl) (ww hw 203 rfl) (by decide) (by decide)) (g := (mkF m 78 #[vi px, vr oa, vi fr, vi sh, vi (own_bk px sh), vi acc] [(.int sh), (.int ta3)])) rfl (by rw [hml]; rfl) (argsL := [(.int ta3), (.int sh)]) (rest := []) (lenOf pd_19 rfl) rfl (by show 2 * 0 + _ ≤ _; exact Nat.le_of_eq rfl) (hb hby d34_78) (fun _ _ => ⟨rfl, e0, (by decide : 0 + 0 ≤ _), (by decide : 0 + 0 ≤ _)⟩)
    dsimp only [Pt.U, Pt.locs, Pt.cells, Pt.slots] at X3 l3 y3 z3 st3 hQ3
    subst l3 y3 z3
    obtain ⟨rfl, Nq3, eh3⟩ := hQ3
    have N3 := Fr.app N0 Nq3
    refine vs T3 81 [(.int (own_bk ta3 sh))] (fun t k => st3 t k) ?_
    refine vs T3 83 [(.int (own_bk px sh)), (.int (own_bk ta3 sh))] (fun t k => XS.iload X3.here hx rfl (hb hby d34_81) rfl k) ?_
    by_cases hc4_83 : (own_bk ta3 sh) = (own_bk px sh)
    · refine vs T3 86 [] (fun t k => XS.icmpNo X3.here hx rfl (hb hby d34_83) rfl (XT.ii_ne_f hc4_83) k) ?_
      refine vv T3 m 89 #[vi px, vr oa, vi fr, vi sh, vi (own_bk px sh), vi (acc + (1 : Int32))] [] (fun t k => XS.iinc X3.here hx rfl (hb hby d34_86) rfl (l' := #[vi px, vr oa, vi fr, vi sh, vi (own_bk px sh), vi (acc + (1 : Int32))]) rfl k) ?_
      have ec : own_cs 3 fr sh (own_bk px sh) ta3 acc = (acc + (1 : Int32)) := by unfold own_cs; rw [if_neg hc1_71, if_pos hc4_83]
      rw [ec]
      exact b34_89 px oa ka ta0 ta1 ta2 ta3 fr sh (acc + (1 : Int32)) ⟨hx, hZ, hw, hby, hml, hown, hret, hlk, hnm⟩ X3 eh3 Z0 N3 VA
    · refine vs T3 89 [] (fun t k => XS.icmpYes X3.here hx rfl (pc0 := 83) (pc' := 89) rfl (hb hby d34_83) rfl (XT.ii_ne_t hc4_83) (by decide) (by decide) k) ?_
      have ec : own_cs 3 fr sh (own_bk px sh) ta3 acc = acc := by unfold own_cs; rw [if_neg hc1_71, if_neg hc4_83]
      rw [ec]
      exact b34_89 px oa ka ta0 ta1 ta2 ta3 fr sh acc ⟨hx, hZ, hw, hby, hml, hown, hret, hlk, hnm⟩ X3 eh3 Z0 N3 VA
theorem d34_49 : dq cb42 49 (.iload_n 2) 1 := by decide +kernel
theorem d34_50 : dq cb42 50 (.iconst 2) 1 := by decide +kernel
theorem d34_51 : dq cb42 51 (.if_icmp .gt 18) 3 := by decide +kernel
theorem d34_54 : dq cb42 54 (.aload_n 1) 1 := by decide +kernel
theorem d34_55 : dq cb42 55 (.iconst 2) 1 := by decide +kernel
theorem d34_56 : dq cb42 56 .caload 1 := by decide +kernel
theorem d34_57 : dq cb42 57 (.iload_n 3) 1 := by decide +kernel
theorem d34_58 : dq cb42 58 (.invokestatic 43) 3 := by decide +kernel
theorem d34_61 : dq cb42 61 (.iload 4) 2 := by decide +kernel
theorem d34_63 : dq cb42 63 (.if_icmp .ne 6) 3 := by decide +kernel
theorem d34_66 : dq cb42 66 (.iinc 5 1) 3 := by decide +kernel
theorem b34_49  (px : Int32) (oa : Addr) (ka : ClassId) (ta0 : Int32) (ta1 : Int32) (ta2 : Int32) (ta3 : Int32) (fr : Int32) (sh : Int32) (acc : Int32)
    (C : own_C p s m meth c Z a0 method_4_code 6 "com/example/clew/clew/CharFilterTestedPinLaw" (some .int) "count") (X0 : Stand p l e ({ frames := 1, cells := 0, slots := 0, locals := 15 } : Room) s m args below meth c T0 locs 0 0) (e0 : T0.heap = h0) (Z0 : n0 ≤ h0.size) (N0 : Fr n0 locs) (VA : Arv Z h0 oa ka .char (4 : Int32) [(.int ta0), (.int ta1), (.int ta2), (.int ta3)] (.int (0 : Int32))) :
    own_Go p.tables e below (T0.setTop (mkF m 49 #[vi px, vr oa, vi fr, vi sh, vi (own_bk px sh), vi acc] [])) (own_K s (fun (v : Option Value) (h : Heap) (L : List Loc) => v = some (.int (own_cs 3 fr sh (own_bk px sh) ta3 (own_cs 2 fr sh (own_bk px sh) ta2 acc))) ∧ Fr n0 L ∧ h = h0) ({ frames := 1, cells := 0, slots := 0, locals := 15 } : Room).cells ({ frames := 1, cells := 0, slots := 0, locals := 15 } : Room).slots) := by
  obtain ⟨hx, hZ, hw, hby, hml, hown, hret, hlk, hnm⟩ := C
  refine vs T0 50 [(.int fr)] (fun t k => XS.iloadN X0.here hx rfl (hb hby d34_49) rfl k) ?_
  refine vs T0 51 [(.int (2 : Int32)), (.int fr)] (fun t k => XS.iconst X0.here hx rfl (hb hby d34_50) k) ?_
  by_cases hc1_51 : (2 : Int32) < fr
  · refine vs T0 69 [] (fun t k => XS.icmpYes X0.here hx rfl (pc0 := 51) (pc' := 69) rfl (hb hby d34_51) rfl (XT.ii_gt_t hc1_51) (by decide) (by decide) k) ?_
    have ec : own_cs 2 fr sh (own_bk px sh) ta2 acc = acc := by unfold own_cs; rw [if_pos hc1_51]
    rw [ec]
    exact b34_69 px oa ka ta0 ta1 ta2 ta3 fr sh acc ⟨hx, hZ, hw, hby, hml, hown, hret, hlk, hnm⟩ X0 e0 Z0 N0 VA
  · refine vs T0 54 [] (fun t k => XS.icmpNo X0.here hx rfl (hb hby d34_51) rfl (XT.ii_gt_f hc1_51) k) ?_
    refine vs T0 55 [(.ref oa)] (fun t k => XS.aloadN X0.here hx rfl (hb hby d34_54) rfl rfl k) ?_
    refine vs T0 56 [(.int (2 : Int32)), (.ref oa)] (fun t k => XS.iconst X0.here hx rfl (hb hby d34_55) k) ?_
    obtain ⟨cl2, Ar2, qc2, S2, NN2, H2, G2⟩ := id VA
    have in2 := inb_of (j := (2 : Int32)) S2 ⟨by decide, by decide⟩
    have hat2 : cl2.slots[((2 : Int32)).toNatClampNeg]? = some (.int ta2) := H2.at in2 rfl
    refine vs T0 57 [(.int ta2)] (fun t k => X0.caload hx (j := (2 : Int32)) (v := (.int ta2)) (own_eqh e0 Ar2.1) (State.isArrayOf_alike hZ.alike Ar2.2.1) Ar2.2.2 in2 hat2 (g := (mkF m 56 #[vi px, vr oa, vi fr, vi sh, vi (own_bk px sh), vi acc] [(.int (2 : Int32)), (.ref oa)])) rfl rfl (hb hby d34_56) t k) ?_
    refine vs T0 58 [(.int sh), (.int ta2)] (fun t k => XS.iloadN X0.here hx rfl (hb hby d34_57) rfl k) ?_
    obtain ⟨_, _, ⟨T3, L3, k3, n3⟩, -, X3, ⟨Lc3, hQ3, l3, y3, z3⟩, st3⟩ := Jvm.LawKit.callS X0 hx (y := (⟨"com/example/clew/clew/CharFilterTestedPinLaw", "bucket", "(II)I"⟩ : MethodName)) hown (mvT hZ (ww hw 205 rfl)) (mvT hZ (ww hw 206 rfl)) (mvT hZ (ww hw 203 rfl)) (mvT hZ (ww hw 207 rfl)) (by decide) (backOf (W := 0) (rm35 l Z a0 hw [] ta2 sh h0 n0 Z0) hZ (ww hw 207 rfl) (ww hw 203 rfl) (by decide) (by decide)) (g := (mkF m 58 #[vi px, vr oa, vi fr, vi sh, vi (own_bk px sh), vi acc] [(.int sh), (.int ta2)])) rfl (by rw [hml]; rfl) (argsL := [(.int ta2), (.int sh)]) (rest := []) (lenOf pd_19 rfl) rfl (by show 2 * 0 + _ ≤ _; exact Nat.le_of_eq rfl) (hb hby d34_58) (fun _ _ => ⟨rfl, e0, (by decide : 0 + 0 ≤ _), (by decide : 0 + 0 ≤ _)⟩)
    dsimp only [Pt.U, Pt.locs, Pt.cells, Pt.slots] at X3 l3 y3 z3 st3 hQ3
    subst l3 y3 z3
    obtain ⟨rfl, Nq3, eh3⟩ := hQ3
    have N3 := Fr.app N0 Nq3
    refine vs T3 61 [(.int (own_bk ta2 sh))] (fun t k => st3 t k) ?_
    refine vs T3 63 [(.int (own_bk px sh)), (.int (own_bk ta2 sh))] (fun t k => XS.iload X3.here hx rfl (hb hby d34_61) rfl k) ?_
    by_cases hc4_63 : (own_bk ta2 sh) = (own_bk px sh)
    · refine vs T3 66 [] (fun t k => XS.icmpNo X3.here hx rfl (hb hby d34_63) rfl (XT.ii_ne_f hc4_63) k) ?_
      refine vv T3 m 69 #[vi px, vr oa, vi fr, vi sh, vi (own_bk px sh), vi (acc + (1 : Int32))] [] (fun t k => XS.iinc X3.here hx rfl (hb hby d34_66) rfl (l' := #[vi px, vr oa, vi fr, vi sh, vi (own_bk px sh), vi (acc + (1 : Int32))]) rfl k) ?_
      have ec : own_cs 2 fr sh (own_bk px sh) ta2 acc = (acc + (1 : Int32)) := by unfold own_cs; rw [if_neg hc1_51, if_pos hc4_63]
      rw [ec]
      exact b34_69 px oa ka ta0 ta1 ta2 ta3 fr sh (acc + (1 : Int32)) ⟨hx, hZ, hw, hby, hml, hown, hret, hlk, hnm⟩ X3 eh3 Z0 N3 VA
    · refine vs T3 69 [] (fun t k => XS.icmpYes X3.here hx rfl (pc0 := 63) (pc' := 69) rfl (hb hby d34_63) rfl (XT.ii_ne_t hc4_63) (by decide) (by decide) k) ?_
      have ec : own_cs 2 fr sh (own_bk px sh) ta2 acc = acc := by unfold own_cs; rw [if_neg hc1_51, if_neg hc4_63]
      rw [ec]
      exact b34_69 px oa ka ta0 ta1 ta2 ta3 fr sh acc ⟨hx, hZ, hw, hby, hml, hown, hret, hlk, hnm⟩ X3 eh3 Z0 N3 VA
theorem d34_29 : dq cb42 29 (.iload_n 2) 1 := by decide +kernel
theorem d34_30 : dq cb42 30 (.iconst 1) 1 := by decide +kernel
theorem d34_31 : dq cb42 31 (.if_icmp .gt 18) 3 := by decide +kernel
theorem d34_34 : dq cb42 34 (.aload_n 1) 1 := by decide +kernel
theorem d34_35 : dq cb42 35 (.iconst 1) 1 := by decide +kernel
theorem d34_36 : dq cb42 36 .caload 1 := by decide +kernel
theorem d34_37 : dq cb42 37 (.iload_n 3) 1 := by decide +kernel
theorem d34_38 : dq cb42 38 (.invokestatic 43) 3 := by decide +kernel
theorem d34_41 : dq cb42 41 (.iload 4) 2 := by decide +kernel
theorem d34_43 : dq cb42 43 (.if_icmp .ne 6) 3 := by decide +kernel
theorem d34_46 : dq cb42 46 (.iinc 5 1) 3 := by decide +kernel
theorem b34_29  (px : Int32) (oa : Addr) (ka : ClassId) (ta0 : Int32) (ta1 : Int32) (ta2 : Int32) (ta3 : Int32) (fr : Int32) (sh : Int32) (acc : Int32)
    (C : own_C p s m meth c Z a0 method_4_code 6 "com/example/clew/clew/CharFilterTestedPinLaw" (some .int) "count") (X0 : Stand p l e ({ frames := 1, cells := 0, slots := 0, locals := 15 } : Room) s m args below meth c T0 locs 0 0) (e0 : T0.heap = h0) (Z0 : n0 ≤ h0.size) (N0 : Fr n0 locs) (VA : Arv Z h0 oa ka .char (4 : Int32) [(.int ta0), (.int ta1), (.int ta2), (.int ta3)] (.int (0 : Int32))) :
    own_Go p.tables e below (T0.setTop (mkF m 29 #[vi px, vr oa, vi fr, vi sh, vi (own_bk px sh), vi acc] [])) (own_K s (fun (v : Option Value) (h : Heap) (L : List Loc) => v = some (.int (own_cs 3 fr sh (own_bk px sh) ta3 (own_cs 2 fr sh (own_bk px sh) ta2 (own_cs 1 fr sh (own_bk px sh) ta1 acc)))) ∧ Fr n0 L ∧ h = h0) ({ frames := 1, cells := 0, slots := 0, locals := 15 } : Room).cells ({ frames := 1, cells := 0, slots := 0, locals := 15 } : Room).slots) := by
  obtain ⟨hx, hZ, hw, hby, hml, hown, hret, hlk, hnm⟩ := C
  refine vs T0 30 [(.int fr)] (fun t k => XS.iloadN X0.here hx rfl (hb hby d34_29) rfl k) ?_
  refine vs T0 31 [(.int (1 : Int32)), (.int fr)] (fun t k => XS.iconst X0.here hx rfl (hb hby d34_30) k) ?_
  by_cases hc1_31 : (1 : Int32) < fr
  · refine vs T0 49 [] (fun t k => XS.icmpYes X0.here hx rfl (pc0 := 31) (pc' := 49) rfl (hb hby d34_31) rfl (XT.ii_gt_t hc1_31) (by decide) (by decide) k) ?_
    have ec : own_cs 1 fr sh (own_bk px sh) ta1 acc = acc := by unfold own_cs; rw [if_pos hc1_31]
    rw [ec]
    exact b34_49 px oa ka ta0 ta1 ta2 ta3 fr sh acc ⟨hx, hZ, hw, hby, hml, hown, hret, hlk, hnm⟩ X0 e0 Z0 N0 VA
  · refine vs T0 34 [] (fun t k => XS.icmpNo X0.here hx rfl (hb hby d34_31) rfl (XT.ii_gt_f hc1_31) k) ?_
    refine vs T0 35 [(.ref oa)] (fun t k => XS.aloadN X0.here hx rfl (hb hby d34_34) rfl rfl k) ?_
    refine vs T0 36 [(.int (1 : Int32)), (.ref oa)] (fun t k => XS.iconst X0.here hx rfl (hb hby d34_35) k) ?_
    obtain ⟨cl2, Ar2, qc2, S2, NN2, H2, G2⟩ := id VA
    have in2 := inb_of (j := (1 : Int32)) S2 ⟨by decide, by decide⟩
    have hat2 : cl2.slots[((1 : Int32)).toNatClampNeg]? = some (.int ta1) := H2.at in2 rfl
    refine vs T0 37 [(.int ta1)] (fun t k => X0.caload hx (j := (1 : Int32)) (v := (.int ta1)) (own_eqh e0 Ar2.1) (State.isArrayOf_alike hZ.alike Ar2.2.1) Ar2.2.2 in2 hat2 (g := (mkF m 36 #[vi px, vr oa, vi fr, vi sh, vi (own_bk px sh), vi acc] [(.int (1 : Int32)), (.ref oa)])) rfl rfl (hb hby d34_36) t k) ?_
    refine vs T0 38 [(.int sh), (.int ta1)] (fun t k => XS.iloadN X0.here hx rfl (hb hby d34_37) rfl k) ?_
    obtain ⟨_, _, ⟨T3, L3, k3, n3⟩, -, X3, ⟨Lc3, hQ3, l3, y3, z3⟩, st3⟩ := Jvm.LawKit.callS X0 hx (y := (⟨"com/example/clew/clew/CharFilterTestedPinLaw", "bucket", "(II)I"⟩ : MethodName)) hown (mvT hZ (ww hw 205 rfl)) (mvT hZ (ww hw 206 rfl)) (mvT hZ (ww hw 203 rfl)) (mvT hZ (ww hw 207 rfl)) (by decide) (backOf (W := 0) (rm35 l Z a0 hw [] ta1 sh h0 n0 Z0) hZ (ww hw 207 rfl) (ww hw 203 rfl) (by decide) (by decide)) (g := (mkF m 38 #[vi px, vr oa, vi fr, vi sh, vi (own_bk px sh), vi acc] [(.int sh), (.int ta1)])) rfl (by rw [hml]; rfl) (argsL := [(.int ta1), (.int sh)]) (rest := []) (lenOf pd_19 rfl) rfl (by show 2 * 0 + _ ≤ _; exact Nat.le_of_eq rfl) (hb hby d34_38) (fun _ _ => ⟨rfl, e0, (by decide : 0 + 0 ≤ _), (by decide : 0 + 0 ≤ _)⟩)
    dsimp only [Pt.U, Pt.locs, Pt.cells, Pt.slots] at X3 l3 y3 z3 st3 hQ3
    subst l3 y3 z3
    obtain ⟨rfl, Nq3, eh3⟩ := hQ3
    have N3 := Fr.app N0 Nq3
    refine vs T3 41 [(.int (own_bk ta1 sh))] (fun t k => st3 t k) ?_
    refine vs T3 43 [(.int (own_bk px sh)), (.int (own_bk ta1 sh))] (fun t k => XS.iload X3.here hx rfl (hb hby d34_41) rfl k) ?_
    by_cases hc4_43 : (own_bk ta1 sh) = (own_bk px sh)
    · refine vs T3 46 [] (fun t k => XS.icmpNo X3.here hx rfl (hb hby d34_43) rfl (XT.ii_ne_f hc4_43) k) ?_
      refine vv T3 m 49 #[vi px, vr oa, vi fr, vi sh, vi (own_bk px sh), vi (acc + (1 : Int32))] [] (fun t k => XS.iinc X3.here hx rfl (hb hby d34_46) rfl (l' := #[vi px, vr oa, vi fr, vi sh, vi (own_bk px sh), vi (acc + (1 : Int32))]) rfl k) ?_
      have ec : own_cs 1 fr sh (own_bk px sh) ta1 acc = (acc + (1 : Int32)) := by unfold own_cs; rw [if_neg hc1_31, if_pos hc4_43]
      rw [ec]
      exact b34_49 px oa ka ta0 ta1 ta2 ta3 fr sh (acc + (1 : Int32)) ⟨hx, hZ, hw, hby, hml, hown, hret, hlk, hnm⟩ X3 eh3 Z0 N3 VA
    · refine vs T3 49 [] (fun t k => XS.icmpYes X3.here hx rfl (pc0 := 43) (pc' := 49) rfl (hb hby d34_43) rfl (XT.ii_ne_t hc4_43) (by decide) (by decide) k) ?_
      have ec : own_cs 1 fr sh (own_bk px sh) ta1 acc = acc := by unfold own_cs; rw [if_neg hc1_31, if_neg hc4_43]
      rw [ec]
      exact b34_49 px oa ka ta0 ta1 ta2 ta3 fr sh acc ⟨hx, hZ, hw, hby, hml, hown, hret, hlk, hnm⟩ X3 eh3 Z0 N3 VA
theorem d34_10 : dq cb42 10 (.iload_n 2) 1 := by decide +kernel
theorem d34_11 : dq cb42 11 (.ifCond .gt 18) 3 := by decide +kernel
theorem d34_14 : dq cb42 14 (.aload_n 1) 1 := by decide +kernel
theorem d34_15 : dq cb42 15 (.iconst 0) 1 := by decide +kernel
theorem d34_16 : dq cb42 16 .caload 1 := by decide +kernel
theorem d34_17 : dq cb42 17 (.iload_n 3) 1 := by decide +kernel
theorem d34_18 : dq cb42 18 (.invokestatic 43) 3 := by decide +kernel
theorem d34_21 : dq cb42 21 (.iload 4) 2 := by decide +kernel
theorem d34_23 : dq cb42 23 (.if_icmp .ne 6) 3 := by decide +kernel
theorem d34_26 : dq cb42 26 (.iinc 5 1) 3 := by decide +kernel
theorem b34_10  (px : Int32) (oa : Addr) (ka : ClassId) (ta0 : Int32) (ta1 : Int32) (ta2 : Int32) (ta3 : Int32) (fr : Int32) (sh : Int32) (acc : Int32)
    (C : own_C p s m meth c Z a0 method_4_code 6 "com/example/clew/clew/CharFilterTestedPinLaw" (some .int) "count") (X0 : Stand p l e ({ frames := 1, cells := 0, slots := 0, locals := 15 } : Room) s m args below meth c T0 locs 0 0) (e0 : T0.heap = h0) (Z0 : n0 ≤ h0.size) (N0 : Fr n0 locs) (VA : Arv Z h0 oa ka .char (4 : Int32) [(.int ta0), (.int ta1), (.int ta2), (.int ta3)] (.int (0 : Int32))) :
    own_Go p.tables e below (T0.setTop (mkF m 10 #[vi px, vr oa, vi fr, vi sh, vi (own_bk px sh), vi acc] [])) (own_K s (fun (v : Option Value) (h : Heap) (L : List Loc) => v = some (.int (own_cs 3 fr sh (own_bk px sh) ta3 (own_cs 2 fr sh (own_bk px sh) ta2 (own_cs 1 fr sh (own_bk px sh) ta1 (own_cs 0 fr sh (own_bk px sh) ta0 acc))))) ∧ Fr n0 L ∧ h = h0) ({ frames := 1, cells := 0, slots := 0, locals := 15 } : Room).cells ({ frames := 1, cells := 0, slots := 0, locals := 15 } : Room).slots) := by
  obtain ⟨hx, hZ, hw, hby, hml, hown, hret, hlk, hnm⟩ := C
  refine vs T0 11 [(.int fr)] (fun t k => XS.iloadN X0.here hx rfl (hb hby d34_10) rfl k) ?_
  by_cases hc1_11 : (0 : Int32) < fr
  · refine vs T0 29 [] (fun t k => XS.ifYes X0.here hx rfl (pc0 := 11) (pc' := 29) rfl (hb hby d34_11) rfl (XT.i0_gt_t hc1_11) (by decide) (by decide) k) ?_
    have ec : own_cs 0 fr sh (own_bk px sh) ta0 acc = acc := by unfold own_cs; rw [if_pos hc1_11]
    rw [ec]
    exact b34_29 px oa ka ta0 ta1 ta2 ta3 fr sh acc ⟨hx, hZ, hw, hby, hml, hown, hret, hlk, hnm⟩ X0 e0 Z0 N0 VA
  · refine vs T0 14 [] (fun t k => XS.ifNo X0.here hx rfl (hb hby d34_11) rfl (XT.i0_gt_f hc1_11) k) ?_
    refine vs T0 15 [(.ref oa)] (fun t k => XS.aloadN X0.here hx rfl (hb hby d34_14) rfl rfl k) ?_
    refine vs T0 16 [(.int (0 : Int32)), (.ref oa)] (fun t k => XS.iconst X0.here hx rfl (hb hby d34_15) k) ?_
    obtain ⟨cl2, Ar2, qc2, S2, NN2, H2, G2⟩ := id VA
    have in2 := inb_of (j := (0 : Int32)) S2 ⟨by decide, by decide⟩
    have hat2 : cl2.slots[((0 : Int32)).toNatClampNeg]? = some (.int ta0) := H2.at in2 rfl
    refine vs T0 17 [(.int ta0)] (fun t k => X0.caload hx (j := (0 : Int32)) (v := (.int ta0)) (own_eqh e0 Ar2.1) (State.isArrayOf_alike hZ.alike Ar2.2.1) Ar2.2.2 in2 hat2 (g := (mkF m 16 #[vi px, vr oa, vi fr, vi sh, vi (own_bk px sh), vi acc] [(.int (0 : Int32)), (.ref oa)])) rfl rfl (hb hby d34_16) t k) ?_
    refine vs T0 18 [(.int sh), (.int ta0)] (fun t k => XS.iloadN X0.here hx rfl (hb hby d34_17) rfl k) ?_
    obtain ⟨_, _, ⟨T3, L3, k3, n3⟩, -, X3, ⟨Lc3, hQ3, l3, y3, z3⟩, st3⟩ := Jvm.LawKit.callS X0 hx (y := (⟨"com/example/clew/clew/CharFilterTestedPinLaw", "bucket", "(II)I"⟩ : MethodName)) hown (mvT hZ (ww hw 205 rfl)) (mvT hZ (ww hw 206 rfl)) (mvT hZ (ww hw 203 rfl)) (mvT hZ (ww hw 207 rfl)) (by decide) (backOf (W := 0) (rm35 l Z a0 hw [] ta0 sh h0 n0 Z0) hZ (ww hw 207 rfl) (ww hw 203 rfl) (by decide) (by decide)) (g := (mkF m 18 #[vi px, vr oa, vi fr, vi sh, vi (own_bk px sh), vi acc] [(.int sh), (.int ta0)])) rfl (by rw [hml]; rfl) (argsL := [(.int ta0), (.int sh)]) (rest := []) (lenOf pd_19 rfl) rfl (by show 2 * 0 + _ ≤ _; exact Nat.le_of_eq rfl) (hb hby d34_18) (fun _ _ => ⟨rfl, e0, (by decide : 0 + 0 ≤ _), (by decide : 0 + 0 ≤ _)⟩)
    dsimp only [Pt.U, Pt.locs, Pt.cells, Pt.slots] at X3 l3 y3 z3 st3 hQ3
    subst l3 y3 z3
    obtain ⟨rfl, Nq3, eh3⟩ := hQ3
    have N3 := Fr.app N0 Nq3
    refine vs T3 21 [(.int (own_bk ta0 sh))] (fun t k => st3 t k) ?_
    refine vs T3 23 [(.int (own_bk px sh)), (.int (own_bk ta0 sh))] (fun t k => XS.iload X3.here hx rfl (hb hby d34_21) rfl k) ?_
    by_cases hc4_23 : (own_bk ta0 sh) = (own_bk px sh)
    · refine vs T3 26 [] (fun t k => XS.icmpNo X3.here hx rfl (hb hby d34_23) rfl (XT.ii_ne_f hc4_23) k) ?_
      refine vv T3 m 29 #[vi px, vr oa, vi fr, vi sh, vi (own_bk px sh), vi (acc + (1 : Int32))] [] (fun t k => XS.iinc X3.here hx rfl (hb hby d34_26) rfl (l' := #[vi px, vr oa, vi fr, vi sh, vi (own_bk px sh), vi (acc + (1 : Int32))]) rfl k) ?_
      have ec : own_cs 0 fr sh (own_bk px sh) ta0 acc = (acc + (1 : Int32)) := by unfold own_cs; rw [if_neg hc1_11, if_pos hc4_23]
      rw [ec]
      exact b34_29 px oa ka ta0 ta1 ta2 ta3 fr sh (acc + (1 : Int32)) ⟨hx, hZ, hw, hby, hml, hown, hret, hlk, hnm⟩ X3 eh3 Z0 N3 VA
    · refine vs T3 29 [] (fun t k => XS.icmpYes X3.here hx rfl (pc0 := 23) (pc' := 29) rfl (hb hby d34_23) rfl (XT.ii_ne_t hc4_23) (by decide) (by decide) k) ?_
      have ec : own_cs 0 fr sh (own_bk px sh) ta0 acc = acc := by unfold own_cs; rw [if_neg hc1_11, if_neg hc4_23]
      rw [ec]
      exact b34_29 px oa ka ta0 ta1 ta2 ta3 fr sh acc ⟨hx, hZ, hw, hby, hml, hown, hret, hlk, hnm⟩ X3 eh3 Z0 N3 VA
theorem d34_0 : dq cb42 0 (.iload_n 0) 1 := by decide +kernel
theorem d34_1 : dq cb42 1 (.iload_n 3) 1 := by decide +kernel
theorem d34_2 : dq cb42 2 (.invokestatic 43) 3 := by decide +kernel
theorem d34_5 : dq cb42 5 (.istore 4) 2 := by decide +kernel
theorem d34_7 : dq cb42 7 (.iconst 0) 1 := by decide +kernel
theorem d34_8 : dq cb42 8 (.istore 5) 2 := by decide +kernel
theorem b34_0  (px : Int32) (oa : Addr) (ka : ClassId) (ta0 : Int32) (ta1 : Int32) (ta2 : Int32) (ta3 : Int32) (fr : Int32) (sh : Int32)
    (C : own_C p s m meth c Z a0 method_4_code 6 "com/example/clew/clew/CharFilterTestedPinLaw" (some .int) "count") (X0 : Stand p l e ({ frames := 1, cells := 0, slots := 0, locals := 15 } : Room) s m args below meth c T0 locs 0 0) (e0 : T0.heap = h0) (Z0 : n0 ≤ h0.size) (N0 : Fr n0 locs) (VA : Arv Z h0 oa ka .char (4 : Int32) [(.int ta0), (.int ta1), (.int ta2), (.int ta3)] (.int (0 : Int32))) :
    own_Go p.tables e below (T0.setTop (mkF m 0 #[vi px, vr oa, vi fr, vi sh, .unset, .unset] [])) (own_K s (fun (v : Option Value) (h : Heap) (L : List Loc) => v = some (.int (own_cu px ta0 ta1 ta2 ta3 fr sh)) ∧ Fr n0 L ∧ h = h0) ({ frames := 1, cells := 0, slots := 0, locals := 15 } : Room).cells ({ frames := 1, cells := 0, slots := 0, locals := 15 } : Room).slots) := by
  obtain ⟨hx, hZ, hw, hby, hml, hown, hret, hlk, hnm⟩ := C
  refine vs T0 1 [(.int px)] (fun t k => XS.iloadN X0.here hx rfl (hb hby d34_0) rfl k) ?_
  refine vs T0 2 [(.int sh), (.int px)] (fun t k => XS.iloadN X0.here hx rfl (hb hby d34_1) rfl k) ?_
  obtain ⟨_, _, ⟨T1, L1, k1, n1⟩, -, X1, ⟨Lc1, hQ1, l1, y1, z1⟩, st1⟩ := Jvm.LawKit.callS X0 hx (y := (⟨"com/example/clew/clew/CharFilterTestedPinLaw", "bucket", "(II)I"⟩ : MethodName)) hown (mvT hZ (ww hw 205 rfl)) (mvT hZ (ww hw 206 rfl)) (mvT hZ (ww hw 203 rfl)) (mvT hZ (ww hw 207 rfl)) (by decide) (backOf (W := 0) (rm35 l Z a0 hw [] px sh h0 n0 Z0) hZ (ww hw 207 rfl) (ww hw 203 rfl) (by decide) (by decide)) (g := (mkF m 2 #[vi px, vr oa, vi fr, vi sh, .unset, .unset] [(.int sh), (.int px)])) rfl (by rw [hml]; rfl) (argsL := [(.int px), (.int sh)]) (rest := []) (lenOf pd_19 rfl) rfl (by show 2 * 0 + _ ≤ _; exact Nat.le_of_eq rfl) (hb hby d34_2) (fun _ _ => ⟨rfl, e0, (by decide : 0 + 0 ≤ _), (by decide : 0 + 0 ≤ _)⟩)
  dsimp only [Pt.U, Pt.locs, Pt.cells, Pt.slots] at X1 l1 y1 z1 st1 hQ1
  subst l1 y1 z1
  obtain ⟨rfl, Nq1, eh1⟩ := hQ1
  have N1 := Fr.app N0 Nq1
  refine vs T1 5 [(.int (own_bk px sh))] (fun t k => st1 t k) ?_
  refine vv T1 m 7 #[vi px, vr oa, vi fr, vi sh, vi (own_bk px sh), .unset] [] (fun t k => XS.istore X1.here hx rfl (hb hby d34_5) rfl (l' := #[vi px, vr oa, vi fr, vi sh, vi (own_bk px sh), .unset]) rfl k) ?_
  refine vs T1 8 [(.int (0 : Int32))] (fun t k => XS.iconst X1.here hx rfl (hb hby d34_7) k) ?_
  refine vv T1 m 10 #[vi px, vr oa, vi fr, vi sh, vi (own_bk px sh), vi (0 : Int32)] [] (fun t k => XS.istore X1.here hx rfl (hb hby d34_8) rfl (l' := #[vi px, vr oa, vi fr, vi sh, vi (own_bk px sh), vi (0 : Int32)]) rfl k) ?_
  exact b34_10 px oa ka ta0 ta1 ta2 ta3 fr sh 0 ⟨hx, hZ, hw, hby, hml, hown, hret, hlk, hnm⟩ X1 eh1 Z0 N1 VA
def Q34 (Z : State) (px : Int32) (oa : Addr) (ka : ClassId) (ta0 : Int32) (ta1 : Int32) (ta2 : Int32) (ta3 : Int32) (fr : Int32) (sh : Int32) (h0 : Heap) (n0 : Nat) (v : Option Value) (h : Heap) (L : List Loc) : Prop := v = some (.int (own_cu px ta0 ta1 ta2 ta3 fr sh)) ∧ Fr n0 L ∧ h = h0
theorem ef_34 (m : MethodId) (px : Int32) (oa : Addr) (fr : Int32) (sh : Int32) : entryFrame m #[(.int px), (.ref oa), (.int fr), (.int sh)] 6 = mkF m 0 #[vi px, vr oa, vi fr, vi sh, .unset, .unset] [] := by first | (simp [entryFrame, mkF, argsToLocals, Value.category, maxLocals]; done) | rfl
theorem rm34 (l : Launch) (Z : State) (a0 : Array Value) (hw : ∀ d ∈ tables_1, d.before a0 Z = true) (ws : List Jvm.Cond) (px : Int32) (oa : Addr) (ka : ClassId) (ta0 : Int32) (ta1 : Int32) (ta2 : Int32) (ta3 : Int32) (fr : Int32) (sh : Int32) (h0 : Heap) (n0 : Nat) (Z0 : n0 ≤ h0.size) (VA : Arv Z h0 oa ka .char (4 : Int32) [(.int ta0), (.int ta1), (.int ta2), (.int ta3)] (.int (0 : Int32))) :
    MetFree l (⟨"com/example/clew/clew/CharFilterTestedPinLaw", "count", "(I[CII)I"⟩ : MethodName) (head1 (Jvm.Cond.code (⟨"com/example/clew/clew/CharFilterTestedPinLaw", "count", "(I[CII)I"⟩ : MethodName) method_4_code 6 (some .int) :: ws) ({ frames := 1, cells := 0, slots := 0, locals := 15 } : Room)) (fun a U => a = #[(.int px), (.ref oa), (.int fr), (.int sh)] ∧ Z.Warmed39 U.vm ∧ U.heap = h0) (fun _ _ _ _ _ => True) (fun _ U o U' => ∃ v L, o = .returned v ∧ Q34 Z px oa ka ta0 ta1 ta2 ta3 fr sh h0 n0 v U'.heap L ∧ FrameEnd U o U' L ({ frames := 1, cells := 0, slots := 0, locals := 15 } : Room).cells ({ frames := 1, cells := 0, slots := 0, locals := 15 } : Room).slots) := by
  refine MetFree.of_bodySF (plainFor_of_name pn_8) hisR ?_
  intro p e s m args below meth c s₁ Bd hml0 hP hK
  obtain ⟨rfl, hZ, hh⟩ := hP
  have e0 : s₁.heap = h0 := by rw [← hh, Bd.state]; rfl
  rw [ef_34 m px oa fr sh]
  exact b34_0 px oa ka ta0 ta1 ta2 ta3 fr sh ⟨Bd.exec, hZ, hw, Bd.bytes, hml0, findClass_of_methodNamed Bd.named, Bd.returns, Bd.notSynchronized, (name_of_methodNamed Bd.named Bd.method).1⟩ (Stand.of_body Bd) e0 Z0 (Fr.nil n0) VA
def own_fa (c4 : List Int32) (mm : Nat) (fx : Nat) (kx : Nat) : Int32 := (if (Int32.ofNat kx) < (Int32.ofNat mm) then (if (Int32.ofNat kx) < (Int32.ofNat fx) then (if (c4.getD fx 0) < (c4.getD kx 0) then (1 : Int32) else (0 : Int32)) else (if (c4.getD kx 0) < (c4.getD fx 0) then (0 : Int32) else (1 : Int32))) else (1 : Int32))
def Q37 (Z : State) (oc : Addr) (kc : ClassId) (c4 : List Int32) (mm : Nat) (fx : Nat) (kx : Nat) (h0 : Heap) (n0 : Nat) (v : Option Value) (h : Heap) (L : List Loc) : Prop := v = some (.int (own_fa c4 mm fx kx)) ∧ Fr n0 L ∧ h = h0
theorem d37_0 : dq cb43 0 (.iload_n 3) 1 := by decide +kernel
theorem d37_1 : dq cb43 1 (.iload_n 1) 1 := by decide +kernel
theorem d37_2 : dq cb43 2 (.if_icmp .lt 5) 3 := by decide +kernel
theorem d37_7 : dq cb43 7 (.iload_n 3) 1 := by decide +kernel
theorem d37_8 : dq cb43 8 (.iload_n 2) 1 := by decide +kernel
theorem d37_9 : dq cb43 9 (.if_icmp .ge 18) 3 := by decide +kernel
theorem d37_12 : dq cb43 12 (.aload_n 0) 1 := by decide +kernel
theorem d37_13 : dq cb43 13 (.iload_n 3) 1 := by decide +kernel
theorem d37_14 : dq cb43 14 .iaload 1 := by decide +kernel
theorem d37_15 : dq cb43 15 (.aload_n 0) 1 := by decide +kernel
theorem d37_16 : dq cb43 16 (.iload_n 2) 1 := by decide +kernel
theorem d37_17 : dq cb43 17 .iaload 1 := by decide +kernel
theorem d37_18 : dq cb43 18 (.if_icmp .le 7) 3 := by decide +kernel
theorem d37_21 : dq cb43 21 (.iconst 1) 1 := by decide +kernel
theorem d37_22 : dq cb43 22 (.goto 4) 3 := by decide +kernel
theorem d37_26 : dq cb43 26 .ireturn 1 := by decide +kernel
theorem d37_25 : dq cb43 25 (.iconst 0) 1 := by decide +kernel
theorem d37_27 : dq cb43 27 (.aload_n 0) 1 := by decide +kernel
theorem d37_28 : dq cb43 28 (.iload_n 3) 1 := by decide +kernel
theorem d37_29 : dq cb43 29 .iaload 1 := by decide +kernel
theorem d37_30 : dq cb43 30 (.aload_n 0) 1 := by decide +kernel
theorem d37_31 : dq cb43 31 (.iload_n 2) 1 := by decide +kernel
theorem d37_32 : dq cb43 32 .iaload 1 := by decide +kernel
theorem d37_33 : dq cb43 33 (.if_icmp .lt 7) 3 := by decide +kernel
theorem d37_40 : dq cb43 40 (.iconst 0) 1 := by decide +kernel
theorem d37_41 : dq cb43 41 .ireturn 1 := by decide +kernel
theorem d37_36 : dq cb43 36 (.iconst 1) 1 := by decide +kernel
theorem d37_37 : dq cb43 37 (.goto 4) 3 := by decide +kernel
theorem d37_5 : dq cb43 5 (.iconst 1) 1 := by decide +kernel
theorem d37_6 : dq cb43 6 .ireturn 1 := by decide +kernel
theorem b37  (oc : Addr) (kc : ClassId) (c4 : List Int32) (mm : Nat) (fx : Nat) (kx : Nat)
    (C : own_C p s m meth c Z a0 method_5_code 4 "com/example/clew/clew/CharFilterTestedPinLaw" (some .boolean) "isFirstAt") (X0 : Stand p l e ({ frames := 0, cells := 0, slots := 0, locals := 0 } : Room) s m args below meth c T0 locs 0 0) (e0 : T0.heap = h0) (Z0 : n0 ≤ h0.size) (N0 : Fr n0 locs) (VC : Arv Z h0 oc kc .int (Int32.ofNat 4) (own_iv c4) (.int (0 : Int32))) (hfx : fx < 4) (hkx : kx < 4) :
    own_Go p.tables e below (T0.setTop (mkF m 0 #[vr oc, vi (Int32.ofNat mm), vi (Int32.ofNat fx), vi (Int32.ofNat kx)] [])) (own_K s (fun (v : Option Value) (h : Heap) (L : List Loc) => Q37 Z oc kc c4 mm fx kx h0 n0 v h L) ({ frames := 0, cells := 0, slots := 0, locals := 0 } : Room).cells ({ frames := 0, cells := 0, slots := 0, locals := 0 } : Room).slots) := by
  obtain ⟨hx, hZ, hw, hby, hml, hown, hret, hlk, hnm⟩ := C
  refine vs T0 1 [(.int (Int32.ofNat kx))] (fun t k => XS.iloadN X0.here hx rfl (hb hby d37_0) rfl k) ?_
  refine vs T0 2 [(.int (Int32.ofNat mm)), (.int (Int32.ofNat kx))] (fun t k => XS.iloadN X0.here hx rfl (hb hby d37_1) rfl k) ?_
  by_cases hc1_2 : (Int32.ofNat kx) < (Int32.ofNat mm)
  · refine vs T0 7 [] (fun t k => XS.icmpYes X0.here hx rfl (pc0 := 2) (pc' := 7) rfl (hb hby d37_2) rfl (XT.ii_lt_t hc1_2) (by decide) (by decide) k) ?_
    refine vs T0 8 [(.int (Int32.ofNat kx))] (fun t k => XS.iloadN X0.here hx rfl (hb hby d37_7) rfl k) ?_
    refine vs T0 9 [(.int (Int32.ofNat fx)), (.int (Int32.ofNat kx))] (fun t k => XS.iloadN X0.here hx rfl (hb hby d37_8) rfl k) ?_
    by_cases hc2_9 : (Int32.ofNat kx) < (Int32.ofNat fx)
    · refine vs T0 12 [] (fun t k => XS.icmpNo X0.here hx rfl (hb hby d37_9) rfl (XT.ii_ge_f hc2_9) k) ?_
      refine vs T0 13 [(.ref oc)] (fun t k => XS.aloadN X0.here hx rfl (hb hby d37_12) rfl rfl k) ?_
      refine vs T0 14 [(.int (Int32.ofNat kx)), (.ref oc)] (fun t k => XS.iloadN X0.here hx rfl (hb hby d37_13) rfl k) ?_
      obtain ⟨cl3, Ar3, qc3, S3, NN3, H3, G3⟩ := id VC
      have in3 := inb_of (j := (Int32.ofNat kx)) S3 (own_inb (i := kx) (by omega) (by omega))
      have hat3 : cl3.slots[((Int32.ofNat kx)).toNatClampNeg]? = some (.int (c4.getD kx 0)) := H3.at in3 (own_ivget c4 (i := kx) (by omega))
      refine vs T0 15 [(.int (c4.getD kx 0))] (fun t k => X0.iaload hx (j := (Int32.ofNat kx)) (v := (.int (c4.getD kx 0))) (own_eqh e0 Ar3.1) (State.isArrayOf_alike hZ.alike Ar3.2.1) Ar3.2.2 in3 hat3 (g := (mkF m 14 #[vr oc, vi (Int32.ofNat mm), vi (Int32.ofNat fx), vi (Int32.ofNat kx)] [(.int (Int32.ofNat kx)), (.ref oc)])) rfl rfl (hb hby d37_14) t k) ?_
      refine vs T0 16 [(.ref oc), (.int (c4.getD kx 0))] (fun t k => XS.aloadN X0.here hx rfl (hb hby d37_15) rfl rfl k) ?_
      refine vs T0 17 [(.int (Int32.ofNat fx)), (.ref oc), (.int (c4.getD kx 0))] (fun t k => XS.iloadN X0.here hx rfl (hb hby d37_16) rfl k) ?_
      obtain ⟨cl4, Ar4, qc4, S4, NN4, H4, G4⟩ := id VC
      have in4 := inb_of (j := (Int32.ofNat fx)) S4 (own_inb (i := fx) (by omega) (by omega))
      have hat4 : cl4.slots[((Int32.ofNat fx)).toNatClampNeg]? = some (.int (c4.getD fx 0)) := H4.at in4 (own_ivget c4 (i := fx) (by omega))
      refine vs T0 18 [(.int (c4.getD fx 0)), (.int (c4.getD kx 0))] (fun t k => X0.iaload hx (j := (Int32.ofNat fx)) (v := (.int (c4.getD fx 0))) (own_eqh e0 Ar4.1) (State.isArrayOf_alike hZ.alike Ar4.2.1) Ar4.2.2 in4 hat4 (g := (mkF m 17 #[vr oc, vi (Int32.ofNat mm), vi (Int32.ofNat fx), vi (Int32.ofNat kx)] [(.int (Int32.ofNat fx)), (.ref oc), (.int (c4.getD kx 0))])) rfl rfl (hb hby d37_17) t k) ?_
      by_cases hc5_18 : (c4.getD fx 0) < (c4.getD kx 0)
      · refine vs T0 21 [] (fun t k => XS.icmpNo X0.here hx rfl (hb hby d37_18) rfl (XT.ii_le_f hc5_18) k) ?_
        refine vs T0 22 [(.int (1 : Int32))] (fun t k => XS.iconst X0.here hx rfl (hb hby d37_21) k) ?_
        refine vs T0 26 [(.int (1 : Int32))] (fun t k => XS.goto X0.here hx rfl (pc0 := 22) (pc' := 26) rfl (hb hby d37_22) (by decide) (by decide) k) ?_
        exact own_fin X0 e0 (v := some (.int (1 : Int32))) (fun h => by rw [hret] at h; cases h) hlk (fun fs hr => retN X0 hx (t := .boolean) hret (by simp) (hb hby d37_26) hr) (show ((fun (v : Option Value) (h : Heap) (L : List Loc) => Q37 Z oc kc c4 mm fx kx h0 n0 v h L)) (some (.int (1 : Int32))) h0 _ from ⟨(by unfold own_fa; rw [if_pos hc1_2, if_pos hc2_9, if_pos hc5_18]), N0, rfl⟩) (by decide) (by decide)
      · refine vs T0 25 [] (fun t k => XS.icmpYes X0.here hx rfl (pc0 := 18) (pc' := 25) rfl (hb hby d37_18) rfl (XT.ii_le_t hc5_18) (by decide) (by decide) k) ?_
        refine vs T0 26 [(.int (0 : Int32))] (fun t k => XS.iconst X0.here hx rfl (hb hby d37_25) k) ?_
        exact own_fin X0 e0 (v := some (.int (0 : Int32))) (fun h => by rw [hret] at h; cases h) hlk (fun fs hr => retN X0 hx (t := .boolean) hret (by simp) (hb hby d37_26) hr) (show ((fun (v : Option Value) (h : Heap) (L : List Loc) => Q37 Z oc kc c4 mm fx kx h0 n0 v h L)) (some (.int (0 : Int32))) h0 _ from ⟨(by unfold own_fa; rw [if_pos hc1_2, if_pos hc2_9, if_neg hc5_18]), N0, rfl⟩) (by decide) (by decide)
    · refine vs T0 27 [] (fun t k => XS.icmpYes X0.here hx rfl (pc0 := 9) (pc' := 27) rfl (hb hby d37_9) rfl (XT.ii_ge_t hc2_9) (by decide) (by decide) k) ?_
      refine vs T0 28 [(.ref oc)] (fun t k => XS.aloadN X0.here hx rfl (hb hby d37_27) rfl rfl k) ?_
      refine vs T0 29 [(.int (Int32.ofNat kx)), (.ref oc)] (fun t k => XS.iloadN X0.here hx rfl (hb hby d37_28) rfl k) ?_
      obtain ⟨cl6, Ar6, qc6, S6, NN6, H6, G6⟩ := id VC
      have in6 := inb_of (j := (Int32.ofNat kx)) S6 (own_inb (i := kx) (by omega) (by omega))
      have hat6 : cl6.slots[((Int32.ofNat kx)).toNatClampNeg]? = some (.int (c4.getD kx 0)) := H6.at in6 (own_ivget c4 (i := kx) (by omega))
      refine vs T0 30 [(.int (c4.getD kx 0))] (fun t k => X0.iaload hx (j := (Int32.ofNat kx)) (v := (.int (c4.getD kx 0))) (own_eqh e0 Ar6.1) (State.isArrayOf_alike hZ.alike Ar6.2.1) Ar6.2.2 in6 hat6 (g := (mkF m 29 #[vr oc, vi (Int32.ofNat mm), vi (Int32.ofNat fx), vi (Int32.ofNat kx)] [(.int (Int32.ofNat kx)), (.ref oc)])) rfl rfl (hb hby d37_29) t k) ?_
      refine vs T0 31 [(.ref oc), (.int (c4.getD kx 0))] (fun t k => XS.aloadN X0.here hx rfl (hb hby d37_30) rfl rfl k) ?_
      refine vs T0 32 [(.int (Int32.ofNat fx)), (.ref oc), (.int (c4.getD kx 0))] (fun t k => XS.iloadN X0.here hx rfl (hb hby d37_31) rfl k) ?_
      obtain ⟨cl7, Ar7, qc7, S7, NN7, H7, G7⟩ := id VC
      have in7 := inb_of (j := (Int32.ofNat fx)) S7 (own_inb (i := fx) (by omega) (by omega))
      have hat7 : cl7.slots[((Int32.ofNat fx)).toNatClampNeg]? = some (.int (c4.getD fx 0)) := H7.at in7 (own_ivget c4 (i := fx) (by omega))
      refine vs T0 33 [(.int (c4.getD fx 0)), (.int (c4.getD kx 0))] (fun t k => X0.iaload hx (j := (Int32.ofNat fx)) (v := (.int (c4.getD fx 0))) (own_eqh e0 Ar7.1) (State.isArrayOf_alike hZ.alike Ar7.2.1) Ar7.2.2 in7 hat7 (g := (mkF m 32 #[vr oc, vi (Int32.ofNat mm), vi (Int32.ofNat fx), vi (Int32.ofNat kx)] [(.int (Int32.ofNat fx)), (.ref oc), (.int (c4.getD kx 0))])) rfl rfl (hb hby d37_32) t k) ?_
      by_cases hc8_33 : (c4.getD kx 0) < (c4.getD fx 0)
      · refine vs T0 40 [] (fun t k => XS.icmpYes X0.here hx rfl (pc0 := 33) (pc' := 40) rfl (hb hby d37_33) rfl (XT.ii_lt_t hc8_33) (by decide) (by decide) k) ?_
        refine vs T0 41 [(.int (0 : Int32))] (fun t k => XS.iconst X0.here hx rfl (hb hby d37_40) k) ?_
        exact own_fin X0 e0 (v := some (.int (0 : Int32))) (fun h => by rw [hret] at h; cases h) hlk (fun fs hr => retN X0 hx (t := .boolean) hret (by simp) (hb hby d37_41) hr) (show ((fun (v : Option Value) (h : Heap) (L : List Loc) => Q37 Z oc kc c4 mm fx kx h0 n0 v h L)) (some (.int (0 : Int32))) h0 _ from ⟨(by unfold own_fa; rw [if_pos hc1_2, if_neg hc2_9, if_pos hc8_33]), N0, rfl⟩) (by decide) (by decide)
      · refine vs T0 36 [] (fun t k => XS.icmpNo X0.here hx rfl (hb hby d37_33) rfl (XT.ii_lt_f hc8_33) k) ?_
        refine vs T0 37 [(.int (1 : Int32))] (fun t k => XS.iconst X0.here hx rfl (hb hby d37_36) k) ?_
        refine vs T0 41 [(.int (1 : Int32))] (fun t k => XS.goto X0.here hx rfl (pc0 := 37) (pc' := 41) rfl (hb hby d37_37) (by decide) (by decide) k) ?_
        exact own_fin X0 e0 (v := some (.int (1 : Int32))) (fun h => by rw [hret] at h; cases h) hlk (fun fs hr => retN X0 hx (t := .boolean) hret (by simp) (hb hby d37_41) hr) (show ((fun (v : Option Value) (h : Heap) (L : List Loc) => Q37 Z oc kc c4 mm fx kx h0 n0 v h L)) (some (.int (1 : Int32))) h0 _ from ⟨(by unfold own_fa; rw [if_pos hc1_2, if_neg hc2_9, if_neg hc8_33]), N0, rfl⟩) (by decide) (by decide)
  · refine vs T0 5 [] (fun t k => XS.icmpNo X0.here hx rfl (hb hby d37_2) rfl (XT.ii_lt_f hc1_2) k) ?_
    refine vs T0 6 [(.int (1 : Int32))] (fun t k => XS.iconst X0.here hx rfl (hb hby d37_5) k) ?_
    exact own_fin X0 e0 (v := some (.int (1 : Int32))) (fun h => by rw [hret] at h; cases h) hlk (fun fs hr => retN X0 hx (t := .boolean) hret (by simp) (hb hby d37_6) hr) (show ((fun (v : Option Value) (h : Heap) (L : List Loc) => Q37 Z oc kc c4 mm fx kx h0 n0 v h L)) (some (.int (1 : Int32))) h0 _ from ⟨(by unfold own_fa; rw [if_neg hc1_2]), N0, rfl⟩) (by decide) (by decide)
theorem ef_37 (m : MethodId) (oc : Addr) (mm : Nat) (fx : Nat) (kx : Nat) : entryFrame m #[(.ref oc), (.int (Int32.ofNat mm)), (.int (Int32.ofNat fx)), (.int (Int32.ofNat kx))] 4 = mkF m 0 #[vr oc, vi (Int32.ofNat mm), vi (Int32.ofNat fx), vi (Int32.ofNat kx)] [] := by first | (simp [entryFrame, mkF, argsToLocals, Value.category, maxLocals]; done) | rfl
theorem rm37 (l : Launch) (Z : State) (a0 : Array Value) (hw : ∀ d ∈ tables_1, d.before a0 Z = true) (ws : List Jvm.Cond) (oc : Addr) (kc : ClassId) (c4 : List Int32) (mm : Nat) (fx : Nat) (kx : Nat) (h0 : Heap) (n0 : Nat) (Z0 : n0 ≤ h0.size) (VC : Arv Z h0 oc kc .int (Int32.ofNat 4) (own_iv c4) (.int (0 : Int32))) (hfx : fx < 4) (hkx : kx < 4) :
    MetFree l (⟨"com/example/clew/clew/CharFilterTestedPinLaw", "isFirstAt", "([IIII)Z"⟩ : MethodName) (head1 (Jvm.Cond.code (⟨"com/example/clew/clew/CharFilterTestedPinLaw", "isFirstAt", "([IIII)Z"⟩ : MethodName) method_5_code 4 (some .boolean) :: ws) ({ frames := 0, cells := 0, slots := 0, locals := 0 } : Room)) (fun a U => a = #[(.ref oc), (.int (Int32.ofNat mm)), (.int (Int32.ofNat fx)), (.int (Int32.ofNat kx))] ∧ Z.Warmed39 U.vm ∧ U.heap = h0) (fun _ _ _ _ _ => True) (fun _ U o U' => ∃ v L, o = .returned v ∧ Q37 Z oc kc c4 mm fx kx h0 n0 v U'.heap L ∧ FrameEnd U o U' L ({ frames := 0, cells := 0, slots := 0, locals := 0 } : Room).cells ({ frames := 0, cells := 0, slots := 0, locals := 0 } : Room).slots) := by
  refine MetFree.of_bodySF (plainFor_of_name pn_8) hisR ?_
  intro p e s m args below meth c s₁ Bd hml0 hP hK
  obtain ⟨rfl, hZ, hh⟩ := hP
  have e0 : s₁.heap = h0 := by rw [← hh, Bd.state]; rfl
  rw [ef_37 m oc mm fx kx]
  exact b37 oc kc c4 mm fx kx ⟨Bd.exec, hZ, hw, Bd.bytes, hml0, findClass_of_methodNamed Bd.named, Bd.returns, Bd.notSynchronized, (name_of_methodNamed Bd.named Bd.method).1⟩ (Stand.of_body Bd) e0 Z0 (Fr.nil n0) VC hfx hkx
def own_fi (c4 : List Int32) (mm : Nat) (fx : Nat) : Int32 := (if (own_fa c4 mm fx 0) = (0 : Int32) then (0 : Int32) else (if (own_fa c4 mm fx 1) = (0 : Int32) then (0 : Int32) else (if (own_fa c4 mm fx 2) = (0 : Int32) then (0 : Int32) else (if (own_fa c4 mm fx 3) = (0 : Int32) then (0 : Int32) else (1 : Int32)))))
def Q36 (Z : State) (oc : Addr) (kc : ClassId) (c4 : List Int32) (mm : Nat) (fx : Nat) (h0 : Heap) (n0 : Nat) (v : Option Value) (h : Heap) (L : List Loc) : Prop := v = some (.int (own_fi c4 mm fx)) ∧ Fr n0 L ∧ h = h0
theorem d36_0 : dq cb44 0 (.aload_n 0) 1 := by decide +kernel
theorem d36_1 : dq cb44 1 (.iload_n 1) 1 := by decide +kernel
theorem d36_2 : dq cb44 2 (.iload_n 2) 1 := by decide +kernel
theorem d36_3 : dq cb44 3 (.iconst 0) 1 := by decide +kernel
theorem d36_4 : dq cb44 4 (.invokestatic 47) 3 := by decide +kernel
theorem pd_28 : parseMethodDescriptor "([IIII)Z" = some ⟨[(.array .int), .int, .int, .int], some .boolean⟩ := by decide +kernel
theorem d36_7 : dq cb44 7 (.ifCond .eq 37) 3 := by decide +kernel
theorem d36_44 : dq cb44 44 (.iconst 0) 1 := by decide +kernel
theorem d36_45 : dq cb44 45 .ireturn 1 := by decide +kernel
theorem d36_10 : dq cb44 10 (.aload_n 0) 1 := by decide +kernel
theorem d36_11 : dq cb44 11 (.iload_n 1) 1 := by decide +kernel
theorem d36_12 : dq cb44 12 (.iload_n 2) 1 := by decide +kernel
theorem d36_13 : dq cb44 13 (.iconst 1) 1 := by decide +kernel
theorem d36_14 : dq cb44 14 (.invokestatic 47) 3 := by decide +kernel
theorem d36_17 : dq cb44 17 (.ifCond .eq 27) 3 := by decide +kernel
theorem d36_20 : dq cb44 20 (.aload_n 0) 1 := by decide +kernel
theorem d36_21 : dq cb44 21 (.iload_n 1) 1 := by decide +kernel
theorem d36_22 : dq cb44 22 (.iload_n 2) 1 := by decide +kernel
theorem d36_23 : dq cb44 23 (.iconst 2) 1 := by decide +kernel
theorem d36_24 : dq cb44 24 (.invokestatic 47) 3 := by decide +kernel
theorem d36_27 : dq cb44 27 (.ifCond .eq 17) 3 := by decide +kernel
theorem d36_30 : dq cb44 30 (.aload_n 0) 1 := by decide +kernel
theorem d36_31 : dq cb44 31 (.iload_n 1) 1 := by decide +kernel
theorem d36_32 : dq cb44 32 (.iload_n 2) 1 := by decide +kernel
theorem d36_33 : dq cb44 33 (.iconst 3) 1 := by decide +kernel
theorem d36_34 : dq cb44 34 (.invokestatic 47) 3 := by decide +kernel
theorem d36_37 : dq cb44 37 (.ifCond .eq 7) 3 := by decide +kernel
theorem d36_40 : dq cb44 40 (.iconst 1) 1 := by decide +kernel
theorem d36_41 : dq cb44 41 (.goto 4) 3 := by decide +kernel
theorem b36  (oc : Addr) (kc : ClassId) (c4 : List Int32) (mm : Nat) (fx : Nat)
    (C : own_C p s m meth c Z a0 method_6_code 3 "com/example/clew/clew/CharFilterTestedPinLaw" (some .boolean) "isFirst") (X0 : Stand p l e ({ frames := 1, cells := 0, slots := 0, locals := 15 } : Room) s m args below meth c T0 locs 0 0) (e0 : T0.heap = h0) (Z0 : n0 ≤ h0.size) (N0 : Fr n0 locs) (VC : Arv Z h0 oc kc .int (Int32.ofNat 4) (own_iv c4) (.int (0 : Int32))) (hfx : fx < 4) :
    own_Go p.tables e below (T0.setTop (mkF m 0 #[vr oc, vi (Int32.ofNat mm), vi (Int32.ofNat fx)] [])) (own_K s (fun (v : Option Value) (h : Heap) (L : List Loc) => Q36 Z oc kc c4 mm fx h0 n0 v h L) ({ frames := 1, cells := 0, slots := 0, locals := 15 } : Room).cells ({ frames := 1, cells := 0, slots := 0, locals := 15 } : Room).slots) := by
  obtain ⟨hx, hZ, hw, hby, hml, hown, hret, hlk, hnm⟩ := C
  refine vs T0 1 [(.ref oc)] (fun t k => XS.aloadN X0.here hx rfl (hb hby d36_0) rfl rfl k) ?_
  refine vs T0 2 [(.int (Int32.ofNat mm)), (.ref oc)] (fun t k => XS.iloadN X0.here hx rfl (hb hby d36_1) rfl k) ?_
  refine vs T0 3 [(.int (Int32.ofNat fx)), (.int (Int32.ofNat mm)), (.ref oc)] (fun t k => XS.iloadN X0.here hx rfl (hb hby d36_2) rfl k) ?_
  refine vs T0 4 [(.int (0 : Int32)), (.int (Int32.ofNat fx)), (.int (Int32.ofNat mm)), (.ref oc)] (fun t k => XS.iconst X0.here hx rfl (hb hby d36_3) k) ?_
  obtain ⟨_, _, ⟨T1, L1, k1, n1⟩, -, X1, ⟨Lc1, hQ1, l1, y1, z1⟩, st1⟩ := Jvm.LawKit.callS X0 hx (y := (⟨"com/example/clew/clew/CharFilterTestedPinLaw", "isFirstAt", "([IIII)Z"⟩ : MethodName)) hown (mvT hZ (ww hw 212 rfl)) (mvT hZ (ww hw 213 rfl)) (mvT hZ (ww hw 203 rfl)) (mvT hZ (ww hw 214 rfl)) (by decide) (backOf (W := 0) (rm37 l Z a0 hw [] oc kc c4 mm fx 0 h0 n0 Z0 VC hfx (by omega)) hZ (ww hw 214 rfl) (ww hw 203 rfl) (by decide) (by decide)) (g := (mkF m 4 #[vr oc, vi (Int32.ofNat mm), vi (Int32.ofNat fx)] [(.int (0 : Int32)), (.int (Int32.ofNat fx)), (.int (Int32.ofNat mm)), (.ref oc)])) rfl (by rw [hml]; rfl) (argsL := [(.ref oc), (.int (Int32.ofNat mm)), (.int (Int32.ofNat fx)), (.int (0 : Int32))]) (rest := []) (lenOf pd_28 rfl) rfl (by show 2 * 0 + _ ≤ _; exact Nat.le_of_eq rfl) (hb hby d36_4) (fun _ _ => ⟨rfl, e0, (by decide : 0 + 0 ≤ _), (by decide : 0 + 0 ≤ _)⟩)
  dsimp only [Pt.U, Pt.locs, Pt.cells, Pt.slots] at X1 l1 y1 z1 st1 hQ1
  subst l1 y1 z1
  obtain ⟨rfl, Nq1, eh1⟩ := hQ1
  have N1 := Fr.app N0 Nq1
  refine vs T1 7 [(.int (own_fa c4 mm fx 0))] (fun t k => st1 t k) ?_
  by_cases hc2_7 : (own_fa c4 mm fx 0) = (0 : Int32)
  · refine vs T1 44 [] (fun t k => XS.ifYes X1.here hx rfl (pc0 := 7) (pc' := 44) rfl (hb hby d36_7) rfl (XT.i0_eq_t hc2_7) (by decide) (by decide) k) ?_
    refine vs T1 45 [(.int (0 : Int32))] (fun t k => XS.iconst X1.here hx rfl (hb hby d36_44) k) ?_
    exact own_fin X1 eh1 (v := some (.int (0 : Int32))) (fun h => by rw [hret] at h; cases h) hlk (fun fs hr => retN X1 hx (t := .boolean) hret (by simp) (hb hby d36_45) hr) (show ((fun (v : Option Value) (h : Heap) (L : List Loc) => Q36 Z oc kc c4 mm fx h0 n0 v h L)) (some (.int (0 : Int32))) h0 _ from ⟨(by unfold own_fi; rw [if_pos hc2_7]), N1, rfl⟩) (by decide) (by decide)
  · refine vs T1 10 [] (fun t k => XS.ifNo X1.here hx rfl (hb hby d36_7) rfl (XT.i0_eq_f hc2_7) k) ?_
    refine vs T1 11 [(.ref oc)] (fun t k => XS.aloadN X1.here hx rfl (hb hby d36_10) rfl rfl k) ?_
    refine vs T1 12 [(.int (Int32.ofNat mm)), (.ref oc)] (fun t k => XS.iloadN X1.here hx rfl (hb hby d36_11) rfl k) ?_
    refine vs T1 13 [(.int (Int32.ofNat fx)), (.int (Int32.ofNat mm)), (.ref oc)] (fun t k => XS.iloadN X1.here hx rfl (hb hby d36_12) rfl k) ?_
    refine vs T1 14 [(.int (1 : Int32)), (.int (Int32.ofNat fx)), (.int (Int32.ofNat mm)), (.ref oc)] (fun t k => XS.iconst X1.here hx rfl (hb hby d36_13) k) ?_
    obtain ⟨_, _, ⟨T3, L3, k3, n3⟩, -, X3, ⟨Lc3, hQ3, l3, y3, z3⟩, st3⟩ := Jvm.LawKit.callS X1 hx (y := (⟨"com/example/clew/clew/CharFilterTestedPinLaw", "isFirstAt", "([IIII)Z"⟩ : MethodName)) hown (mvT hZ (ww hw 212 rfl)) (mvT hZ (ww hw 213 rfl)) (mvT hZ (ww hw 203 rfl)) (mvT hZ (ww hw 214 rfl)) (by decide) (backOf (W := 0) (rm37 l Z a0 hw [] oc kc c4 mm fx 1 h0 n0 Z0 VC hfx (by omega)) hZ (ww hw 214 rfl) (ww hw 203 rfl) (by decide) (by decide)) (g := (mkF m 14 #[vr oc, vi (Int32.ofNat mm), vi (Int32.ofNat fx)] [(.int (1 : Int32)), (.int (Int32.ofNat fx)), (.int (Int32.ofNat mm)), (.ref oc)])) rfl (by rw [hml]; rfl) (argsL := [(.ref oc), (.int (Int32.ofNat mm)), (.int (Int32.ofNat fx)), (.int (1 : Int32))]) (rest := []) (lenOf pd_28 rfl) rfl (by show 2 * 0 + _ ≤ _; exact Nat.le_of_eq rfl) (hb hby d36_14) (fun _ _ => ⟨rfl, eh1, (by decide : (0 + 0) + 0 ≤ _), (by decide : (0 + 0) + 0 ≤ _)⟩)
    dsimp only [Pt.U, Pt.locs, Pt.cells, Pt.slots] at X3 l3 y3 z3 st3 hQ3
    subst l3 y3 z3
    obtain ⟨rfl, Nq3, eh3⟩ := hQ3
    have N3 := Fr.app N1 Nq3
    refine vs T3 17 [(.int (own_fa c4 mm fx 1))] (fun t k => st3 t k) ?_
    by_cases hc4_17 : (own_fa c4 mm fx 1) = (0 : Int32)
    · refine vs T3 44 [] (fun t k => XS.ifYes X3.here hx rfl (pc0 := 17) (pc' := 44) rfl (hb hby d36_17) rfl (XT.i0_eq_t hc4_17) (by decide) (by decide) k) ?_
      refine vs T3 45 [(.int (0 : Int32))] (fun t k => XS.iconst X3.here hx rfl (hb hby d36_44) k) ?_
      exact own_fin X3 eh3 (v := some (.int (0 : Int32))) (fun h => by rw [hret] at h; cases h) hlk (fun fs hr => retN X3 hx (t := .boolean) hret (by simp) (hb hby d36_45) hr) (show ((fun (v : Option Value) (h : Heap) (L : List Loc) => Q36 Z oc kc c4 mm fx h0 n0 v h L)) (some (.int (0 : Int32))) h0 _ from ⟨(by unfold own_fi; rw [if_neg hc2_7, if_pos hc4_17]), N3, rfl⟩) (by decide) (by decide)
    · refine vs T3 20 [] (fun t k => XS.ifNo X3.here hx rfl (hb hby d36_17) rfl (XT.i0_eq_f hc4_17) k) ?_
      refine vs T3 21 [(.ref oc)] (fun t k => XS.aloadN X3.here hx rfl (hb hby d36_20) rfl rfl k) ?_
      refine vs T3 22 [(.int (Int32.ofNat mm)), (.ref oc)] (fun t k => XS.iloadN X3.here hx rfl (hb hby d36_21) rfl k) ?_
      refine vs T3 23 [(.int (Int32.ofNat fx)), (.int (Int32.ofNat mm)), (.ref oc)] (fun t k => XS.iloadN X3.here hx rfl (hb hby d36_22) rfl k) ?_
      refine vs T3 24 [(.int (2 : Int32)), (.int (Int32.ofNat fx)), (.int (Int32.ofNat mm)), (.ref oc)] (fun t k => XS.iconst X3.here hx rfl (hb hby d36_23) k) ?_
      obtain ⟨_, _, ⟨T5, L5, k5, n5⟩, -, X5, ⟨Lc5, hQ5, l5, y5, z5⟩, st5⟩ := Jvm.LawKit.callS X3 hx (y := (⟨"com/example/clew/clew/CharFilterTestedPinLaw", "isFirstAt", "([IIII)Z"⟩ : MethodName)) hown (mvT hZ (ww hw 212 rfl)) (mvT hZ (ww hw 213 rfl)) (mvT hZ (ww hw 203 rfl)) (mvT hZ (ww hw 214 rfl)) (by decide) (backOf (W := 0) (rm37 l Z a0 hw [] oc kc c4 mm fx 2 h0 n0 Z0 VC hfx (by omega)) hZ (ww hw 214 rfl) (ww hw 203 rfl) (by decide) (by decide)) (g := (mkF m 24 #[vr oc, vi (Int32.ofNat mm), vi (Int32.ofNat fx)] [(.int (2 : Int32)), (.int (Int32.ofNat fx)), (.int (Int32.ofNat mm)), (.ref oc)])) rfl (by rw [hml]; rfl) (argsL := [(.ref oc), (.int (Int32.ofNat mm)), (.int (Int32.ofNat fx)), (.int (2 : Int32))]) (rest := []) (lenOf pd_28 rfl) rfl (by show 2 * 0 + _ ≤ _; exact Nat.le_of_eq rfl) (hb hby d36_24) (fun _ _ => ⟨rfl, eh3, (by decide : ((0 + 0) + 0) + 0 ≤ _), (by decide : ((0 + 0) + 0) + 0 ≤ _)⟩)
      dsimp only [Pt.U, Pt.locs, Pt.cells, Pt.slots] at X5 l5 y5 z5 st5 hQ5
      subst l5 y5 z5
      obtain ⟨rfl, Nq5, eh5⟩ := hQ5
      have N5 := Fr.app N3 Nq5
      refine vs T5 27 [(.int (own_fa c4 mm fx 2))] (fun t k => st5 t k) ?_
      by_cases hc6_27 : (own_fa c4 mm fx 2) = (0 : Int32)
      · refine vs T5 44 [] (fun t k => XS.ifYes X5.here hx rfl (pc0 := 27) (pc' := 44) rfl (hb hby d36_27) rfl (XT.i0_eq_t hc6_27) (by decide) (by decide) k) ?_
        refine vs T5 45 [(.int (0 : Int32))] (fun t k => XS.iconst X5.here hx rfl (hb hby d36_44) k) ?_
        exact own_fin X5 eh5 (v := some (.int (0 : Int32))) (fun h => by rw [hret] at h; cases h) hlk (fun fs hr => retN X5 hx (t := .boolean) hret (by simp) (hb hby d36_45) hr) (show ((fun (v : Option Value) (h : Heap) (L : List Loc) => Q36 Z oc kc c4 mm fx h0 n0 v h L)) (some (.int (0 : Int32))) h0 _ from ⟨(by unfold own_fi; rw [if_neg hc2_7, if_neg hc4_17, if_pos hc6_27]), N5, rfl⟩) (by decide) (by decide)
      · refine vs T5 30 [] (fun t k => XS.ifNo X5.here hx rfl (hb hby d36_27) rfl (XT.i0_eq_f hc6_27) k) ?_
        refine vs T5 31 [(.ref oc)] (fun t k => XS.aloadN X5.here hx rfl (hb hby d36_30) rfl rfl k) ?_
        refine vs T5 32 [(.int (Int32.ofNat mm)), (.ref oc)] (fun t k => XS.iloadN X5.here hx rfl (hb hby d36_31) rfl k) ?_
        refine vs T5 33 [(.int (Int32.ofNat fx)), (.int (Int32.ofNat mm)), (.ref oc)] (fun t k => XS.iloadN X5.here hx rfl (hb hby d36_32) rfl k) ?_
        refine vs T5 34 [(.int (3 : Int32)), (.int (Int32.ofNat fx)), (.int (Int32.ofNat mm)), (.ref oc)] (fun t k => XS.iconst X5.here hx rfl (hb hby d36_33) k) ?_
        obtain ⟨_, _, ⟨T7, L7, k7, n7⟩, -, X7, ⟨Lc7, hQ7, l7, y7, z7⟩, st7⟩ := Jvm.LawKit.callS X5 hx (y := (⟨"com/example/clew/clew/CharFilterTestedPinLaw", "isFirstAt", "([IIII)Z"⟩ : MethodName)) hown (mvT hZ (ww hw 212 rfl)) (mvT hZ (ww hw 213 rfl)) (mvT hZ (ww hw 203 rfl)) (mvT hZ (ww hw 214 rfl)) (by decide) (backOf (W := 0) (rm37 l Z a0 hw [] oc kc c4 mm fx 3 h0 n0 Z0 VC hfx (by omega)) hZ (ww hw 214 rfl) (ww hw 203 rfl) (by decide) (by decide)) (g := (mkF m 34 #[vr oc, vi (Int32.ofNat mm), vi (Int32.ofNat fx)] [(.int (3 : Int32)), (.int (Int32.ofNat fx)), (.int (Int32.ofNat mm)), (.ref oc)])) rfl (by rw [hml]; rfl) (argsL := [(.ref oc), (.int (Int32.ofNat mm)), (.int (Int32.ofNat fx)), (.int (3 : Int32))]) (rest := []) (lenOf pd_28 rfl) rfl (by show 2 * 0 + _ ≤ _; exact Nat.le_of_eq rfl) (hb hby d36_34) (fun _ _ => ⟨rfl, eh5, (by decide : (((0 + 0) + 0) + 0) + 0 ≤ _), (by decide : (((0 + 0) + 0) + 0) + 0 ≤ _)⟩)
        dsimp only [Pt.U, Pt.locs, Pt.cells, Pt.slots] at X7 l7 y7 z7 st7 hQ7
        subst l7 y7 z7
        obtain ⟨rfl, Nq7, eh7⟩ := hQ7
        have N7 := Fr.app N5 Nq7
        refine vs T7 37 [(.int (own_fa c4 mm fx 3))] (fun t k => st7 t k) ?_
        by_cases hc8_37 : (own_fa c4 mm fx 3) = (0 : Int32)
        · refine vs T7 44 [] (fun t k => XS.ifYes X7.here hx rfl (pc0 := 37) (pc' := 44) rfl (hb hby d36_37) rfl (XT.i0_eq_t hc8_37) (by decide) (by decide) k) ?_
          refine vs T7 45 [(.int (0 : Int32))] (fun t k => XS.iconst X7.here hx rfl (hb hby d36_44) k) ?_
          exact own_fin X7 eh7 (v := some (.int (0 : Int32))) (fun h => by rw [hret] at h; cases h) hlk (fun fs hr => retN X7 hx (t := .boolean) hret (by simp) (hb hby d36_45) hr) (show ((fun (v : Option Value) (h : Heap) (L : List Loc) => Q36 Z oc kc c4 mm fx h0 n0 v h L)) (some (.int (0 : Int32))) h0 _ from ⟨(by unfold own_fi; rw [if_neg hc2_7, if_neg hc4_17, if_neg hc6_27, if_pos hc8_37]), N7, rfl⟩) (by decide) (by decide)
        · refine vs T7 40 [] (fun t k => XS.ifNo X7.here hx rfl (hb hby d36_37) rfl (XT.i0_eq_f hc8_37) k) ?_
          refine vs T7 41 [(.int (1 : Int32))] (fun t k => XS.iconst X7.here hx rfl (hb hby d36_40) k) ?_
          refine vs T7 45 [(.int (1 : Int32))] (fun t k => XS.goto X7.here hx rfl (pc0 := 41) (pc' := 45) rfl (hb hby d36_41) (by decide) (by decide) k) ?_
          exact own_fin X7 eh7 (v := some (.int (1 : Int32))) (fun h => by rw [hret] at h; cases h) hlk (fun fs hr => retN X7 hx (t := .boolean) hret (by simp) (hb hby d36_45) hr) (show ((fun (v : Option Value) (h : Heap) (L : List Loc) => Q36 Z oc kc c4 mm fx h0 n0 v h L)) (some (.int (1 : Int32))) h0 _ from ⟨(by unfold own_fi; rw [if_neg hc2_7, if_neg hc4_17, if_neg hc6_27, if_neg hc8_37]), N7, rfl⟩) (by decide) (by decide)
theorem ef_36 (m : MethodId) (oc : Addr) (mm : Nat) (fx : Nat) : entryFrame m #[(.ref oc), (.int (Int32.ofNat mm)), (.int (Int32.ofNat fx))] 3 = mkF m 0 #[vr oc, vi (Int32.ofNat mm), vi (Int32.ofNat fx)] [] := by first | (simp [entryFrame, mkF, argsToLocals, Value.category, maxLocals]; done) | rfl
theorem rm36 (l : Launch) (Z : State) (a0 : Array Value) (hw : ∀ d ∈ tables_1, d.before a0 Z = true) (ws : List Jvm.Cond) (oc : Addr) (kc : ClassId) (c4 : List Int32) (mm : Nat) (fx : Nat) (h0 : Heap) (n0 : Nat) (Z0 : n0 ≤ h0.size) (VC : Arv Z h0 oc kc .int (Int32.ofNat 4) (own_iv c4) (.int (0 : Int32))) (hfx : fx < 4) :
    MetFree l (⟨"com/example/clew/clew/CharFilterTestedPinLaw", "isFirst", "([III)Z"⟩ : MethodName) (head1 (Jvm.Cond.code (⟨"com/example/clew/clew/CharFilterTestedPinLaw", "isFirst", "([III)Z"⟩ : MethodName) method_6_code 3 (some .boolean) :: ws) ({ frames := 1, cells := 0, slots := 0, locals := 15 } : Room)) (fun a U => a = #[(.ref oc), (.int (Int32.ofNat mm)), (.int (Int32.ofNat fx))] ∧ Z.Warmed39 U.vm ∧ U.heap = h0) (fun _ _ _ _ _ => True) (fun _ U o U' => ∃ v L, o = .returned v ∧ Q36 Z oc kc c4 mm fx h0 n0 v U'.heap L ∧ FrameEnd U o U' L ({ frames := 1, cells := 0, slots := 0, locals := 15 } : Room).cells ({ frames := 1, cells := 0, slots := 0, locals := 15 } : Room).slots) := by
  refine MetFree.of_bodySF (plainFor_of_name pn_8) hisR ?_
  intro p e s m args below meth c s₁ Bd hml0 hP hK
  obtain ⟨rfl, hZ, hh⟩ := hP
  have e0 : s₁.heap = h0 := by rw [← hh, Bd.state]; rfl
  rw [ef_36 m oc mm fx]
  exact b36 oc kc c4 mm fx ⟨Bd.exec, hZ, hw, Bd.bytes, hml0, findClass_of_methodNamed Bd.named, Bd.returns, Bd.notSynchronized, (name_of_methodNamed Bd.named Bd.method).1⟩ (Stand.of_body Bd) e0 Z0 (Fr.nil n0) VC hfx
def own_nb4 (c4 : List Int32) (mm : Nat) (fx : Nat) (sx : Nat) (kx : Nat) : Int32 := (if (Int32.ofNat kx) < (Int32.ofNat mm) then (if (Int32.ofNat kx) = (Int32.ofNat sx) then (1 : Int32) else (if (own_ab ((Int32.ofNat kx) - (Int32.ofNat fx))) < ((Int32.ofNat mm) / (2 : Int32)) then (1 : Int32) else (if (c4.getD kx 0) < (c4.getD sx 0) then (0 : Int32) else (if (c4.getD sx 0) < (c4.getD kx 0) then (1 : Int32) else (if (own_ab ((Int32.ofNat sx) - (Int32.ofNat fx))) < (own_ab ((Int32.ofNat kx) - (Int32.ofNat fx))) then (0 : Int32) else (if (own_ab ((Int32.ofNat kx) - (Int32.ofNat fx))) < (own_ab ((Int32.ofNat sx) - (Int32.ofNat fx))) then (1 : Int32) else (if (Int32.ofNat sx) < (Int32.ofNat kx) then (1 : Int32) else (0 : Int32)))))))) else (1 : Int32))
def Q38 (Z : State) (oc : Addr) (kc : ClassId) (c4 : List Int32) (mm : Nat) (fx : Nat) (sx : Nat) (kx : Nat) (h0 : Heap) (n0 : Nat) (v : Option Value) (h : Heap) (L : List Loc) : Prop := v = some (.int (own_nb4 c4 mm fx sx kx)) ∧ Fr n0 L ∧ h = h0
theorem d38_0 : dq cb45 0 (.iload 4) 2 := by decide +kernel
theorem d38_2 : dq cb45 2 (.iload_n 1) 1 := by decide +kernel
theorem d38_3 : dq cb45 3 (.if_icmp .ge 9) 3 := by decide +kernel
theorem d38_6 : dq cb45 6 (.iload 4) 2 := by decide +kernel
theorem d38_8 : dq cb45 8 (.iload_n 3) 1 := by decide +kernel
theorem d38_9 : dq cb45 9 (.if_icmp .ne 5) 3 := by decide +kernel
theorem d38_12 : dq cb45 12 (.iconst 1) 1 := by decide +kernel
theorem d38_13 : dq cb45 13 .ireturn 1 := by decide +kernel
theorem d38_14 : dq cb45 14 (.iload 4) 2 := by decide +kernel
theorem d38_16 : dq cb45 16 (.iload_n 2) 1 := by decide +kernel
theorem d38_17 : dq cb45 17 .isub 1 := by decide +kernel
theorem d38_18 : dq cb45 18 (.invokestatic 32) 3 := by decide +kernel
theorem d38_21 : dq cb45 21 (.istore 5) 2 := by decide +kernel
theorem d38_23 : dq cb45 23 (.iload 5) 2 := by decide +kernel
theorem d38_25 : dq cb45 25 (.iload_n 1) 1 := by decide +kernel
theorem d38_26 : dq cb45 26 (.iconst 2) 1 := by decide +kernel
theorem d38_27 : dq cb45 27 .idiv 1 := by decide +kernel
theorem d38_28 : dq cb45 28 (.if_icmp .ge 5) 3 := by decide +kernel
theorem d38_31 : dq cb45 31 (.iconst 1) 1 := by decide +kernel
theorem d38_32 : dq cb45 32 .ireturn 1 := by decide +kernel
theorem d38_33 : dq cb45 33 (.iload_n 3) 1 := by decide +kernel
theorem d38_34 : dq cb45 34 (.iload_n 2) 1 := by decide +kernel
theorem d38_35 : dq cb45 35 .isub 1 := by decide +kernel
theorem d38_36 : dq cb45 36 (.invokestatic 32) 3 := by decide +kernel
theorem d38_39 : dq cb45 39 (.istore 6) 2 := by decide +kernel
theorem d38_41 : dq cb45 41 (.aload_n 0) 1 := by decide +kernel
theorem d38_42 : dq cb45 42 (.iload 4) 2 := by decide +kernel
theorem d38_44 : dq cb45 44 .iaload 1 := by decide +kernel
theorem d38_45 : dq cb45 45 (.aload_n 0) 1 := by decide +kernel
theorem d38_46 : dq cb45 46 (.iload_n 3) 1 := by decide +kernel
theorem d38_47 : dq cb45 47 .iaload 1 := by decide +kernel
theorem d38_48 : dq cb45 48 (.if_icmp .ge 5) 3 := by decide +kernel
theorem d38_51 : dq cb45 51 (.iconst 0) 1 := by decide +kernel
theorem d38_52 : dq cb45 52 .ireturn 1 := by decide +kernel
theorem d38_53 : dq cb45 53 (.aload_n 0) 1 := by decide +kernel
theorem d38_54 : dq cb45 54 (.iload 4) 2 := by decide +kernel
theorem d38_56 : dq cb45 56 .iaload 1 := by decide +kernel
theorem d38_57 : dq cb45 57 (.aload_n 0) 1 := by decide +kernel
theorem d38_58 : dq cb45 58 (.iload_n 3) 1 := by decide +kernel
theorem d38_59 : dq cb45 59 .iaload 1 := by decide +kernel
theorem d38_60 : dq cb45 60 (.if_icmp .le 5) 3 := by decide +kernel
theorem d38_63 : dq cb45 63 (.iconst 1) 1 := by decide +kernel
theorem d38_64 : dq cb45 64 .ireturn 1 := by decide +kernel
theorem d38_65 : dq cb45 65 (.iload 5) 2 := by decide +kernel
theorem d38_67 : dq cb45 67 (.iload 6) 2 := by decide +kernel
theorem d38_69 : dq cb45 69 (.if_icmp .le 5) 3 := by decide +kernel
theorem d38_72 : dq cb45 72 (.iconst 0) 1 := by decide +kernel
theorem d38_73 : dq cb45 73 .ireturn 1 := by decide +kernel
theorem d38_74 : dq cb45 74 (.iload 5) 2 := by decide +kernel
theorem d38_76 : dq cb45 76 (.iload 6) 2 := by decide +kernel
theorem d38_78 : dq cb45 78 (.if_icmp .ge 5) 3 := by decide +kernel
theorem d38_81 : dq cb45 81 (.iconst 1) 1 := by decide +kernel
theorem d38_82 : dq cb45 82 .ireturn 1 := by decide +kernel
theorem d38_83 : dq cb45 83 (.iload 4) 2 := by decide +kernel
theorem d38_85 : dq cb45 85 (.iload_n 3) 1 := by decide +kernel
theorem d38_86 : dq cb45 86 (.if_icmp .le 7) 3 := by decide +kernel
theorem d38_89 : dq cb45 89 (.iconst 1) 1 := by decide +kernel
theorem d38_90 : dq cb45 90 (.goto 4) 3 := by decide +kernel
theorem d38_94 : dq cb45 94 .ireturn 1 := by decide +kernel
theorem d38_93 : dq cb45 93 (.iconst 0) 1 := by decide +kernel
theorem b38  (oc : Addr) (kc : ClassId) (c4 : List Int32) (mm : Nat) (fx : Nat) (sx : Nat) (kx : Nat)
    (C : own_C p s m meth c Z a0 method_7_code 7 "com/example/clew/clew/CharFilterTestedPinLaw" (some .boolean) "notBetter") (X0 : Stand p l e ({ frames := 1, cells := 0, slots := 0, locals := 12 } : Room) s m args below meth c T0 locs 0 0) (e0 : T0.heap = h0) (Z0 : n0 ≤ h0.size) (N0 : Fr n0 locs) (VC : Arv Z h0 oc kc .int (Int32.ofNat 4) (own_iv c4) (.int (0 : Int32))) (hfx : fx < 4) (hsx : sx < 4) (hkx : kx < 4) :
    own_Go p.tables e below (T0.setTop (mkF m 0 #[vr oc, vi (Int32.ofNat mm), vi (Int32.ofNat fx), vi (Int32.ofNat sx), vi (Int32.ofNat kx), .unset, .unset] [])) (own_K s (fun (v : Option Value) (h : Heap) (L : List Loc) => Q38 Z oc kc c4 mm fx sx kx h0 n0 v h L) ({ frames := 1, cells := 0, slots := 0, locals := 12 } : Room).cells ({ frames := 1, cells := 0, slots := 0, locals := 12 } : Room).slots) := by
  obtain ⟨hx, hZ, hw, hby, hml, hown, hret, hlk, hnm⟩ := C
  refine vs T0 2 [(.int (Int32.ofNat kx))] (fun t k => XS.iload X0.here hx rfl (hb hby d38_0) rfl k) ?_
  refine vs T0 3 [(.int (Int32.ofNat mm)), (.int (Int32.ofNat kx))] (fun t k => XS.iloadN X0.here hx rfl (hb hby d38_2) rfl k) ?_
  by_cases hc1_3 : (Int32.ofNat kx) < (Int32.ofNat mm)
  · refine vs T0 6 [] (fun t k => XS.icmpNo X0.here hx rfl (hb hby d38_3) rfl (XT.ii_ge_f hc1_3) k) ?_
    refine vs T0 8 [(.int (Int32.ofNat kx))] (fun t k => XS.iload X0.here hx rfl (hb hby d38_6) rfl k) ?_
    refine vs T0 9 [(.int (Int32.ofNat sx)), (.int (Int32.ofNat kx))] (fun t k => XS.iloadN X0.here hx rfl (hb hby d38_8) rfl k) ?_
    by_cases hc2_9 : (Int32.ofNat kx) = (Int32.ofNat sx)
    · refine vs T0 12 [] (fun t k => XS.icmpNo X0.here hx rfl (hb hby d38_9) rfl (XT.ii_ne_f hc2_9) k) ?_
      refine vs T0 13 [(.int (1 : Int32))] (fun t k => XS.iconst X0.here hx rfl (hb hby d38_12) k) ?_
      exact own_fin X0 e0 (v := some (.int (1 : Int32))) (fun h => by rw [hret] at h; cases h) hlk (fun fs hr => retN X0 hx (t := .boolean) hret (by simp) (hb hby d38_13) hr) (show ((fun (v : Option Value) (h : Heap) (L : List Loc) => Q38 Z oc kc c4 mm fx sx kx h0 n0 v h L)) (some (.int (1 : Int32))) h0 _ from ⟨(by unfold own_nb4; rw [if_pos hc1_3, if_pos hc2_9]), N0, rfl⟩) (by decide) (by decide)
    · refine vs T0 14 [] (fun t k => XS.icmpYes X0.here hx rfl (pc0 := 9) (pc' := 14) rfl (hb hby d38_9) rfl (XT.ii_ne_t hc2_9) (by decide) (by decide) k) ?_
      refine vs T0 16 [(.int (Int32.ofNat kx))] (fun t k => XS.iload X0.here hx rfl (hb hby d38_14) rfl k) ?_
      refine vs T0 17 [(.int (Int32.ofNat fx)), (.int (Int32.ofNat kx))] (fun t k => XS.iloadN X0.here hx rfl (hb hby d38_16) rfl k) ?_
      refine vs T0 18 [(.int ((Int32.ofNat kx) - (Int32.ofNat fx)))] (fun t k => XS.isub X0.here hx rfl (hb hby d38_17) rfl k) ?_
      obtain ⟨_, _, ⟨T3, L3, k3, n3⟩, -, X3, ⟨Lc3, hQ3, l3, y3, z3⟩, st3⟩ := Jvm.LawKit.callS X0 hx (y := (⟨"java/lang/Math", "abs", "(I)I"⟩ : MethodName)) hown (mvT hZ (ww hw 215 rfl)) (mvT hZ (ww hw 144 rfl)) (mvT hZ (ww hw 69 rfl)) (mvT hZ (ww hw 145 rfl)) (by decide) (backOf (W := 0) (rm27 l Z a0 hw [] ((Int32.ofNat kx) - (Int32.ofNat fx)) h0 n0 Z0) hZ (ww hw 145 rfl) (ww hw 69 rfl) (by decide) (by decide)) (g := (mkF m 18 #[vr oc, vi (Int32.ofNat mm), vi (Int32.ofNat fx), vi (Int32.ofNat sx), vi (Int32.ofNat kx), .unset, .unset] [(.int ((Int32.ofNat kx) - (Int32.ofNat fx)))])) rfl (by rw [hml]; rfl) (argsL := [(.int ((Int32.ofNat kx) - (Int32.ofNat fx)))]) (rest := []) (lenOf pd_0 rfl) rfl (by show 2 * 0 + _ ≤ _; exact Nat.le_of_eq rfl) (hb hby d38_18) (fun _ _ => ⟨rfl, e0, (by decide : 0 + 0 ≤ _), (by decide : 0 + 0 ≤ _)⟩)
      dsimp only [Pt.U, Pt.locs, Pt.cells, Pt.slots] at X3 l3 y3 z3 st3 hQ3
      subst l3 y3 z3
      obtain ⟨rfl, Nq3, eh3⟩ := hQ3
      have N3 := Fr.app N0 Nq3
      refine vs T3 21 [(.int (own_ab ((Int32.ofNat kx) - (Int32.ofNat fx))))] (fun t k => st3 t k) ?_
      refine vv T3 m 23 #[vr oc, vi (Int32.ofNat mm), vi (Int32.ofNat fx), vi (Int32.ofNat sx), vi (Int32.ofNat kx), vi (own_ab ((Int32.ofNat kx) - (Int32.ofNat fx))), .unset] [] (fun t k => XS.istore X3.here hx rfl (hb hby d38_21) rfl (l' := #[vr oc, vi (Int32.ofNat mm), vi (Int32.ofNat fx), vi (Int32.ofNat sx), vi (Int32.ofNat kx), vi (own_ab ((Int32.ofNat kx) - (Int32.ofNat fx))), .unset]) rfl k) ?_
      refine vs T3 25 [(.int (own_ab ((Int32.ofNat kx) - (Int32.ofNat fx))))] (fun t k => XS.iload X3.here hx rfl (hb hby d38_23) rfl k) ?_
      refine vs T3 26 [(.int (Int32.ofNat mm)), (.int (own_ab ((Int32.ofNat kx) - (Int32.ofNat fx))))] (fun t k => XS.iloadN X3.here hx rfl (hb hby d38_25) rfl k) ?_
      refine vs T3 27 [(.int (2 : Int32)), (.int (Int32.ofNat mm)), (.int (own_ab ((Int32.ofNat kx) - (Int32.ofNat fx))))] (fun t k => XS.iconst X3.here hx rfl (hb hby d38_26) k) ?_
      refine vs T3 28 [(.int ((Int32.ofNat mm) / (2 : Int32))), (.int (own_ab ((Int32.ofNat kx) - (Int32.ofNat fx))))] (fun t k => XS.idiv X3.here hx rfl (hb hby d38_27) rfl (by decide) k) ?_
      by_cases hc4_28 : (own_ab ((Int32.ofNat kx) - (Int32.ofNat fx))) < ((Int32.ofNat mm) / (2 : Int32))
      · refine vs T3 31 [] (fun t k => XS.icmpNo X3.here hx rfl (hb hby d38_28) rfl (XT.ii_ge_f hc4_28) k) ?_
        refine vs T3 32 [(.int (1 : Int32))] (fun t k => XS.iconst X3.here hx rfl (hb hby d38_31) k) ?_
        exact own_fin X3 eh3 (v := some (.int (1 : Int32))) (fun h => by rw [hret] at h; cases h) hlk (fun fs hr => retN X3 hx (t := .boolean) hret (by simp) (hb hby d38_32) hr) (show ((fun (v : Option Value) (h : Heap) (L : List Loc) => Q38 Z oc kc c4 mm fx sx kx h0 n0 v h L)) (some (.int (1 : Int32))) h0 _ from ⟨(by unfold own_nb4; rw [if_pos hc1_3, if_neg hc2_9, if_pos hc4_28]), N3, rfl⟩) (by decide) (by decide)
      · refine vs T3 33 [] (fun t k => XS.icmpYes X3.here hx rfl (pc0 := 28) (pc' := 33) rfl (hb hby d38_28) rfl (XT.ii_ge_t hc4_28) (by decide) (by decide) k) ?_
        refine vs T3 34 [(.int (Int32.ofNat sx))] (fun t k => XS.iloadN X3.here hx rfl (hb hby d38_33) rfl k) ?_
        refine vs T3 35 [(.int (Int32.ofNat fx)), (.int (Int32.ofNat sx))] (fun t k => XS.iloadN X3.here hx rfl (hb hby d38_34) rfl k) ?_
        refine vs T3 36 [(.int ((Int32.ofNat sx) - (Int32.ofNat fx)))] (fun t k => XS.isub X3.here hx rfl (hb hby d38_35) rfl k) ?_
        obtain ⟨_, _, ⟨T5, L5, k5, n5⟩, -, X5, ⟨Lc5, hQ5, l5, y5, z5⟩, st5⟩ := Jvm.LawKit.callS X3 hx (y := (⟨"java/lang/Math", "abs", "(I)I"⟩ : MethodName)) hown (mvT hZ (ww hw 215 rfl)) (mvT hZ (ww hw 144 rfl)) (mvT hZ (ww hw 69 rfl)) (mvT hZ (ww hw 145 rfl)) (by decide) (backOf (W := 0) (rm27 l Z a0 hw [] ((Int32.ofNat sx) - (Int32.ofNat fx)) h0 n0 Z0) hZ (ww hw 145 rfl) (ww hw 69 rfl) (by decide) (by decide)) (g := (mkF m 36 #[vr oc, vi (Int32.ofNat mm), vi (Int32.ofNat fx), vi (Int32.ofNat sx), vi (Int32.ofNat kx), vi (own_ab ((Int32.ofNat kx) - (Int32.ofNat fx))), .unset] [(.int ((Int32.ofNat sx) - (Int32.ofNat fx)))])) rfl (by rw [hml]; rfl) (argsL := [(.int ((Int32.ofNat sx) - (Int32.ofNat fx)))]) (rest := []) (lenOf pd_0 rfl) rfl (by show 2 * 0 + _ ≤ _; exact Nat.le_of_eq rfl) (hb hby d38_36) (fun _ _ => ⟨rfl, eh3, (by decide : (0 + 0) + 0 ≤ _), (by decide : (0 + 0) + 0 ≤ _)⟩)
        dsimp only [Pt.U, Pt.locs, Pt.cells, Pt.slots] at X5 l5 y5 z5 st5 hQ5
        subst l5 y5 z5
        obtain ⟨rfl, Nq5, eh5⟩ := hQ5
        have N5 := Fr.app N3 Nq5
        refine vs T5 39 [(.int (own_ab ((Int32.ofNat sx) - (Int32.ofNat fx))))] (fun t k => st5 t k) ?_
        refine vv T5 m 41 #[vr oc, vi (Int32.ofNat mm), vi (Int32.ofNat fx), vi (Int32.ofNat sx), vi (Int32.ofNat kx), vi (own_ab ((Int32.ofNat kx) - (Int32.ofNat fx))), vi (own_ab ((Int32.ofNat sx) - (Int32.ofNat fx)))] [] (fun t k => XS.istore X5.here hx rfl (hb hby d38_39) rfl (l' := #[vr oc, vi (Int32.ofNat mm), vi (Int32.ofNat fx), vi (Int32.ofNat sx), vi (Int32.ofNat kx), vi (own_ab ((Int32.ofNat kx) - (Int32.ofNat fx))), vi (own_ab ((Int32.ofNat sx) - (Int32.ofNat fx)))]) rfl k) ?_
        refine vs T5 42 [(.ref oc)] (fun t k => XS.aloadN X5.here hx rfl (hb hby d38_41) rfl rfl k) ?_
        refine vs T5 44 [(.int (Int32.ofNat kx)), (.ref oc)] (fun t k => XS.iload X5.here hx rfl (hb hby d38_42) rfl k) ?_
        obtain ⟨cl6, Ar6, qc6, S6, NN6, H6, G6⟩ := id VC
        have in6 := inb_of (j := (Int32.ofNat kx)) S6 (own_inb (i := kx) (by omega) (by omega))
        have hat6 : cl6.slots[((Int32.ofNat kx)).toNatClampNeg]? = some (.int (c4.getD kx 0)) := H6.at in6 (own_ivget c4 (i := kx) (by omega))
        refine vs T5 45 [(.int (c4.getD kx 0))] (fun t k => X5.iaload hx (j := (Int32.ofNat kx)) (v := (.int (c4.getD kx 0))) (own_eqh eh5 Ar6.1) (State.isArrayOf_alike hZ.alike Ar6.2.1) Ar6.2.2 in6 hat6 (g := (mkF m 44 #[vr oc, vi (Int32.ofNat mm), vi (Int32.ofNat fx), vi (Int32.ofNat sx), vi (Int32.ofNat kx), vi (own_ab ((Int32.ofNat kx) - (Int32.ofNat fx))), vi (own_ab ((Int32.ofNat sx) - (Int32.ofNat fx)))] [(.int (Int32.ofNat kx)), (.ref oc)])) rfl rfl (hb hby d38_44) t k) ?_
        refine vs T5 46 [(.ref oc), (.int (c4.getD kx 0))] (fun t k => XS.aloadN X5.here hx rfl (hb hby d38_45) rfl rfl k) ?_
        refine vs T5 47 [(.int (Int32.ofNat sx)), (.ref oc), (.int (c4.getD kx 0))] (fun t k => XS.iloadN X5.here hx rfl (hb hby d38_46) rfl k) ?_
        obtain ⟨cl7, Ar7, qc7, S7, NN7, H7, G7⟩ := id VC
        have in7 := inb_of (j := (Int32.ofNat sx)) S7 (own_inb (i := sx) (by omega) (by omega))
        have hat7 : cl7.slots[((Int32.ofNat sx)).toNatClampNeg]? = some (.int (c4.getD sx 0)) := H7.at in7 (own_ivget c4 (i := sx) (by omega))
        refine vs T5 48 [(.int (c4.getD sx 0)), (.int (c4.getD kx 0))] (fun t k => X5.iaload hx (j := (Int32.ofNat sx)) (v := (.int (c4.getD sx 0))) (own_eqh eh5 Ar7.1) (State.isArrayOf_alike hZ.alike Ar7.2.1) Ar7.2.2 in7 hat7 (g := (mkF m 47 #[vr oc, vi (Int32.ofNat mm), vi (Int32.ofNat fx), vi (Int32.ofNat sx), vi (Int32.ofNat kx), vi (own_ab ((Int32.ofNat kx) - (Int32.ofNat fx))), vi (own_ab ((Int32.ofNat sx) - (Int32.ofNat fx)))] [(.int (Int32.ofNat sx)), (.ref oc), (.int (c4.getD kx 0))])) rfl rfl (hb hby d38_47) t k) ?_
        by_cases hc8_48 : (c4.getD kx 0) < (c4.getD sx 0)
        · refine vs T5 51 [] (fun t k => XS.icmpNo X5.here hx rfl (hb hby d38_48) rfl (XT.ii_ge_f hc8_48) k) ?_
          refine vs T5 52 [(.int (0 : Int32))] (fun t k => XS.iconst X5.here hx rfl (hb hby d38_51) k) ?_
          exact own_fin X5 eh5 (v := some (.int (0 : Int32))) (fun h => by rw [hret] at h; cases h) hlk (fun fs hr => retN X5 hx (t := .boolean) hret (by simp) (hb hby d38_52) hr) (show ((fun (v : Option Value) (h : Heap) (L : List Loc) => Q38 Z oc kc c4 mm fx sx kx h0 n0 v h L)) (some (.int (0 : Int32))) h0 _ from ⟨(by unfold own_nb4; rw [if_pos hc1_3, if_neg hc2_9, if_neg hc4_28, if_pos hc8_48]), N5, rfl⟩) (by decide) (by decide)
        · refine vs T5 53 [] (fun t k => XS.icmpYes X5.here hx rfl (pc0 := 48) (pc' := 53) rfl (hb hby d38_48) rfl (XT.ii_ge_t hc8_48) (by decide) (by decide) k) ?_
          refine vs T5 54 [(.ref oc)] (fun t k => XS.aloadN X5.here hx rfl (hb hby d38_53) rfl rfl k) ?_
          refine vs T5 56 [(.int (Int32.ofNat kx)), (.ref oc)] (fun t k => XS.iload X5.here hx rfl (hb hby d38_54) rfl k) ?_
          obtain ⟨cl9, Ar9, qc9, S9, NN9, H9, G9⟩ := id VC
          have in9 := inb_of (j := (Int32.ofNat kx)) S9 (own_inb (i := kx) (by omega) (by omega))
          have hat9 : cl9.slots[((Int32.ofNat kx)).toNatClampNeg]? = some (.int (c4.getD kx 0)) := H9.at in9 (own_ivget c4 (i := kx) (by omega))
          refine vs T5 57 [(.int (c4.getD kx 0))] (fun t k => X5.iaload hx (j := (Int32.ofNat kx)) (v := (.int (c4.getD kx 0))) (own_eqh eh5 Ar9.1) (State.isArrayOf_alike hZ.alike Ar9.2.1) Ar9.2.2 in9 hat9 (g := (mkF m 56 #[vr oc, vi (Int32.ofNat mm), vi (Int32.ofNat fx), vi (Int32.ofNat sx), vi (Int32.ofNat kx), vi (own_ab ((Int32.ofNat kx) - (Int32.ofNat fx))), vi (own_ab ((Int32.ofNat sx) - (Int32.ofNat fx)))] [(.int (Int32.ofNat kx)), (.ref oc)])) rfl rfl (hb hby d38_56) t k) ?_
          refine vs T5 58 [(.ref oc), (.int (c4.getD kx 0))] (fun t k => XS.aloadN X5.here hx rfl (hb hby d38_57) rfl rfl k) ?_
          refine vs T5 59 [(.int (Int32.ofNat sx)), (.ref oc), (.int (c4.getD kx 0))] (fun t k => XS.iloadN X5.here hx rfl (hb hby d38_58) rfl k) ?_
          obtain ⟨cl10, Ar10, qc10, S10, NN10, H10, G10⟩ := id VC
          have in10 := inb_of (j := (Int32.ofNat sx)) S10 (own_inb (i := sx) (by omega) (by omega))
          have hat10 : cl10.slots[((Int32.ofNat sx)).toNatClampNeg]? = some (.int (c4.getD sx 0)) := H10.at in10 (own_ivget c4 (i := sx) (by omega))
          refine vs T5 60 [(.int (c4.getD sx 0)), (.int (c4.getD kx 0))] (fun t k => X5.iaload hx (j := (Int32.ofNat sx)) (v := (.int (c4.getD sx 0))) (own_eqh eh5 Ar10.1) (State.isArrayOf_alike hZ.alike Ar10.2.1) Ar10.2.2 in10 hat10 (g := (mkF m 59 #[vr oc, vi (Int32.ofNat mm), vi (Int32.ofNat fx), vi (Int32.ofNat sx), vi (Int32.ofNat kx), vi (own_ab ((Int32.ofNat kx) - (Int32.ofNat fx))), vi (own_ab ((Int32.ofNat sx) - (Int32.ofNat fx)))] [(.int (Int32.ofNat sx)), (.ref oc), (.int (c4.getD kx 0))])) rfl rfl (hb hby d38_59) t k) ?_
          by_cases hc11_60 : (c4.getD sx 0) < (c4.getD kx 0)
          · refine vs T5 63 [] (fun t k => XS.icmpNo X5.here hx rfl (hb hby d38_60) rfl (XT.ii_le_f hc11_60) k) ?_
            refine vs T5 64 [(.int (1 : Int32))] (fun t k => XS.iconst X5.here hx rfl (hb hby d38_63) k) ?_
            exact own_fin X5 eh5 (v := some (.int (1 : Int32))) (fun h => by rw [hret] at h; cases h) hlk (fun fs hr => retN X5 hx (t := .boolean) hret (by simp) (hb hby d38_64) hr) (show ((fun (v : Option Value) (h : Heap) (L : List Loc) => Q38 Z oc kc c4 mm fx sx kx h0 n0 v h L)) (some (.int (1 : Int32))) h0 _ from ⟨(by unfold own_nb4; rw [if_pos hc1_3, if_neg hc2_9, if_neg hc4_28, if_neg hc8_48, if_pos hc11_60]), N5, rfl⟩) (by decide) (by decide)
          · refine vs T5 65 [] (fun t k => XS.icmpYes X5.here hx rfl (pc0 := 60) (pc' := 65) rfl (hb hby d38_60) rfl (XT.ii_le_t hc11_60) (by decide) (by decide) k) ?_
            refine vs T5 67 [(.int (own_ab ((Int32.ofNat kx) - (Int32.ofNat fx))))] (fun t k => XS.iload X5.here hx rfl (hb hby d38_65) rfl k) ?_
            refine vs T5 69 [(.int (own_ab ((Int32.ofNat sx) - (Int32.ofNat fx)))), (.int (own_ab ((Int32.ofNat kx) - (Int32.ofNat fx))))] (fun t k => XS.iload X5.here hx rfl (hb hby d38_67) rfl k) ?_
            by_cases hc12_69 : (own_ab ((Int32.ofNat sx) - (Int32.ofNat fx))) < (own_ab ((Int32.ofNat kx) - (Int32.ofNat fx)))
            · refine vs T5 72 [] (fun t k => XS.icmpNo X5.here hx rfl (hb hby d38_69) rfl (XT.ii_le_f hc12_69) k) ?_
              refine vs T5 73 [(.int (0 : Int32))] (fun t k => XS.iconst X5.here hx rfl (hb hby d38_72) k) ?_
              exact own_fin X5 eh5 (v := some (.int (0 : Int32))) (fun h => by rw [hret] at h; cases h) hlk (fun fs hr => retN X5 hx (t := .boolean) hret (by simp) (hb hby d38_73) hr) (show ((fun (v : Option Value) (h : Heap) (L : List Loc) => Q38 Z oc kc c4 mm fx sx kx h0 n0 v h L)) (some (.int (0 : Int32))) h0 _ from ⟨(by unfold own_nb4; rw [if_pos hc1_3, if_neg hc2_9, if_neg hc4_28, if_neg hc8_48, if_neg hc11_60, if_pos hc12_69]), N5, rfl⟩) (by decide) (by decide)
            · refine vs T5 74 [] (fun t k => XS.icmpYes X5.here hx rfl (pc0 := 69) (pc' := 74) rfl (hb hby d38_69) rfl (XT.ii_le_t hc12_69) (by decide) (by decide) k) ?_
              refine vs T5 76 [(.int (own_ab ((Int32.ofNat kx) - (Int32.ofNat fx))))] (fun t k => XS.iload X5.here hx rfl (hb hby d38_74) rfl k) ?_
              refine vs T5 78 [(.int (own_ab ((Int32.ofNat sx) - (Int32.ofNat fx)))), (.int (own_ab ((Int32.ofNat kx) - (Int32.ofNat fx))))] (fun t k => XS.iload X5.here hx rfl (hb hby d38_76) rfl k) ?_
              by_cases hc13_78 : (own_ab ((Int32.ofNat kx) - (Int32.ofNat fx))) < (own_ab ((Int32.ofNat sx) - (Int32.ofNat fx)))
              · refine vs T5 81 [] (fun t k => XS.icmpNo X5.here hx rfl (hb hby d38_78) rfl (XT.ii_ge_f hc13_78) k) ?_
                refine vs T5 82 [(.int (1 : Int32))] (fun t k => XS.iconst X5.here hx rfl (hb hby d38_81) k) ?_
                exact own_fin X5 eh5 (v := some (.int (1 : Int32))) (fun h => by rw [hret] at h; cases h) hlk (fun fs hr => retN X5 hx (t := .boolean) hret (by simp) (hb hby d38_82) hr) (show ((fun (v : Option Value) (h : Heap) (L : List Loc) => Q38 Z oc kc c4 mm fx sx kx h0 n0 v h L)) (some (.int (1 : Int32))) h0 _ from ⟨(by unfold own_nb4; rw [if_pos hc1_3, if_neg hc2_9, if_neg hc4_28, if_neg hc8_48, if_neg hc11_60, if_neg hc12_69, if_pos hc13_78]), N5, rfl⟩) (by decide) (by decide)
              · refine vs T5 83 [] (fun t k => XS.icmpYes X5.here hx rfl (pc0 := 78) (pc' := 83) rfl (hb hby d38_78) rfl (XT.ii_ge_t hc13_78) (by decide) (by decide) k) ?_
                refine vs T5 85 [(.int (Int32.ofNat kx))] (fun t k => XS.iload X5.here hx rfl (hb hby d38_83) rfl k) ?_
                refine vs T5 86 [(.int (Int32.ofNat sx)), (.int (Int32.ofNat kx))] (fun t k => XS.iloadN X5.here hx rfl (hb hby d38_85) rfl k) ?_
                by_cases hc14_86 : (Int32.ofNat sx) < (Int32.ofNat kx)
                · refine vs T5 89 [] (fun t k => XS.icmpNo X5.here hx rfl (hb hby d38_86) rfl (XT.ii_le_f hc14_86) k) ?_
                  refine vs T5 90 [(.int (1 : Int32))] (fun t k => XS.iconst X5.here hx rfl (hb hby d38_89) k) ?_
                  refine vs T5 94 [(.int (1 : Int32))] (fun t k => XS.goto X5.here hx rfl (pc0 := 90) (pc' := 94) rfl (hb hby d38_90) (by decide) (by decide) k) ?_
                  exact own_fin X5 eh5 (v := some (.int (1 : Int32))) (fun h => by rw [hret] at h; cases h) hlk (fun fs hr => retN X5 hx (t := .boolean) hret (by simp) (hb hby d38_94) hr) (show ((fun (v : Option Value) (h : Heap) (L : List Loc) => Q38 Z oc kc c4 mm fx sx kx h0 n0 v h L)) (some (.int (1 : Int32))) h0 _ from ⟨(by unfold own_nb4; rw [if_pos hc1_3, if_neg hc2_9, if_neg hc4_28, if_neg hc8_48, if_neg hc11_60, if_neg hc12_69, if_neg hc13_78, if_pos hc14_86]), N5, rfl⟩) (by decide) (by decide)
                · refine vs T5 93 [] (fun t k => XS.icmpYes X5.here hx rfl (pc0 := 86) (pc' := 93) rfl (hb hby d38_86) rfl (XT.ii_le_t hc14_86) (by decide) (by decide) k) ?_
                  refine vs T5 94 [(.int (0 : Int32))] (fun t k => XS.iconst X5.here hx rfl (hb hby d38_93) k) ?_
                  exact own_fin X5 eh5 (v := some (.int (0 : Int32))) (fun h => by rw [hret] at h; cases h) hlk (fun fs hr => retN X5 hx (t := .boolean) hret (by simp) (hb hby d38_94) hr) (show ((fun (v : Option Value) (h : Heap) (L : List Loc) => Q38 Z oc kc c4 mm fx sx kx h0 n0 v h L)) (some (.int (0 : Int32))) h0 _ from ⟨(by unfold own_nb4; rw [if_pos hc1_3, if_neg hc2_9, if_neg hc4_28, if_neg hc8_48, if_neg hc11_60, if_neg hc12_69, if_neg hc13_78, if_neg hc14_86]), N5, rfl⟩) (by decide) (by decide)
  · refine vs T0 12 [] (fun t k => XS.icmpYes X0.here hx rfl (pc0 := 3) (pc' := 12) rfl (hb hby d38_3) rfl (XT.ii_ge_t hc1_3) (by decide) (by decide) k) ?_
    refine vs T0 13 [(.int (1 : Int32))] (fun t k => XS.iconst X0.here hx rfl (hb hby d38_12) k) ?_
    exact own_fin X0 e0 (v := some (.int (1 : Int32))) (fun h => by rw [hret] at h; cases h) hlk (fun fs hr => retN X0 hx (t := .boolean) hret (by simp) (hb hby d38_13) hr) (show ((fun (v : Option Value) (h : Heap) (L : List Loc) => Q38 Z oc kc c4 mm fx sx kx h0 n0 v h L)) (some (.int (1 : Int32))) h0 _ from ⟨(by unfold own_nb4; rw [if_neg hc1_3]), N0, rfl⟩) (by decide) (by decide)
theorem ef_38 (m : MethodId) (oc : Addr) (mm : Nat) (fx : Nat) (sx : Nat) (kx : Nat) : entryFrame m #[(.ref oc), (.int (Int32.ofNat mm)), (.int (Int32.ofNat fx)), (.int (Int32.ofNat sx)), (.int (Int32.ofNat kx))] 7 = mkF m 0 #[vr oc, vi (Int32.ofNat mm), vi (Int32.ofNat fx), vi (Int32.ofNat sx), vi (Int32.ofNat kx), .unset, .unset] [] := by first | (simp [entryFrame, mkF, argsToLocals, Value.category, maxLocals]; done) | rfl
theorem rm38 (l : Launch) (Z : State) (a0 : Array Value) (hw : ∀ d ∈ tables_1, d.before a0 Z = true) (ws : List Jvm.Cond) (oc : Addr) (kc : ClassId) (c4 : List Int32) (mm : Nat) (fx : Nat) (sx : Nat) (kx : Nat) (h0 : Heap) (n0 : Nat) (Z0 : n0 ≤ h0.size) (VC : Arv Z h0 oc kc .int (Int32.ofNat 4) (own_iv c4) (.int (0 : Int32))) (hfx : fx < 4) (hsx : sx < 4) (hkx : kx < 4) :
    MetFree l (⟨"com/example/clew/clew/CharFilterTestedPinLaw", "notBetter", "([IIIII)Z"⟩ : MethodName) (head1 (Jvm.Cond.code (⟨"com/example/clew/clew/CharFilterTestedPinLaw", "notBetter", "([IIIII)Z"⟩ : MethodName) method_7_code 7 (some .boolean) :: ws) ({ frames := 1, cells := 0, slots := 0, locals := 12 } : Room)) (fun a U => a = #[(.ref oc), (.int (Int32.ofNat mm)), (.int (Int32.ofNat fx)), (.int (Int32.ofNat sx)), (.int (Int32.ofNat kx))] ∧ Z.Warmed39 U.vm ∧ U.heap = h0) (fun _ _ _ _ _ => True) (fun _ U o U' => ∃ v L, o = .returned v ∧ Q38 Z oc kc c4 mm fx sx kx h0 n0 v U'.heap L ∧ FrameEnd U o U' L ({ frames := 1, cells := 0, slots := 0, locals := 12 } : Room).cells ({ frames := 1, cells := 0, slots := 0, locals := 12 } : Room).slots) := by
  refine MetFree.of_bodySF (plainFor_of_name pn_8) hisR ?_
  intro p e s m args below meth c s₁ Bd hml0 hP hK
  obtain ⟨rfl, hZ, hh⟩ := hP
  have e0 : s₁.heap = h0 := by rw [← hh, Bd.state]; rfl
  rw [ef_38 m oc mm fx sx kx]
  exact b38 oc kc c4 mm fx sx kx ⟨Bd.exec, hZ, hw, Bd.bytes, hml0, findClass_of_methodNamed Bd.named, Bd.returns, Bd.notSynchronized, (name_of_methodNamed Bd.named Bd.method).1⟩ (Stand.of_body Bd) e0 Z0 (Fr.nil n0) VC hfx hsx hkx
theorem own_csN {j fr sh bb t acc : Int32} (h : j < fr) : own_cs j fr sh bb t acc = acc := if_pos h
theorem own_csY {j fr t px acc : Int32} {n : Nat} (h : ¬ j < fr) : own_cs j fr (own_sh n) (own_bk px (own_sh n)) t acc = acc + (if own_bi n t = own_bi n px then 1 else 0) := by
  unfold own_cs
  have b1 := own_bilt n t
  have b2 := own_bilt n px
  have b3 := own_nq4 n
  rw [if_neg h, own_bkbi, own_bkbi]
  by_cases q : own_bi n t = own_bi n px
  · rw [if_pos q, if_pos (congrArg Int32.ofNat q)]
  · rw [if_neg q, if_neg (fun z => q ((own_oinj (by omega) (by omega)).mp z)), Int32.add_zero]
theorem own_cueq {px t0 t1 t2 t3 : Int32} {fr : Nat} (h : fr ≤ 4) : own_cu px t0 t1 t2 t3 (Int32.ofNat fr) (own_sh (4 - fr)) = own_cn (4 - fr) (own_sl [t0, t1, t2, t3] fr (4 - fr)) (own_bi (4 - fr) px) (4 - fr) := by
  have : fr = 0 ∨ fr = 1 ∨ fr = 2 ∨ fr = 3 ∨ fr = 4 := by omega
  unfold own_cu
  rcases this with rfl | rfl | rfl | rfl | rfl
  · rw [own_csY (by decide), own_csY (by decide), own_csY (by decide), own_csY (by decide)]; rfl
  · rw [own_csY (j := 3) (by decide), own_csY (j := 2) (by decide), own_csY (j := 1) (by decide), own_csN (j := 0) (by decide)]; rfl
  · rw [own_csY (j := 3) (by decide), own_csY (j := 2) (by decide), own_csN (j := 1) (by decide), own_csN (j := 0) (by decide)]; rfl
  · rw [own_csY (j := 3) (by decide), own_csN (j := 2) (by decide), own_csN (j := 1) (by decide), own_csN (j := 0) (by decide)]; rfl
  · rw [own_csN (j := 3) (by decide), own_csN (j := 2) (by decide), own_csN (j := 1) (by decide), own_csN (j := 0) (by decide)]; rfl
/-- what the law counts is what Counts counted -/
theorem own_cteq {t0 t1 t2 t3 : Int32} {fr j : Nat} {cs : List Int32} (h : fr ≤ 4) : own_ct (4 - fr) (own_adds (4 - fr) (own_sl [t0, t1, t2, t3] fr (4 - fr)) (4 - fr) (List.replicate (own_nq (4 - fr)) 0)) cs j = own_cu (cs.getD j 0) t0 t1 t2 t3 (Int32.ofNat fr) (own_sh (4 - fr)) := by
  rw [own_cueq h]
  unfold own_ct
  rw [own_addsget _ _ _ _ (by simp), if_pos (own_bilt _ _)]
  have e : (List.replicate (own_nq (4 - fr)) (0 : Int32)).getD (own_bi (4 - fr) (cs.getD j 0)) 0 = 0 := by
    simp only [List.getD_eq_getElem?_getD, List.getElem?_replicate]; split <;> rfl
  rw [e, Int32.zero_add]
theorem own_faT {c4 : List Int32} {mm f k : Nat} (hm : mm ≤ 4) (hf : f < 4) (hk : k < 4) : ¬ own_fa c4 mm f k = 0 ↔ (k < mm → (k < f → c4.getD f 0 < c4.getD k 0) ∧ (¬ k < f → ¬ c4.getD k 0 < c4.getD f 0)) := by
  unfold own_fa
  have z1 : ¬ (1 : Int32) = 0 := by decide
  by_cases a : k < mm
  · rw [if_pos (own_lt a (by omega))]
    by_cases b : k < f
    · rw [if_pos (own_lt b (by omega))]
      by_cases d : c4.getD f 0 < c4.getD k 0
      · rw [if_pos d]; exact ⟨fun _ _ => ⟨fun _ => d, fun q => absurd b q⟩, fun _ => z1⟩
      · rw [if_neg d]; exact ⟨fun q => absurd rfl q, fun q => absurd ((q a).1 b) d⟩
    · rw [if_neg (own_nlt b (by omega) (by omega))]
      by_cases d : c4.getD k 0 < c4.getD f 0
      · rw [if_pos d]; exact ⟨fun q => absurd rfl q, fun q => absurd d ((q a).2 b)⟩
      · rw [if_neg d]; exact ⟨fun _ _ => ⟨fun q => absurd q b, fun _ => d⟩, fun _ => z1⟩
  · rw [if_neg (own_nlt a (by omega) (by omega))]; exact ⟨fun _ q => absurd q a, fun _ => z1⟩
theorem own_fiT {c4 : List Int32} {mm f : Nat} (hm : mm ≤ 4) (hf : f < mm) : ¬ own_fi c4 mm f = 0 ↔ own_isF (fun j => c4.getD j 0) mm f := by
  have t := fun k (hk : k < 4) => own_faT (c4 := c4) (mm := mm) (f := f) (k := k) hm (by omega) hk
  have z1 : ¬ (1 : Int32) = 0 := by decide
  unfold own_fi
  by_cases a0 : own_fa c4 mm f 0 = 0
  · rw [if_pos a0]; exact ⟨fun q => absurd rfl q, fun q => absurd a0 ((t 0 (by omega)).mpr fun h => q.2 0 h)⟩
  rw [if_neg a0]
  by_cases a1 : own_fa c4 mm f 1 = 0
  · rw [if_pos a1]; exact ⟨fun q => absurd rfl q, fun q => absurd a1 ((t 1 (by omega)).mpr fun h => q.2 1 h)⟩
  rw [if_neg a1]
  by_cases a2 : own_fa c4 mm f 2 = 0
  · rw [if_pos a2]; exact ⟨fun q => absurd rfl q, fun q => absurd a2 ((t 2 (by omega)).mpr fun h => q.2 2 h)⟩
  rw [if_neg a2]
  by_cases a3 : own_fa c4 mm f 3 = 0
  · rw [if_pos a3]; exact ⟨fun q => absurd rfl q, fun q => absurd a3 ((t 3 (by omega)).mpr fun h => q.2 3 h)⟩
  rw [if_neg a3]
  refine ⟨fun _ => ⟨hf, fun k hk => ?_⟩, fun _ => z1⟩
  have : k = 0 ∨ k = 1 ∨ k = 2 ∨ k = 3 := by omega
  rcases this with rfl | rfl | rfl | rfl
  · exact (t 0 (by omega)).mp a0 hk
  · exact (t 1 (by omega)).mp a1 hk
  · exact (t 2 (by omega)).mp a2 hk
  · exact (t 3 (by omega)).mp a3 hk
theorem own_uni {c : Nat → Int32} {m f f' : Nat} (h : own_isF c m f) (h' : own_isF c m f') : f = f' := by
  obtain ⟨a, b⟩ := h
  obtain ⟨a', b'⟩ := h'
  by_cases q : f < f'
  · exact absurd ((b' f a).1 q) ((b f' a').2 (by omega))
  · by_cases q' : f' < f
    · exact absurd ((b f' a').1 q') ((b' f a).2 (by omega))
    · omega
theorem own_nbT {c4 : List Int32} {m f s k : Nat} (hm : m ≤ 4) (hf : f < m) (hs : s < m) (hk : k < 4) (h : k < m → own_nbt (fun j => c4.getD j 0) m f s k) : ¬ own_nb4 c4 m f s k = 0 := by
  have z1 : ¬ (1 : Int32) = 0 := by decide
  have g1 := own_gap4 (k := k) (f := f) (by omega) (by omega)
  have g2 := own_gap4 (k := s) (f := f) (by omega) (by omega)
  unfold own_nb4
  rw [own_abg (by omega) (by omega), own_abg (by omega) (by omega), own_half hm]
  by_cases a : k < m
  · rw [if_pos (own_lt a (by omega))]
    by_cases e : k = s
    · rw [if_pos (congrArg Int32.ofNat e)]; exact z1
    rw [if_neg (fun z => e ((own_oinj (by omega) (by omega)).mp z))]
    by_cases w : own_gap k f < m / 2
    · rw [if_pos (own_lt w (by omega))]; exact z1
    rw [if_neg (own_nlt w (by omega) (by omega))]
    rcases h a with q | q | ⟨q, q2⟩
    · exact absurd q w
    · have q' : c4.getD s 0 < c4.getD k 0 := q
      rw [if_neg (fun z => by rw [Int32.lt_iff_toInt_lt] at z q'; omega), if_pos q']; exact z1
    · have q' : c4.getD k 0 = c4.getD s 0 := q
      rw [q', if_neg (fun z => Int32.lt_irrefl z), if_neg (fun z => Int32.lt_irrefl z)]
      rcases q2 with q2 | ⟨q2, q3⟩
      · rw [if_neg (own_nlt (by omega) (by omega) (by omega)), if_pos (own_lt q2 (by omega))]; exact z1
      · rw [if_neg (own_nlt (by omega) (by omega) (by omega)), if_neg (own_nlt (by omega) (by omega) (by omega)), if_pos (own_lt (by omega) (by omega))]; exact z1
  · rw [if_neg (own_nlt a (by omega) (by omega))]; exact z1
theorem own_and {x : Int32} (k : Nat) (hk : k < 100) : ∃ n, n ≤ k ∧ x &&& Int32.ofNat k = Int32.ofNat n := by
  refine ⟨(x &&& Int32.ofNat k).toBitVec.toNat, ?_, ?_⟩
  · rw [Int32.toBitVec_and, BitVec.toNat_and]
    refine Nat.le_trans Nat.and_le_right ?_
    show (BitVec.ofNat 32 k).toNat ≤ k
    rw [BitVec.toNat_ofNat]; exact Nat.mod_le _ _
  · apply Int32.toBitVec_inj.mp
    show (x &&& Int32.ofNat k).toBitVec = BitVec.ofNat 32 (x &&& Int32.ofNat k).toBitVec.toNat
    generalize (x &&& Int32.ofNat k).toBitVec = w
    simp
theorem own_mv (x : Int32) : ∃ mm, 1 ≤ mm ∧ mm ≤ 4 ∧ (x &&& (3 : Int32)) + (1 : Int32) = Int32.ofNat mm := by
  obtain ⟨n, h1, h2⟩ := own_and (x := x) 3 (by omega)
  exact ⟨n + 1, by omega, by omega, by rw [← own_one, ← h2]; rfl⟩
theorem own_fv (x : Int32) : ∃ fr, fr ≤ 4 ∧ (x &&& (7 : Int32)) % (5 : Int32) = Int32.ofNat fr := by
  obtain ⟨n, h1, h2⟩ := own_and (x := x) 7 (by omega)
  have h2' : x &&& (7 : Int32) = Int32.ofNat n := h2
  rw [h2']
  have : n = 0 ∨ n = 1 ∨ n = 2 ∨ n = 3 ∨ n = 4 ∨ n = 5 ∨ n = 6 ∨ n = 7 := by omega
  rcases this with rfl | rfl | rfl | rfl | rfl | rfl | rfl | rfl
  · exact ⟨0, by omega, by decide⟩
  · exact ⟨1, by omega, by decide⟩
  · exact ⟨2, by omega, by decide⟩
  · exact ⟨3, by omega, by decide⟩
  · exact ⟨4, by omega, by decide⟩
  · exact ⟨0, by omega, by decide⟩
  · exact ⟨1, by omega, by decide⟩
  · exact ⟨2, by omega, by decide⟩
theorem own_i2c (x : Int32) : own_ch (x.toUInt32.toUInt16.toUInt32.toInt32) := by
  apply Int32.toBitVec_inj.mp
  show (((x.toBitVec.setWidth 16).setWidth 32).setWidth 16).setWidth 32 = (x.toBitVec.setWidth 16).setWidth 32
  apply BitVec.eq_of_getLsbD_eq
  intro i hi
  simp only [BitVec.getLsbD_setWidth]
  by_cases q : i < 16
  · simp [q, hi]
  · simp [q]
theorem own_cpn (x : Int32) : ¬ (x &&& (2147483647 : Int32)) < 0 := by
  have m : (x &&& (2147483647 : Int32)).toBitVec.msb = false := by
    rw [Int32.toBitVec_and, BitVec.msb_and]
    have : ((2147483647 : Int32).toBitVec).msb = false := by decide
    rw [this]; simp
  rw [BitVec.msb_eq_toInt] at m
  have m2 := of_decide_eq_false m
  rw [Int32.lt_iff_toInt_lt]
  exact m2
theorem own_pickc {c c' : Nat → Int32} {m f s : Nat} (h : own_pick c m f s) (q : ∀ j, j < m → c' j = c j) : own_pick c' m f s := by
  obtain ⟨⟨h1, h2⟩, h3, h4, h5⟩ := h
  refine ⟨⟨h1, fun k hk => ?_⟩, h3, h4, fun k hk => ?_⟩
  · rw [q f h1, q k hk]; exact h2 k hk
  · unfold own_nbt; rw [q s h3, q k hk]; exact h5 k hk
theorem own_pk4 {p0 p1 p2 p3 t0 t1 t2 t3 : Int32} {fr mm fs se : Nat} {cs : List Int32} (hfr : fr ≤ 4) (hm : mm ≤ 4) (hl : cs.length = mm) (hcs : ∀ j, j < mm → cs.getD j 0 = [p0, p1, p2, p3].getD j 0)
    (h : own_pick (own_ct (4 - fr) (own_adds (4 - fr) (own_sl [t0, t1, t2, t3] fr (4 - fr)) (4 - fr) (List.replicate (own_nq (4 - fr)) 0)) cs) cs.length fs se) :
    own_pick (fun j => [own_cu p0 t0 t1 t2 t3 (Int32.ofNat fr) (own_sh (4 - fr)), own_cu p1 t0 t1 t2 t3 (Int32.ofNat fr) (own_sh (4 - fr)), own_cu p2 t0 t1 t2 t3 (Int32.ofNat fr) (own_sh (4 - fr)), own_cu p3 t0 t1 t2 t3 (Int32.ofNat fr) (own_sh (4 - fr))].getD j 0) mm fs se := by
  rw [hl] at h
  refine own_pickc h fun j hj => ?_
  rw [own_cteq hfr, hcs j hj]
  have : j = 0 ∨ j = 1 ∨ j = 2 ∨ j = 3 := by omega
  rcases this with rfl | rfl | rfl | rfl <;> rfl
theorem own_who {c4 : List Int32} {mm fs se lo hi : Nat} (hm : mm ≤ 4) (hpk : own_pick (fun j => c4.getD j 0) mm fs se) (hlo : lo = min fs se) (hhi : hi = max fs se) :
    (¬ own_fi c4 mm lo = 0 → lo = fs ∧ hi = se) ∧ (own_fi c4 mm lo = 0 → hi = fs ∧ lo = se ∧ lo ≠ hi) := by
  have h1 := hpk.1.1
  have h2 := hpk.2.1
  refine ⟨fun q => ?_, fun q => ?_⟩
  · have := own_uni ((own_fiT hm (by omega)).mp q) hpk.1
    omega
  · have : lo ≠ fs := fun z => (own_fiT hm (by omega)).mpr (by rw [z]; exact hpk.1) q
    omega
theorem own_ch4 {t0 t1 t2 t3 : Int32} (h0 : own_ch t0) (h1 : own_ch t1) (h2 : own_ch t2) (h3 : own_ch t3) (j : Nat) (hj : j < 4) : own_ch ([t0, t1, t2, t3].getD j 0) := by
  have : j = 0 ∨ j = 1 ∨ j = 2 ∨ j = 3 := by omega
  rcases this with rfl | rfl | rfl | rfl
  · exact h0
  · exact h1
  · exact h2
  · exact h3
theorem pd_29 : parseMethodDescriptor "([IIIII)Z" = some ⟨[(.array .int), .int, .int, .int, .int], some .boolean⟩ := by decide +kernel
theorem b0_443  (pat : Int64) (txt : Int64) (shp : Int32) (cpy : Int32) (p0 : Int32) (p1 : Int32) (p2 : Int32) (p3 : Int32) (ta0 : Int32) (ta1 : Int32) (ta2 : Int32) (ta3 : Int32) (fr : Nat) (mm : Nat) (o16 : Addr) (o17 : Addr) (o18 : Addr) (o19 : Addr) (o20 : Addr) (o21 : Addr) (lo : Nat) (hi : Nat) (sh : Int32) (oc : Addr) (kc : ClassId) (c4 : List Int32) (fx : Nat) (sx : Nat)
    (C : own_C p s m meth c Z a0 code maxLocals "com/example/clew/clew/CharFilterTestedPinLaw" ret "law") (X0 : Stand p l e room_1 s m args below meth c T0 locs 23 16545) (e0 : T0.heap = h0) (Z0 : n0 ≤ h0.size) (N0 : Fr n0 locs) (VC : Arv Z h0 oc kc .int (Int32.ofNat 4) (own_iv c4) (.int (0 : Int32))) (hmm4 : mm ≤ 4) (hpk : own_pick (fun j => c4.getD j 0) mm fx sx) :
    own_Go p.tables e below (T0.setTop (mkF m 443 #[.val (.long pat), .second, .val (.long txt), .second, vi shp, vi cpy, vi (Int32.ofNat mm), vi (Int32.ofNat fr), vi p0, vi p1, vi p2, vi p3, vi ta0, vi ta1, vi ta2, vi ta3, vr o16, vr o17, vr o18, vr o19, vr o20, vr o21, vi (Int32.ofNat lo), vi (Int32.ofNat hi), vi sh, vr oc, vi (Int32.ofNat fx), vi (Int32.ofNat sx)] [])) (own_K s (fun (v : Option Value) (h : Heap) (L : List Loc) => v = some (.int (1 : Int32)) ∧ Fr n0 L) room_1.cells room_1.slots) := by
  obtain ⟨hx, hZ, hw, hby, hml, hown, hret, hlk, hnm⟩ := C
  have hf := hpk.1.1
  have hs := hpk.2.1
  have hg4 := own_gap4 (k := sx) (f := fx) (by omega) (by omega)
  refine vs T0 445 [(.int (Int32.ofNat sx))] (fun t k => XS.iload X0.here hx rfl (hb hby at_443) rfl k) ?_
  refine vs T0 447 [(.int (Int32.ofNat fx)), (.int (Int32.ofNat sx))] (fun t k => XS.iload X0.here hx rfl (hb hby at_445) rfl k) ?_
  refine vs T0 448 [(.int ((Int32.ofNat sx) - (Int32.ofNat fx)))] (fun t k => XS.isub X0.here hx rfl (hb hby at_447) rfl k) ?_
  obtain ⟨_, _, ⟨T1, L1, k1, n1⟩, -, X1, ⟨Lc1, hQ1, l1, y1, z1⟩, st1⟩ := Jvm.LawKit.callS X0 hx (y := (⟨"java/lang/Math", "abs", "(I)I"⟩ : MethodName)) hown (mvT hZ (ww hw 215 rfl)) (mvT hZ (ww hw 144 rfl)) (mvT hZ (ww hw 69 rfl)) (mvT hZ (ww hw 145 rfl)) (by decide) (backOf (W := 0) (rm27 l Z a0 hw [] ((Int32.ofNat sx) - (Int32.ofNat fx)) h0 n0 Z0) hZ (ww hw 145 rfl) (ww hw 69 rfl) (by decide) (by decide)) (g := (mkF m 448 #[.val (.long pat), .second, .val (.long txt), .second, vi shp, vi cpy, vi (Int32.ofNat mm), vi (Int32.ofNat fr), vi p0, vi p1, vi p2, vi p3, vi ta0, vi ta1, vi ta2, vi ta3, vr o16, vr o17, vr o18, vr o19, vr o20, vr o21, vi (Int32.ofNat lo), vi (Int32.ofNat hi), vi sh, vr oc, vi (Int32.ofNat fx), vi (Int32.ofNat sx)] [(.int ((Int32.ofNat sx) - (Int32.ofNat fx)))])) rfl (by rw [hml]; rfl) (argsL := [(.int ((Int32.ofNat sx) - (Int32.ofNat fx)))]) (rest := []) (lenOf pd_0 rfl) rfl (by show 2 * 0 + _ ≤ _; exact Nat.le_of_eq rfl) (hb hby at_448) (fun _ _ => ⟨rfl, e0, (by decide : 23 + 0 ≤ _), (by decide : 16545 + 0 ≤ _)⟩)
  dsimp only [Pt.U, Pt.locs, Pt.cells, Pt.slots] at X1 l1 y1 z1 st1 hQ1
  subst l1 y1 z1
  obtain ⟨rfl, Nq1, eh1⟩ := hQ1
  have N1 := Fr.app N0 Nq1
  refine vs T1 451 [(.int (own_ab ((Int32.ofNat sx) - (Int32.ofNat fx))))] (fun t k => st1 t k) ?_
  rw [own_abg (by omega) (by omega)]
  refine vs T1 453 [(.int (Int32.ofNat mm)), (.int (Int32.ofNat (own_gap sx fx)))] (fun t k => XS.iload X1.here hx rfl (hb hby at_451) rfl k) ?_
  refine vs T1 454 [(.int (2 : Int32)), (.int (Int32.ofNat mm)), (.int (Int32.ofNat (own_gap sx fx)))] (fun t k => XS.iconst X1.here hx rfl (hb hby at_453) k) ?_
  refine vs T1 455 [(.int ((Int32.ofNat mm) / (2 : Int32))), (.int (Int32.ofNat (own_gap sx fx)))] (fun t k => XS.idiv X1.here hx rfl (hb hby at_454) rfl (by decide) k) ?_
  rw [own_half hmm4]
  have hc2_455 : ¬ ((Int32.ofNat (own_gap sx fx)) < (Int32.ofNat (mm / 2))) := own_nlt hpk.2.2.1 (by omega) (by omega)
  refine vs T1 460 [] (fun t k => XS.icmpYes X1.here hx rfl (pc0 := 455) (pc' := 460) rfl (hb hby at_455) rfl (XT.ii_ge_t hc2_455) (by decide) (by decide) k) ?_
  refine vs T1 462 [(.ref oc)] (fun t k => XS.aload X1.here hx rfl (hb hby at_460) rfl rfl k) ?_
  refine vs T1 464 [(.int (Int32.ofNat mm)), (.ref oc)] (fun t k => XS.iload X1.here hx rfl (hb hby at_462) rfl k) ?_
  refine vs T1 466 [(.int (Int32.ofNat fx)), (.int (Int32.ofNat mm)), (.ref oc)] (fun t k => XS.iload X1.here hx rfl (hb hby at_464) rfl k) ?_
  refine vs T1 468 [(.int (Int32.ofNat sx)), (.int (Int32.ofNat fx)), (.int (Int32.ofNat mm)), (.ref oc)] (fun t k => XS.iload X1.here hx rfl (hb hby at_466) rfl k) ?_
  refine vs T1 469 [(.int (0 : Int32)), (.int (Int32.ofNat sx)), (.int (Int32.ofNat fx)), (.int (Int32.ofNat mm)), (.ref oc)] (fun t k => XS.iconst X1.here hx rfl (hb hby at_468) k) ?_
  obtain ⟨_, _, ⟨T3, L3, k3, n3⟩, -, X3, ⟨Lc3, hQ3, l3, y3, z3⟩, st3⟩ := Jvm.LawKit.callS X1 hx (y := (⟨"com/example/clew/clew/CharFilterTestedPinLaw", "notBetter", "([IIIII)Z"⟩ : MethodName)) hown (mvT hZ (ww hw 216 rfl)) (mvT hZ (ww hw 217 rfl)) (mvT hZ (ww hw 203 rfl)) (mvT hZ (ww hw 218 rfl)) (by decide) (backOf (W := 0) (rm38 l Z a0 hw [] oc kc c4 mm fx sx 0 h0 n0 Z0 VC (by omega) (by omega) (by omega)) hZ (ww hw 218 rfl) (ww hw 203 rfl) (by decide) (by decide)) (g := (mkF m 469 #[.val (.long pat), .second, .val (.long txt), .second, vi shp, vi cpy, vi (Int32.ofNat mm), vi (Int32.ofNat fr), vi p0, vi p1, vi p2, vi p3, vi ta0, vi ta1, vi ta2, vi ta3, vr o16, vr o17, vr o18, vr o19, vr o20, vr o21, vi (Int32.ofNat lo), vi (Int32.ofNat hi), vi sh, vr oc, vi (Int32.ofNat fx), vi (Int32.ofNat sx)] [(.int (0 : Int32)), (.int (Int32.ofNat sx)), (.int (Int32.ofNat fx)), (.int (Int32.ofNat mm)), (.ref oc)])) rfl (by rw [hml]; rfl) (argsL := [(.ref oc), (.int (Int32.ofNat mm)), (.int (Int32.ofNat fx)), (.int (Int32.ofNat sx)), (.int (0 : Int32))]) (rest := []) (lenOf pd_29 rfl) rfl (by show 2 * 0 + _ ≤ _; exact Nat.le_of_eq rfl) (hb hby at_469) (fun _ _ => ⟨rfl, eh1, (by decide : (23 + 0) + 0 ≤ _), (by decide : (16545 + 0) + 0 ≤ _)⟩)
  dsimp only [Pt.U, Pt.locs, Pt.cells, Pt.slots] at X3 l3 y3 z3 st3 hQ3
  subst l3 y3 z3
  obtain ⟨rfl, Nq3, eh3⟩ := hQ3
  have N3 := Fr.app N1 Nq3
  refine vs T3 472 [(.int (own_nb4 c4 mm fx sx 0))] (fun t k => st3 t k) ?_
  have hc4_472 : ¬ ((own_nb4 c4 mm fx sx 0) = (0 : Int32)) := own_nbT hmm4 hf hs (by omega) (fun h => hpk.2.2.2 0 h)
  refine vs T3 475 [] (fun t k => XS.ifNo X3.here hx rfl (hb hby at_472) rfl (XT.i0_eq_f hc4_472) k) ?_
  refine vs T3 477 [(.ref oc)] (fun t k => XS.aload X3.here hx rfl (hb hby at_475) rfl rfl k) ?_
  refine vs T3 479 [(.int (Int32.ofNat mm)), (.ref oc)] (fun t k => XS.iload X3.here hx rfl (hb hby at_477) rfl k) ?_
  refine vs T3 481 [(.int (Int32.ofNat fx)), (.int (Int32.ofNat mm)), (.ref oc)] (fun t k => XS.iload X3.here hx rfl (hb hby at_479) rfl k) ?_
  refine vs T3 483 [(.int (Int32.ofNat sx)), (.int (Int32.ofNat fx)), (.int (Int32.ofNat mm)), (.ref oc)] (fun t k => XS.iload X3.here hx rfl (hb hby at_481) rfl k) ?_
  refine vs T3 484 [(.int (1 : Int32)), (.int (Int32.ofNat sx)), (.int (Int32.ofNat fx)), (.int (Int32.ofNat mm)), (.ref oc)] (fun t k => XS.iconst X3.here hx rfl (hb hby at_483) k) ?_
  obtain ⟨_, _, ⟨T5, L5, k5, n5⟩, -, X5, ⟨Lc5, hQ5, l5, y5, z5⟩, st5⟩ := Jvm.LawKit.callS X3 hx (y := (⟨"com/example/clew/clew/CharFilterTestedPinLaw", "notBetter", "([IIIII)Z"⟩ : MethodName)) hown (mvT hZ (ww hw 216 rfl)) (mvT hZ (ww hw 217 rfl)) (mvT hZ (ww hw 203 rfl)) (mvT hZ (ww hw 218 rfl)) (by decide) (backOf (W := 0) (rm38 l Z a0 hw [] oc kc c4 mm fx sx 1 h0 n0 Z0 VC (by omega) (by omega) (by omega)) hZ (ww hw 218 rfl) (ww hw 203 rfl) (by decide) (by decide)) (g := (mkF m 484 #[.val (.long pat), .second, .val (.long txt), .second, vi shp, vi cpy, vi (Int32.ofNat mm), vi (Int32.ofNat fr), vi p0, vi p1, vi p2, vi p3, vi ta0, vi ta1, vi ta2, vi ta3, vr o16, vr o17, vr o18, vr o19, vr o20, vr o21, vi (Int32.ofNat lo), vi (Int32.ofNat hi), vi sh, vr oc, vi (Int32.ofNat fx), vi (Int32.ofNat sx)] [(.int (1 : Int32)), (.int (Int32.ofNat sx)), (.int (Int32.ofNat fx)), (.int (Int32.ofNat mm)), (.ref oc)])) rfl (by rw [hml]; rfl) (argsL := [(.ref oc), (.int (Int32.ofNat mm)), (.int (Int32.ofNat fx)), (.int (Int32.ofNat sx)), (.int (1 : Int32))]) (rest := []) (lenOf pd_29 rfl) rfl (by show 2 * 0 + _ ≤ _; exact Nat.le_of_eq rfl) (hb hby at_484) (fun _ _ => ⟨rfl, eh3, (by decide : ((23 + 0) + 0) + 0 ≤ _), (by decide : ((16545 + 0) + 0) + 0 ≤ _)⟩)
  dsimp only [Pt.U, Pt.locs, Pt.cells, Pt.slots] at X5 l5 y5 z5 st5 hQ5
  subst l5 y5 z5
  obtain ⟨rfl, Nq5, eh5⟩ := hQ5
  have N5 := Fr.app N3 Nq5
  refine vs T5 487 [(.int (own_nb4 c4 mm fx sx 1))] (fun t k => st5 t k) ?_
  have hc6_487 : ¬ ((own_nb4 c4 mm fx sx 1) = (0 : Int32)) := own_nbT hmm4 hf hs (by omega) (fun h => hpk.2.2.2 1 h)
  refine vs T5 490 [] (fun t k => XS.ifNo X5.here hx rfl (hb hby at_487) rfl (XT.i0_eq_f hc6_487) k) ?_
  refine vs T5 492 [(.ref oc)] (fun t k => XS.aload X5.here hx rfl (hb hby at_490) rfl rfl k) ?_
  refine vs T5 494 [(.int (Int32.ofNat mm)), (.ref oc)] (fun t k => XS.iload X5.here hx rfl (hb hby at_492) rfl k) ?_
  refine vs T5 496 [(.int (Int32.ofNat fx)), (.int (Int32.ofNat mm)), (.ref oc)] (fun t k => XS.iload X5.here hx rfl (hb hby at_494) rfl k) ?_
  refine vs T5 498 [(.int (Int32.ofNat sx)), (.int (Int32.ofNat fx)), (.int (Int32.ofNat mm)), (.ref oc)] (fun t k => XS.iload X5.here hx rfl (hb hby at_496) rfl k) ?_
  refine vs T5 499 [(.int (2 : Int32)), (.int (Int32.ofNat sx)), (.int (Int32.ofNat fx)), (.int (Int32.ofNat mm)), (.ref oc)] (fun t k => XS.iconst X5.here hx rfl (hb hby at_498) k) ?_
  obtain ⟨_, _, ⟨T7, L7, k7, n7⟩, -, X7, ⟨Lc7, hQ7, l7, y7, z7⟩, st7⟩ := Jvm.LawKit.callS X5 hx (y := (⟨"com/example/clew/clew/CharFilterTestedPinLaw", "notBetter", "([IIIII)Z"⟩ : MethodName)) hown (mvT hZ (ww hw 216 rfl)) (mvT hZ (ww hw 217 rfl)) (mvT hZ (ww hw 203 rfl)) (mvT hZ (ww hw 218 rfl)) (by decide) (backOf (W := 0) (rm38 l Z a0 hw [] oc kc c4 mm fx sx 2 h0 n0 Z0 VC (by omega) (by omega) (by omega)) hZ (ww hw 218 rfl) (ww hw 203 rfl) (by decide) (by decide)) (g := (mkF m 499 #[.val (.long pat), .second, .val (.long txt), .second, vi shp, vi cpy, vi (Int32.ofNat mm), vi (Int32.ofNat fr), vi p0, vi p1, vi p2, vi p3, vi ta0, vi ta1, vi ta2, vi ta3, vr o16, vr o17, vr o18, vr o19, vr o20, vr o21, vi (Int32.ofNat lo), vi (Int32.ofNat hi), vi sh, vr oc, vi (Int32.ofNat fx), vi (Int32.ofNat sx)] [(.int (2 : Int32)), (.int (Int32.ofNat sx)), (.int (Int32.ofNat fx)), (.int (Int32.ofNat mm)), (.ref oc)])) rfl (by rw [hml]; rfl) (argsL := [(.ref oc), (.int (Int32.ofNat mm)), (.int (Int32.ofNat fx)), (.int (Int32.ofNat sx)), (.int (2 : Int32))]) (rest := []) (lenOf pd_29 rfl) rfl (by show 2 * 0 + _ ≤ _; exact Nat.le_of_eq rfl) (hb hby at_499) (fun _ _ => ⟨rfl, eh5, (by decide : (((23 + 0) + 0) + 0) + 0 ≤ _), (by decide : (((16545 + 0) + 0) + 0) + 0 ≤ _)⟩)
  dsimp only [Pt.U, Pt.locs, Pt.cells, Pt.slots] at X7 l7 y7 z7 st7 hQ7
  subst l7 y7 z7
  obtain ⟨rfl, Nq7, eh7⟩ := hQ7
  have N7 := Fr.app N5 Nq7
  refine vs T7 502 [(.int (own_nb4 c4 mm fx sx 2))] (fun t k => st7 t k) ?_
  have hc8_502 : ¬ ((own_nb4 c4 mm fx sx 2) = (0 : Int32)) := own_nbT hmm4 hf hs (by omega) (fun h => hpk.2.2.2 2 h)
  refine vs T7 505 [] (fun t k => XS.ifNo X7.here hx rfl (hb hby at_502) rfl (XT.i0_eq_f hc8_502) k) ?_
  refine vs T7 507 [(.ref oc)] (fun t k => XS.aload X7.here hx rfl (hb hby at_505) rfl rfl k) ?_
  refine vs T7 509 [(.int (Int32.ofNat mm)), (.ref oc)] (fun t k => XS.iload X7.here hx rfl (hb hby at_507) rfl k) ?_
  refine vs T7 511 [(.int (Int32.ofNat fx)), (.int (Int32.ofNat mm)), (.ref oc)] (fun t k => XS.iload X7.here hx rfl (hb hby at_509) rfl k) ?_
  refine vs T7 513 [(.int (Int32.ofNat sx)), (.int (Int32.ofNat fx)), (.int (Int32.ofNat mm)), (.ref oc)] (fun t k => XS.iload X7.here hx rfl (hb hby at_511) rfl k) ?_
  refine vs T7 514 [(.int (3 : Int32)), (.int (Int32.ofNat sx)), (.int (Int32.ofNat fx)), (.int (Int32.ofNat mm)), (.ref oc)] (fun t k => XS.iconst X7.here hx rfl (hb hby at_513) k) ?_
  obtain ⟨_, _, ⟨T9, L9, k9, n9⟩, -, X9, ⟨Lc9, hQ9, l9, y9, z9⟩, st9⟩ := Jvm.LawKit.callS X7 hx (y := (⟨"com/example/clew/clew/CharFilterTestedPinLaw", "notBetter", "([IIIII)Z"⟩ : MethodName)) hown (mvT hZ (ww hw 216 rfl)) (mvT hZ (ww hw 217 rfl)) (mvT hZ (ww hw 203 rfl)) (mvT hZ (ww hw 218 rfl)) (by decide) (backOf (W := 0) (rm38 l Z a0 hw [] oc kc c4 mm fx sx 3 h0 n0 Z0 VC (by omega) (by omega) (by omega)) hZ (ww hw 218 rfl) (ww hw 203 rfl) (by decide) (by decide)) (g := (mkF m 514 #[.val (.long pat), .second, .val (.long txt), .second, vi shp, vi cpy, vi (Int32.ofNat mm), vi (Int32.ofNat fr), vi p0, vi p1, vi p2, vi p3, vi ta0, vi ta1, vi ta2, vi ta3, vr o16, vr o17, vr o18, vr o19, vr o20, vr o21, vi (Int32.ofNat lo), vi (Int32.ofNat hi), vi sh, vr oc, vi (Int32.ofNat fx), vi (Int32.ofNat sx)] [(.int (3 : Int32)), (.int (Int32.ofNat sx)), (.int (Int32.ofNat fx)), (.int (Int32.ofNat mm)), (.ref oc)])) rfl (by rw [hml]; rfl) (argsL := [(.ref oc), (.int (Int32.ofNat mm)), (.int (Int32.ofNat fx)), (.int (Int32.ofNat sx)), (.int (3 : Int32))]) (rest := []) (lenOf pd_29 rfl) rfl (by show 2 * 0 + _ ≤ _; exact Nat.le_of_eq rfl) (hb hby at_514) (fun _ _ => ⟨rfl, eh7, (by decide : ((((23 + 0) + 0) + 0) + 0) + 0 ≤ _), (by decide : ((((16545 + 0) + 0) + 0) + 0) + 0 ≤ _)⟩)
  dsimp only [Pt.U, Pt.locs, Pt.cells, Pt.slots] at X9 l9 y9 z9 st9 hQ9
  subst l9 y9 z9
  obtain ⟨rfl, Nq9, eh9⟩ := hQ9
  have N9 := Fr.app N7 Nq9
  refine vs T9 517 [(.int (own_nb4 c4 mm fx sx 3))] (fun t k => st9 t k) ?_
  have hc10_517 : ¬ ((own_nb4 c4 mm fx sx 3) = (0 : Int32)) := own_nbT hmm4 hf hs (by omega) (fun h => hpk.2.2.2 3 h)
  refine vs T9 520 [] (fun t k => XS.ifNo X9.here hx rfl (hb hby at_517) rfl (XT.i0_eq_f hc10_517) k) ?_
  refine vs T9 521 [(.int (1 : Int32))] (fun t k => XS.iconst X9.here hx rfl (hb hby at_520) k) ?_
  refine vs T9 525 [(.int (1 : Int32))] (fun t k => XS.goto X9.here hx rfl (pc0 := 521) (pc' := 525) rfl (hb hby at_521) (by decide) (by decide) k) ?_
  exact own_fin X9 eh9 (v := some (.int (1 : Int32))) (fun h => by rw [hret] at h; cases h) hlk (fun fs hr => retN X9 hx (t := .boolean) hret (by simp) (hb hby at_525) hr) (show ((fun (v : Option Value) (h : Heap) (L : List Loc) => v = some (.int (1 : Int32)) ∧ Fr n0 L)) (some (.int (1 : Int32))) h0 _ from ⟨rfl, N9⟩) (by decide) (by decide)
theorem pd_30 : parseMethodDescriptor "([III)Z" = some ⟨[(.array .int), .int, .int], some .boolean⟩ := by decide +kernel
theorem b0_392  (pat : Int64) (txt : Int64) (shp : Int32) (cpy : Int32) (p0 : Int32) (p1 : Int32) (p2 : Int32) (p3 : Int32) (ta0 : Int32) (ta1 : Int32) (ta2 : Int32) (ta3 : Int32) (fr : Nat) (mm : Nat) (o16 : Addr) (o17 : Addr) (o18 : Addr) (o19 : Addr) (o20 : Addr) (o21 : Addr) (lo : Nat) (hi : Nat) (sh : Int32) (oc : Addr) (kc : ClassId) (c4 : List Int32) (fs : Nat) (se : Nat)
    (C : own_C p s m meth c Z a0 code maxLocals "com/example/clew/clew/CharFilterTestedPinLaw" ret "law") (X0 : Stand p l e room_1 s m args below meth c T0 locs 23 16545) (e0 : T0.heap = h0) (Z0 : n0 ≤ h0.size) (N0 : Fr n0 locs) (VC : Arv Z h0 oc kc .int (Int32.ofNat 4) (own_iv c4) (.int (0 : Int32))) (hmm4 : mm ≤ 4) (hpk : own_pick (fun j => c4.getD j 0) mm fs se) (hlo : lo = min fs se) (hhi : hi = max fs se) :
    own_Go p.tables e below (T0.setTop (mkF m 392 #[.val (.long pat), .second, .val (.long txt), .second, vi shp, vi cpy, vi (Int32.ofNat mm), vi (Int32.ofNat fr), vi p0, vi p1, vi p2, vi p3, vi ta0, vi ta1, vi ta2, vi ta3, vr o16, vr o17, vr o18, vr o19, vr o20, vr o21, vi (Int32.ofNat lo), vi (Int32.ofNat hi), vi sh, vr oc, .unset, .unset] [])) (own_K s (fun (v : Option Value) (h : Heap) (L : List Loc) => v = some (.int (1 : Int32)) ∧ Fr n0 L) room_1.cells room_1.slots) := by
  obtain ⟨hx, hZ, hw, hby, hml, hown, hret, hlk, hnm⟩ := C
  have hf := hpk.1.1
  have hs := hpk.2.1
  refine vs T0 394 [(.ref oc)] (fun t k => XS.aload X0.here hx rfl (hb hby at_392) rfl rfl k) ?_
  refine vs T0 396 [(.int (Int32.ofNat mm)), (.ref oc)] (fun t k => XS.iload X0.here hx rfl (hb hby at_394) rfl k) ?_
  refine vs T0 398 [(.int (Int32.ofNat lo)), (.int (Int32.ofNat mm)), (.ref oc)] (fun t k => XS.iload X0.here hx rfl (hb hby at_396) rfl k) ?_
  obtain ⟨_, _, ⟨T1, L1, k1, n1⟩, -, X1, ⟨Lc1, hQ1, l1, y1, z1⟩, st1⟩ := Jvm.LawKit.callS X0 hx (y := (⟨"com/example/clew/clew/CharFilterTestedPinLaw", "isFirst", "([III)Z"⟩ : MethodName)) hown (mvT hZ (ww hw 209 rfl)) (mvT hZ (ww hw 210 rfl)) (mvT hZ (ww hw 203 rfl)) (mvT hZ (ww hw 211 rfl)) (by decide) (backOf (W := 0) (rm36 l Z a0 hw [] oc kc c4 mm lo h0 n0 Z0 VC (by omega)) hZ (ww hw 211 rfl) (ww hw 203 rfl) (by decide) (by decide)) (g := (mkF m 398 #[.val (.long pat), .second, .val (.long txt), .second, vi shp, vi cpy, vi (Int32.ofNat mm), vi (Int32.ofNat fr), vi p0, vi p1, vi p2, vi p3, vi ta0, vi ta1, vi ta2, vi ta3, vr o16, vr o17, vr o18, vr o19, vr o20, vr o21, vi (Int32.ofNat lo), vi (Int32.ofNat hi), vi sh, vr oc, .unset, .unset] [(.int (Int32.ofNat lo)), (.int (Int32.ofNat mm)), (.ref oc)])) rfl (by rw [hml]; rfl) (argsL := [(.ref oc), (.int (Int32.ofNat mm)), (.int (Int32.ofNat lo))]) (rest := []) (lenOf pd_30 rfl) rfl (by show 2 * 0 + _ ≤ _; exact Nat.le_of_eq rfl) (hb hby at_398) (fun _ _ => ⟨rfl, e0, (by decide : 23 + 0 ≤ _), (by decide : 16545 + 0 ≤ _)⟩)
  dsimp only [Pt.U, Pt.locs, Pt.cells, Pt.slots] at X1 l1 y1 z1 st1 hQ1
  subst l1 y1 z1
  obtain ⟨rfl, Nq1, eh1⟩ := hQ1
  have N1 := Fr.app N0 Nq1
  refine vs T1 401 [(.int (own_fi c4 mm lo))] (fun t k => st1 t k) ?_
  by_cases hc2_401 : (own_fi c4 mm lo) = (0 : Int32)
  · refine vs T1 409 [] (fun t k => XS.ifYes X1.here hx rfl (pc0 := 401) (pc' := 409) rfl (hb hby at_401) rfl (XT.i0_eq_t hc2_401) (by decide) (by decide) k) ?_
    refine vs T1 411 [(.int (Int32.ofNat hi))] (fun t k => XS.iload X1.here hx rfl (hb hby at_409) rfl k) ?_
    refine vv T1 m 413 #[.val (.long pat), .second, .val (.long txt), .second, vi shp, vi cpy, vi (Int32.ofNat mm), vi (Int32.ofNat fr), vi p0, vi p1, vi p2, vi p3, vi ta0, vi ta1, vi ta2, vi ta3, vr o16, vr o17, vr o18, vr o19, vr o20, vr o21, vi (Int32.ofNat lo), vi (Int32.ofNat hi), vi sh, vr oc, vi (Int32.ofNat hi), .unset] [] (fun t k => XS.istore X1.here hx rfl (hb hby at_411) rfl (l' := #[.val (.long pat), .second, .val (.long txt), .second, vi shp, vi cpy, vi (Int32.ofNat mm), vi (Int32.ofNat fr), vi p0, vi p1, vi p2, vi p3, vi ta0, vi ta1, vi ta2, vi ta3, vr o16, vr o17, vr o18, vr o19, vr o20, vr o21, vi (Int32.ofNat lo), vi (Int32.ofNat hi), vi sh, vr oc, vi (Int32.ofNat hi), .unset]) rfl k) ?_
    refine vs T1 415 [(.ref oc)] (fun t k => XS.aload X1.here hx rfl (hb hby at_413) rfl rfl k) ?_
    refine vs T1 417 [(.int (Int32.ofNat mm)), (.ref oc)] (fun t k => XS.iload X1.here hx rfl (hb hby at_415) rfl k) ?_
    refine vs T1 419 [(.int (Int32.ofNat hi)), (.int (Int32.ofNat mm)), (.ref oc)] (fun t k => XS.iload X1.here hx rfl (hb hby at_417) rfl k) ?_
    obtain ⟨_, _, ⟨T3, L3, k3, n3⟩, -, X3, ⟨Lc3, hQ3, l3, y3, z3⟩, st3⟩ := Jvm.LawKit.callS X1 hx (y := (⟨"com/example/clew/clew/CharFilterTestedPinLaw", "isFirst", "([III)Z"⟩ : MethodName)) hown (mvT hZ (ww hw 209 rfl)) (mvT hZ (ww hw 210 rfl)) (mvT hZ (ww hw 203 rfl)) (mvT hZ (ww hw 211 rfl)) (by decide) (backOf (W := 0) (rm36 l Z a0 hw [] oc kc c4 mm hi h0 n0 Z0 VC (by omega)) hZ (ww hw 211 rfl) (ww hw 203 rfl) (by decide) (by decide)) (g := (mkF m 419 #[.val (.long pat), .second, .val (.long txt), .second, vi shp, vi cpy, vi (Int32.ofNat mm), vi (Int32.ofNat fr), vi p0, vi p1, vi p2, vi p3, vi ta0, vi ta1, vi ta2, vi ta3, vr o16, vr o17, vr o18, vr o19, vr o20, vr o21, vi (Int32.ofNat lo), vi (Int32.ofNat hi), vi sh, vr oc, vi (Int32.ofNat hi), .unset] [(.int (Int32.ofNat hi)), (.int (Int32.ofNat mm)), (.ref oc)])) rfl (by rw [hml]; rfl) (argsL := [(.ref oc), (.int (Int32.ofNat mm)), (.int (Int32.ofNat hi))]) (rest := []) (lenOf pd_30 rfl) rfl (by show 2 * 0 + _ ≤ _; exact Nat.le_of_eq rfl) (hb hby at_419) (fun _ _ => ⟨rfl, eh1, (by decide : (23 + 0) + 0 ≤ _), (by decide : (16545 + 0) + 0 ≤ _)⟩)
    dsimp only [Pt.U, Pt.locs, Pt.cells, Pt.slots] at X3 l3 y3 z3 st3 hQ3
    subst l3 y3 z3
    obtain ⟨rfl, Nq3, eh3⟩ := hQ3
    have N3 := Fr.app N1 Nq3
    refine vs T3 422 [(.int (own_fi c4 mm hi))] (fun t k => st3 t k) ?_
    have hc4_422 : ¬ ((own_fi c4 mm hi) = (0 : Int32)) := (by rw [((own_who hmm4 hpk hlo hhi).2 hc2_401).1]; exact (own_fiT hmm4 hf).mpr hpk.1)
    refine vs T3 427 [] (fun t k => XS.ifYes X3.here hx rfl (pc0 := 422) (pc' := 427) rfl (hb hby at_422) rfl (XT.i0_ne_t hc4_422) (by decide) (by decide) k) ?_
    refine vs T3 429 [(.int (Int32.ofNat hi))] (fun t k => XS.iload X3.here hx rfl (hb hby at_427) rfl k) ?_
    refine vs T3 431 [(.int (Int32.ofNat lo)), (.int (Int32.ofNat hi))] (fun t k => XS.iload X3.here hx rfl (hb hby at_429) rfl k) ?_
    have hc5_431 : ¬ ((Int32.ofNat hi) = (Int32.ofNat lo)) := (fun z => ((own_who hmm4 hpk hlo hhi).2 hc2_401).2.2 ((own_oinj (by omega) (by omega)).mp z).symm)
    refine vs T3 439 [] (fun t k => XS.icmpYes X3.here hx rfl (pc0 := 431) (pc' := 439) rfl (hb hby at_431) rfl (XT.ii_ne_t hc5_431) (by decide) (by decide) k) ?_
    refine vs T3 441 [(.int (Int32.ofNat lo))] (fun t k => XS.iload X3.here hx rfl (hb hby at_439) rfl k) ?_
    refine vv T3 m 443 #[.val (.long pat), .second, .val (.long txt), .second, vi shp, vi cpy, vi (Int32.ofNat mm), vi (Int32.ofNat fr), vi p0, vi p1, vi p2, vi p3, vi ta0, vi ta1, vi ta2, vi ta3, vr o16, vr o17, vr o18, vr o19, vr o20, vr o21, vi (Int32.ofNat lo), vi (Int32.ofNat hi), vi sh, vr oc, vi (Int32.ofNat hi), vi (Int32.ofNat lo)] [] (fun t k => XS.istore X3.here hx rfl (hb hby at_441) rfl (l' := #[.val (.long pat), .second, .val (.long txt), .second, vi shp, vi cpy, vi (Int32.ofNat mm), vi (Int32.ofNat fr), vi p0, vi p1, vi p2, vi p3, vi ta0, vi ta1, vi ta2, vi ta3, vr o16, vr o17, vr o18, vr o19, vr o20, vr o21, vi (Int32.ofNat lo), vi (Int32.ofNat hi), vi sh, vr oc, vi (Int32.ofNat hi), vi (Int32.ofNat lo)]) rfl k) ?_
    have hq : own_pick (fun j => c4.getD j 0) mm hi lo := (by obtain ⟨a, b, _⟩ := (own_who hmm4 hpk hlo hhi).2 hc2_401; rw [a, b]; exact hpk)
    exact b0_443 pat txt shp cpy p0 p1 p2 p3 ta0 ta1 ta2 ta3 fr mm o16 o17 o18 o19 o20 o21 lo hi sh oc kc c4 hi lo ⟨hx, hZ, hw, hby, hml, hown, hret, hlk, hnm⟩ X3 eh3 Z0 N3  VC hmm4 hq
  · refine vs T1 404 [] (fun t k => XS.ifNo X1.here hx rfl (hb hby at_401) rfl (XT.i0_eq_f hc2_401) k) ?_
    refine vs T1 406 [(.int (Int32.ofNat lo))] (fun t k => XS.iload X1.here hx rfl (hb hby at_404) rfl k) ?_
    refine vs T1 411 [(.int (Int32.ofNat lo))] (fun t k => XS.goto X1.here hx rfl (pc0 := 406) (pc' := 411) rfl (hb hby at_406) (by decide) (by decide) k) ?_
    refine vv T1 m 413 #[.val (.long pat), .second, .val (.long txt), .second, vi shp, vi cpy, vi (Int32.ofNat mm), vi (Int32.ofNat fr), vi p0, vi p1, vi p2, vi p3, vi ta0, vi ta1, vi ta2, vi ta3, vr o16, vr o17, vr o18, vr o19, vr o20, vr o21, vi (Int32.ofNat lo), vi (Int32.ofNat hi), vi sh, vr oc, vi (Int32.ofNat lo), .unset] [] (fun t k => XS.istore X1.here hx rfl (hb hby at_411) rfl (l' := #[.val (.long pat), .second, .val (.long txt), .second, vi shp, vi cpy, vi (Int32.ofNat mm), vi (Int32.ofNat fr), vi p0, vi p1, vi p2, vi p3, vi ta0, vi ta1, vi ta2, vi ta3, vr o16, vr o17, vr o18, vr o19, vr o20, vr o21, vi (Int32.ofNat lo), vi (Int32.ofNat hi), vi sh, vr oc, vi (Int32.ofNat lo), .unset]) rfl k) ?_
    refine vs T1 415 [(.ref oc)] (fun t k => XS.aload X1.here hx rfl (hb hby at_413) rfl rfl k) ?_
    refine vs T1 417 [(.int (Int32.ofNat mm)), (.ref oc)] (fun t k => XS.iload X1.here hx rfl (hb hby at_415) rfl k) ?_
    refine vs T1 419 [(.int (Int32.ofNat lo)), (.int (Int32.ofNat mm)), (.ref oc)] (fun t k => XS.iload X1.here hx rfl (hb hby at_417) rfl k) ?_
    obtain ⟨_, _, ⟨T6, L6, k6, n6⟩, -, X6, ⟨Lc6, hQ6, l6, y6, z6⟩, st6⟩ := Jvm.LawKit.callS X1 hx (y := (⟨"com/example/clew/clew/CharFilterTestedPinLaw", "isFirst", "([III)Z"⟩ : MethodName)) hown (mvT hZ (ww hw 209 rfl)) (mvT hZ (ww hw 210 rfl)) (mvT hZ (ww hw 203 rfl)) (mvT hZ (ww hw 211 rfl)) (by decide) (backOf (W := 0) (rm36 l Z a0 hw [] oc kc c4 mm lo h0 n0 Z0 VC (by omega)) hZ (ww hw 211 rfl) (ww hw 203 rfl) (by decide) (by decide)) (g := (mkF m 419 #[.val (.long pat), .second, .val (.long txt), .second, vi shp, vi cpy, vi (Int32.ofNat mm), vi (Int32.ofNat fr), vi p0, vi p1, vi p2, vi p3, vi ta0, vi ta1, vi ta2, vi ta3, vr o16, vr o17, vr o18, vr o19, vr o20, vr o21, vi (Int32.ofNat lo), vi (Int32.ofNat hi), vi sh, vr oc, vi (Int32.ofNat lo), .unset] [(.int (Int32.ofNat lo)), (.int (Int32.ofNat mm)), (.ref oc)])) rfl (by rw [hml]; rfl) (argsL := [(.ref oc), (.int (Int32.ofNat mm)), (.int (Int32.ofNat lo))]) (rest := []) (lenOf pd_30 rfl) rfl (by show 2 * 0 + _ ≤ _; exact Nat.le_of_eq rfl) (hb hby at_419) (fun _ _ => ⟨rfl, eh1, (by decide : (23 + 0) + 0 ≤ _), (by decide : (16545 + 0) + 0 ≤ _)⟩)
    dsimp only [Pt.U, Pt.locs, Pt.cells, Pt.slots] at X6 l6 y6 z6 st6 hQ6
    subst l6 y6 z6
    obtain ⟨rfl, Nq6, eh6⟩ := hQ6
    have N6 := Fr.app N1 Nq6
    refine vs T6 422 [(.int (own_fi c4 mm lo))] (fun t k => st6 t k) ?_
    have hc7_422 : ¬ ((own_fi c4 mm lo) = (0 : Int32)) := hc2_401
    refine vs T6 427 [] (fun t k => XS.ifYes X6.here hx rfl (pc0 := 422) (pc' := 427) rfl (hb hby at_422) rfl (XT.i0_ne_t hc7_422) (by decide) (by decide) k) ?_
    refine vs T6 429 [(.int (Int32.ofNat lo))] (fun t k => XS.iload X6.here hx rfl (hb hby at_427) rfl k) ?_
    refine vs T6 431 [(.int (Int32.ofNat lo)), (.int (Int32.ofNat lo))] (fun t k => XS.iload X6.here hx rfl (hb hby at_429) rfl k) ?_
    have hc8_431 : (Int32.ofNat lo) = (Int32.ofNat lo) := rfl
    refine vs T6 434 [] (fun t k => XS.icmpNo X6.here hx rfl (hb hby at_431) rfl (XT.ii_ne_f hc8_431) k) ?_
    refine vs T6 436 [(.int (Int32.ofNat hi))] (fun t k => XS.iload X6.here hx rfl (hb hby at_434) rfl k) ?_
    refine vs T6 441 [(.int (Int32.ofNat hi))] (fun t k => XS.goto X6.here hx rfl (pc0 := 436) (pc' := 441) rfl (hb hby at_436) (by decide) (by decide) k) ?_
    refine vv T6 m 443 #[.val (.long pat), .second, .val (.long txt), .second, vi shp, vi cpy, vi (Int32.ofNat mm), vi (Int32.ofNat fr), vi p0, vi p1, vi p2, vi p3, vi ta0, vi ta1, vi ta2, vi ta3, vr o16, vr o17, vr o18, vr o19, vr o20, vr o21, vi (Int32.ofNat lo), vi (Int32.ofNat hi), vi sh, vr oc, vi (Int32.ofNat lo), vi (Int32.ofNat hi)] [] (fun t k => XS.istore X6.here hx rfl (hb hby at_441) rfl (l' := #[.val (.long pat), .second, .val (.long txt), .second, vi shp, vi cpy, vi (Int32.ofNat mm), vi (Int32.ofNat fr), vi p0, vi p1, vi p2, vi p3, vi ta0, vi ta1, vi ta2, vi ta3, vr o16, vr o17, vr o18, vr o19, vr o20, vr o21, vi (Int32.ofNat lo), vi (Int32.ofNat hi), vi sh, vr oc, vi (Int32.ofNat lo), vi (Int32.ofNat hi)]) rfl k) ?_
    have hq : own_pick (fun j => c4.getD j 0) mm lo hi := (by obtain ⟨a, b⟩ := (own_who hmm4 hpk hlo hhi).1 hc2_401; rw [a, b]; exact hpk)
    exact b0_443 pat txt shp cpy p0 p1 p2 p3 ta0 ta1 ta2 ta3 fr mm o16 o17 o18 o19 o20 o21 lo hi sh oc kc c4 lo hi ⟨hx, hZ, hw, hby, hml, hown, hret, hlk, hnm⟩ X6 eh6 Z0 N6  VC hmm4 hq
theorem pd_31 : parseMethodDescriptor "(I[CII)I" = some ⟨[.int, (.array .char), .int, .int], some .int⟩ := by decide +kernel
theorem b0_325  (pat : Int64) (txt : Int64) (shp : Int32) (cpy : Int32) (p0 : Int32) (p1 : Int32) (p2 : Int32) (p3 : Int32) (ta0 : Int32) (ta1 : Int32) (ta2 : Int32) (ta3 : Int32) (fr : Nat) (mm : Nat) (o16 : Addr) (o17 : Addr) (o18 : Addr) (o19 : Addr) (o20 : Addr) (o21 : Addr) (cs : List Int32) (fs : Nat) (se : Nat) (lo : Nat) (hi : Nat) (ka : ClassId)
    (C : own_C p s m meth c Z a0 code maxLocals "com/example/clew/clew/CharFilterTestedPinLaw" ret "law") (X0 : Stand p l e room_1 s m args below meth c T0 locs 22 16541) (e0 : T0.heap = h0) (Z0 : n0 ≤ h0.size) (N0 : Fr n0 locs) (VT : Arv Z h0 o17 ka .char (4 : Int32) [(.int ta0), (.int ta1), (.int ta2), (.int ta3)] (.int (0 : Int32))) (hfr : fr ≤ 4) (hmm4 : mm ≤ 4) (hcl : cs.length = mm) (hcs : ∀ j, j < mm → cs.getD j 0 = [p0, p1, p2, p3].getD j 0) (hpk : own_pick (own_ct (4 - fr) (own_adds (4 - fr) (own_sl [ta0, ta1, ta2, ta3] fr (4 - fr)) (4 - fr) (List.replicate (own_nq (4 - fr)) 0)) cs) cs.length fs se) (hlo : lo = min fs se) (hhi : hi = max fs se) :
    own_Go p.tables e below (T0.setTop (mkF m 325 #[.val (.long pat), .second, .val (.long txt), .second, vi shp, vi cpy, vi (Int32.ofNat mm), vi (Int32.ofNat fr), vi p0, vi p1, vi p2, vi p3, vi ta0, vi ta1, vi ta2, vi ta3, vr o16, vr o17, vr o18, vr o19, vr o20, vr o21, vi (Int32.ofNat lo), vi (Int32.ofNat hi), .unset, .unset, .unset, .unset] [(.int (own_sh (4 - fr)))])) (own_K s (fun (v : Option Value) (h : Heap) (L : List Loc) => v = some (.int (1 : Int32)) ∧ Fr n0 L) room_1.cells room_1.slots) := by
  obtain ⟨hx, hZ, hw, hby, hml, hown, hret, hlk, hnm⟩ := C
  refine vv T0 m 327 #[.val (.long pat), .second, .val (.long txt), .second, vi shp, vi cpy, vi (Int32.ofNat mm), vi (Int32.ofNat fr), vi p0, vi p1, vi p2, vi p3, vi ta0, vi ta1, vi ta2, vi ta3, vr o16, vr o17, vr o18, vr o19, vr o20, vr o21, vi (Int32.ofNat lo), vi (Int32.ofNat hi), vi (own_sh (4 - fr)), .unset, .unset, .unset] [] (fun t k => XS.istore X0.here hx rfl (hb hby at_325) rfl (l' := #[.val (.long pat), .second, .val (.long txt), .second, vi shp, vi cpy, vi (Int32.ofNat mm), vi (Int32.ofNat fr), vi p0, vi p1, vi p2, vi p3, vi ta0, vi ta1, vi ta2, vi ta3, vr o16, vr o17, vr o18, vr o19, vr o20, vr o21, vi (Int32.ofNat lo), vi (Int32.ofNat hi), vi (own_sh (4 - fr)), .unset, .unset, .unset]) rfl k) ?_
  refine vs T0 328 [(.int (4 : Int32))] (fun t k => XS.iconst X0.here hx rfl (hb hby at_327) k) ?_
  obtain ⟨T1, h1, k1, X1, e1, E1, A1, st1⟩ := newP X0 hx hZ (ww hw 101 rfl) e0 (g := (mkF m 328 #[.val (.long pat), .second, .val (.long txt), .second, vi shp, vi cpy, vi (Int32.ofNat mm), vi (Int32.ofNat fr), vi p0, vi p1, vi p2, vi p3, vi ta0, vi ta1, vi ta2, vi ta3, vr o16, vr o17, vr o18, vr o19, vr o20, vr o21, vi (Int32.ofNat lo), vi (Int32.ofNat hi), vi (own_sh (4 - fr)), .unset, .unset, .unset] [(.int (4 : Int32))])) rfl (hb hby at_328) rfl (by decide) (cap := 4) (by decide) (by decide) (by decide) (by decide)
  obtain ⟨b1, g1⟩ : ∃ z, z = h0.size := ⟨_, rfl⟩
  rw [← g1] at A1 st1
  have ne_o17_b1 : o17 ≠ b1 := Nat.ne_of_lt (Nat.lt_of_lt_of_le VT.lt (Nat.le_of_eq g1.symm))
  have g_b1 : n0 ≤ b1 := Nat.le_trans Z0 (Nat.le_of_eq g1.symm)
  have VT'1 := VT.ext E1
  have Z1 : n0 ≤ h1.size := Nat.le_trans Z0 E1.1
  have V_b1 : Arv Z h1 b1 k1 .int (4 : Int32) [(.int (0 : Int32)), (.int (0 : Int32)), (.int (0 : Int32)), (.int (0 : Int32))] (.int (0 : Int32)) := (Arv.new A1 (by decide)).pad (pad_rep [] (.int (0 : Int32)) 4)
  refine vs T1 330 [(.ref b1)] (fun t k => st1 t k) ?_
  refine vv T1 m 332 #[.val (.long pat), .second, .val (.long txt), .second, vi shp, vi cpy, vi (Int32.ofNat mm), vi (Int32.ofNat fr), vi p0, vi p1, vi p2, vi p3, vi ta0, vi ta1, vi ta2, vi ta3, vr o16, vr o17, vr o18, vr o19, vr o20, vr o21, vi (Int32.ofNat lo), vi (Int32.ofNat hi), vi (own_sh (4 - fr)), vr b1, .unset, .unset] [] (fun t k => XS.astore X1.here hx rfl (hb hby at_330) rfl rfl (l' := #[.val (.long pat), .second, .val (.long txt), .second, vi shp, vi cpy, vi (Int32.ofNat mm), vi (Int32.ofNat fr), vi p0, vi p1, vi p2, vi p3, vi ta0, vi ta1, vi ta2, vi ta3, vr o16, vr o17, vr o18, vr o19, vr o20, vr o21, vi (Int32.ofNat lo), vi (Int32.ofNat hi), vi (own_sh (4 - fr)), vr b1, .unset, .unset]) rfl k) ?_
  refine vs T1 334 [(.ref b1)] (fun t k => XS.aload X1.here hx rfl (hb hby at_332) rfl rfl k) ?_
  refine vs T1 335 [(.int (0 : Int32)), (.ref b1)] (fun t k => XS.iconst X1.here hx rfl (hb hby at_334) k) ?_
  refine vs T1 337 [(.int p0), (.int (0 : Int32)), (.ref b1)] (fun t k => XS.iload X1.here hx rfl (hb hby at_335) rfl k) ?_
  refine vs T1 339 [(.ref o17), (.int p0), (.int (0 : Int32)), (.ref b1)] (fun t k => XS.aload X1.here hx rfl (hb hby at_337) rfl rfl k) ?_
  refine vs T1 341 [(.int (Int32.ofNat fr)), (.ref o17), (.int p0), (.int (0 : Int32)), (.ref b1)] (fun t k => XS.iload X1.here hx rfl (hb hby at_339) rfl k) ?_
  refine vs T1 343 [(.int (own_sh (4 - fr))), (.int (Int32.ofNat fr)), (.ref o17), (.int p0), (.int (0 : Int32)), (.ref b1)] (fun t k => XS.iload X1.here hx rfl (hb hby at_341) rfl k) ?_
  obtain ⟨_, _, ⟨T2, L2, k2, n2⟩, -, X2, ⟨Lc2, hQ2, l2, y2, z2⟩, st2⟩ := Jvm.LawKit.callS X1 hx (y := (⟨"com/example/clew/clew/CharFilterTestedPinLaw", "count", "(I[CII)I"⟩ : MethodName)) hown (mvT hZ (ww hw 201 rfl)) (mvT hZ (ww hw 202 rfl)) (mvT hZ (ww hw 203 rfl)) (mvT hZ (ww hw 204 rfl)) (by decide) (backOf (W := 2) (rm34 l Z a0 hw [] p0 o17 ka ta0 ta1 ta2 ta3 (Int32.ofNat fr) (own_sh (4 - fr)) h1 n0 Z1 VT'1) hZ (ww hw 204 rfl) (ww hw 203 rfl) (by decide) (by decide)) (g := (mkF m 343 #[.val (.long pat), .second, .val (.long txt), .second, vi shp, vi cpy, vi (Int32.ofNat mm), vi (Int32.ofNat fr), vi p0, vi p1, vi p2, vi p3, vi ta0, vi ta1, vi ta2, vi ta3, vr o16, vr o17, vr o18, vr o19, vr o20, vr o21, vi (Int32.ofNat lo), vi (Int32.ofNat hi), vi (own_sh (4 - fr)), vr b1, .unset, .unset] [(.int (own_sh (4 - fr))), (.int (Int32.ofNat fr)), (.ref o17), (.int p0), (.int (0 : Int32)), (.ref b1)])) rfl (by rw [hml]; rfl) (argsL := [(.int p0), (.ref o17), (.int (Int32.ofNat fr)), (.int (own_sh (4 - fr)))]) (rest := [(.int (0 : Int32)), (.ref b1)]) (lenOf pd_31 rfl) rfl (by show 2 * 0 + _ ≤ _; exact Nat.le_of_eq rfl) (hb hby at_343) (fun _ _ => ⟨rfl, e1, (by decide : (22 + 1) + 0 ≤ _), (by decide : (16541 + 4) + 0 ≤ _)⟩)
  dsimp only [Pt.U, Pt.locs, Pt.cells, Pt.slots] at X2 l2 y2 z2 st2 hQ2
  subst l2 y2 z2
  obtain ⟨rfl, Nq2, eh2⟩ := hQ2
  have N2 := Fr.app N0 Nq2
  refine vs T2 346 [(.int (own_cu p0 ta0 ta1 ta2 ta3 (Int32.ofNat fr) (own_sh (4 - fr)))), (.int (0 : Int32)), (.ref b1)] (fun t k => st2 t k) ?_
  obtain ⟨cl3, Ar3, qc3, S3, NN3, H3, G3⟩ := id V_b1
  obtain ⟨T3, h3, X3, e3, W3, st3⟩ := stI X2 hx hZ eh2 Ar3 (j := (0 : Int32)) (inb_of S3 ⟨by decide, by decide⟩) (g := (mkF m 346 #[.val (.long pat), .second, .val (.long txt), .second, vi shp, vi cpy, vi (Int32.ofNat mm), vi (Int32.ofNat fr), vi p0, vi p1, vi p2, vi p3, vi ta0, vi ta1, vi ta2, vi ta3, vr o16, vr o17, vr o18, vr o19, vr o20, vr o21, vi (Int32.ofNat lo), vi (Int32.ofNat hi), vi (own_sh (4 - fr)), vr b1, .unset, .unset] [(.int (own_cu p0 ta0 ta1 ta2 ta3 (Int32.ofNat fr) (own_sh (4 - fr)))), (.int (0 : Int32)), (.ref b1)])) rfl rfl (hb hby at_346)
  have V_b1'3 : Arv Z h3 b1 k1 .int (4 : Int32) [(.int (own_cu p0 ta0 ta1 ta2 ta3 (Int32.ofNat fr) (own_sh (4 - fr)))), (.int (0 : Int32)), (.int (0 : Int32)), (.int (0 : Int32))] (.int (0 : Int32)) := Arv.set Ar3 qc3 S3 NN3 H3 G3 rfl W3 0 rfl (Nat.le_of_ble_eq_true rfl)
  have VT'3 := VT'1.other W3 ne_o17_b1
  have N3 := Fr.snoc X3 N2 g_b1
  have Z3 : n0 ≤ h3.size := Nat.le_trans Z1 (Keep.of_wr W3).1
  refine vs T3 347 [] (fun t k => st3 t k) ?_
  refine vs T3 349 [(.ref b1)] (fun t k => XS.aload X3.here hx rfl (hb hby at_347) rfl rfl k) ?_
  refine vs T3 350 [(.int (1 : Int32)), (.ref b1)] (fun t k => XS.iconst X3.here hx rfl (hb hby at_349) k) ?_
  refine vs T3 352 [(.int p1), (.int (1 : Int32)), (.ref b1)] (fun t k => XS.iload X3.here hx rfl (hb hby at_350) rfl k) ?_
  refine vs T3 354 [(.ref o17), (.int p1), (.int (1 : Int32)), (.ref b1)] (fun t k => XS.aload X3.here hx rfl (hb hby at_352) rfl rfl k) ?_
  refine vs T3 356 [(.int (Int32.ofNat fr)), (.ref o17), (.int p1), (.int (1 : Int32)), (.ref b1)] (fun t k => XS.iload X3.here hx rfl (hb hby at_354) rfl k) ?_
  refine vs T3 358 [(.int (own_sh (4 - fr))), (.int (Int32.ofNat fr)), (.ref o17), (.int p1), (.int (1 : Int32)), (.ref b1)] (fun t k => XS.iload X3.here hx rfl (hb hby at_356) rfl k) ?_
  obtain ⟨_, _, ⟨T4, L4, k4, n4⟩, -, X4, ⟨Lc4, hQ4, l4, y4, z4⟩, st4⟩ := Jvm.LawKit.callS X3 hx (y := (⟨"com/example/clew/clew/CharFilterTestedPinLaw", "count", "(I[CII)I"⟩ : MethodName)) hown (mvT hZ (ww hw 201 rfl)) (mvT hZ (ww hw 202 rfl)) (mvT hZ (ww hw 203 rfl)) (mvT hZ (ww hw 204 rfl)) (by decide) (backOf (W := 2) (rm34 l Z a0 hw [] p1 o17 ka ta0 ta1 ta2 ta3 (Int32.ofNat fr) (own_sh (4 - fr)) h3 n0 Z3 VT'3) hZ (ww hw 204 rfl) (ww hw 203 rfl) (by decide) (by decide)) (g := (mkF m 358 #[.val (.long pat), .second, .val (.long txt), .second, vi shp, vi cpy, vi (Int32.ofNat mm), vi (Int32.ofNat fr), vi p0, vi p1, vi p2, vi p3, vi ta0, vi ta1, vi ta2, vi ta3, vr o16, vr o17, vr o18, vr o19, vr o20, vr o21, vi (Int32.ofNat lo), vi (Int32.ofNat hi), vi (own_sh (4 - fr)), vr b1, .unset, .unset] [(.int (own_sh (4 - fr))), (.int (Int32.ofNat fr)), (.ref o17), (.int p1), (.int (1 : Int32)), (.ref b1)])) rfl (by rw [hml]; rfl) (argsL := [(.int p1), (.ref o17), (.int (Int32.ofNat fr)), (.int (own_sh (4 - fr)))]) (rest := [(.int (1 : Int32)), (.ref b1)]) (lenOf pd_31 rfl) rfl (by show 2 * 0 + _ ≤ _; exact Nat.le_of_eq rfl) (hb hby at_358) (fun _ _ => ⟨rfl, e3, (by decide : ((22 + 1) + 0) + 0 ≤ _), (by decide : ((16541 + 4) + 0) + 0 ≤ _)⟩)
  dsimp only [Pt.U, Pt.locs, Pt.cells, Pt.slots] at X4 l4 y4 z4 st4 hQ4
  subst l4 y4 z4
  obtain ⟨rfl, Nq4, eh4⟩ := hQ4
  have N4 := Fr.app N3 Nq4
  refine vs T4 361 [(.int (own_cu p1 ta0 ta1 ta2 ta3 (Int32.ofNat fr) (own_sh (4 - fr)))), (.int (1 : Int32)), (.ref b1)] (fun t k => st4 t k) ?_
  obtain ⟨cl5, Ar5, qc5, S5, NN5, H5, G5⟩ := id V_b1'3
  obtain ⟨T5, h5, X5, e5, W5, st5⟩ := stI X4 hx hZ eh4 Ar5 (j := (1 : Int32)) (inb_of S5 ⟨by decide, by decide⟩) (g := (mkF m 361 #[.val (.long pat), .second, .val (.long txt), .second, vi shp, vi cpy, vi (Int32.ofNat mm), vi (Int32.ofNat fr), vi p0, vi p1, vi p2, vi p3, vi ta0, vi ta1, vi ta2, vi ta3, vr o16, vr o17, vr o18, vr o19, vr o20, vr o21, vi (Int32.ofNat lo), vi (Int32.ofNat hi), vi (own_sh (4 - fr)), vr b1, .unset, .unset] [(.int (own_cu p1 ta0 ta1 ta2 ta3 (Int32.ofNat fr) (own_sh (4 - fr)))), (.int (1 : Int32)), (.ref b1)])) rfl rfl (hb hby at_361)
  have V_b1'5 : Arv Z h5 b1 k1 .int (4 : Int32) [(.int (own_cu p0 ta0 ta1 ta2 ta3 (Int32.ofNat fr) (own_sh (4 - fr)))), (.int (own_cu p1 ta0 ta1 ta2 ta3 (Int32.ofNat fr) (own_sh (4 - fr)))), (.int (0 : Int32)), (.int (0 : Int32))] (.int (0 : Int32)) := Arv.set Ar5 qc5 S5 NN5 H5 G5 rfl W5 1 rfl (Nat.le_of_ble_eq_true rfl)
  have VT'5 := VT'3.other W5 ne_o17_b1
  have N5 := Fr.snoc X5 N4 g_b1
  have Z5 : n0 ≤ h5.size := Nat.le_trans Z3 (Keep.of_wr W5).1
  refine vs T5 362 [] (fun t k => st5 t k) ?_
  refine vs T5 364 [(.ref b1)] (fun t k => XS.aload X5.here hx rfl (hb hby at_362) rfl rfl k) ?_
  refine vs T5 365 [(.int (2 : Int32)), (.ref b1)] (fun t k => XS.iconst X5.here hx rfl (hb hby at_364) k) ?_
  refine vs T5 367 [(.int p2), (.int (2 : Int32)), (.ref b1)] (fun t k => XS.iload X5.here hx rfl (hb hby at_365) rfl k) ?_
  refine vs T5 369 [(.ref o17), (.int p2), (.int (2 : Int32)), (.ref b1)] (fun t k => XS.aload X5.here hx rfl (hb hby at_367) rfl rfl k) ?_
  refine vs T5 371 [(.int (Int32.ofNat fr)), (.ref o17), (.int p2), (.int (2 : Int32)), (.ref b1)] (fun t k => XS.iload X5.here hx rfl (hb hby at_369) rfl k) ?_
  refine vs T5 373 [(.int (own_sh (4 - fr))), (.int (Int32.ofNat fr)), (.ref o17), (.int p2), (.int (2 : Int32)), (.ref b1)] (fun t k => XS.iload X5.here hx rfl (hb hby at_371) rfl k) ?_
  obtain ⟨_, _, ⟨T6, L6, k6, n6⟩, -, X6, ⟨Lc6, hQ6, l6, y6, z6⟩, st6⟩ := Jvm.LawKit.callS X5 hx (y := (⟨"com/example/clew/clew/CharFilterTestedPinLaw", "count", "(I[CII)I"⟩ : MethodName)) hown (mvT hZ (ww hw 201 rfl)) (mvT hZ (ww hw 202 rfl)) (mvT hZ (ww hw 203 rfl)) (mvT hZ (ww hw 204 rfl)) (by decide) (backOf (W := 2) (rm34 l Z a0 hw [] p2 o17 ka ta0 ta1 ta2 ta3 (Int32.ofNat fr) (own_sh (4 - fr)) h5 n0 Z5 VT'5) hZ (ww hw 204 rfl) (ww hw 203 rfl) (by decide) (by decide)) (g := (mkF m 373 #[.val (.long pat), .second, .val (.long txt), .second, vi shp, vi cpy, vi (Int32.ofNat mm), vi (Int32.ofNat fr), vi p0, vi p1, vi p2, vi p3, vi ta0, vi ta1, vi ta2, vi ta3, vr o16, vr o17, vr o18, vr o19, vr o20, vr o21, vi (Int32.ofNat lo), vi (Int32.ofNat hi), vi (own_sh (4 - fr)), vr b1, .unset, .unset] [(.int (own_sh (4 - fr))), (.int (Int32.ofNat fr)), (.ref o17), (.int p2), (.int (2 : Int32)), (.ref b1)])) rfl (by rw [hml]; rfl) (argsL := [(.int p2), (.ref o17), (.int (Int32.ofNat fr)), (.int (own_sh (4 - fr)))]) (rest := [(.int (2 : Int32)), (.ref b1)]) (lenOf pd_31 rfl) rfl (by show 2 * 0 + _ ≤ _; exact Nat.le_of_eq rfl) (hb hby at_373) (fun _ _ => ⟨rfl, e5, (by decide : (((22 + 1) + 0) + 0) + 0 ≤ _), (by decide : (((16541 + 4) + 0) + 0) + 0 ≤ _)⟩)
  dsimp only [Pt.U, Pt.locs, Pt.cells, Pt.slots] at X6 l6 y6 z6 st6 hQ6
  subst l6 y6 z6
  obtain ⟨rfl, Nq6, eh6⟩ := hQ6
  have N6 := Fr.app N5 Nq6
  refine vs T6 376 [(.int (own_cu p2 ta0 ta1 ta2 ta3 (Int32.ofNat fr) (own_sh (4 - fr)))), (.int (2 : Int32)), (.ref b1)] (fun t k => st6 t k) ?_
  obtain ⟨cl7, Ar7, qc7, S7, NN7, H7, G7⟩ := id V_b1'5
  obtain ⟨T7, h7, X7, e7, W7, st7⟩ := stI X6 hx hZ eh6 Ar7 (j := (2 : Int32)) (inb_of S7 ⟨by decide, by decide⟩) (g := (mkF m 376 #[.val (.long pat), .second, .val (.long txt), .second, vi shp, vi cpy, vi (Int32.ofNat mm), vi (Int32.ofNat fr), vi p0, vi p1, vi p2, vi p3, vi ta0, vi ta1, vi ta2, vi ta3, vr o16, vr o17, vr o18, vr o19, vr o20, vr o21, vi (Int32.ofNat lo), vi (Int32.ofNat hi), vi (own_sh (4 - fr)), vr b1, .unset, .unset] [(.int (own_cu p2 ta0 ta1 ta2 ta3 (Int32.ofNat fr) (own_sh (4 - fr)))), (.int (2 : Int32)), (.ref b1)])) rfl rfl (hb hby at_376)
  have V_b1'7 : Arv Z h7 b1 k1 .int (4 : Int32) [(.int (own_cu p0 ta0 ta1 ta2 ta3 (Int32.ofNat fr) (own_sh (4 - fr)))), (.int (own_cu p1 ta0 ta1 ta2 ta3 (Int32.ofNat fr) (own_sh (4 - fr)))), (.int (own_cu p2 ta0 ta1 ta2 ta3 (Int32.ofNat fr) (own_sh (4 - fr)))), (.int (0 : Int32))] (.int (0 : Int32)) := Arv.set Ar7 qc7 S7 NN7 H7 G7 rfl W7 2 rfl (Nat.le_of_ble_eq_true rfl)
  have VT'7 := VT'5.other W7 ne_o17_b1
  have N7 := Fr.snoc X7 N6 g_b1
  have Z7 : n0 ≤ h7.size := Nat.le_trans Z5 (Keep.of_wr W7).1
  refine vs T7 377 [] (fun t k => st7 t k) ?_
  refine vs T7 379 [(.ref b1)] (fun t k => XS.aload X7.here hx rfl (hb hby at_377) rfl rfl k) ?_
  refine vs T7 380 [(.int (3 : Int32)), (.ref b1)] (fun t k => XS.iconst X7.here hx rfl (hb hby at_379) k) ?_
  refine vs T7 382 [(.int p3), (.int (3 : Int32)), (.ref b1)] (fun t k => XS.iload X7.here hx rfl (hb hby at_380) rfl k) ?_
  refine vs T7 384 [(.ref o17), (.int p3), (.int (3 : Int32)), (.ref b1)] (fun t k => XS.aload X7.here hx rfl (hb hby at_382) rfl rfl k) ?_
  refine vs T7 386 [(.int (Int32.ofNat fr)), (.ref o17), (.int p3), (.int (3 : Int32)), (.ref b1)] (fun t k => XS.iload X7.here hx rfl (hb hby at_384) rfl k) ?_
  refine vs T7 388 [(.int (own_sh (4 - fr))), (.int (Int32.ofNat fr)), (.ref o17), (.int p3), (.int (3 : Int32)), (.ref b1)] (fun t k => XS.iload X7.here hx rfl (hb hby at_386) rfl k) ?_
  obtain ⟨_, _, ⟨T8, L8, k8, n8⟩, -, X8, ⟨Lc8, hQ8, l8, y8, z8⟩, st8⟩ := Jvm.LawKit.callS X7 hx (y := (⟨"com/example/clew/clew/CharFilterTestedPinLaw", "count", "(I[CII)I"⟩ : MethodName)) hown (mvT hZ (ww hw 201 rfl)) (mvT hZ (ww hw 202 rfl)) (mvT hZ (ww hw 203 rfl)) (mvT hZ (ww hw 204 rfl)) (by decide) (backOf (W := 2) (rm34 l Z a0 hw [] p3 o17 ka ta0 ta1 ta2 ta3 (Int32.ofNat fr) (own_sh (4 - fr)) h7 n0 Z7 VT'7) hZ (ww hw 204 rfl) (ww hw 203 rfl) (by decide) (by decide)) (g := (mkF m 388 #[.val (.long pat), .second, .val (.long txt), .second, vi shp, vi cpy, vi (Int32.ofNat mm), vi (Int32.ofNat fr), vi p0, vi p1, vi p2, vi p3, vi ta0, vi ta1, vi ta2, vi ta3, vr o16, vr o17, vr o18, vr o19, vr o20, vr o21, vi (Int32.ofNat lo), vi (Int32.ofNat hi), vi (own_sh (4 - fr)), vr b1, .unset, .unset] [(.int (own_sh (4 - fr))), (.int (Int32.ofNat fr)), (.ref o17), (.int p3), (.int (3 : Int32)), (.ref b1)])) rfl (by rw [hml]; rfl) (argsL := [(.int p3), (.ref o17), (.int (Int32.ofNat fr)), (.int (own_sh (4 - fr)))]) (rest := [(.int (3 : Int32)), (.ref b1)]) (lenOf pd_31 rfl) rfl (by show 2 * 0 + _ ≤ _; exact Nat.le_of_eq rfl) (hb hby at_388) (fun _ _ => ⟨rfl, e7, (by decide : ((((22 + 1) + 0) + 0) + 0) + 0 ≤ _), (by decide : ((((16541 + 4) + 0) + 0) + 0) + 0 ≤ _)⟩)
  dsimp only [Pt.U, Pt.locs, Pt.cells, Pt.slots] at X8 l8 y8 z8 st8 hQ8
  subst l8 y8 z8
  obtain ⟨rfl, Nq8, eh8⟩ := hQ8
  have N8 := Fr.app N7 Nq8
  refine vs T8 391 [(.int (own_cu p3 ta0 ta1 ta2 ta3 (Int32.ofNat fr) (own_sh (4 - fr)))), (.int (3 : Int32)), (.ref b1)] (fun t k => st8 t k) ?_
  obtain ⟨cl9, Ar9, qc9, S9, NN9, H9, G9⟩ := id V_b1'7
  obtain ⟨T9, h9, X9, e9, W9, st9⟩ := stI X8 hx hZ eh8 Ar9 (j := (3 : Int32)) (inb_of S9 ⟨by decide, by decide⟩) (g := (mkF m 391 #[.val (.long pat), .second, .val (.long txt), .second, vi shp, vi cpy, vi (Int32.ofNat mm), vi (Int32.ofNat fr), vi p0, vi p1, vi p2, vi p3, vi ta0, vi ta1, vi ta2, vi ta3, vr o16, vr o17, vr o18, vr o19, vr o20, vr o21, vi (Int32.ofNat lo), vi (Int32.ofNat hi), vi (own_sh (4 - fr)), vr b1, .unset, .unset] [(.int (own_cu p3 ta0 ta1 ta2 ta3 (Int32.ofNat fr) (own_sh (4 - fr)))), (.int (3 : Int32)), (.ref b1)])) rfl rfl (hb hby at_391)
  have V_b1'9 : Arv Z h9 b1 k1 .int (4 : Int32) [(.int (own_cu p0 ta0 ta1 ta2 ta3 (Int32.ofNat fr) (own_sh (4 - fr)))), (.int (own_cu p1 ta0 ta1 ta2 ta3 (Int32.ofNat fr) (own_sh (4 - fr)))), (.int (own_cu p2 ta0 ta1 ta2 ta3 (Int32.ofNat fr) (own_sh (4 - fr)))), (.int (own_cu p3 ta0 ta1 ta2 ta3 (Int32.ofNat fr) (own_sh (4 - fr))))] (.int (0 : Int32)) := Arv.set Ar9 qc9 S9 NN9 H9 G9 rfl W9 3 rfl (Nat.le_of_ble_eq_true rfl)
  have VT'9 := VT'7.other W9 ne_o17_b1
  have N9 := Fr.snoc X9 N8 g_b1
  have Z9 : n0 ≤ h9.size := Nat.le_trans Z7 (Keep.of_wr W9).1
  refine vs T9 392 [] (fun t k => st9 t k) ?_
  exact b0_392 pat txt shp cpy p0 p1 p2 p3 ta0 ta1 ta2 ta3 fr mm o16 o17 o18 o19 o20 o21 lo hi (own_sh (4 - fr)) b1 k1  [(own_cu p0 ta0 ta1 ta2 ta3 (Int32.ofNat fr) (own_sh (4 - fr))), (own_cu p1 ta0 ta1 ta2 ta3 (Int32.ofNat fr) (own_sh (4 - fr))), (own_cu p2 ta0 ta1 ta2 ta3 (Int32.ofNat fr) (own_sh (4 - fr))), (own_cu p3 ta0 ta1 ta2 ta3 (Int32.ofNat fr) (own_sh (4 - fr)))] fs se ⟨hx, hZ, hw, hby, hml, hown, hret, hlk, hnm⟩ X9 e9 Z9 N9 V_b1'9 hmm4 (own_pk4 hfr hmm4 hcl hcs hpk) hlo hhi
theorem b0_248  (pat : Int64) (txt : Int64) (shp : Int32) (cpy : Int32) (p0 : Int32) (p1 : Int32) (p2 : Int32) (p3 : Int32) (ta0 : Int32) (ta1 : Int32) (ta2 : Int32) (ta3 : Int32) (fr : Nat) (mm : Nat) (o16 : Addr) (o17 : Addr) (o18 : Addr) (o19 : Addr) (o20 : Addr) (o21 : Addr) (cs : List Int32) (fs : Nat) (se : Nat) (lo : Nat) (hi : Nat) (ka : ClassId) (kq : ClassId)
    (C : own_C p s m meth c Z a0 code maxLocals "com/example/clew/clew/CharFilterTestedPinLaw" ret "law") (X0 : Stand p l e room_1 s m args below meth c T0 locs 22 16541) (e0 : T0.heap = h0) (Z0 : n0 ≤ h0.size) (N0 : Fr n0 locs) (VT : Arv Z h0 o17 ka .char (4 : Int32) [(.int ta0), (.int ta1), (.int ta2), (.int ta3)] (.int (0 : Int32))) (VQ : Arv Z h0 o21 kq .int (4 : Int32) [(.int (Int32.ofNat lo)), (.int (Int32.ofNat lo)), (.int (Int32.ofNat hi)), (.int (Int32.ofNat hi))] (.int (0 : Int32))) (hfr : fr ≤ 4) (hmm4 : mm ≤ 4) (hcl : cs.length = mm) (hcs : ∀ j, j < mm → cs.getD j 0 = [p0, p1, p2, p3].getD j 0) (hpk : own_pick (own_ct (4 - fr) (own_adds (4 - fr) (own_sl [ta0, ta1, ta2, ta3] fr (4 - fr)) (4 - fr) (List.replicate (own_nq (4 - fr)) 0)) cs) cs.length fs se) (hlo : lo = min fs se) (hhi : hi = max fs se) :
    own_Go p.tables e below (T0.setTop (mkF m 248 #[.val (.long pat), .second, .val (.long txt), .second, vi shp, vi cpy, vi (Int32.ofNat mm), vi (Int32.ofNat fr), vi p0, vi p1, vi p2, vi p3, vi ta0, vi ta1, vi ta2, vi ta3, vr o16, vr o17, vr o18, vr o19, vr o20, vr o21, .unset, .unset, .unset, .unset, .unset, .unset] [])) (own_K s (fun (v : Option Value) (h : Heap) (L : List Loc) => v = some (.int (1 : Int32)) ∧ Fr n0 L) room_1.cells room_1.slots) := by
  obtain ⟨hx, hZ, hw, hby, hml, hown, hret, hlk, hnm⟩ := C
  have hf := hpk.1.1
  have hs := hpk.2.1
  refine vs T0 250 [(.ref o21)] (fun t k => XS.aload X0.here hx rfl (hb hby at_248) rfl rfl k) ?_
  obtain ⟨cl1, Ar1, -, S1, NN1, -, -⟩ := id VQ
  refine vs T0 251 [(.int (4 : Int32))] (fun t k => own_len X0 hx hZ e0 Ar1 S1 NN1 (g := (mkF m 250 #[.val (.long pat), .second, .val (.long txt), .second, vi shp, vi cpy, vi (Int32.ofNat mm), vi (Int32.ofNat fr), vi p0, vi p1, vi p2, vi p3, vi ta0, vi ta1, vi ta2, vi ta3, vr o16, vr o17, vr o18, vr o19, vr o20, vr o21, .unset, .unset, .unset, .unset, .unset, .unset] [(.ref o21)])) rfl rfl (hb hby at_250) k) ?_
  refine vs T0 252 [(.int (4 : Int32)), (.int (4 : Int32))] (fun t k => XS.iconst X0.here hx rfl (hb hby at_251) k) ?_
  have hc2_252 : (4 : Int32) = (4 : Int32) := (by decide)
  refine vs T0 257 [] (fun t k => XS.icmpYes X0.here hx rfl (pc0 := 252) (pc' := 257) rfl (hb hby at_252) rfl (XT.ii_eq_t hc2_252) (by decide) (by decide) k) ?_
  refine vs T0 259 [(.ref o21)] (fun t k => XS.aload X0.here hx rfl (hb hby at_257) rfl rfl k) ?_
  refine vs T0 260 [(.int (0 : Int32)), (.ref o21)] (fun t k => XS.iconst X0.here hx rfl (hb hby at_259) k) ?_
  obtain ⟨cl3, Ar3, qc3, S3, NN3, H3, G3⟩ := id VQ
  have in3 := inb_of (j := (0 : Int32)) S3 ⟨by decide, by decide⟩
  have hat3 : cl3.slots[((0 : Int32)).toNatClampNeg]? = some (.int (Int32.ofNat lo)) := H3.at in3 rfl
  refine vs T0 261 [(.int (Int32.ofNat lo))] (fun t k => X0.iaload hx (j := (0 : Int32)) (v := (.int (Int32.ofNat lo))) (own_eqh e0 Ar3.1) (State.isArrayOf_alike hZ.alike Ar3.2.1) Ar3.2.2 in3 hat3 (g := (mkF m 260 #[.val (.long pat), .second, .val (.long txt), .second, vi shp, vi cpy, vi (Int32.ofNat mm), vi (Int32.ofNat fr), vi p0, vi p1, vi p2, vi p3, vi ta0, vi ta1, vi ta2, vi ta3, vr o16, vr o17, vr o18, vr o19, vr o20, vr o21, .unset, .unset, .unset, .unset, .unset, .unset] [(.int (0 : Int32)), (.ref o21)])) rfl rfl (hb hby at_260) t k) ?_
  refine vv T0 m 263 #[.val (.long pat), .second, .val (.long txt), .second, vi shp, vi cpy, vi (Int32.ofNat mm), vi (Int32.ofNat fr), vi p0, vi p1, vi p2, vi p3, vi ta0, vi ta1, vi ta2, vi ta3, vr o16, vr o17, vr o18, vr o19, vr o20, vr o21, vi (Int32.ofNat lo), .unset, .unset, .unset, .unset, .unset] [] (fun t k => XS.istore X0.here hx rfl (hb hby at_261) rfl (l' := #[.val (.long pat), .second, .val (.long txt), .second, vi shp, vi cpy, vi (Int32.ofNat mm), vi (Int32.ofNat fr), vi p0, vi p1, vi p2, vi p3, vi ta0, vi ta1, vi ta2, vi ta3, vr o16, vr o17, vr o18, vr o19, vr o20, vr o21, vi (Int32.ofNat lo), .unset, .unset, .unset, .unset, .unset]) rfl k) ?_
  refine vs T0 265 [(.ref o21)] (fun t k => XS.aload X0.here hx rfl (hb hby at_263) rfl rfl k) ?_
  refine vs T0 266 [(.int (3 : Int32)), (.ref o21)] (fun t k => XS.iconst X0.here hx rfl (hb hby at_265) k) ?_
  obtain ⟨cl4, Ar4, qc4, S4, NN4, H4, G4⟩ := id VQ
  have in4 := inb_of (j := (3 : Int32)) S4 ⟨by decide, by decide⟩
  have hat4 : cl4.slots[((3 : Int32)).toNatClampNeg]? = some (.int (Int32.ofNat hi)) := H4.at in4 rfl
  refine vs T0 267 [(.int (Int32.ofNat hi))] (fun t k => X0.iaload hx (j := (3 : Int32)) (v := (.int (Int32.ofNat hi))) (own_eqh e0 Ar4.1) (State.isArrayOf_alike hZ.alike Ar4.2.1) Ar4.2.2 in4 hat4 (g := (mkF m 266 #[.val (.long pat), .second, .val (.long txt), .second, vi shp, vi cpy, vi (Int32.ofNat mm), vi (Int32.ofNat fr), vi p0, vi p1, vi p2, vi p3, vi ta0, vi ta1, vi ta2, vi ta3, vr o16, vr o17, vr o18, vr o19, vr o20, vr o21, vi (Int32.ofNat lo), .unset, .unset, .unset, .unset, .unset] [(.int (3 : Int32)), (.ref o21)])) rfl rfl (hb hby at_266) t k) ?_
  refine vv T0 m 269 #[.val (.long pat), .second, .val (.long txt), .second, vi shp, vi cpy, vi (Int32.ofNat mm), vi (Int32.ofNat fr), vi p0, vi p1, vi p2, vi p3, vi ta0, vi ta1, vi ta2, vi ta3, vr o16, vr o17, vr o18, vr o19, vr o20, vr o21, vi (Int32.ofNat lo), vi (Int32.ofNat hi), .unset, .unset, .unset, .unset] [] (fun t k => XS.istore X0.here hx rfl (hb hby at_267) rfl (l' := #[.val (.long pat), .second, .val (.long txt), .second, vi shp, vi cpy, vi (Int32.ofNat mm), vi (Int32.ofNat fr), vi p0, vi p1, vi p2, vi p3, vi ta0, vi ta1, vi ta2, vi ta3, vr o16, vr o17, vr o18, vr o19, vr o20, vr o21, vi (Int32.ofNat lo), vi (Int32.ofNat hi), .unset, .unset, .unset, .unset]) rfl k) ?_
  refine vs T0 271 [(.ref o21)] (fun t k => XS.aload X0.here hx rfl (hb hby at_269) rfl rfl k) ?_
  refine vs T0 272 [(.int (1 : Int32)), (.ref o21)] (fun t k => XS.iconst X0.here hx rfl (hb hby at_271) k) ?_
  obtain ⟨cl5, Ar5, qc5, S5, NN5, H5, G5⟩ := id VQ
  have in5 := inb_of (j := (1 : Int32)) S5 ⟨by decide, by decide⟩
  have hat5 : cl5.slots[((1 : Int32)).toNatClampNeg]? = some (.int (Int32.ofNat lo)) := H5.at in5 rfl
  refine vs T0 273 [(.int (Int32.ofNat lo))] (fun t k => X0.iaload hx (j := (1 : Int32)) (v := (.int (Int32.ofNat lo))) (own_eqh e0 Ar5.1) (State.isArrayOf_alike hZ.alike Ar5.2.1) Ar5.2.2 in5 hat5 (g := (mkF m 272 #[.val (.long pat), .second, .val (.long txt), .second, vi shp, vi cpy, vi (Int32.ofNat mm), vi (Int32.ofNat fr), vi p0, vi p1, vi p2, vi p3, vi ta0, vi ta1, vi ta2, vi ta3, vr o16, vr o17, vr o18, vr o19, vr o20, vr o21, vi (Int32.ofNat lo), vi (Int32.ofNat hi), .unset, .unset, .unset, .unset] [(.int (1 : Int32)), (.ref o21)])) rfl rfl (hb hby at_272) t k) ?_
  refine vs T0 275 [(.int (Int32.ofNat lo)), (.int (Int32.ofNat lo))] (fun t k => XS.iload X0.here hx rfl (hb hby at_273) rfl k) ?_
  have hc6_275 : (Int32.ofNat lo) = (Int32.ofNat lo) := rfl
  refine vs T0 278 [] (fun t k => XS.icmpNo X0.here hx rfl (hb hby at_275) rfl (XT.ii_ne_f hc6_275) k) ?_
  refine vs T0 280 [(.ref o21)] (fun t k => XS.aload X0.here hx rfl (hb hby at_278) rfl rfl k) ?_
  refine vs T0 281 [(.int (2 : Int32)), (.ref o21)] (fun t k => XS.iconst X0.here hx rfl (hb hby at_280) k) ?_
  obtain ⟨cl7, Ar7, qc7, S7, NN7, H7, G7⟩ := id VQ
  have in7 := inb_of (j := (2 : Int32)) S7 ⟨by decide, by decide⟩
  have hat7 : cl7.slots[((2 : Int32)).toNatClampNeg]? = some (.int (Int32.ofNat hi)) := H7.at in7 rfl
  refine vs T0 282 [(.int (Int32.ofNat hi))] (fun t k => X0.iaload hx (j := (2 : Int32)) (v := (.int (Int32.ofNat hi))) (own_eqh e0 Ar7.1) (State.isArrayOf_alike hZ.alike Ar7.2.1) Ar7.2.2 in7 hat7 (g := (mkF m 281 #[.val (.long pat), .second, .val (.long txt), .second, vi shp, vi cpy, vi (Int32.ofNat mm), vi (Int32.ofNat fr), vi p0, vi p1, vi p2, vi p3, vi ta0, vi ta1, vi ta2, vi ta3, vr o16, vr o17, vr o18, vr o19, vr o20, vr o21, vi (Int32.ofNat lo), vi (Int32.ofNat hi), .unset, .unset, .unset, .unset] [(.int (2 : Int32)), (.ref o21)])) rfl rfl (hb hby at_281) t k) ?_
  refine vs T0 284 [(.int (Int32.ofNat hi)), (.int (Int32.ofNat hi))] (fun t k => XS.iload X0.here hx rfl (hb hby at_282) rfl k) ?_
  have hc8_284 : (Int32.ofNat hi) = (Int32.ofNat hi) := rfl
  refine vs T0 289 [] (fun t k => XS.icmpYes X0.here hx rfl (pc0 := 284) (pc' := 289) rfl (hb hby at_284) rfl (XT.ii_eq_t hc8_284) (by decide) (by decide) k) ?_
  refine vs T0 291 [(.int (Int32.ofNat lo))] (fun t k => XS.iload X0.here hx rfl (hb hby at_289) rfl k) ?_
  have hc9_291 : ¬ ((Int32.ofNat lo) < (0 : Int32)) := (own_inb (i := lo) (n := lo + 1) (by omega) (by omega)).1
  refine vs T0 294 [] (fun t k => XS.ifNo X0.here hx rfl (hb hby at_291) rfl (XT.i0_lt_f hc9_291) k) ?_
  refine vs T0 296 [(.int (Int32.ofNat lo))] (fun t k => XS.iload X0.here hx rfl (hb hby at_294) rfl k) ?_
  refine vs T0 298 [(.int (Int32.ofNat hi)), (.int (Int32.ofNat lo))] (fun t k => XS.iload X0.here hx rfl (hb hby at_296) rfl k) ?_
  have hc10_298 : ¬ ((Int32.ofNat hi) < (Int32.ofNat lo)) := own_nlt (by omega) (by omega) (by omega)
  refine vs T0 301 [] (fun t k => XS.icmpNo X0.here hx rfl (hb hby at_298) rfl (XT.ii_gt_f hc10_298) k) ?_
  refine vs T0 303 [(.int (Int32.ofNat hi))] (fun t k => XS.iload X0.here hx rfl (hb hby at_301) rfl k) ?_
  refine vs T0 305 [(.int (Int32.ofNat mm)), (.int (Int32.ofNat hi))] (fun t k => XS.iload X0.here hx rfl (hb hby at_303) rfl k) ?_
  have hc11_305 : (Int32.ofNat hi) < (Int32.ofNat mm) := own_lt (by omega) (by omega)
  refine vs T0 310 [] (fun t k => XS.icmpYes X0.here hx rfl (pc0 := 305) (pc' := 310) rfl (hb hby at_305) rfl (XT.ii_lt_t hc11_305) (by decide) (by decide) k) ?_
  refine vs T0 311 [(.int (4 : Int32))] (fun t k => XS.iconst X0.here hx rfl (hb hby at_310) k) ?_
  refine vs T0 313 [(.int (Int32.ofNat fr)), (.int (4 : Int32))] (fun t k => XS.iload X0.here hx rfl (hb hby at_311) rfl k) ?_
  refine vs T0 314 [(.int ((4 : Int32) - (Int32.ofNat fr)))] (fun t k => XS.isub X0.here hx rfl (hb hby at_313) rfl k) ?_
  rw [show (4 : Int32) - Int32.ofNat fr = Int32.ofNat (4 - fr) from own_sub hfr]
  refine vs T0 315 [(.int (3 : Int32)), (.int (Int32.ofNat (4 - fr)))] (fun t k => XS.iconst X0.here hx rfl (hb hby at_314) k) ?_
  by_cases hc12_315 : (Int32.ofNat (4 - fr)) < (3 : Int32)
  · refine vs T0 323 [] (fun t k => XS.icmpYes X0.here hx rfl (pc0 := 315) (pc' := 323) rfl (hb hby at_315) rfl (XT.ii_lt_t hc12_315) (by decide) (by decide) k) ?_
    refine vs T0 325 [(.int (31 : Int32))] (fun t k => XS.bipush X0.here hx rfl (hb hby at_323) k) ?_
    have eS : own_sh (4 - fr) = 31 := if_neg (fun z => (show ¬ Int32.ofNat (4 - fr) < Int32.ofNat 3 from own_nlt (by omega) (by omega) (by omega)) hc12_315)
    rw [← eS]
    exact b0_325 pat txt shp cpy p0 p1 p2 p3 ta0 ta1 ta2 ta3 fr mm o16 o17 o18 o19 o20 o21 cs fs se lo hi ka ⟨hx, hZ, hw, hby, hml, hown, hret, hlk, hnm⟩ X0 e0 Z0 N0 VT hfr hmm4 hcl hcs hpk hlo hhi
  · refine vs T0 318 [] (fun t k => XS.icmpNo X0.here hx rfl (hb hby at_315) rfl (XT.ii_lt_f hc12_315) k) ?_
    refine vs T0 320 [(.int (30 : Int32))] (fun t k => XS.bipush X0.here hx rfl (hb hby at_318) k) ?_
    refine vs T0 325 [(.int (30 : Int32))] (fun t k => XS.goto X0.here hx rfl (pc0 := 320) (pc' := 325) rfl (hb hby at_320) (by decide) (by decide) k) ?_
    have eS : own_sh (4 - fr) = 30 := if_pos (Nat.le_of_not_lt fun z => hc12_315 (show Int32.ofNat (4 - fr) < Int32.ofNat 3 from own_lt z (by omega)))
    rw [← eS]
    exact b0_325 pat txt shp cpy p0 p1 p2 p3 ta0 ta1 ta2 ta3 fr mm o16 o17 o18 o19 o20 o21 cs fs se lo hi ka ⟨hx, hZ, hw, hby, hml, hown, hret, hlk, hnm⟩ X0 e0 Z0 N0 VT hfr hmm4 hcl hcs hpk hlo hhi
theorem pd_32 : parseMethodDescriptor "([C)V" = some ⟨[(.array .char)], none⟩ := by decide +kernel
theorem pd_33 : parseMethodDescriptor "(Ljava/lang/String;Ljava/lang/String;II)V" = some ⟨[(.object "java/lang/String"), (.object "java/lang/String"), .int, .int], none⟩ := by decide +kernel
theorem pd_34 : parseMethodDescriptor "()[I" = some ⟨[], some (.array .int)⟩ := by decide +kernel
theorem b0_174  (pat : Int64) (txt : Int64) (shp : Int32) (cpy : Int32) (cps : Int32) (fmv : Value) (p0 : Int32) (p1 : Int32) (p2 : Int32) (p3 : Int32) (ta0 : Int32) (ta1 : Int32) (ta2 : Int32) (ta3 : Int32) (fr : Nat) (oa : Addr) (ka : ClassId) (mm : Nat) (cs : List Int32)
    (C : own_C p s m meth c Z a0 code maxLocals "com/example/clew/clew/CharFilterTestedPinLaw" ret "law") (X0 : Stand p l e room_1 s m args below meth c T0 locs 1 4) (e0 : T0.heap = h0) (Z0 : n0 ≤ h0.size) (N0 : Fr n0 locs) (VA : Arv Z h0 oa ka .char (Int32.ofNat mm) (own_iv cs) (.int (0 : Int32))) (SC : Sta Z h0 "java/lang/String" "COMPACT_STRINGS" "Z" (.int cps)) (SA : Sta Z h0 "java/lang/StringUTF16" "$assertionsDisabled" "Z" (.int (1 : Int32))) (SH : Sta Z h0 "java/lang/StringUTF16" "HI_BYTE_SHIFT" "I" (.int (0 : Int32))) (SL : Sta Z h0 "java/lang/StringUTF16" "LO_BYTE_SHIFT" "I" (.int (8 : Int32))) (SF : Sta Z h0 "jdk/internal/util/Preconditions" "SIOOBE_FORMATTER" "Ljava/util/function/BiFunction;" fmv) (hcp : ¬ cps = 0) (hrf : fmv.isRef = true) (hch_p0 : own_ch p0) (hch_p1 : own_ch p1) (hch_p2 : own_ch p2) (hch_p3 : own_ch p3) (hch_ta0 : own_ch ta0) (hch_ta1 : own_ch ta1) (hch_ta2 : own_ch ta2) (hch_ta3 : own_ch ta3) (hfr : fr ≤ 4) (hmm1 : 1 ≤ mm) (hmm4 : mm ≤ 4) (hcl : cs.length = mm) (hchp : ∀ j, j < cs.length → own_ch (cs.getD j 0)) (hcs : ∀ j, j < mm → cs.getD j 0 = [p0, p1, p2, p3].getD j 0) :
    own_Go p.tables e below (T0.setTop (mkF m 174 #[.val (.long pat), .second, .val (.long txt), .second, vi shp, vi cpy, vi (Int32.ofNat mm), vi (Int32.ofNat fr), vi p0, vi p1, vi p2, vi p3, vi ta0, vi ta1, vi ta2, vi ta3, vr oa, .unset, .unset, .unset, .unset, .unset, .unset, .unset, .unset, .unset, .unset, .unset] [])) (own_K s (fun (v : Option Value) (h : Heap) (L : List Loc) => v = some (.int (1 : Int32)) ∧ Fr n0 L) room_1.cells room_1.slots) := by
  obtain ⟨hx, hZ, hw, hby, hml, hown, hret, hlk, hnm⟩ := C
  refine vs T0 175 [(.int (4 : Int32))] (fun t k => XS.iconst X0.here hx rfl (hb hby at_174) k) ?_
  obtain ⟨T1, h1, k1, X1, e1, E1, A1, st1⟩ := newP X0 hx hZ (ww hw 0 rfl) e0 (g := (mkF m 175 #[.val (.long pat), .second, .val (.long txt), .second, vi shp, vi cpy, vi (Int32.ofNat mm), vi (Int32.ofNat fr), vi p0, vi p1, vi p2, vi p3, vi ta0, vi ta1, vi ta2, vi ta3, vr oa, .unset, .unset, .unset, .unset, .unset, .unset, .unset, .unset, .unset, .unset, .unset] [(.int (4 : Int32))])) rfl (hb hby at_175) rfl (by decide) (cap := 4) (by decide) (by decide) (by decide) (by decide)
  obtain ⟨b1, g1⟩ : ∃ z, z = h0.size := ⟨_, rfl⟩
  rw [← g1] at A1 st1
  have ne_oa_b1 : oa ≠ b1 := Nat.ne_of_lt (Nat.lt_of_lt_of_le VA.lt (Nat.le_of_eq g1.symm))
  have g_b1 : n0 ≤ b1 := Nat.le_trans Z0 (Nat.le_of_eq g1.symm)
  have VA'1 := VA.ext E1
  have SC'1 := SC.ext E1
  have SA'1 := SA.ext E1
  have SH'1 := SH.ext E1
  have SL'1 := SL.ext E1
  have SF'1 := SF.ext E1
  have Z1 : n0 ≤ h1.size := Nat.le_trans Z0 E1.1
  have V_b1 : Arv Z h1 b1 k1 .char (4 : Int32) [(.int (0 : Int32)), (.int (0 : Int32)), (.int (0 : Int32)), (.int (0 : Int32))] (.int (0 : Int32)) := (Arv.new A1 (by decide)).pad (pad_rep [] (.int (0 : Int32)) 4)
  refine vs T1 177 [(.ref b1)] (fun t k => st1 t k) ?_
  refine vs T1 178 [(.ref b1), (.ref b1)] (fun t k => XS.dup X1.here hx rfl (hb hby at_177) rfl rfl k) ?_
  refine vs T1 179 [(.int (0 : Int32)), (.ref b1), (.ref b1)] (fun t k => XS.iconst X1.here hx rfl (hb hby at_178) k) ?_
  refine vs T1 181 [(.int ta0), (.int (0 : Int32)), (.ref b1), (.ref b1)] (fun t k => XS.iload X1.here hx rfl (hb hby at_179) rfl k) ?_
  obtain ⟨cl2, Ar2, qc2, S2, NN2, H2, G2⟩ := id V_b1
  obtain ⟨T2, h2, X2, e2, W2, st2⟩ := stC X1 hx hZ e1 Ar2 (j := (0 : Int32)) (inb_of S2 ⟨by decide, by decide⟩) (g := (mkF m 181 #[.val (.long pat), .second, .val (.long txt), .second, vi shp, vi cpy, vi (Int32.ofNat mm), vi (Int32.ofNat fr), vi p0, vi p1, vi p2, vi p3, vi ta0, vi ta1, vi ta2, vi ta3, vr oa, .unset, .unset, .unset, .unset, .unset, .unset, .unset, .unset, .unset, .unset, .unset] [(.int ta0), (.int (0 : Int32)), (.ref b1), (.ref b1)])) rfl rfl (hb hby at_181)
  have V_b1'2 : Arv Z h2 b1 k1 .char (4 : Int32) [(.int (nar .char ta0)), (.int (0 : Int32)), (.int (0 : Int32)), (.int (0 : Int32))] (.int (0 : Int32)) := Arv.set Ar2 qc2 S2 NN2 H2 G2 (fits_nar_char _) W2 0 rfl (Nat.le_of_ble_eq_true rfl)
  have VA'2 := VA'1.other W2 ne_oa_b1
  have SC'2 := SC'1.wr W2
  have SA'2 := SA'1.wr W2
  have SH'2 := SH'1.wr W2
  have SL'2 := SL'1.wr W2
  have SF'2 := SF'1.wr W2
  have N2 := Fr.snoc X2 N0 g_b1
  have Z2 : n0 ≤ h2.size := Nat.le_trans Z1 (Keep.of_wr W2).1
  refine vs T2 182 [(.ref b1)] (fun t k => st2 t k) ?_
  refine vs T2 183 [(.ref b1), (.ref b1)] (fun t k => XS.dup X2.here hx rfl (hb hby at_182) rfl rfl k) ?_
  refine vs T2 184 [(.int (1 : Int32)), (.ref b1), (.ref b1)] (fun t k => XS.iconst X2.here hx rfl (hb hby at_183) k) ?_
  refine vs T2 186 [(.int ta1), (.int (1 : Int32)), (.ref b1), (.ref b1)] (fun t k => XS.iload X2.here hx rfl (hb hby at_184) rfl k) ?_
  obtain ⟨cl3, Ar3, qc3, S3, NN3, H3, G3⟩ := id V_b1'2
  obtain ⟨T3, h3, X3, e3, W3, st3⟩ := stC X2 hx hZ e2 Ar3 (j := (1 : Int32)) (inb_of S3 ⟨by decide, by decide⟩) (g := (mkF m 186 #[.val (.long pat), .second, .val (.long txt), .second, vi shp, vi cpy, vi (Int32.ofNat mm), vi (Int32.ofNat fr), vi p0, vi p1, vi p2, vi p3, vi ta0, vi ta1, vi ta2, vi ta3, vr oa, .unset, .unset, .unset, .unset, .unset, .unset, .unset, .unset, .unset, .unset, .unset] [(.int ta1), (.int (1 : Int32)), (.ref b1), (.ref b1)])) rfl rfl (hb hby at_186)
  have V_b1'3 : Arv Z h3 b1 k1 .char (4 : Int32) [(.int (nar .char ta0)), (.int (nar .char ta1)), (.int (0 : Int32)), (.int (0 : Int32))] (.int (0 : Int32)) := Arv.set Ar3 qc3 S3 NN3 H3 G3 (fits_nar_char _) W3 1 rfl (Nat.le_of_ble_eq_true rfl)
  have VA'3 := VA'2.other W3 ne_oa_b1
  have SC'3 := SC'2.wr W3
  have SA'3 := SA'2.wr W3
  have SH'3 := SH'2.wr W3
  have SL'3 := SL'2.wr W3
  have SF'3 := SF'2.wr W3
  have N3 := Fr.snoc X3 N2 g_b1
  have Z3 : n0 ≤ h3.size := Nat.le_trans Z2 (Keep.of_wr W3).1
  refine vs T3 187 [(.ref b1)] (fun t k => st3 t k) ?_
  refine vs T3 188 [(.ref b1), (.ref b1)] (fun t k => XS.dup X3.here hx rfl (hb hby at_187) rfl rfl k) ?_
  refine vs T3 189 [(.int (2 : Int32)), (.ref b1), (.ref b1)] (fun t k => XS.iconst X3.here hx rfl (hb hby at_188) k) ?_
  refine vs T3 191 [(.int ta2), (.int (2 : Int32)), (.ref b1), (.ref b1)] (fun t k => XS.iload X3.here hx rfl (hb hby at_189) rfl k) ?_
  obtain ⟨cl4, Ar4, qc4, S4, NN4, H4, G4⟩ := id V_b1'3
  obtain ⟨T4, h4, X4, e4, W4, st4⟩ := stC X3 hx hZ e3 Ar4 (j := (2 : Int32)) (inb_of S4 ⟨by decide, by decide⟩) (g := (mkF m 191 #[.val (.long pat), .second, .val (.long txt), .second, vi shp, vi cpy, vi (Int32.ofNat mm), vi (Int32.ofNat fr), vi p0, vi p1, vi p2, vi p3, vi ta0, vi ta1, vi ta2, vi ta3, vr oa, .unset, .unset, .unset, .unset, .unset, .unset, .unset, .unset, .unset, .unset, .unset] [(.int ta2), (.int (2 : Int32)), (.ref b1), (.ref b1)])) rfl rfl (hb hby at_191)
  have V_b1'4 : Arv Z h4 b1 k1 .char (4 : Int32) [(.int (nar .char ta0)), (.int (nar .char ta1)), (.int (nar .char ta2)), (.int (0 : Int32))] (.int (0 : Int32)) := Arv.set Ar4 qc4 S4 NN4 H4 G4 (fits_nar_char _) W4 2 rfl (Nat.le_of_ble_eq_true rfl)
  have VA'4 := VA'3.other W4 ne_oa_b1
  have SC'4 := SC'3.wr W4
  have SA'4 := SA'3.wr W4
  have SH'4 := SH'3.wr W4
  have SL'4 := SL'3.wr W4
  have SF'4 := SF'3.wr W4
  have N4 := Fr.snoc X4 N3 g_b1
  have Z4 : n0 ≤ h4.size := Nat.le_trans Z3 (Keep.of_wr W4).1
  refine vs T4 192 [(.ref b1)] (fun t k => st4 t k) ?_
  refine vs T4 193 [(.ref b1), (.ref b1)] (fun t k => XS.dup X4.here hx rfl (hb hby at_192) rfl rfl k) ?_
  refine vs T4 194 [(.int (3 : Int32)), (.ref b1), (.ref b1)] (fun t k => XS.iconst X4.here hx rfl (hb hby at_193) k) ?_
  refine vs T4 196 [(.int ta3), (.int (3 : Int32)), (.ref b1), (.ref b1)] (fun t k => XS.iload X4.here hx rfl (hb hby at_194) rfl k) ?_
  obtain ⟨cl5, Ar5, qc5, S5, NN5, H5, G5⟩ := id V_b1'4
  obtain ⟨T5, h5, X5, e5, W5, st5⟩ := stC X4 hx hZ e4 Ar5 (j := (3 : Int32)) (inb_of S5 ⟨by decide, by decide⟩) (g := (mkF m 196 #[.val (.long pat), .second, .val (.long txt), .second, vi shp, vi cpy, vi (Int32.ofNat mm), vi (Int32.ofNat fr), vi p0, vi p1, vi p2, vi p3, vi ta0, vi ta1, vi ta2, vi ta3, vr oa, .unset, .unset, .unset, .unset, .unset, .unset, .unset, .unset, .unset, .unset, .unset] [(.int ta3), (.int (3 : Int32)), (.ref b1), (.ref b1)])) rfl rfl (hb hby at_196)
  have V_b1'5 : Arv Z h5 b1 k1 .char (4 : Int32) [(.int (nar .char ta0)), (.int (nar .char ta1)), (.int (nar .char ta2)), (.int (nar .char ta3))] (.int (0 : Int32)) := Arv.set Ar5 qc5 S5 NN5 H5 G5 (fits_nar_char _) W5 3 rfl (Nat.le_of_ble_eq_true rfl)
  have VA'5 := VA'4.other W5 ne_oa_b1
  have SC'5 := SC'4.wr W5
  have SA'5 := SA'4.wr W5
  have SH'5 := SH'4.wr W5
  have SL'5 := SL'4.wr W5
  have SF'5 := SF'4.wr W5
  have N5 := Fr.snoc X5 N4 g_b1
  have Z5 : n0 ≤ h5.size := Nat.le_trans Z4 (Keep.of_wr W5).1
  refine vs T5 197 [(.ref b1)] (fun t k => st5 t k) ?_
  refine vv T5 m 199 #[.val (.long pat), .second, .val (.long txt), .second, vi shp, vi cpy, vi (Int32.ofNat mm), vi (Int32.ofNat fr), vi p0, vi p1, vi p2, vi p3, vi ta0, vi ta1, vi ta2, vi ta3, vr oa, vr b1, .unset, .unset, .unset, .unset, .unset, .unset, .unset, .unset, .unset, .unset] [] (fun t k => XS.astore X5.here hx rfl (hb hby at_197) rfl rfl (l' := #[.val (.long pat), .second, .val (.long txt), .second, vi shp, vi cpy, vi (Int32.ofNat mm), vi (Int32.ofNat fr), vi p0, vi p1, vi p2, vi p3, vi ta0, vi ta1, vi ta2, vi ta3, vr oa, vr b1, .unset, .unset, .unset, .unset, .unset, .unset, .unset, .unset, .unset, .unset]) rfl k) ?_
  have VTT : Arv Z h5 b1 k1 .char (4 : Int32) [(.int ta0), (.int ta1), (.int ta2), (.int ta3)] (.int (0 : Int32)) := by have q := V_b1'5; rw [own_nnch hch_ta0, own_nnch hch_ta1, own_nnch hch_ta2, own_nnch hch_ta3] at q; exact q
  obtain ⟨T6, h6, X6, e6, E6, A6, D6, -, st6⟩ := newO X5 hx hZ hown (ww hw 1 rfl) (ww hw 2 rfl) (ww hw 3 rfl) e5 (g := (mkF m 199 #[.val (.long pat), .second, .val (.long txt), .second, vi shp, vi cpy, vi (Int32.ofNat mm), vi (Int32.ofNat fr), vi p0, vi p1, vi p2, vi p3, vi ta0, vi ta1, vi ta2, vi ta3, vr oa, vr b1, .unset, .unset, .unset, .unset, .unset, .unset, .unset, .unset, .unset, .unset] [])) rfl (hb hby at_199) (by decide) (by decide)
  obtain ⟨b6, g6⟩ : ∃ z, z = h5.size := ⟨_, rfl⟩
  rw [← g6] at A6 D6 st6
  have ne_oa_b6 : oa ≠ b6 := Nat.ne_of_lt (Nat.lt_of_lt_of_le VA'5.lt (Nat.le_of_eq g6.symm))
  have ne_b1_b6 : b1 ≠ b6 := Nat.ne_of_lt (Nat.lt_of_lt_of_le VTT.lt (Nat.le_of_eq g6.symm))
  have g_b6 : n0 ≤ b6 := Nat.le_trans Z5 (Nat.le_of_eq g6.symm)
  have VA'6 := VA'5.ext E6
  have SC'6 := SC'5.ext E6
  have SA'6 := SA'5.ext E6
  have SH'6 := SH'5.ext E6
  have SL'6 := SL'5.ext E6
  have SF'6 := SF'5.ext E6
  have VTT'6 := VTT.ext E6
  have Z6 : n0 ≤ h6.size := Nat.le_trans Z5 E6.1
  have F_coder_b6 : Fld Z h6 b6 "java/lang/String" "coder" "B" (.int (0 : Int32)) := D6 (Or.inr (ww hw 27 rfl)) (ty := .byte) (by decide)
  have F_value_b6 : Fld Z h6 b6 "java/lang/String" "value" "[B" .null := D6 (Or.inr (ww hw 29 rfl)) (ty := (.array .byte)) (by decide)
  refine vs T6 202 [(.ref b6)] (fun t k => st6 t k) ?_
  refine vs T6 203 [(.ref b6), (.ref b6)] (fun t k => XS.dup X6.here hx rfl (hb hby at_202) rfl rfl k) ?_
  refine vs T6 205 [(.ref oa), (.ref b6), (.ref b6)] (fun t k => XS.aload X6.here hx rfl (hb hby at_203) rfl rfl k) ?_
  obtain ⟨_, _, ⟨T7, L7, k7, n7⟩, -, X7, ⟨Lc7, hQ7, l7, y7, z7⟩, st7⟩ := X6.specialBack hx (y := (⟨"java/lang/String", "<init>", "([C)V"⟩ : MethodName)) rfl hown (mvT hZ (ww hw 4 rfl)) (mvT hZ (ww hw 5 rfl)) (mvT hZ (ww hw 6 rfl)) (by decide) (backOf (W := 1) (rm1 l Z a0 hw [] b6 oa ka mm cs cps .null (0 : Int32) h6 n0 Z6 A6 F_value_b6 F_coder_b6 VA'6 SC'6 SA'6 SH'6 SL'6 g_b6 hcl hmm4 hmm1 (fun j hj => hchp j (by omega)) hcp (Ne.symm ne_oa_b6)) hZ (ww hw 6 rfl) (ww hw 3 rfl) (by decide) (by decide)) (g := (mkF m 205 #[.val (.long pat), .second, .val (.long txt), .second, vi shp, vi cpy, vi (Int32.ofNat mm), vi (Int32.ofNat fr), vi p0, vi p1, vi p2, vi p3, vi ta0, vi ta1, vi ta2, vi ta3, vr oa, vr b1, .unset, .unset, .unset, .unset, .unset, .unset, .unset, .unset, .unset, .unset] [(.ref oa), (.ref b6), (.ref b6)])) rfl (by rw [hml]; rfl) (Steps.refl _) (a := b6) (argsL := [(.ref oa)]) (rest := [(.ref b6)]) (lenOf pd_32 rfl) rfl (by show 2 * 0 + _ ≤ _; exact Nat.le_of_eq rfl) (hb hby at_205) (fun _ _ => ⟨rfl, e6, (by decide : ((1 + 1) + 1) + 2 ≤ _), (by decide : ((4 + 4) + 4) + 12 ≤ _)⟩)
  dsimp only [Pt.U, Pt.locs, Pt.cells, Pt.slots] at X7 l7 y7 z7 st7 hQ7
  subst l7 y7 z7
  obtain ⟨bz_7, kz_7, cd_7, ln_7, bs_7, rfl, Nq7, K7q, fz_bz_7, ex0_7, P0_7, P1_7, P2_7, P3_7⟩ := hQ7
  have N7 := Fr.app N5 Nq7
  have VA'7 := VA'6.keep K7q (ninS ne_oa_b6 nin0)
  have SC'7 := own_stakeep SC'6 K7q (allS (own_objE A6) all0)
  have SA'7 := own_stakeep SA'6 K7q (allS (own_objE A6) all0)
  have SH'7 := own_stakeep SH'6 K7q (allS (own_objE A6) all0)
  have SL'7 := own_stakeep SL'6 K7q (allS (own_objE A6) all0)
  have SF'7 := own_stakeep SF'6 K7q (allS (own_objE A6) all0)
  have VTT'7 := VTT'6.keep K7q (ninS ne_b1_b6 nin0)
  have A6'7 := A6.keep K7q
  have g_bz_7 : n0 ≤ bz_7 := Nat.le_trans Z6 fz_bz_7
  have ne_oa_bz_7 : oa ≠ bz_7 := Nat.ne_of_lt (Nat.lt_of_lt_of_le VA'6.lt fz_bz_7)
  have ne_b1_bz_7 : b1 ≠ bz_7 := Nat.ne_of_lt (Nat.lt_of_lt_of_le VTT'6.lt fz_bz_7)
  have ne_b6_bz_7 : b6 ≠ bz_7 := Nat.ne_of_lt (Nat.lt_of_lt_of_le A6.lt fz_bz_7)
  have Z7 : n0 ≤ T7.heap.size := Nat.le_trans Z6 K7q.1
  refine vs T7 208 [(.ref b6)] (fun t k => st7.trans k) ?_
  refine vv T7 m 210 #[.val (.long pat), .second, .val (.long txt), .second, vi shp, vi cpy, vi (Int32.ofNat mm), vi (Int32.ofNat fr), vi p0, vi p1, vi p2, vi p3, vi ta0, vi ta1, vi ta2, vi ta3, vr oa, vr b1, vr b6, .unset, .unset, .unset, .unset, .unset, .unset, .unset, .unset, .unset] [] (fun t k => XS.astore X7.here hx rfl (hb hby at_208) rfl rfl (l' := #[.val (.long pat), .second, .val (.long txt), .second, vi shp, vi cpy, vi (Int32.ofNat mm), vi (Int32.ofNat fr), vi p0, vi p1, vi p2, vi p3, vi ta0, vi ta1, vi ta2, vi ta3, vr oa, vr b1, vr b6, .unset, .unset, .unset, .unset, .unset, .unset, .unset, .unset, .unset]) rfl k) ?_
  obtain ⟨T8, h8, X8, e8, E8, A8, D8, -, st8⟩ := newO X7 hx hZ hown (ww hw 1 rfl) (ww hw 2 rfl) (ww hw 3 rfl) rfl (g := (mkF m 210 #[.val (.long pat), .second, .val (.long txt), .second, vi shp, vi cpy, vi (Int32.ofNat mm), vi (Int32.ofNat fr), vi p0, vi p1, vi p2, vi p3, vi ta0, vi ta1, vi ta2, vi ta3, vr oa, vr b1, vr b6, .unset, .unset, .unset, .unset, .unset, .unset, .unset, .unset, .unset] [])) rfl (hb hby at_210) (by decide) (by decide)
  obtain ⟨b8, g8⟩ : ∃ z, z = T7.heap.size := ⟨_, rfl⟩
  rw [← g8] at A8 D8 st8
  have ne_b1_b8 : b1 ≠ b8 := Nat.ne_of_lt (Nat.lt_of_lt_of_le VTT'7.lt (Nat.le_of_eq g8.symm))
  have ne_b6_b8 : b6 ≠ b8 := Nat.ne_of_lt (Nat.lt_of_lt_of_le P0_7.lt (Nat.le_of_eq g8.symm))
  have ne_bz_7_b8 : bz_7 ≠ b8 := Nat.ne_of_lt (Nat.lt_of_lt_of_le P3_7.lt (Nat.le_of_eq g8.symm))
  have g_b8 : n0 ≤ b8 := Nat.le_trans Z7 (Nat.le_of_eq g8.symm)
  have SC'8 := SC'7.ext E8
  have SA'8 := SA'7.ext E8
  have SH'8 := SH'7.ext E8
  have SL'8 := SL'7.ext E8
  have SF'8 := SF'7.ext E8
  have VTT'8 := VTT'7.ext E8
  have P0_7'8 := P0_7.ext E8
  have P1_7'8 := P1_7.ext E8
  have P2_7'8 := P2_7.ext E8
  have P3_7'8 := P3_7.ext E8
  have Z8 : n0 ≤ h8.size := Nat.le_trans Z7 E8.1
  have F_coder_b8 : Fld Z h8 b8 "java/lang/String" "coder" "B" (.int (0 : Int32)) := D8 (Or.inr (ww hw 27 rfl)) (ty := .byte) (by decide)
  have F_value_b8 : Fld Z h8 b8 "java/lang/String" "value" "[B" .null := D8 (Or.inr (ww hw 29 rfl)) (ty := (.array .byte)) (by decide)
  refine vs T8 213 [(.ref b8)] (fun t k => st8 t k) ?_
  refine vs T8 214 [(.ref b8), (.ref b8)] (fun t k => XS.dup X8.here hx rfl (hb hby at_213) rfl rfl k) ?_
  refine vs T8 216 [(.ref b1), (.ref b8), (.ref b8)] (fun t k => XS.aload X8.here hx rfl (hb hby at_214) rfl rfl k) ?_
  obtain ⟨_, _, ⟨T9, L9, k9, n9⟩, -, X9, ⟨Lc9, hQ9, l9, y9, z9⟩, st9⟩ := X8.specialBack hx (y := (⟨"java/lang/String", "<init>", "([C)V"⟩ : MethodName)) rfl hown (mvT hZ (ww hw 4 rfl)) (mvT hZ (ww hw 5 rfl)) (mvT hZ (ww hw 6 rfl)) (by decide) (backOf (W := 1) (rm1 l Z a0 hw [] b8 b1 k1 4 [ta0, ta1, ta2, ta3] cps .null (0 : Int32) h8 n0 Z8 A8 F_value_b8 F_coder_b8 VTT'8 SC'8 SA'8 SH'8 SL'8 g_b8 rfl (by omega) (by omega) (own_ch4 hch_ta0 hch_ta1 hch_ta2 hch_ta3) hcp (Ne.symm ne_b1_b8)) hZ (ww hw 6 rfl) (ww hw 3 rfl) (by decide) (by decide)) (g := (mkF m 216 #[.val (.long pat), .second, .val (.long txt), .second, vi shp, vi cpy, vi (Int32.ofNat mm), vi (Int32.ofNat fr), vi p0, vi p1, vi p2, vi p3, vi ta0, vi ta1, vi ta2, vi ta3, vr oa, vr b1, vr b6, .unset, .unset, .unset, .unset, .unset, .unset, .unset, .unset, .unset] [(.ref b1), (.ref b8), (.ref b8)])) rfl (by rw [hml]; rfl) (Steps.refl _) (a := b8) (argsL := [(.ref b1)]) (rest := [(.ref b8)]) (lenOf pd_32 rfl) rfl (by show 2 * 0 + _ ≤ _; exact Nat.le_of_eq rfl) (hb hby at_216) (fun _ _ => ⟨rfl, e8, (by decide : ((((1 + 1) + 1) + 2) + 1) + 2 ≤ _), (by decide : ((((4 + 4) + 4) + 12) + 4) + 12 ≤ _)⟩)
  dsimp only [Pt.U, Pt.locs, Pt.cells, Pt.slots] at X9 l9 y9 z9 st9 hQ9
  subst l9 y9 z9
  obtain ⟨bz_9, kz_9, cd_9, ln_9, bs_9, rfl, Nq9, K9q, fz_bz_9, ex0_9, P0_9, P1_9, P2_9, P3_9⟩ := hQ9
  have N9 := Fr.app N7 Nq9
  have SC'9 := own_stakeep SC'8 K9q (allS (own_objE A8) all0)
  have SA'9 := own_stakeep SA'8 K9q (allS (own_objE A8) all0)
  have SH'9 := own_stakeep SH'8 K9q (allS (own_objE A8) all0)
  have SL'9 := own_stakeep SL'8 K9q (allS (own_objE A8) all0)
  have SF'9 := own_stakeep SF'8 K9q (allS (own_objE A8) all0)
  have VTT'9 := VTT'8.keep K9q (ninS ne_b1_b8 nin0)
  have P0_7'9 := P0_7'8.keep K9q
  have P1_7'9 := P1_7'8.keep K9q (ninS ne_b6_b8 nin0)
  have P2_7'9 := P2_7'8.keep K9q (ninS ne_b6_b8 nin0)
  have P3_7'9 := P3_7'8.keep K9q (ninS ne_bz_7_b8 nin0)
  have A8'9 := A8.keep K9q
  have g_bz_9 : n0 ≤ bz_9 := Nat.le_trans Z8 fz_bz_9
  have ne_b1_bz_9 : b1 ≠ bz_9 := Nat.ne_of_lt (Nat.lt_of_lt_of_le VTT'8.lt fz_bz_9)
  have ne_b6_bz_9 : b6 ≠ bz_9 := Nat.ne_of_lt (Nat.lt_of_lt_of_le P0_7'8.lt fz_bz_9)
  have ne_bz_7_bz_9 : bz_7 ≠ bz_9 := Nat.ne_of_lt (Nat.lt_of_lt_of_le P3_7'8.lt fz_bz_9)
  have ne_b8_bz_9 : b8 ≠ bz_9 := Nat.ne_of_lt (Nat.lt_of_lt_of_le A8.lt fz_bz_9)
  have Z9 : n0 ≤ T9.heap.size := Nat.le_trans Z8 K9q.1
  refine vs T9 219 [(.ref b8)] (fun t k => st9.trans k) ?_
  refine vv T9 m 221 #[.val (.long pat), .second, .val (.long txt), .second, vi shp, vi cpy, vi (Int32.ofNat mm), vi (Int32.ofNat fr), vi p0, vi p1, vi p2, vi p3, vi ta0, vi ta1, vi ta2, vi ta3, vr oa, vr b1, vr b6, vr b8, .unset, .unset, .unset, .unset, .unset, .unset, .unset, .unset] [] (fun t k => XS.astore X9.here hx rfl (hb hby at_219) rfl rfl (l' := #[.val (.long pat), .second, .val (.long txt), .second, vi shp, vi cpy, vi (Int32.ofNat mm), vi (Int32.ofNat fr), vi p0, vi p1, vi p2, vi p3, vi ta0, vi ta1, vi ta2, vi ta3, vr oa, vr b1, vr b6, vr b8, .unset, .unset, .unset, .unset, .unset, .unset, .unset, .unset]) rfl k) ?_
  obtain ⟨T10, h10, X10, e10, E10, A10, D10, -, st10⟩ := newO X9 hx hZ hown (ww hw 30 rfl) (ww hw 31 rfl) (ww hw 32 rfl) rfl (g := (mkF m 221 #[.val (.long pat), .second, .val (.long txt), .second, vi shp, vi cpy, vi (Int32.ofNat mm), vi (Int32.ofNat fr), vi p0, vi p1, vi p2, vi p3, vi ta0, vi ta1, vi ta2, vi ta3, vr oa, vr b1, vr b6, vr b8, .unset, .unset, .unset, .unset, .unset, .unset, .unset, .unset] [])) rfl (hb hby at_221) (by decide) (by decide)
  obtain ⟨b10, g10⟩ : ∃ z, z = T9.heap.size := ⟨_, rfl⟩
  rw [← g10] at A10 D10 st10
  have ne_b1_b10 : b1 ≠ b10 := Nat.ne_of_lt (Nat.lt_of_lt_of_le VTT'9.lt (Nat.le_of_eq g10.symm))
  have ne_b6_b10 : b6 ≠ b10 := Nat.ne_of_lt (Nat.lt_of_lt_of_le P0_7'9.lt (Nat.le_of_eq g10.symm))
  have ne_bz_7_b10 : bz_7 ≠ b10 := Nat.ne_of_lt (Nat.lt_of_lt_of_le P3_7'9.lt (Nat.le_of_eq g10.symm))
  have ne_b8_b10 : b8 ≠ b10 := Nat.ne_of_lt (Nat.lt_of_lt_of_le P0_9.lt (Nat.le_of_eq g10.symm))
  have ne_bz_9_b10 : bz_9 ≠ b10 := Nat.ne_of_lt (Nat.lt_of_lt_of_le P3_9.lt (Nat.le_of_eq g10.symm))
  have g_b10 : n0 ≤ b10 := Nat.le_trans Z9 (Nat.le_of_eq g10.symm)
  have SC'10 := SC'9.ext E10
  have SA'10 := SA'9.ext E10
  have SH'10 := SH'9.ext E10
  have SL'10 := SL'9.ext E10
  have SF'10 := SF'9.ext E10
  have VTT'10 := VTT'9.ext E10
  have P0_7'10 := P0_7'9.ext E10
  have P1_7'10 := P1_7'9.ext E10
  have P2_7'10 := P2_7'9.ext E10
  have P3_7'10 := P3_7'9.ext E10
  have P0_9'10 := P0_9.ext E10
  have P1_9'10 := P1_9.ext E10
  have P2_9'10 := P2_9.ext E10
  have P3_9'10 := P3_9.ext E10
  have Z10 : n0 ≤ h10.size := Nat.le_trans Z9 E10.1
  have F_copies_b10 : Fld Z h10 b10 "com/example/clew/clew/CharFilter" "copies" "[[C" .null := D10 (Or.inr (ww hw 41 rfl)) (ty := (.array (.array .char))) (by decide)
  have F_slots_b10 : Fld Z h10 b10 "com/example/clew/clew/CharFilter" "slots" "[[C" .null := D10 (Or.inr (ww hw 43 rfl)) (ty := (.array (.array .char))) (by decide)
  have F_pattern_b10 : Fld Z h10 b10 "com/example/clew/clew/CharFilter" "pattern" "[C" .null := D10 (Or.inr (ww hw 62 rfl)) (ty := (.array .char)) (by decide)
  have F_text_b10 : Fld Z h10 b10 "com/example/clew/clew/CharFilter" "text" "Ljava/lang/String;" .null := D10 (Or.inr (ww hw 64 rfl)) (ty := (.object "java/lang/String")) (by decide)
  have F_from_b10 : Fld Z h10 b10 "com/example/clew/clew/CharFilter" "from" "I" (.int (0 : Int32)) := D10 (Or.inr (ww hw 66 rfl)) (ty := .int) (by decide)
  have F_reach_b10 : Fld Z h10 b10 "com/example/clew/clew/CharFilter" "reach" "I" (.int (0 : Int32)) := D10 (Or.inr (ww hw 72 rfl)) (ty := .int) (by decide)
  have F_marks_b10 : Fld Z h10 b10 "com/example/clew/clew/CharFilter" "marks" "[B" .null := D10 (Or.inr (ww hw 74 rfl)) (ty := (.array .byte)) (by decide)
  have F_sieve_b10 : Fld Z h10 b10 "com/example/clew/clew/CharFilter" "sieve" "Lcom/example/clew/clew/DefaultSearch$Sieve;" .null := D10 (Or.inl (ww hw 178 rfl)) (ty := (.object "com/example/clew/clew/DefaultSearch$Sieve")) (by decide)
  have F_whole_b10 : Fld Z h10 b10 "com/example/clew/clew/CharFilter" "whole" "Z" (.int (0 : Int32)) := D10 (Or.inl (ww hw 185 rfl)) (ty := .boolean) (by decide)
  refine vs T10 224 [(.ref b10)] (fun t k => st10 t k) ?_
  refine vs T10 225 [(.ref b10), (.ref b10)] (fun t k => XS.dup X10.here hx rfl (hb hby at_224) rfl rfl k) ?_
  refine vs T10 227 [(.ref b6), (.ref b10), (.ref b10)] (fun t k => XS.aload X10.here hx rfl (hb hby at_225) rfl rfl k) ?_
  refine vs T10 229 [(.ref b8), (.ref b6), (.ref b10), (.ref b10)] (fun t k => XS.aload X10.here hx rfl (hb hby at_227) rfl rfl k) ?_
  refine vs T10 231 [(.int (Int32.ofNat fr)), (.ref b8), (.ref b6), (.ref b10), (.ref b10)] (fun t k => XS.iload X10.here hx rfl (hb hby at_229) rfl k) ?_
  refine vs T10 233 [(.int cpy), (.int (Int32.ofNat fr)), (.ref b8), (.ref b6), (.ref b10), (.ref b10)] (fun t k => XS.iload X10.here hx rfl (hb hby at_231) rfl k) ?_
  refine vs T10 235 [(.int (2147483647 : Int32)), (.int cpy), (.int (Int32.ofNat fr)), (.ref b8), (.ref b6), (.ref b10), (.ref b10)] (fun t k => X10.ldcI hx hown (mvT hZ (ww hw 33 rfl)) (g := (mkF m 233 #[.val (.long pat), .second, .val (.long txt), .second, vi shp, vi cpy, vi (Int32.ofNat mm), vi (Int32.ofNat fr), vi p0, vi p1, vi p2, vi p3, vi ta0, vi ta1, vi ta2, vi ta3, vr oa, vr b1, vr b6, vr b8, .unset, .unset, .unset, .unset, .unset, .unset, .unset, .unset] [(.int cpy), (.int (Int32.ofNat fr)), (.ref b8), (.ref b6), (.ref b10), (.ref b10)])) rfl (hb hby at_233) k) ?_
  refine vs T10 236 [(.int (cpy &&& (2147483647 : Int32))), (.int (Int32.ofNat fr)), (.ref b8), (.ref b6), (.ref b10), (.ref b10)] (fun t k => XS.iand X10.here hx rfl (hb hby at_235) rfl k) ?_
  obtain ⟨_, _, ⟨T11, L11, k11, n11⟩, -, X11, ⟨Lc11, hQ11, l11, y11, z11⟩, st11⟩ := X10.specialBack hx (y := (⟨"com/example/clew/clew/CharFilter", "<init>", "(Ljava/lang/String;Ljava/lang/String;II)V"⟩ : MethodName)) rfl hown (mvT hZ (ww hw 34 rfl)) (mvT hZ (ww hw 35 rfl)) (mvT hZ (ww hw 36 rfl)) (by decide) (backOf (W := 1) (rm7 l Z a0 hw [] b10 b6 b8 bz_7 kz_7 ln_7 bs_7 cd_7 cs bz_9 kz_9 ln_9 bs_9 cd_9 [ta0, ta1, ta2, ta3] cps fmv fr (cpy &&& (2147483647 : Int32)) h10 n0 Z10 A10 F_copies_b10 F_slots_b10 F_pattern_b10 F_text_b10 F_from_b10 F_reach_b10 F_marks_b10 F_sieve_b10 F_whole_b10 P0_7'10 P1_7'10 P2_7'10 P3_7'10 P0_9'10 P1_9'10 P2_9'10 P3_9'10 SC'10 SA'10 SH'10 SL'10 SF'10 g_b10 hcp ex0_7 (by omega) (by omega) hchp hrf ex0_9 rfl (own_ch4 hch_ta0 hch_ta1 hch_ta2 hch_ta3) hfr (own_cpn cpy) (Ne.symm ne_b6_b10) (Ne.symm ne_b8_b10) (Ne.symm ne_bz_7_b10) (Ne.symm ne_bz_9_b10)) hZ (ww hw 36 rfl) (ww hw 32 rfl) (by decide) (by decide)) (g := (mkF m 236 #[.val (.long pat), .second, .val (.long txt), .second, vi shp, vi cpy, vi (Int32.ofNat mm), vi (Int32.ofNat fr), vi p0, vi p1, vi p2, vi p3, vi ta0, vi ta1, vi ta2, vi ta3, vr oa, vr b1, vr b6, vr b8, .unset, .unset, .unset, .unset, .unset, .unset, .unset, .unset] [(.int (cpy &&& (2147483647 : Int32))), (.int (Int32.ofNat fr)), (.ref b8), (.ref b6), (.ref b10), (.ref b10)])) rfl (by rw [hml]; rfl) (Steps.refl _) (a := b10) (argsL := [(.ref b6), (.ref b8), (.int (Int32.ofNat fr)), (.int (cpy &&& (2147483647 : Int32)))]) (rest := [(.ref b10)]) (lenOf pd_33 rfl) rfl (by show 2 * 0 + _ ≤ _; exact Nat.le_of_eq rfl) (hb hby at_236) (fun _ _ => ⟨rfl, e10, (by decide : ((((((1 + 1) + 1) + 2) + 1) + 2) + 1) + 12 ≤ _), (by decide : ((((((4 + 4) + 4) + 12) + 4) + 12) + 14) + 16483 ≤ _)⟩)
  dsimp only [Pt.U, Pt.locs, Pt.cells, Pt.slots] at X11 l11 y11 z11 st11 hQ11
  subst l11 y11 z11
  obtain ⟨sz_11, bz_11, kz_11, fs_11, se_11, rfl, Nq11, K11q, fz_sz_11, fz_bz_11, ex0_11, P0_11, P1_11, P2_11, P3_11, P4_11, P5_11⟩ := hQ11
  have N11 := Fr.app N9 Nq11
  have SC'11 := own_stakeep SC'10 K11q (allS (own_objE A10) all0)
  have SA'11 := own_stakeep SA'10 K11q (allS (own_objE A10) all0)
  have SH'11 := own_stakeep SH'10 K11q (allS (own_objE A10) all0)
  have SL'11 := own_stakeep SL'10 K11q (allS (own_objE A10) all0)
  have SF'11 := own_stakeep SF'10 K11q (allS (own_objE A10) all0)
  have VTT'11 := VTT'10.keep K11q (ninS ne_b1_b10 nin0)
  have P0_7'11 := P0_7'10.keep K11q
  have P1_7'11 := P1_7'10.keep K11q (ninS ne_b6_b10 nin0)
  have P2_7'11 := P2_7'10.keep K11q (ninS ne_b6_b10 nin0)
  have P3_7'11 := P3_7'10.keep K11q (ninS ne_bz_7_b10 nin0)
  have P0_9'11 := P0_9'10.keep K11q
  have P1_9'11 := P1_9'10.keep K11q (ninS ne_b8_b10 nin0)
  have P2_9'11 := P2_9'10.keep K11q (ninS ne_b8_b10 nin0)
  have P3_9'11 := P3_9'10.keep K11q (ninS ne_bz_9_b10 nin0)
  have A10'11 := A10.keep K11q
  have g_sz_11 : n0 ≤ sz_11 := Nat.le_trans Z10 fz_sz_11
  have g_bz_11 : n0 ≤ bz_11 := Nat.le_trans Z10 fz_bz_11
  have ne_b1_sz_11 : b1 ≠ sz_11 := Nat.ne_of_lt (Nat.lt_of_lt_of_le VTT'10.lt fz_sz_11)
  have ne_b6_sz_11 : b6 ≠ sz_11 := Nat.ne_of_lt (Nat.lt_of_lt_of_le P0_7'10.lt fz_sz_11)
  have ne_bz_7_sz_11 : bz_7 ≠ sz_11 := Nat.ne_of_lt (Nat.lt_of_lt_of_le P3_7'10.lt fz_sz_11)
  have ne_b8_sz_11 : b8 ≠ sz_11 := Nat.ne_of_lt (Nat.lt_of_lt_of_le P0_9'10.lt fz_sz_11)
  have ne_bz_9_sz_11 : bz_9 ≠ sz_11 := Nat.ne_of_lt (Nat.lt_of_lt_of_le P3_9'10.lt fz_sz_11)
  have ne_b10_sz_11 : b10 ≠ sz_11 := Nat.ne_of_lt (Nat.lt_of_lt_of_le A10.lt fz_sz_11)
  have ne_b1_bz_11 : b1 ≠ bz_11 := Nat.ne_of_lt (Nat.lt_of_lt_of_le VTT'10.lt fz_bz_11)
  have ne_b6_bz_11 : b6 ≠ bz_11 := Nat.ne_of_lt (Nat.lt_of_lt_of_le P0_7'10.lt fz_bz_11)
  have ne_bz_7_bz_11 : bz_7 ≠ bz_11 := Nat.ne_of_lt (Nat.lt_of_lt_of_le P3_7'10.lt fz_bz_11)
  have ne_b8_bz_11 : b8 ≠ bz_11 := Nat.ne_of_lt (Nat.lt_of_lt_of_le P0_9'10.lt fz_bz_11)
  have ne_bz_9_bz_11 : bz_9 ≠ bz_11 := Nat.ne_of_lt (Nat.lt_of_lt_of_le P3_9'10.lt fz_bz_11)
  have ne_b10_bz_11 : b10 ≠ bz_11 := Nat.ne_of_lt (Nat.lt_of_lt_of_le A10.lt fz_bz_11)
  have Z11 : n0 ≤ T11.heap.size := Nat.le_trans Z10 K11q.1
  refine vs T11 239 [(.ref b10)] (fun t k => st11.trans k) ?_
  refine vv T11 m 241 #[.val (.long pat), .second, .val (.long txt), .second, vi shp, vi cpy, vi (Int32.ofNat mm), vi (Int32.ofNat fr), vi p0, vi p1, vi p2, vi p3, vi ta0, vi ta1, vi ta2, vi ta3, vr oa, vr b1, vr b6, vr b8, vr b10, .unset, .unset, .unset, .unset, .unset, .unset, .unset] [] (fun t k => XS.astore X11.here hx rfl (hb hby at_239) rfl rfl (l' := #[.val (.long pat), .second, .val (.long txt), .second, vi shp, vi cpy, vi (Int32.ofNat mm), vi (Int32.ofNat fr), vi p0, vi p1, vi p2, vi p3, vi ta0, vi ta1, vi ta2, vi ta3, vr oa, vr b1, vr b6, vr b8, vr b10, .unset, .unset, .unset, .unset, .unset, .unset, .unset]) rfl k) ?_
  refine vs T11 243 [(.ref b10)] (fun t k => XS.aload X11.here hx rfl (hb hby at_241) rfl rfl k) ?_
  obtain ⟨cq12, kq12, q12a, q12b, q12c⟩ := isOf hZ rfl P0_11
  obtain ⟨_, _, ⟨T12, L12, k12, n12⟩, -, X12, ⟨Lc12, hQ12, l12, y12, z12⟩, st12⟩ := X11.virtualBack hx (y := (⟨"com/example/clew/clew/CharFilter", "tested", "()[I"⟩ : MethodName)) (z := (⟨"com/example/clew/clew/CharFilter", "tested", "()[I"⟩ : MethodName)) hown (mvT hZ (ww hw 186 rfl)) (mvT hZ (ww hw 187 rfl)) (notFace_of_selects (args := #[]) (mvT hZ (ww hw 189 rfl))) (mvT hZ (ww hw 189 rfl)) (mvT hZ (ww hw 188 rfl)) (by decide) (backOf (W := 0) (rm33 l Z a0 hw [] b10 sz_11 bz_11 kz_11 (min fs_11 se_11) (max fs_11 se_11) T11.heap n0 Z11 P1_11 P3_11 P4_11 P5_11) hZ (ww hw 190 rfl) (ww hw 32 rfl) (by decide) (by decide)) q12a q12c (g := (mkF m 243 #[.val (.long pat), .second, .val (.long txt), .second, vi shp, vi cpy, vi (Int32.ofNat mm), vi (Int32.ofNat fr), vi p0, vi p1, vi p2, vi p3, vi ta0, vi ta1, vi ta2, vi ta3, vr oa, vr b1, vr b6, vr b8, vr b10, .unset, .unset, .unset, .unset, .unset, .unset, .unset] [(.ref b10)])) rfl (by rw [hml]; rfl) (Steps.refl _) (argsL := []) (rest := []) (lenOf pd_34 rfl) rfl (by show 2 * 0 + _ ≤ _; exact Nat.le_of_eq rfl) (hb hby at_243) (fun _ _ => ⟨rfl, rfl, (by decide : (((((((1 + 1) + 1) + 2) + 1) + 2) + 1) + 12) + 1 ≤ _), (by decide : (((((((4 + 4) + 4) + 12) + 4) + 12) + 14) + 16483) + 4 ≤ _)⟩)
  dsimp only [Pt.U, Pt.locs, Pt.cells, Pt.slots] at X12 l12 y12 z12 st12 hQ12
  subst l12 y12 z12
  obtain ⟨bz_12, kz_12, rfl, Nq12, K12q, fz_bz_12, P0_12⟩ := hQ12
  have N12 := Fr.app N11 Nq12
  have VTT'12 := VTT'11.keep K12q nin0
  have P0_11'12 := P0_11.keep K12q
  have P1_11'12 := P1_11.keep K12q nin0
  have P2_11'12 := P2_11.keep K12q
  have P3_11'12 := P3_11.keep K12q nin0
  have P4_11'12 := P4_11.keep K12q nin0
  have P5_11'12 := P5_11.keep K12q
  have g_bz_12 : n0 ≤ bz_12 := Nat.le_trans Z11 fz_bz_12
  have ne_b1_bz_12 : b1 ≠ bz_12 := Nat.ne_of_lt (Nat.lt_of_lt_of_le VTT'11.lt fz_bz_12)
  have ne_b10_bz_12 : b10 ≠ bz_12 := Nat.ne_of_lt (Nat.lt_of_lt_of_le P0_11.lt fz_bz_12)
  have ne_sz_11_bz_12 : sz_11 ≠ bz_12 := Nat.ne_of_lt (Nat.lt_of_lt_of_le P2_11.lt fz_bz_12)
  have ne_bz_11_bz_12 : bz_11 ≠ bz_12 := Nat.ne_of_lt (Nat.lt_of_lt_of_le P4_11.lt fz_bz_12)
  have Z12 : n0 ≤ T12.heap.size := Nat.le_trans Z11 K12q.1
  refine vs T12 246 [(.ref bz_12)] (fun t k => st12.trans k) ?_
  refine vv T12 m 248 #[.val (.long pat), .second, .val (.long txt), .second, vi shp, vi cpy, vi (Int32.ofNat mm), vi (Int32.ofNat fr), vi p0, vi p1, vi p2, vi p3, vi ta0, vi ta1, vi ta2, vi ta3, vr oa, vr b1, vr b6, vr b8, vr b10, vr bz_12, .unset, .unset, .unset, .unset, .unset, .unset] [] (fun t k => XS.astore X12.here hx rfl (hb hby at_246) rfl rfl (l' := #[.val (.long pat), .second, .val (.long txt), .second, vi shp, vi cpy, vi (Int32.ofNat mm), vi (Int32.ofNat fr), vi p0, vi p1, vi p2, vi p3, vi ta0, vi ta1, vi ta2, vi ta3, vr oa, vr b1, vr b6, vr b8, vr b10, vr bz_12, .unset, .unset, .unset, .unset, .unset, .unset]) rfl k) ?_
  exact b0_248 pat txt shp cpy p0 p1 p2 p3 ta0 ta1 ta2 ta3 fr mm oa b1 b6 b8 b10 bz_12 cs fs_11 se_11 (min fs_11 se_11) (max fs_11 se_11) k1 kz_12 ⟨hx, hZ, hw, hby, hml, hown, hret, hlk, hnm⟩ X12 rfl Z12 N12 VTT'12 P0_12 hfr hmm4 hcl hcs ex0_11 rfl rfl
theorem b0_77_1  (pat : Int64) (txt : Int64) (shp : Int32) (cpy : Int32) (cps : Int32) (fmv : Value) (p0 : Int32) (p1 : Int32) (p2 : Int32) (p3 : Int32) (ta0 : Int32) (ta1 : Int32) (ta2 : Int32) (ta3 : Int32) (fr : Nat)
    (C : own_C p s m meth c Z a0 code maxLocals "com/example/clew/clew/CharFilterTestedPinLaw" ret "law") (X0 : Stand p l e room_1 s m args below meth c T0 locs 0 0) (e0 : T0.heap = h0) (Z0 : n0 ≤ h0.size) (N0 : Fr n0 locs) (SC : Sta Z h0 "java/lang/String" "COMPACT_STRINGS" "Z" (.int cps)) (SA : Sta Z h0 "java/lang/StringUTF16" "$assertionsDisabled" "Z" (.int (1 : Int32))) (SH : Sta Z h0 "java/lang/StringUTF16" "HI_BYTE_SHIFT" "I" (.int (0 : Int32))) (SL : Sta Z h0 "java/lang/StringUTF16" "LO_BYTE_SHIFT" "I" (.int (8 : Int32))) (SF : Sta Z h0 "jdk/internal/util/Preconditions" "SIOOBE_FORMATTER" "Ljava/util/function/BiFunction;" fmv) (hcp : ¬ cps = 0) (hrf : fmv.isRef = true) (hch_p0 : own_ch p0) (hch_p1 : own_ch p1) (hch_p2 : own_ch p2) (hch_p3 : own_ch p3) (hch_ta0 : own_ch ta0) (hch_ta1 : own_ch ta1) (hch_ta2 : own_ch ta2) (hch_ta3 : own_ch ta3) (hfr : fr ≤ 4) :
    own_Go p.tables e below (T0.setTop (mkF m 77 #[.val (.long pat), .second, .val (.long txt), .second, vi shp, vi cpy, vi (1 : Int32), vi (Int32.ofNat fr), vi p0, vi p1, vi p2, vi p3, vi ta0, vi ta1, vi ta2, vi ta3, .unset, .unset, .unset, .unset, .unset, .unset, .unset, .unset, .unset, .unset, .unset, .unset] [])) (own_K s (fun (v : Option Value) (h : Heap) (L : List Loc) => v = some (.int (1 : Int32)) ∧ Fr n0 L) room_1.cells room_1.slots) := by
  obtain ⟨hx, hZ, hw, hby, hml, hown, hret, hlk, hnm⟩ := C
  have hcc : ∀ j, j < [p0].length → own_ch ([p0].getD j 0) := by
    intro j hj
    have hj2 : j = 0 := by have h' : j < 1 := hj; omega
    subst hj2
    exact hch_p0
  have hcq : ∀ j, j < 1 → [p0].getD j 0 = [p0, p1, p2, p3].getD j 0 := by
    intro j hj
    have hj2 : j = 0 := by omega
    subst hj2
    rfl
  refine vs T0 79 [(.int (1 : Int32))] (fun t k => XS.iload X0.here hx rfl (hb hby at_77) rfl k) ?_
  refine vs T0 80 [(.int (1 : Int32)), (.int (1 : Int32))] (fun t k => XS.iconst X0.here hx rfl (hb hby at_79) k) ?_
  have hc1_80 : (1 : Int32) = (1 : Int32) := (by decide)
  refine vs T0 83 [] (fun t k => XS.icmpNo X0.here hx rfl (hb hby at_80) rfl (XT.ii_ne_f hc1_80) k) ?_
  refine vs T0 84 [(.int (1 : Int32))] (fun t k => XS.iconst X0.here hx rfl (hb hby at_83) k) ?_
  obtain ⟨T2, h2, k2, X2, e2, E2, A2, st2⟩ := newP X0 hx hZ (ww hw 0 rfl) e0 (g := (mkF m 84 #[.val (.long pat), .second, .val (.long txt), .second, vi shp, vi cpy, vi (1 : Int32), vi (Int32.ofNat fr), vi p0, vi p1, vi p2, vi p3, vi ta0, vi ta1, vi ta2, vi ta3, .unset, .unset, .unset, .unset, .unset, .unset, .unset, .unset, .unset, .unset, .unset, .unset] [(.int (1 : Int32))])) rfl (hb hby at_84) rfl (by decide) (cap := 4) (by decide) (by decide) (by decide) (by decide)
  obtain ⟨b2, g2⟩ : ∃ z, z = h0.size := ⟨_, rfl⟩
  rw [← g2] at A2 st2
  have g_b2 : n0 ≤ b2 := Nat.le_trans Z0 (Nat.le_of_eq g2.symm)
  have SC'2 := SC.ext E2
  have SA'2 := SA.ext E2
  have SH'2 := SH.ext E2
  have SL'2 := SL.ext E2
  have SF'2 := SF.ext E2
  have Z2 : n0 ≤ h2.size := Nat.le_trans Z0 E2.1
  have V_b2 : Arv Z h2 b2 k2 .char (1 : Int32) [(.int (0 : Int32))] (.int (0 : Int32)) := (Arv.new A2 (by decide)).pad (pad_rep [] (.int (0 : Int32)) 1)
  refine vs T2 86 [(.ref b2)] (fun t k => st2 t k) ?_
  refine vs T2 87 [(.ref b2), (.ref b2)] (fun t k => XS.dup X2.here hx rfl (hb hby at_86) rfl rfl k) ?_
  refine vs T2 88 [(.int (0 : Int32)), (.ref b2), (.ref b2)] (fun t k => XS.iconst X2.here hx rfl (hb hby at_87) k) ?_
  refine vs T2 90 [(.int p0), (.int (0 : Int32)), (.ref b2), (.ref b2)] (fun t k => XS.iload X2.here hx rfl (hb hby at_88) rfl k) ?_
  obtain ⟨cl3, Ar3, qc3, S3, NN3, H3, G3⟩ := id V_b2
  obtain ⟨T3, h3, X3, e3, W3, st3⟩ := stC X2 hx hZ e2 Ar3 (j := (0 : Int32)) (inb_of S3 ⟨by decide, by decide⟩) (g := (mkF m 90 #[.val (.long pat), .second, .val (.long txt), .second, vi shp, vi cpy, vi (1 : Int32), vi (Int32.ofNat fr), vi p0, vi p1, vi p2, vi p3, vi ta0, vi ta1, vi ta2, vi ta3, .unset, .unset, .unset, .unset, .unset, .unset, .unset, .unset, .unset, .unset, .unset, .unset] [(.int p0), (.int (0 : Int32)), (.ref b2), (.ref b2)])) rfl rfl (hb hby at_90)
  have V_b2'3 : Arv Z h3 b2 k2 .char (1 : Int32) [(.int (nar .char p0))] (.int (0 : Int32)) := Arv.set Ar3 qc3 S3 NN3 H3 G3 (fits_nar_char _) W3 0 rfl (Nat.le_of_ble_eq_true rfl)
  have SC'3 := SC'2.wr W3
  have SA'3 := SA'2.wr W3
  have SH'3 := SH'2.wr W3
  have SL'3 := SL'2.wr W3
  have SF'3 := SF'2.wr W3
  have N3 := Fr.snoc X3 N0 g_b2
  have Z3 : n0 ≤ h3.size := Nat.le_trans Z2 (Keep.of_wr W3).1
  refine vs T3 91 [(.ref b2)] (fun t k => st3 t k) ?_
  refine vv T3 m 93 #[.val (.long pat), .second, .val (.long txt), .second, vi shp, vi cpy, vi (1 : Int32), vi (Int32.ofNat fr), vi p0, vi p1, vi p2, vi p3, vi ta0, vi ta1, vi ta2, vi ta3, vr b2, .unset, .unset, .unset, .unset, .unset, .unset, .unset, .unset, .unset, .unset, .unset] [] (fun t k => XS.astore X3.here hx rfl (hb hby at_91) rfl rfl (l' := #[.val (.long pat), .second, .val (.long txt), .second, vi shp, vi cpy, vi (1 : Int32), vi (Int32.ofNat fr), vi p0, vi p1, vi p2, vi p3, vi ta0, vi ta1, vi ta2, vi ta3, vr b2, .unset, .unset, .unset, .unset, .unset, .unset, .unset, .unset, .unset, .unset, .unset]) rfl k) ?_
  refine vs T3 174 [] (fun t k => XS.goto X3.here hx rfl (pc0 := 93) (pc' := 174) rfl (hb hby at_93) (by decide) (by decide) k) ?_
  have VPP : Arv Z h3 b2 k2 .char (1 : Int32) [(.int p0)] (.int (0 : Int32)) := by have q := V_b2'3; rw [own_nnch hch_p0] at q; exact q
  exact b0_174 pat txt shp cpy cps fmv p0 p1 p2 p3 ta0 ta1 ta2 ta3 fr b2 k2 1 [p0] ⟨hx, hZ, hw, hby, hml, hown, hret, hlk, hnm⟩ X3 e3 Z3 N3 VPP SC'3 SA'3 SH'3 SL'3 SF'3 hcp hrf hch_p0 hch_p1 hch_p2 hch_p3 hch_ta0 hch_ta1 hch_ta2 hch_ta3 hfr (by omega) (by omega) rfl hcc hcq
theorem b0_77_2  (pat : Int64) (txt : Int64) (shp : Int32) (cpy : Int32) (cps : Int32) (fmv : Value) (p0 : Int32) (p1 : Int32) (p2 : Int32) (p3 : Int32) (ta0 : Int32) (ta1 : Int32) (ta2 : Int32) (ta3 : Int32) (fr : Nat)
    (C : own_C p s m meth c Z a0 code maxLocals "com/example/clew/clew/CharFilterTestedPinLaw" ret "law") (X0 : Stand p l e room_1 s m args below meth c T0 locs 0 0) (e0 : T0.heap = h0) (Z0 : n0 ≤ h0.size) (N0 : Fr n0 locs) (SC : Sta Z h0 "java/lang/String" "COMPACT_STRINGS" "Z" (.int cps)) (SA : Sta Z h0 "java/lang/StringUTF16" "$assertionsDisabled" "Z" (.int (1 : Int32))) (SH : Sta Z h0 "java/lang/StringUTF16" "HI_BYTE_SHIFT" "I" (.int (0 : Int32))) (SL : Sta Z h0 "java/lang/StringUTF16" "LO_BYTE_SHIFT" "I" (.int (8 : Int32))) (SF : Sta Z h0 "jdk/internal/util/Preconditions" "SIOOBE_FORMATTER" "Ljava/util/function/BiFunction;" fmv) (hcp : ¬ cps = 0) (hrf : fmv.isRef = true) (hch_p0 : own_ch p0) (hch_p1 : own_ch p1) (hch_p2 : own_ch p2) (hch_p3 : own_ch p3) (hch_ta0 : own_ch ta0) (hch_ta1 : own_ch ta1) (hch_ta2 : own_ch ta2) (hch_ta3 : own_ch ta3) (hfr : fr ≤ 4) :
    own_Go p.tables e below (T0.setTop (mkF m 77 #[.val (.long pat), .second, .val (.long txt), .second, vi shp, vi cpy, vi (2 : Int32), vi (Int32.ofNat fr), vi p0, vi p1, vi p2, vi p3, vi ta0, vi ta1, vi ta2, vi ta3, .unset, .unset, .unset, .unset, .unset, .unset, .unset, .unset, .unset, .unset, .unset, .unset] [])) (own_K s (fun (v : Option Value) (h : Heap) (L : List Loc) => v = some (.int (1 : Int32)) ∧ Fr n0 L) room_1.cells room_1.slots) := by
  obtain ⟨hx, hZ, hw, hby, hml, hown, hret, hlk, hnm⟩ := C
  have hcc : ∀ j, j < [p0, p1].length → own_ch ([p0, p1].getD j 0) := by
    intro j hj
    have hj2 : j = 0 ∨ j = 1 := by have h' : j < 2 := hj; omega
    rcases hj2 with rfl | rfl
    · exact hch_p0
    · exact hch_p1
  have hcq : ∀ j, j < 2 → [p0, p1].getD j 0 = [p0, p1, p2, p3].getD j 0 := by
    intro j hj
    have hj2 : j = 0 ∨ j = 1 := by omega
    rcases hj2 with rfl | rfl <;> rfl
  refine vs T0 79 [(.int (2 : Int32))] (fun t k => XS.iload X0.here hx rfl (hb hby at_77) rfl k) ?_
  refine vs T0 80 [(.int (1 : Int32)), (.int (2 : Int32))] (fun t k => XS.iconst X0.here hx rfl (hb hby at_79) k) ?_
  have hc1_80 : ¬ ((2 : Int32) = (1 : Int32)) := (by decide)
  refine vs T0 96 [] (fun t k => XS.icmpYes X0.here hx rfl (pc0 := 80) (pc' := 96) rfl (hb hby at_80) rfl (XT.ii_ne_t hc1_80) (by decide) (by decide) k) ?_
  refine vs T0 98 [(.int (2 : Int32))] (fun t k => XS.iload X0.here hx rfl (hb hby at_96) rfl k) ?_
  refine vs T0 99 [(.int (2 : Int32)), (.int (2 : Int32))] (fun t k => XS.iconst X0.here hx rfl (hb hby at_98) k) ?_
  have hc2_99 : (2 : Int32) = (2 : Int32) := (by decide)
  refine vs T0 102 [] (fun t k => XS.icmpNo X0.here hx rfl (hb hby at_99) rfl (XT.ii_ne_f hc2_99) k) ?_
  refine vs T0 103 [(.int (2 : Int32))] (fun t k => XS.iconst X0.here hx rfl (hb hby at_102) k) ?_
  obtain ⟨T3, h3, k3, X3, e3, E3, A3, st3⟩ := newP X0 hx hZ (ww hw 0 rfl) e0 (g := (mkF m 103 #[.val (.long pat), .second, .val (.long txt), .second, vi shp, vi cpy, vi (2 : Int32), vi (Int32.ofNat fr), vi p0, vi p1, vi p2, vi p3, vi ta0, vi ta1, vi ta2, vi ta3, .unset, .unset, .unset, .unset, .unset, .unset, .unset, .unset, .unset, .unset, .unset, .unset] [(.int (2 : Int32))])) rfl (hb hby at_103) rfl (by decide) (cap := 4) (by decide) (by decide) (by decide) (by decide)
  obtain ⟨b3, g3⟩ : ∃ z, z = h0.size := ⟨_, rfl⟩
  rw [← g3] at A3 st3
  have g_b3 : n0 ≤ b3 := Nat.le_trans Z0 (Nat.le_of_eq g3.symm)
  have SC'3 := SC.ext E3
  have SA'3 := SA.ext E3
  have SH'3 := SH.ext E3
  have SL'3 := SL.ext E3
  have SF'3 := SF.ext E3
  have Z3 : n0 ≤ h3.size := Nat.le_trans Z0 E3.1
  have V_b3 : Arv Z h3 b3 k3 .char (2 : Int32) [(.int (0 : Int32)), (.int (0 : Int32))] (.int (0 : Int32)) := (Arv.new A3 (by decide)).pad (pad_rep [] (.int (0 : Int32)) 2)
  refine vs T3 105 [(.ref b3)] (fun t k => st3 t k) ?_
  refine vs T3 106 [(.ref b3), (.ref b3)] (fun t k => XS.dup X3.here hx rfl (hb hby at_105) rfl rfl k) ?_
  refine vs T3 107 [(.int (0 : Int32)), (.ref b3), (.ref b3)] (fun t k => XS.iconst X3.here hx rfl (hb hby at_106) k) ?_
  refine vs T3 109 [(.int p0), (.int (0 : Int32)), (.ref b3), (.ref b3)] (fun t k => XS.iload X3.here hx rfl (hb hby at_107) rfl k) ?_
  obtain ⟨cl4, Ar4, qc4, S4, NN4, H4, G4⟩ := id V_b3
  obtain ⟨T4, h4, X4, e4, W4, st4⟩ := stC X3 hx hZ e3 Ar4 (j := (0 : Int32)) (inb_of S4 ⟨by decide, by decide⟩) (g := (mkF m 109 #[.val (.long pat), .second, .val (.long txt), .second, vi shp, vi cpy, vi (2 : Int32), vi (Int32.ofNat fr), vi p0, vi p1, vi p2, vi p3, vi ta0, vi ta1, vi ta2, vi ta3, .unset, .unset, .unset, .unset, .unset, .unset, .unset, .unset, .unset, .unset, .unset, .unset] [(.int p0), (.int (0 : Int32)), (.ref b3), (.ref b3)])) rfl rfl (hb hby at_109)
  have V_b3'4 : Arv Z h4 b3 k3 .char (2 : Int32) [(.int (nar .char p0)), (.int (0 : Int32))] (.int (0 : Int32)) := Arv.set Ar4 qc4 S4 NN4 H4 G4 (fits_nar_char _) W4 0 rfl (Nat.le_of_ble_eq_true rfl)
  have SC'4 := SC'3.wr W4
  have SA'4 := SA'3.wr W4
  have SH'4 := SH'3.wr W4
  have SL'4 := SL'3.wr W4
  have SF'4 := SF'3.wr W4
  have N4 := Fr.snoc X4 N0 g_b3
  have Z4 : n0 ≤ h4.size := Nat.le_trans Z3 (Keep.of_wr W4).1
  refine vs T4 110 [(.ref b3)] (fun t k => st4 t k) ?_
  refine vs T4 111 [(.ref b3), (.ref b3)] (fun t k => XS.dup X4.here hx rfl (hb hby at_110) rfl rfl k) ?_
  refine vs T4 112 [(.int (1 : Int32)), (.ref b3), (.ref b3)] (fun t k => XS.iconst X4.here hx rfl (hb hby at_111) k) ?_
  refine vs T4 114 [(.int p1), (.int (1 : Int32)), (.ref b3), (.ref b3)] (fun t k => XS.iload X4.here hx rfl (hb hby at_112) rfl k) ?_
  obtain ⟨cl5, Ar5, qc5, S5, NN5, H5, G5⟩ := id V_b3'4
  obtain ⟨T5, h5, X5, e5, W5, st5⟩ := stC X4 hx hZ e4 Ar5 (j := (1 : Int32)) (inb_of S5 ⟨by decide, by decide⟩) (g := (mkF m 114 #[.val (.long pat), .second, .val (.long txt), .second, vi shp, vi cpy, vi (2 : Int32), vi (Int32.ofNat fr), vi p0, vi p1, vi p2, vi p3, vi ta0, vi ta1, vi ta2, vi ta3, .unset, .unset, .unset, .unset, .unset, .unset, .unset, .unset, .unset, .unset, .unset, .unset] [(.int p1), (.int (1 : Int32)), (.ref b3), (.ref b3)])) rfl rfl (hb hby at_114)
  have V_b3'5 : Arv Z h5 b3 k3 .char (2 : Int32) [(.int (nar .char p0)), (.int (nar .char p1))] (.int (0 : Int32)) := Arv.set Ar5 qc5 S5 NN5 H5 G5 (fits_nar_char _) W5 1 rfl (Nat.le_of_ble_eq_true rfl)
  have SC'5 := SC'4.wr W5
  have SA'5 := SA'4.wr W5
  have SH'5 := SH'4.wr W5
  have SL'5 := SL'4.wr W5
  have SF'5 := SF'4.wr W5
  have N5 := Fr.snoc X5 N4 g_b3
  have Z5 : n0 ≤ h5.size := Nat.le_trans Z4 (Keep.of_wr W5).1
  refine vs T5 115 [(.ref b3)] (fun t k => st5 t k) ?_
  refine vv T5 m 117 #[.val (.long pat), .second, .val (.long txt), .second, vi shp, vi cpy, vi (2 : Int32), vi (Int32.ofNat fr), vi p0, vi p1, vi p2, vi p3, vi ta0, vi ta1, vi ta2, vi ta3, vr b3, .unset, .unset, .unset, .unset, .unset, .unset, .unset, .unset, .unset, .unset, .unset] [] (fun t k => XS.astore X5.here hx rfl (hb hby at_115) rfl rfl (l' := #[.val (.long pat), .second, .val (.long txt), .second, vi shp, vi cpy, vi (2 : Int32), vi (Int32.ofNat fr), vi p0, vi p1, vi p2, vi p3, vi ta0, vi ta1, vi ta2, vi ta3, vr b3, .unset, .unset, .unset, .unset, .unset, .unset, .unset, .unset, .unset, .unset, .unset]) rfl k) ?_
  refine vs T5 174 [] (fun t k => XS.goto X5.here hx rfl (pc0 := 117) (pc' := 174) rfl (hb hby at_117) (by decide) (by decide) k) ?_
  have VPP : Arv Z h5 b3 k3 .char (2 : Int32) [(.int p0), (.int p1)] (.int (0 : Int32)) := by have q := V_b3'5; rw [own_nnch hch_p0, own_nnch hch_p1] at q; exact q
  exact b0_174 pat txt shp cpy cps fmv p0 p1 p2 p3 ta0 ta1 ta2 ta3 fr b3 k3 2 [p0, p1] ⟨hx, hZ, hw, hby, hml, hown, hret, hlk, hnm⟩ X5 e5 Z5 N5 VPP SC'5 SA'5 SH'5 SL'5 SF'5 hcp hrf hch_p0 hch_p1 hch_p2 hch_p3 hch_ta0 hch_ta1 hch_ta2 hch_ta3 hfr (by omega) (by omega) rfl hcc hcq
theorem b0_77_3  (pat : Int64) (txt : Int64) (shp : Int32) (cpy : Int32) (cps : Int32) (fmv : Value) (p0 : Int32) (p1 : Int32) (p2 : Int32) (p3 : Int32) (ta0 : Int32) (ta1 : Int32) (ta2 : Int32) (ta3 : Int32) (fr : Nat)
    (C : own_C p s m meth c Z a0 code maxLocals "com/example/clew/clew/CharFilterTestedPinLaw" ret "law") (X0 : Stand p l e room_1 s m args below meth c T0 locs 0 0) (e0 : T0.heap = h0) (Z0 : n0 ≤ h0.size) (N0 : Fr n0 locs) (SC : Sta Z h0 "java/lang/String" "COMPACT_STRINGS" "Z" (.int cps)) (SA : Sta Z h0 "java/lang/StringUTF16" "$assertionsDisabled" "Z" (.int (1 : Int32))) (SH : Sta Z h0 "java/lang/StringUTF16" "HI_BYTE_SHIFT" "I" (.int (0 : Int32))) (SL : Sta Z h0 "java/lang/StringUTF16" "LO_BYTE_SHIFT" "I" (.int (8 : Int32))) (SF : Sta Z h0 "jdk/internal/util/Preconditions" "SIOOBE_FORMATTER" "Ljava/util/function/BiFunction;" fmv) (hcp : ¬ cps = 0) (hrf : fmv.isRef = true) (hch_p0 : own_ch p0) (hch_p1 : own_ch p1) (hch_p2 : own_ch p2) (hch_p3 : own_ch p3) (hch_ta0 : own_ch ta0) (hch_ta1 : own_ch ta1) (hch_ta2 : own_ch ta2) (hch_ta3 : own_ch ta3) (hfr : fr ≤ 4) :
    own_Go p.tables e below (T0.setTop (mkF m 77 #[.val (.long pat), .second, .val (.long txt), .second, vi shp, vi cpy, vi (3 : Int32), vi (Int32.ofNat fr), vi p0, vi p1, vi p2, vi p3, vi ta0, vi ta1, vi ta2, vi ta3, .unset, .unset, .unset, .unset, .unset, .unset, .unset, .unset, .unset, .unset, .unset, .unset] [])) (own_K s (fun (v : Option Value) (h : Heap) (L : List Loc) => v = some (.int (1 : Int32)) ∧ Fr n0 L) room_1.cells room_1.slots) := by
  obtain ⟨hx, hZ, hw, hby, hml, hown, hret, hlk, hnm⟩ := C
  have hcc : ∀ j, j < [p0, p1, p2].length → own_ch ([p0, p1, p2].getD j 0) := by
    intro j hj
    have hj2 : j = 0 ∨ j = 1 ∨ j = 2 := by have h' : j < 3 := hj; omega
    rcases hj2 with rfl | rfl | rfl
    · exact hch_p0
    · exact hch_p1
    · exact hch_p2
  have hcq : ∀ j, j < 3 → [p0, p1, p2].getD j 0 = [p0, p1, p2, p3].getD j 0 := by
    intro j hj
    have hj2 : j = 0 ∨ j = 1 ∨ j = 2 := by omega
    rcases hj2 with rfl | rfl | rfl <;> rfl
  refine vs T0 79 [(.int (3 : Int32))] (fun t k => XS.iload X0.here hx rfl (hb hby at_77) rfl k) ?_
  refine vs T0 80 [(.int (1 : Int32)), (.int (3 : Int32))] (fun t k => XS.iconst X0.here hx rfl (hb hby at_79) k) ?_
  have hc1_80 : ¬ ((3 : Int32) = (1 : Int32)) := (by decide)
  refine vs T0 96 [] (fun t k => XS.icmpYes X0.here hx rfl (pc0 := 80) (pc' := 96) rfl (hb hby at_80) rfl (XT.ii_ne_t hc1_80) (by decide) (by decide) k) ?_
  refine vs T0 98 [(.int (3 : Int32))] (fun t k => XS.iload X0.here hx rfl (hb hby at_96) rfl k) ?_
  refine vs T0 99 [(.int (2 : Int32)), (.int (3 : Int32))] (fun t k => XS.iconst X0.here hx rfl (hb hby at_98) k) ?_
  have hc2_99 : ¬ ((3 : Int32) = (2 : Int32)) := (by decide)
  refine vs T0 120 [] (fun t k => XS.icmpYes X0.here hx rfl (pc0 := 99) (pc' := 120) rfl (hb hby at_99) rfl (XT.ii_ne_t hc2_99) (by decide) (by decide) k) ?_
  refine vs T0 122 [(.int (3 : Int32))] (fun t k => XS.iload X0.here hx rfl (hb hby at_120) rfl k) ?_
  refine vs T0 123 [(.int (3 : Int32)), (.int (3 : Int32))] (fun t k => XS.iconst X0.here hx rfl (hb hby at_122) k) ?_
  have hc3_123 : (3 : Int32) = (3 : Int32) := (by decide)
  refine vs T0 126 [] (fun t k => XS.icmpNo X0.here hx rfl (hb hby at_123) rfl (XT.ii_ne_f hc3_123) k) ?_
  refine vs T0 127 [(.int (3 : Int32))] (fun t k => XS.iconst X0.here hx rfl (hb hby at_126) k) ?_
  obtain ⟨T4, h4, k4, X4, e4, E4, A4, st4⟩ := newP X0 hx hZ (ww hw 0 rfl) e0 (g := (mkF m 127 #[.val (.long pat), .second, .val (.long txt), .second, vi shp, vi cpy, vi (3 : Int32), vi (Int32.ofNat fr), vi p0, vi p1, vi p2, vi p3, vi ta0, vi ta1, vi ta2, vi ta3, .unset, .unset, .unset, .unset, .unset, .unset, .unset, .unset, .unset, .unset, .unset, .unset] [(.int (3 : Int32))])) rfl (hb hby at_127) rfl (by decide) (cap := 4) (by decide) (by decide) (by decide) (by decide)
  obtain ⟨b4, g4⟩ : ∃ z, z = h0.size := ⟨_, rfl⟩
  rw [← g4] at A4 st4
  have g_b4 : n0 ≤ b4 := Nat.le_trans Z0 (Nat.le_of_eq g4.symm)
  have SC'4 := SC.ext E4
  have SA'4 := SA.ext E4
  have SH'4 := SH.ext E4
  have SL'4 := SL.ext E4
  have SF'4 := SF.ext E4
  have Z4 : n0 ≤ h4.size := Nat.le_trans Z0 E4.1
  have V_b4 : Arv Z h4 b4 k4 .char (3 : Int32) [(.int (0 : Int32)), (.int (0 : Int32)), (.int (0 : Int32))] (.int (0 : Int32)) := (Arv.new A4 (by decide)).pad (pad_rep [] (.int (0 : Int32)) 3)
  refine vs T4 129 [(.ref b4)] (fun t k => st4 t k) ?_
  refine vs T4 130 [(.ref b4), (.ref b4)] (fun t k => XS.dup X4.here hx rfl (hb hby at_129) rfl rfl k) ?_
  refine vs T4 131 [(.int (0 : Int32)), (.ref b4), (.ref b4)] (fun t k => XS.iconst X4.here hx rfl (hb hby at_130) k) ?_
  refine vs T4 133 [(.int p0), (.int (0 : Int32)), (.ref b4), (.ref b4)] (fun t k => XS.iload X4.here hx rfl (hb hby at_131) rfl k) ?_
  obtain ⟨cl5, Ar5, qc5, S5, NN5, H5, G5⟩ := id V_b4
  obtain ⟨T5, h5, X5, e5, W5, st5⟩ := stC X4 hx hZ e4 Ar5 (j := (0 : Int32)) (inb_of S5 ⟨by decide, by decide⟩) (g := (mkF m 133 #[.val (.long pat), .second, .val (.long txt), .second, vi shp, vi cpy, vi (3 : Int32), vi (Int32.ofNat fr), vi p0, vi p1, vi p2, vi p3, vi ta0, vi ta1, vi ta2, vi ta3, .unset, .unset, .unset, .unset, .unset, .unset, .unset, .unset, .unset, .unset, .unset, .unset] [(.int p0), (.int (0 : Int32)), (.ref b4), (.ref b4)])) rfl rfl (hb hby at_133)
  have V_b4'5 : Arv Z h5 b4 k4 .char (3 : Int32) [(.int (nar .char p0)), (.int (0 : Int32)), (.int (0 : Int32))] (.int (0 : Int32)) := Arv.set Ar5 qc5 S5 NN5 H5 G5 (fits_nar_char _) W5 0 rfl (Nat.le_of_ble_eq_true rfl)
  have SC'5 := SC'4.wr W5
  have SA'5 := SA'4.wr W5
  have SH'5 := SH'4.wr W5
  have SL'5 := SL'4.wr W5
  have SF'5 := SF'4.wr W5
  have N5 := Fr.snoc X5 N0 g_b4
  have Z5 : n0 ≤ h5.size := Nat.le_trans Z4 (Keep.of_wr W5).1
  refine vs T5 134 [(.ref b4)] (fun t k => st5 t k) ?_
  refine vs T5 135 [(.ref b4), (.ref b4)] (fun t k => XS.dup X5.here hx rfl (hb hby at_134) rfl rfl k) ?_
  refine vs T5 136 [(.int (1 : Int32)), (.ref b4), (.ref b4)] (fun t k => XS.iconst X5.here hx rfl (hb hby at_135) k) ?_
  refine vs T5 138 [(.int p1), (.int (1 : Int32)), (.ref b4), (.ref b4)] (fun t k => XS.iload X5.here hx rfl (hb hby at_136) rfl k) ?_
  obtain ⟨cl6, Ar6, qc6, S6, NN6, H6, G6⟩ := id V_b4'5
  obtain ⟨T6, h6, X6, e6, W6, st6⟩ := stC X5 hx hZ e5 Ar6 (j := (1 : Int32)) (inb_of S6 ⟨by decide, by decide⟩) (g := (mkF m 138 #[.val (.long pat), .second, .val (.long txt), .second, vi shp, vi cpy, vi (3 : Int32), vi (Int32.ofNat fr), vi p0, vi p1, vi p2, vi p3, vi ta0, vi ta1, vi ta2, vi ta3, .unset, .unset, .unset, .unset, .unset, .unset, .unset, .unset, .unset, .unset, .unset, .unset] [(.int p1), (.int (1 : Int32)), (.ref b4), (.ref b4)])) rfl rfl (hb hby at_138)
  have V_b4'6 : Arv Z h6 b4 k4 .char (3 : Int32) [(.int (nar .char p0)), (.int (nar .char p1)), (.int (0 : Int32))] (.int (0 : Int32)) := Arv.set Ar6 qc6 S6 NN6 H6 G6 (fits_nar_char _) W6 1 rfl (Nat.le_of_ble_eq_true rfl)
  have SC'6 := SC'5.wr W6
  have SA'6 := SA'5.wr W6
  have SH'6 := SH'5.wr W6
  have SL'6 := SL'5.wr W6
  have SF'6 := SF'5.wr W6
  have N6 := Fr.snoc X6 N5 g_b4
  have Z6 : n0 ≤ h6.size := Nat.le_trans Z5 (Keep.of_wr W6).1
  refine vs T6 139 [(.ref b4)] (fun t k => st6 t k) ?_
  refine vs T6 140 [(.ref b4), (.ref b4)] (fun t k => XS.dup X6.here hx rfl (hb hby at_139) rfl rfl k) ?_
  refine vs T6 141 [(.int (2 : Int32)), (.ref b4), (.ref b4)] (fun t k => XS.iconst X6.here hx rfl (hb hby at_140) k) ?_
  refine vs T6 143 [(.int p2), (.int (2 : Int32)), (.ref b4), (.ref b4)] (fun t k => XS.iload X6.here hx rfl (hb hby at_141) rfl k) ?_
  obtain ⟨cl7, Ar7, qc7, S7, NN7, H7, G7⟩ := id V_b4'6
  obtain ⟨T7, h7, X7, e7, W7, st7⟩ := stC X6 hx hZ e6 Ar7 (j := (2 : Int32)) (inb_of S7 ⟨by decide, by decide⟩) (g := (mkF m 143 #[.val (.long pat), .second, .val (.long txt), .second, vi shp, vi cpy, vi (3 : Int32), vi (Int32.ofNat fr), vi p0, vi p1, vi p2, vi p3, vi ta0, vi ta1, vi ta2, vi ta3, .unset, .unset, .unset, .unset, .unset, .unset, .unset, .unset, .unset, .unset, .unset, .unset] [(.int p2), (.int (2 : Int32)), (.ref b4), (.ref b4)])) rfl rfl (hb hby at_143)
  have V_b4'7 : Arv Z h7 b4 k4 .char (3 : Int32) [(.int (nar .char p0)), (.int (nar .char p1)), (.int (nar .char p2))] (.int (0 : Int32)) := Arv.set Ar7 qc7 S7 NN7 H7 G7 (fits_nar_char _) W7 2 rfl (Nat.le_of_ble_eq_true rfl)
  have SC'7 := SC'6.wr W7
  have SA'7 := SA'6.wr W7
  have SH'7 := SH'6.wr W7
  have SL'7 := SL'6.wr W7
  have SF'7 := SF'6.wr W7
  have N7 := Fr.snoc X7 N6 g_b4
  have Z7 : n0 ≤ h7.size := Nat.le_trans Z6 (Keep.of_wr W7).1
  refine vs T7 144 [(.ref b4)] (fun t k => st7 t k) ?_
  refine vv T7 m 146 #[.val (.long pat), .second, .val (.long txt), .second, vi shp, vi cpy, vi (3 : Int32), vi (Int32.ofNat fr), vi p0, vi p1, vi p2, vi p3, vi ta0, vi ta1, vi ta2, vi ta3, vr b4, .unset, .unset, .unset, .unset, .unset, .unset, .unset, .unset, .unset, .unset, .unset] [] (fun t k => XS.astore X7.here hx rfl (hb hby at_144) rfl rfl (l' := #[.val (.long pat), .second, .val (.long txt), .second, vi shp, vi cpy, vi (3 : Int32), vi (Int32.ofNat fr), vi p0, vi p1, vi p2, vi p3, vi ta0, vi ta1, vi ta2, vi ta3, vr b4, .unset, .unset, .unset, .unset, .unset, .unset, .unset, .unset, .unset, .unset, .unset]) rfl k) ?_
  refine vs T7 174 [] (fun t k => XS.goto X7.here hx rfl (pc0 := 146) (pc' := 174) rfl (hb hby at_146) (by decide) (by decide) k) ?_
  have VPP : Arv Z h7 b4 k4 .char (3 : Int32) [(.int p0), (.int p1), (.int p2)] (.int (0 : Int32)) := by have q := V_b4'7; rw [own_nnch hch_p0, own_nnch hch_p1, own_nnch hch_p2] at q; exact q
  exact b0_174 pat txt shp cpy cps fmv p0 p1 p2 p3 ta0 ta1 ta2 ta3 fr b4 k4 3 [p0, p1, p2] ⟨hx, hZ, hw, hby, hml, hown, hret, hlk, hnm⟩ X7 e7 Z7 N7 VPP SC'7 SA'7 SH'7 SL'7 SF'7 hcp hrf hch_p0 hch_p1 hch_p2 hch_p3 hch_ta0 hch_ta1 hch_ta2 hch_ta3 hfr (by omega) (by omega) rfl hcc hcq
theorem b0_77_4  (pat : Int64) (txt : Int64) (shp : Int32) (cpy : Int32) (cps : Int32) (fmv : Value) (p0 : Int32) (p1 : Int32) (p2 : Int32) (p3 : Int32) (ta0 : Int32) (ta1 : Int32) (ta2 : Int32) (ta3 : Int32) (fr : Nat)
    (C : own_C p s m meth c Z a0 code maxLocals "com/example/clew/clew/CharFilterTestedPinLaw" ret "law") (X0 : Stand p l e room_1 s m args below meth c T0 locs 0 0) (e0 : T0.heap = h0) (Z0 : n0 ≤ h0.size) (N0 : Fr n0 locs) (SC : Sta Z h0 "java/lang/String" "COMPACT_STRINGS" "Z" (.int cps)) (SA : Sta Z h0 "java/lang/StringUTF16" "$assertionsDisabled" "Z" (.int (1 : Int32))) (SH : Sta Z h0 "java/lang/StringUTF16" "HI_BYTE_SHIFT" "I" (.int (0 : Int32))) (SL : Sta Z h0 "java/lang/StringUTF16" "LO_BYTE_SHIFT" "I" (.int (8 : Int32))) (SF : Sta Z h0 "jdk/internal/util/Preconditions" "SIOOBE_FORMATTER" "Ljava/util/function/BiFunction;" fmv) (hcp : ¬ cps = 0) (hrf : fmv.isRef = true) (hch_p0 : own_ch p0) (hch_p1 : own_ch p1) (hch_p2 : own_ch p2) (hch_p3 : own_ch p3) (hch_ta0 : own_ch ta0) (hch_ta1 : own_ch ta1) (hch_ta2 : own_ch ta2) (hch_ta3 : own_ch ta3) (hfr : fr ≤ 4) :
    own_Go p.tables e below (T0.setTop (mkF m 77 #[.val (.long pat), .second, .val (.long txt), .second, vi shp, vi cpy, vi (4 : Int32), vi (Int32.ofNat fr), vi p0, vi p1, vi p2, vi p3, vi ta0, vi ta1, vi ta2, vi ta3, .unset, .unset, .unset, .unset, .unset, .unset, .unset, .unset, .unset, .unset, .unset, .unset] [])) (own_K s (fun (v : Option Value) (h : Heap) (L : List Loc) => v = some (.int (1 : Int32)) ∧ Fr n0 L) room_1.cells room_1.slots) := by
  obtain ⟨hx, hZ, hw, hby, hml, hown, hret, hlk, hnm⟩ := C
  have hcc : ∀ j, j < [p0, p1, p2, p3].length → own_ch ([p0, p1, p2, p3].getD j 0) := by
    intro j hj
    have hj2 : j = 0 ∨ j = 1 ∨ j = 2 ∨ j = 3 := by have h' : j < 4 := hj; omega
    rcases hj2 with rfl | rfl | rfl | rfl
    · exact hch_p0
    · exact hch_p1
    · exact hch_p2
    · exact hch_p3
  have hcq : ∀ j, j < 4 → [p0, p1, p2, p3].getD j 0 = [p0, p1, p2, p3].getD j 0 := by
    intro j hj
    have hj2 : j = 0 ∨ j = 1 ∨ j = 2 ∨ j = 3 := by omega
    rcases hj2 with rfl | rfl | rfl | rfl <;> rfl
  refine vs T0 79 [(.int (4 : Int32))] (fun t k => XS.iload X0.here hx rfl (hb hby at_77) rfl k) ?_
  refine vs T0 80 [(.int (1 : Int32)), (.int (4 : Int32))] (fun t k => XS.iconst X0.here hx rfl (hb hby at_79) k) ?_
  have hc1_80 : ¬ ((4 : Int32) = (1 : Int32)) := (by decide)
  refine vs T0 96 [] (fun t k => XS.icmpYes X0.here hx rfl (pc0 := 80) (pc' := 96) rfl (hb hby at_80) rfl (XT.ii_ne_t hc1_80) (by decide) (by decide) k) ?_
  refine vs T0 98 [(.int (4 : Int32))] (fun t k => XS.iload X0.here hx rfl (hb hby at_96) rfl k) ?_
  refine vs T0 99 [(.int (2 : Int32)), (.int (4 : Int32))] (fun t k => XS.iconst X0.here hx rfl (hb hby at_98) k) ?_
  have hc2_99 : ¬ ((4 : Int32) = (2 : Int32)) := (by decide)
  refine vs T0 120 [] (fun t k => XS.icmpYes X0.here hx rfl (pc0 := 99) (pc' := 120) rfl (hb hby at_99) rfl (XT.ii_ne_t hc2_99) (by decide) (by decide) k) ?_
  refine vs T0 122 [(.int (4 : Int32))] (fun t k => XS.iload X0.here hx rfl (hb hby at_120) rfl k) ?_
  refine vs T0 123 [(.int (3 : Int32)), (.int (4 : Int32))] (fun t k => XS.iconst X0.here hx rfl (hb hby at_122) k) ?_
  have hc3_123 : ¬ ((4 : Int32) = (3 : Int32)) := (by decide)
  refine vs T0 149 [] (fun t k => XS.icmpYes X0.here hx rfl (pc0 := 123) (pc' := 149) rfl (hb hby at_123) rfl (XT.ii_ne_t hc3_123) (by decide) (by decide) k) ?_
  refine vs T0 150 [(.int (4 : Int32))] (fun t k => XS.iconst X0.here hx rfl (hb hby at_149) k) ?_
  obtain ⟨T4, h4, k4, X4, e4, E4, A4, st4⟩ := newP X0 hx hZ (ww hw 0 rfl) e0 (g := (mkF m 150 #[.val (.long pat), .second, .val (.long txt), .second, vi shp, vi cpy, vi (4 : Int32), vi (Int32.ofNat fr), vi p0, vi p1, vi p2, vi p3, vi ta0, vi ta1, vi ta2, vi ta3, .unset, .unset, .unset, .unset, .unset, .unset, .unset, .unset, .unset, .unset, .unset, .unset] [(.int (4 : Int32))])) rfl (hb hby at_150) rfl (by decide) (cap := 4) (by decide) (by decide) (by decide) (by decide)
  obtain ⟨b4, g4⟩ : ∃ z, z = h0.size := ⟨_, rfl⟩
  rw [← g4] at A4 st4
  have g_b4 : n0 ≤ b4 := Nat.le_trans Z0 (Nat.le_of_eq g4.symm)
  have SC'4 := SC.ext E4
  have SA'4 := SA.ext E4
  have SH'4 := SH.ext E4
  have SL'4 := SL.ext E4
  have SF'4 := SF.ext E4
  have Z4 : n0 ≤ h4.size := Nat.le_trans Z0 E4.1
  have V_b4 : Arv Z h4 b4 k4 .char (4 : Int32) [(.int (0 : Int32)), (.int (0 : Int32)), (.int (0 : Int32)), (.int (0 : Int32))] (.int (0 : Int32)) := (Arv.new A4 (by decide)).pad (pad_rep [] (.int (0 : Int32)) 4)
  refine vs T4 152 [(.ref b4)] (fun t k => st4 t k) ?_
  refine vs T4 153 [(.ref b4), (.ref b4)] (fun t k => XS.dup X4.here hx rfl (hb hby at_152) rfl rfl k) ?_
  refine vs T4 154 [(.int (0 : Int32)), (.ref b4), (.ref b4)] (fun t k => XS.iconst X4.here hx rfl (hb hby at_153) k) ?_
  refine vs T4 156 [(.int p0), (.int (0 : Int32)), (.ref b4), (.ref b4)] (fun t k => XS.iload X4.here hx rfl (hb hby at_154) rfl k) ?_
  obtain ⟨cl5, Ar5, qc5, S5, NN5, H5, G5⟩ := id V_b4
  obtain ⟨T5, h5, X5, e5, W5, st5⟩ := stC X4 hx hZ e4 Ar5 (j := (0 : Int32)) (inb_of S5 ⟨by decide, by decide⟩) (g := (mkF m 156 #[.val (.long pat), .second, .val (.long txt), .second, vi shp, vi cpy, vi (4 : Int32), vi (Int32.ofNat fr), vi p0, vi p1, vi p2, vi p3, vi ta0, vi ta1, vi ta2, vi ta3, .unset, .unset, .unset, .unset, .unset, .unset, .unset, .unset, .unset, .unset, .unset, .unset] [(.int p0), (.int (0 : Int32)), (.ref b4), (.ref b4)])) rfl rfl (hb hby at_156)
  have V_b4'5 : Arv Z h5 b4 k4 .char (4 : Int32) [(.int (nar .char p0)), (.int (0 : Int32)), (.int (0 : Int32)), (.int (0 : Int32))] (.int (0 : Int32)) := Arv.set Ar5 qc5 S5 NN5 H5 G5 (fits_nar_char _) W5 0 rfl (Nat.le_of_ble_eq_true rfl)
  have SC'5 := SC'4.wr W5
  have SA'5 := SA'4.wr W5
  have SH'5 := SH'4.wr W5
  have SL'5 := SL'4.wr W5
  have SF'5 := SF'4.wr W5
  have N5 := Fr.snoc X5 N0 g_b4
  have Z5 : n0 ≤ h5.size := Nat.le_trans Z4 (Keep.of_wr W5).1
  refine vs T5 157 [(.ref b4)] (fun t k => st5 t k) ?_
  refine vs T5 158 [(.ref b4), (.ref b4)] (fun t k => XS.dup X5.here hx rfl (hb hby at_157) rfl rfl k) ?_
  refine vs T5 159 [(.int (1 : Int32)), (.ref b4), (.ref b4)] (fun t k => XS.iconst X5.here hx rfl (hb hby at_158) k) ?_
  refine vs T5 161 [(.int p1), (.int (1 : Int32)), (.ref b4), (.ref b4)] (fun t k => XS.iload X5.here hx rfl (hb hby at_159) rfl k) ?_
  obtain ⟨cl6, Ar6, qc6, S6, NN6, H6, G6⟩ := id V_b4'5
  obtain ⟨T6, h6, X6, e6, W6, st6⟩ := stC X5 hx hZ e5 Ar6 (j := (1 : Int32)) (inb_of S6 ⟨by decide, by decide⟩) (g := (mkF m 161 #[.val (.long pat), .second, .val (.long txt), .second, vi shp, vi cpy, vi (4 : Int32), vi (Int32.ofNat fr), vi p0, vi p1, vi p2, vi p3, vi ta0, vi ta1, vi ta2, vi ta3, .unset, .unset, .unset, .unset, .unset, .unset, .unset, .unset, .unset, .unset, .unset, .unset] [(.int p1), (.int (1 : Int32)), (.ref b4), (.ref b4)])) rfl rfl (hb hby at_161)
  have V_b4'6 : Arv Z h6 b4 k4 .char (4 : Int32) [(.int (nar .char p0)), (.int (nar .char p1)), (.int (0 : Int32)), (.int (0 : Int32))] (.int (0 : Int32)) := Arv.set Ar6 qc6 S6 NN6 H6 G6 (fits_nar_char _) W6 1 rfl (Nat.le_of_ble_eq_true rfl)
  have SC'6 := SC'5.wr W6
  have SA'6 := SA'5.wr W6
  have SH'6 := SH'5.wr W6
  have SL'6 := SL'5.wr W6
  have SF'6 := SF'5.wr W6
  have N6 := Fr.snoc X6 N5 g_b4
  have Z6 : n0 ≤ h6.size := Nat.le_trans Z5 (Keep.of_wr W6).1
  refine vs T6 162 [(.ref b4)] (fun t k => st6 t k) ?_
  refine vs T6 163 [(.ref b4), (.ref b4)] (fun t k => XS.dup X6.here hx rfl (hb hby at_162) rfl rfl k) ?_
  refine vs T6 164 [(.int (2 : Int32)), (.ref b4), (.ref b4)] (fun t k => XS.iconst X6.here hx rfl (hb hby at_163) k) ?_
  refine vs T6 166 [(.int p2), (.int (2 : Int32)), (.ref b4), (.ref b4)] (fun t k => XS.iload X6.here hx rfl (hb hby at_164) rfl k) ?_
  obtain ⟨cl7, Ar7, qc7, S7, NN7, H7, G7⟩ := id V_b4'6
  obtain ⟨T7, h7, X7, e7, W7, st7⟩ := stC X6 hx hZ e6 Ar7 (j := (2 : Int32)) (inb_of S7 ⟨by decide, by decide⟩) (g := (mkF m 166 #[.val (.long pat), .second, .val (.long txt), .second, vi shp, vi cpy, vi (4 : Int32), vi (Int32.ofNat fr), vi p0, vi p1, vi p2, vi p3, vi ta0, vi ta1, vi ta2, vi ta3, .unset, .unset, .unset, .unset, .unset, .unset, .unset, .unset, .unset, .unset, .unset, .unset] [(.int p2), (.int (2 : Int32)), (.ref b4), (.ref b4)])) rfl rfl (hb hby at_166)
  have V_b4'7 : Arv Z h7 b4 k4 .char (4 : Int32) [(.int (nar .char p0)), (.int (nar .char p1)), (.int (nar .char p2)), (.int (0 : Int32))] (.int (0 : Int32)) := Arv.set Ar7 qc7 S7 NN7 H7 G7 (fits_nar_char _) W7 2 rfl (Nat.le_of_ble_eq_true rfl)
  have SC'7 := SC'6.wr W7
  have SA'7 := SA'6.wr W7
  have SH'7 := SH'6.wr W7
  have SL'7 := SL'6.wr W7
  have SF'7 := SF'6.wr W7
  have N7 := Fr.snoc X7 N6 g_b4
  have Z7 : n0 ≤ h7.size := Nat.le_trans Z6 (Keep.of_wr W7).1
  refine vs T7 167 [(.ref b4)] (fun t k => st7 t k) ?_
  refine vs T7 168 [(.ref b4), (.ref b4)] (fun t k => XS.dup X7.here hx rfl (hb hby at_167) rfl rfl k) ?_
  refine vs T7 169 [(.int (3 : Int32)), (.ref b4), (.ref b4)] (fun t k => XS.iconst X7.here hx rfl (hb hby at_168) k) ?_
  refine vs T7 171 [(.int p3), (.int (3 : Int32)), (.ref b4), (.ref b4)] (fun t k => XS.iload X7.here hx rfl (hb hby at_169) rfl k) ?_
  obtain ⟨cl8, Ar8, qc8, S8, NN8, H8, G8⟩ := id V_b4'7
  obtain ⟨T8, h8, X8, e8, W8, st8⟩ := stC X7 hx hZ e7 Ar8 (j := (3 : Int32)) (inb_of S8 ⟨by decide, by decide⟩) (g := (mkF m 171 #[.val (.long pat), .second, .val (.long txt), .second, vi shp, vi cpy, vi (4 : Int32), vi (Int32.ofNat fr), vi p0, vi p1, vi p2, vi p3, vi ta0, vi ta1, vi ta2, vi ta3, .unset, .unset, .unset, .unset, .unset, .unset, .unset, .unset, .unset, .unset, .unset, .unset] [(.int p3), (.int (3 : Int32)), (.ref b4), (.ref b4)])) rfl rfl (hb hby at_171)
  have V_b4'8 : Arv Z h8 b4 k4 .char (4 : Int32) [(.int (nar .char p0)), (.int (nar .char p1)), (.int (nar .char p2)), (.int (nar .char p3))] (.int (0 : Int32)) := Arv.set Ar8 qc8 S8 NN8 H8 G8 (fits_nar_char _) W8 3 rfl (Nat.le_of_ble_eq_true rfl)
  have SC'8 := SC'7.wr W8
  have SA'8 := SA'7.wr W8
  have SH'8 := SH'7.wr W8
  have SL'8 := SL'7.wr W8
  have SF'8 := SF'7.wr W8
  have N8 := Fr.snoc X8 N7 g_b4
  have Z8 : n0 ≤ h8.size := Nat.le_trans Z7 (Keep.of_wr W8).1
  refine vs T8 172 [(.ref b4)] (fun t k => st8 t k) ?_
  refine vv T8 m 174 #[.val (.long pat), .second, .val (.long txt), .second, vi shp, vi cpy, vi (4 : Int32), vi (Int32.ofNat fr), vi p0, vi p1, vi p2, vi p3, vi ta0, vi ta1, vi ta2, vi ta3, vr b4, .unset, .unset, .unset, .unset, .unset, .unset, .unset, .unset, .unset, .unset, .unset] [] (fun t k => XS.astore X8.here hx rfl (hb hby at_172) rfl rfl (l' := #[.val (.long pat), .second, .val (.long txt), .second, vi shp, vi cpy, vi (4 : Int32), vi (Int32.ofNat fr), vi p0, vi p1, vi p2, vi p3, vi ta0, vi ta1, vi ta2, vi ta3, vr b4, .unset, .unset, .unset, .unset, .unset, .unset, .unset, .unset, .unset, .unset, .unset]) rfl k) ?_
  have VPP : Arv Z h8 b4 k4 .char (4 : Int32) [(.int p0), (.int p1), (.int p2), (.int p3)] (.int (0 : Int32)) := by have q := V_b4'8; rw [own_nnch hch_p0, own_nnch hch_p1, own_nnch hch_p2, own_nnch hch_p3] at q; exact q
  exact b0_174 pat txt shp cpy cps fmv p0 p1 p2 p3 ta0 ta1 ta2 ta3 fr b4 k4 4 [p0, p1, p2, p3] ⟨hx, hZ, hw, hby, hml, hown, hret, hlk, hnm⟩ X8 e8 Z8 N8 VPP SC'8 SA'8 SH'8 SL'8 SF'8 hcp hrf hch_p0 hch_p1 hch_p2 hch_p3 hch_ta0 hch_ta1 hch_ta2 hch_ta3 hfr (by omega) (by omega) rfl hcc hcq
def Q0 (Z : State) (pat : Int64) (txt : Int64) (shp : Int32) (cpy : Int32) (cps : Int32) (fmv : Value) (h0 : Heap) (n0 : Nat) (v : Option Value) (h : Heap) (L : List Loc) : Prop := v = some (.int (1 : Int32)) ∧ Fr n0 L
theorem b0  (pat : Int64) (txt : Int64) (shp : Int32) (cpy : Int32) (cps : Int32) (fmv : Value)
    (C : own_C p s m meth c Z a0 code maxLocals "com/example/clew/clew/CharFilterTestedPinLaw" ret "law") (X0 : Stand p l e room_1 s m args below meth c T0 locs 0 0) (e0 : T0.heap = h0) (Z0 : n0 ≤ h0.size) (N0 : Fr n0 locs) (SC : Sta Z h0 "java/lang/String" "COMPACT_STRINGS" "Z" (.int cps)) (SA : Sta Z h0 "java/lang/StringUTF16" "$assertionsDisabled" "Z" (.int (1 : Int32))) (SH : Sta Z h0 "java/lang/StringUTF16" "HI_BYTE_SHIFT" "I" (.int (0 : Int32))) (SL : Sta Z h0 "java/lang/StringUTF16" "LO_BYTE_SHIFT" "I" (.int (8 : Int32))) (SF : Sta Z h0 "jdk/internal/util/Preconditions" "SIOOBE_FORMATTER" "Ljava/util/function/BiFunction;" fmv) (hcp : ¬ cps = 0) (hrf : fmv.isRef = true) :
    own_Go p.tables e below (T0.setTop (mkF m 0 #[.val (.long pat), .second, .val (.long txt), .second, vi shp, vi cpy, .unset, .unset, .unset, .unset, .unset, .unset, .unset, .unset, .unset, .unset, .unset, .unset, .unset, .unset, .unset, .unset, .unset, .unset, .unset, .unset, .unset, .unset] [])) (own_K s (fun (v : Option Value) (h : Heap) (L : List Loc) => Q0 Z pat txt shp cpy cps fmv h0 n0 v h L) room_1.cells room_1.slots) := by
  obtain ⟨hx, hZ, hw, hby, hml, hown, hret, hlk, hnm⟩ := C
  refine vs T0 2 [(.int shp)] (fun t k => XS.iload X0.here hx rfl (hb hby at_0) rfl k) ?_
  refine vs T0 3 [(.int (3 : Int32)), (.int shp)] (fun t k => XS.iconst X0.here hx rfl (hb hby at_2) k) ?_
  refine vs T0 4 [(.int (shp &&& (3 : Int32)))] (fun t k => XS.iand X0.here hx rfl (hb hby at_3) rfl k) ?_
  refine vs T0 5 [(.int (1 : Int32)), (.int (shp &&& (3 : Int32)))] (fun t k => XS.iconst X0.here hx rfl (hb hby at_4) k) ?_
  refine vs T0 6 [(.int ((shp &&& (3 : Int32)) + (1 : Int32)))] (fun t k => XS.iadd X0.here hx rfl (hb hby at_5) rfl k) ?_
  obtain ⟨mm, hmm1, hmm4, em⟩ := own_mv shp
  rw [em]
  refine vv T0 m 8 #[.val (.long pat), .second, .val (.long txt), .second, vi shp, vi cpy, vi (Int32.ofNat mm), .unset, .unset, .unset, .unset, .unset, .unset, .unset, .unset, .unset, .unset, .unset, .unset, .unset, .unset, .unset, .unset, .unset, .unset, .unset, .unset, .unset] [] (fun t k => XS.istore X0.here hx rfl (hb hby at_6) rfl (l' := #[.val (.long pat), .second, .val (.long txt), .second, vi shp, vi cpy, vi (Int32.ofNat mm), .unset, .unset, .unset, .unset, .unset, .unset, .unset, .unset, .unset, .unset, .unset, .unset, .unset, .unset, .unset, .unset, .unset, .unset, .unset, .unset, .unset]) rfl k) ?_
  refine vs T0 10 [(.int shp)] (fun t k => XS.iload X0.here hx rfl (hb hby at_8) rfl k) ?_
  refine vs T0 11 [(.int (2 : Int32)), (.int shp)] (fun t k => XS.iconst X0.here hx rfl (hb hby at_10) k) ?_
  refine vs T0 12 [(.int (XT.ushr shp (2 : Int32)))] (fun t k => XT.iushr X0.here hx rfl (hb hby at_11) rfl k) ?_
  refine vs T0 14 [(.int (7 : Int32)), (.int (XT.ushr shp (2 : Int32)))] (fun t k => XS.bipush X0.here hx rfl (hb hby at_12) k) ?_
  refine vs T0 15 [(.int ((XT.ushr shp (2 : Int32)) &&& (7 : Int32)))] (fun t k => XS.iand X0.here hx rfl (hb hby at_14) rfl k) ?_
  refine vs T0 16 [(.int (5 : Int32)), (.int ((XT.ushr shp (2 : Int32)) &&& (7 : Int32)))] (fun t k => XS.iconst X0.here hx rfl (hb hby at_15) k) ?_
  refine vs T0 17 [(.int (((XT.ushr shp (2 : Int32)) &&& (7 : Int32)) % (5 : Int32)))] (fun t k => iremM X0 hx rfl (hb hby at_16) rfl (by decide) k) ?_
  obtain ⟨fr, hfr, ef⟩ := own_fv (XT.ushr shp (2 : Int32))
  rw [ef]
  refine vv T0 m 19 #[.val (.long pat), .second, .val (.long txt), .second, vi shp, vi cpy, vi (Int32.ofNat mm), vi (Int32.ofNat fr), .unset, .unset, .unset, .unset, .unset, .unset, .unset, .unset, .unset, .unset, .unset, .unset, .unset, .unset, .unset, .unset, .unset, .unset, .unset, .unset] [] (fun t k => XS.istore X0.here hx rfl (hb hby at_17) rfl (l' := #[.val (.long pat), .second, .val (.long txt), .second, vi shp, vi cpy, vi (Int32.ofNat mm), vi (Int32.ofNat fr), .unset, .unset, .unset, .unset, .unset, .unset, .unset, .unset, .unset, .unset, .unset, .unset, .unset, .unset, .unset, .unset, .unset, .unset, .unset, .unset]) rfl k) ?_
  refine vs T0 20 [(.long pat)] (fun t k => XT.lloadN X0.here hx rfl (hb hby at_19) rfl k) ?_
  refine vs T0 21 [(.int (pat.toInt32))] (fun t k => XT.l2i X0.here hx rfl (hb hby at_20) rfl k) ?_
  refine vs T0 22 [(.int ((pat.toInt32).toUInt32.toUInt16.toUInt32.toInt32))] (fun t k => XT.i2c X0.here hx rfl (hb hby at_21) rfl k) ?_
  obtain ⟨p0, e_p0⟩ : ∃ z, z = ((pat.toInt32).toUInt32.toUInt16.toUInt32.toInt32) := ⟨_, rfl⟩
  rw [← e_p0]
  have hch_p0 : own_ch p0 := by rw [e_p0]; exact own_i2c _
  refine vv T0 m 24 #[.val (.long pat), .second, .val (.long txt), .second, vi shp, vi cpy, vi (Int32.ofNat mm), vi (Int32.ofNat fr), vi p0, .unset, .unset, .unset, .unset, .unset, .unset, .unset, .unset, .unset, .unset, .unset, .unset, .unset, .unset, .unset, .unset, .unset, .unset, .unset] [] (fun t k => XS.istore X0.here hx rfl (hb hby at_22) rfl (l' := #[.val (.long pat), .second, .val (.long txt), .second, vi shp, vi cpy, vi (Int32.ofNat mm), vi (Int32.ofNat fr), vi p0, .unset, .unset, .unset, .unset, .unset, .unset, .unset, .unset, .unset, .unset, .unset, .unset, .unset, .unset, .unset, .unset, .unset, .unset, .unset]) rfl k) ?_
  refine vs T0 25 [(.long pat)] (fun t k => XT.lloadN X0.here hx rfl (hb hby at_24) rfl k) ?_
  refine vs T0 27 [(.int (16 : Int32)), (.long pat)] (fun t k => XS.bipush X0.here hx rfl (hb hby at_25) k) ?_
  refine vs T0 28 [(.long (XT.ushrL pat (16 : Int32)))] (fun t k => XT.lushr X0.here hx rfl (hb hby at_27) rfl k) ?_
  refine vs T0 29 [(.int ((XT.ushrL pat (16 : Int32)).toInt32))] (fun t k => XT.l2i X0.here hx rfl (hb hby at_28) rfl k) ?_
  refine vs T0 30 [(.int (((XT.ushrL pat (16 : Int32)).toInt32).toUInt32.toUInt16.toUInt32.toInt32))] (fun t k => XT.i2c X0.here hx rfl (hb hby at_29) rfl k) ?_
  obtain ⟨p1, e_p1⟩ : ∃ z, z = (((XT.ushrL pat (16 : Int32)).toInt32).toUInt32.toUInt16.toUInt32.toInt32) := ⟨_, rfl⟩
  rw [← e_p1]
  have hch_p1 : own_ch p1 := by rw [e_p1]; exact own_i2c _
  refine vv T0 m 32 #[.val (.long pat), .second, .val (.long txt), .second, vi shp, vi cpy, vi (Int32.ofNat mm), vi (Int32.ofNat fr), vi p0, vi p1, .unset, .unset, .unset, .unset, .unset, .unset, .unset, .unset, .unset, .unset, .unset, .unset, .unset, .unset, .unset, .unset, .unset, .unset] [] (fun t k => XS.istore X0.here hx rfl (hb hby at_30) rfl (l' := #[.val (.long pat), .second, .val (.long txt), .second, vi shp, vi cpy, vi (Int32.ofNat mm), vi (Int32.ofNat fr), vi p0, vi p1, .unset, .unset, .unset, .unset, .unset, .unset, .unset, .unset, .unset, .unset, .unset, .unset, .unset, .unset, .unset, .unset, .unset, .unset]) rfl k) ?_
  refine vs T0 33 [(.long pat)] (fun t k => XT.lloadN X0.here hx rfl (hb hby at_32) rfl k) ?_
  refine vs T0 35 [(.int (32 : Int32)), (.long pat)] (fun t k => XS.bipush X0.here hx rfl (hb hby at_33) k) ?_
  refine vs T0 36 [(.long (XT.ushrL pat (32 : Int32)))] (fun t k => XT.lushr X0.here hx rfl (hb hby at_35) rfl k) ?_
  refine vs T0 37 [(.int ((XT.ushrL pat (32 : Int32)).toInt32))] (fun t k => XT.l2i X0.here hx rfl (hb hby at_36) rfl k) ?_
  refine vs T0 38 [(.int (((XT.ushrL pat (32 : Int32)).toInt32).toUInt32.toUInt16.toUInt32.toInt32))] (fun t k => XT.i2c X0.here hx rfl (hb hby at_37) rfl k) ?_
  obtain ⟨p2, e_p2⟩ : ∃ z, z = (((XT.ushrL pat (32 : Int32)).toInt32).toUInt32.toUInt16.toUInt32.toInt32) := ⟨_, rfl⟩
  rw [← e_p2]
  have hch_p2 : own_ch p2 := by rw [e_p2]; exact own_i2c _
  refine vv T0 m 40 #[.val (.long pat), .second, .val (.long txt), .second, vi shp, vi cpy, vi (Int32.ofNat mm), vi (Int32.ofNat fr), vi p0, vi p1, vi p2, .unset, .unset, .unset, .unset, .unset, .unset, .unset, .unset, .unset, .unset, .unset, .unset, .unset, .unset, .unset, .unset, .unset] [] (fun t k => XS.istore X0.here hx rfl (hb hby at_38) rfl (l' := #[.val (.long pat), .second, .val (.long txt), .second, vi shp, vi cpy, vi (Int32.ofNat mm), vi (Int32.ofNat fr), vi p0, vi p1, vi p2, .unset, .unset, .unset, .unset, .unset, .unset, .unset, .unset, .unset, .unset, .unset, .unset, .unset, .unset, .unset, .unset, .unset]) rfl k) ?_
  refine vs T0 41 [(.long pat)] (fun t k => XT.lloadN X0.here hx rfl (hb hby at_40) rfl k) ?_
  refine vs T0 43 [(.int (48 : Int32)), (.long pat)] (fun t k => XS.bipush X0.here hx rfl (hb hby at_41) k) ?_
  refine vs T0 44 [(.long (XT.ushrL pat (48 : Int32)))] (fun t k => XT.lushr X0.here hx rfl (hb hby at_43) rfl k) ?_
  refine vs T0 45 [(.int ((XT.ushrL pat (48 : Int32)).toInt32))] (fun t k => XT.l2i X0.here hx rfl (hb hby at_44) rfl k) ?_
  refine vs T0 46 [(.int (((XT.ushrL pat (48 : Int32)).toInt32).toUInt32.toUInt16.toUInt32.toInt32))] (fun t k => XT.i2c X0.here hx rfl (hb hby at_45) rfl k) ?_
  obtain ⟨p3, e_p3⟩ : ∃ z, z = (((XT.ushrL pat (48 : Int32)).toInt32).toUInt32.toUInt16.toUInt32.toInt32) := ⟨_, rfl⟩
  rw [← e_p3]
  have hch_p3 : own_ch p3 := by rw [e_p3]; exact own_i2c _
  refine vv T0 m 48 #[.val (.long pat), .second, .val (.long txt), .second, vi shp, vi cpy, vi (Int32.ofNat mm), vi (Int32.ofNat fr), vi p0, vi p1, vi p2, vi p3, .unset, .unset, .unset, .unset, .unset, .unset, .unset, .unset, .unset, .unset, .unset, .unset, .unset, .unset, .unset, .unset] [] (fun t k => XS.istore X0.here hx rfl (hb hby at_46) rfl (l' := #[.val (.long pat), .second, .val (.long txt), .second, vi shp, vi cpy, vi (Int32.ofNat mm), vi (Int32.ofNat fr), vi p0, vi p1, vi p2, vi p3, .unset, .unset, .unset, .unset, .unset, .unset, .unset, .unset, .unset, .unset, .unset, .unset, .unset, .unset, .unset, .unset]) rfl k) ?_
  refine vs T0 49 [(.long txt)] (fun t k => XT.lloadN X0.here hx rfl (hb hby at_48) rfl k) ?_
  refine vs T0 50 [(.int (txt.toInt32))] (fun t k => XT.l2i X0.here hx rfl (hb hby at_49) rfl k) ?_
  refine vs T0 51 [(.int ((txt.toInt32).toUInt32.toUInt16.toUInt32.toInt32))] (fun t k => XT.i2c X0.here hx rfl (hb hby at_50) rfl k) ?_
  obtain ⟨ta0, e_ta0⟩ : ∃ z, z = ((txt.toInt32).toUInt32.toUInt16.toUInt32.toInt32) := ⟨_, rfl⟩
  rw [← e_ta0]
  have hch_ta0 : own_ch ta0 := by rw [e_ta0]; exact own_i2c _
  refine vv T0 m 53 #[.val (.long pat), .second, .val (.long txt), .second, vi shp, vi cpy, vi (Int32.ofNat mm), vi (Int32.ofNat fr), vi p0, vi p1, vi p2, vi p3, vi ta0, .unset, .unset, .unset, .unset, .unset, .unset, .unset, .unset, .unset, .unset, .unset, .unset, .unset, .unset, .unset] [] (fun t k => XS.istore X0.here hx rfl (hb hby at_51) rfl (l' := #[.val (.long pat), .second, .val (.long txt), .second, vi shp, vi cpy, vi (Int32.ofNat mm), vi (Int32.ofNat fr), vi p0, vi p1, vi p2, vi p3, vi ta0, .unset, .unset, .unset, .unset, .unset, .unset, .unset, .unset, .unset, .unset, .unset, .unset, .unset, .unset, .unset]) rfl k) ?_
  refine vs T0 54 [(.long txt)] (fun t k => XT.lloadN X0.here hx rfl (hb hby at_53) rfl k) ?_
  refine vs T0 56 [(.int (16 : Int32)), (.long txt)] (fun t k => XS.bipush X0.here hx rfl (hb hby at_54) k) ?_
  refine vs T0 57 [(.long (XT.ushrL txt (16 : Int32)))] (fun t k => XT.lushr X0.here hx rfl (hb hby at_56) rfl k) ?_
  refine vs T0 58 [(.int ((XT.ushrL txt (16 : Int32)).toInt32))] (fun t k => XT.l2i X0.here hx rfl (hb hby at_57) rfl k) ?_
  refine vs T0 59 [(.int (((XT.ushrL txt (16 : Int32)).toInt32).toUInt32.toUInt16.toUInt32.toInt32))] (fun t k => XT.i2c X0.here hx rfl (hb hby at_58) rfl k) ?_
  obtain ⟨ta1, e_ta1⟩ : ∃ z, z = (((XT.ushrL txt (16 : Int32)).toInt32).toUInt32.toUInt16.toUInt32.toInt32) := ⟨_, rfl⟩
  rw [← e_ta1]
  have hch_ta1 : own_ch ta1 := by rw [e_ta1]; exact own_i2c _
  refine vv T0 m 61 #[.val (.long pat), .second, .val (.long txt), .second, vi shp, vi cpy, vi (Int32.ofNat mm), vi (Int32.ofNat fr), vi p0, vi p1, vi p2, vi p3, vi ta0, vi ta1, .unset, .unset, .unset, .unset, .unset, .unset, .unset, .unset, .unset, .unset, .unset, .unset, .unset, .unset] [] (fun t k => XS.istore X0.here hx rfl (hb hby at_59) rfl (l' := #[.val (.long pat), .second, .val (.long txt), .second, vi shp, vi cpy, vi (Int32.ofNat mm), vi (Int32.ofNat fr), vi p0, vi p1, vi p2, vi p3, vi ta0, vi ta1, .unset, .unset, .unset, .unset, .unset, .unset, .unset, .unset, .unset, .unset, .unset, .unset, .unset, .unset]) rfl k) ?_
  refine vs T0 62 [(.long txt)] (fun t k => XT.lloadN X0.here hx rfl (hb hby at_61) rfl k) ?_
  refine vs T0 64 [(.int (32 : Int32)), (.long txt)] (fun t k => XS.bipush X0.here hx rfl (hb hby at_62) k) ?_
  refine vs T0 65 [(.long (XT.ushrL txt (32 : Int32)))] (fun t k => XT.lushr X0.here hx rfl (hb hby at_64) rfl k) ?_
  refine vs T0 66 [(.int ((XT.ushrL txt (32 : Int32)).toInt32))] (fun t k => XT.l2i X0.here hx rfl (hb hby at_65) rfl k) ?_
  refine vs T0 67 [(.int (((XT.ushrL txt (32 : Int32)).toInt32).toUInt32.toUInt16.toUInt32.toInt32))] (fun t k => XT.i2c X0.here hx rfl (hb hby at_66) rfl k) ?_
  obtain ⟨ta2, e_ta2⟩ : ∃ z, z = (((XT.ushrL txt (32 : Int32)).toInt32).toUInt32.toUInt16.toUInt32.toInt32) := ⟨_, rfl⟩
  rw [← e_ta2]
  have hch_ta2 : own_ch ta2 := by rw [e_ta2]; exact own_i2c _
  refine vv T0 m 69 #[.val (.long pat), .second, .val (.long txt), .second, vi shp, vi cpy, vi (Int32.ofNat mm), vi (Int32.ofNat fr), vi p0, vi p1, vi p2, vi p3, vi ta0, vi ta1, vi ta2, .unset, .unset, .unset, .unset, .unset, .unset, .unset, .unset, .unset, .unset, .unset, .unset, .unset] [] (fun t k => XS.istore X0.here hx rfl (hb hby at_67) rfl (l' := #[.val (.long pat), .second, .val (.long txt), .second, vi shp, vi cpy, vi (Int32.ofNat mm), vi (Int32.ofNat fr), vi p0, vi p1, vi p2, vi p3, vi ta0, vi ta1, vi ta2, .unset, .unset, .unset, .unset, .unset, .unset, .unset, .unset, .unset, .unset, .unset, .unset, .unset]) rfl k) ?_
  refine vs T0 70 [(.long txt)] (fun t k => XT.lloadN X0.here hx rfl (hb hby at_69) rfl k) ?_
  refine vs T0 72 [(.int (48 : Int32)), (.long txt)] (fun t k => XS.bipush X0.here hx rfl (hb hby at_70) k) ?_
  refine vs T0 73 [(.long (XT.ushrL txt (48 : Int32)))] (fun t k => XT.lushr X0.here hx rfl (hb hby at_72) rfl k) ?_
  refine vs T0 74 [(.int ((XT.ushrL txt (48 : Int32)).toInt32))] (fun t k => XT.l2i X0.here hx rfl (hb hby at_73) rfl k) ?_
  refine vs T0 75 [(.int (((XT.ushrL txt (48 : Int32)).toInt32).toUInt32.toUInt16.toUInt32.toInt32))] (fun t k => XT.i2c X0.here hx rfl (hb hby at_74) rfl k) ?_
  obtain ⟨ta3, e_ta3⟩ : ∃ z, z = (((XT.ushrL txt (48 : Int32)).toInt32).toUInt32.toUInt16.toUInt32.toInt32) := ⟨_, rfl⟩
  rw [← e_ta3]
  have hch_ta3 : own_ch ta3 := by rw [e_ta3]; exact own_i2c _
  refine vv T0 m 77 #[.val (.long pat), .second, .val (.long txt), .second, vi shp, vi cpy, vi (Int32.ofNat mm), vi (Int32.ofNat fr), vi p0, vi p1, vi p2, vi p3, vi ta0, vi ta1, vi ta2, vi ta3, .unset, .unset, .unset, .unset, .unset, .unset, .unset, .unset, .unset, .unset, .unset, .unset] [] (fun t k => XS.istore X0.here hx rfl (hb hby at_75) rfl (l' := #[.val (.long pat), .second, .val (.long txt), .second, vi shp, vi cpy, vi (Int32.ofNat mm), vi (Int32.ofNat fr), vi p0, vi p1, vi p2, vi p3, vi ta0, vi ta1, vi ta2, vi ta3, .unset, .unset, .unset, .unset, .unset, .unset, .unset, .unset, .unset, .unset, .unset, .unset]) rfl k) ?_
  have hm4 : mm = 1 ∨ mm = 2 ∨ mm = 3 ∨ mm = 4 := by omega
  rcases hm4 with rfl | rfl | rfl | rfl
  · exact b0_77_1 pat txt shp cpy cps fmv p0 p1 p2 p3 ta0 ta1 ta2 ta3 fr ⟨hx, hZ, hw, hby, hml, hown, hret, hlk, hnm⟩ X0 e0 Z0 N0 SC SA SH SL SF hcp hrf hch_p0 hch_p1 hch_p2 hch_p3 hch_ta0 hch_ta1 hch_ta2 hch_ta3 hfr
  · exact b0_77_2 pat txt shp cpy cps fmv p0 p1 p2 p3 ta0 ta1 ta2 ta3 fr ⟨hx, hZ, hw, hby, hml, hown, hret, hlk, hnm⟩ X0 e0 Z0 N0 SC SA SH SL SF hcp hrf hch_p0 hch_p1 hch_p2 hch_p3 hch_ta0 hch_ta1 hch_ta2 hch_ta3 hfr
  · exact b0_77_3 pat txt shp cpy cps fmv p0 p1 p2 p3 ta0 ta1 ta2 ta3 fr ⟨hx, hZ, hw, hby, hml, hown, hret, hlk, hnm⟩ X0 e0 Z0 N0 SC SA SH SL SF hcp hrf hch_p0 hch_p1 hch_p2 hch_p3 hch_ta0 hch_ta1 hch_ta2 hch_ta3 hfr
  · exact b0_77_4 pat txt shp cpy cps fmv p0 p1 p2 p3 ta0 ta1 ta2 ta3 fr ⟨hx, hZ, hw, hby, hml, hown, hret, hlk, hnm⟩ X0 e0 Z0 N0 SC SA SH SL SF hcp hrf hch_p0 hch_p1 hch_p2 hch_p3 hch_ta0 hch_ta1 hch_ta2 hch_ta3 hfr
theorem ef_0 (m : MethodId) (pat : Int64) (txt : Int64) (shp : Int32) (cpy : Int32) : entryFrame m #[(.long pat), (.long txt), (.int shp), (.int cpy)] maxLocals = mkF m 0 #[.val (.long pat), .second, .val (.long txt), .second, vi shp, vi cpy, .unset, .unset, .unset, .unset, .unset, .unset, .unset, .unset, .unset, .unset, .unset, .unset, .unset, .unset, .unset, .unset, .unset, .unset, .unset, .unset, .unset, .unset] [] := by first | (simp [entryFrame, mkF, argsToLocals, Value.category, maxLocals]; done) | rfl
theorem rm0 (l : Launch) (Z : State) (a0 : Array Value) (hw : ∀ d ∈ tables_1, d.before a0 Z = true) (ws : List Jvm.Cond) (pat : Int64) (txt : Int64) (shp : Int32) (cpy : Int32) (cps : Int32) (fmv : Value) (h0 : Heap) (n0 : Nat) (Z0 : n0 ≤ h0.size) (SC : Sta Z h0 "java/lang/String" "COMPACT_STRINGS" "Z" (.int cps)) (SA : Sta Z h0 "java/lang/StringUTF16" "$assertionsDisabled" "Z" (.int (1 : Int32))) (SH : Sta Z h0 "java/lang/StringUTF16" "HI_BYTE_SHIFT" "I" (.int (0 : Int32))) (SL : Sta Z h0 "java/lang/StringUTF16" "LO_BYTE_SHIFT" "I" (.int (8 : Int32))) (SF : Sta Z h0 "jdk/internal/util/Preconditions" "SIOOBE_FORMATTER" "Ljava/util/function/BiFunction;" fmv) (hcp : ¬ cps = 0) (hrf : fmv.isRef = true) :
    MetFree l x (head1 (Jvm.Cond.code x code maxLocals ret :: ws) room_1) (fun a U => a = #[(.long pat), (.long txt), (.int shp), (.int cpy)] ∧ Z.Warmed39 U.vm ∧ U.heap = h0) (fun _ _ _ _ _ => True) (fun _ U o U' => ∃ v L, o = .returned v ∧ Q0 Z pat txt shp cpy cps fmv h0 n0 v U'.heap L ∧ FrameEnd U o U' L room_1.cells room_1.slots) := by
  refine MetFree.of_bodySF (plainFor_of_name pn_8) hisR ?_
  intro p e s m args below meth c s₁ Bd hml0 hP hK
  obtain ⟨rfl, hZ, hh⟩ := hP
  have e0 : s₁.heap = h0 := by rw [← hh, Bd.state]; rfl
  rw [ef_0 m pat txt shp cpy]
  exact b0 pat txt shp cpy cps fmv ⟨Bd.exec, hZ, hw, Bd.bytes, hml0, findClass_of_methodNamed Bd.named, Bd.returns, Bd.notSynchronized, (name_of_methodNamed Bd.named Bd.method).1⟩ (Stand.of_body Bd) e0 Z0 (Fr.nil n0) SC SA SH SL SF hcp hrf
theorem comes_1 {Post : Tables → Env → Array Value → State → Outcome → State → Prop} (hpost : ∀ tb e args s v u, (limb_1_1.after args s (.returned v) u = true ∧ limb_1_2.after args s (.returned v) u = true ∧ True) → FrameEnd s (.returned v) u (Jvm.fieldLocs frame_1_writes args s ++ Jvm.arrayLocs frame_1_arrays args s ++ Jvm.staticLocs frame_1_statics s) 56 33216 → Post tb e args s (.returned v) u) :
    ArmFor flags0 classFile x code maxLocals ret World_1 tables_1 room_1 Calls_1 rest_1 Pre_1 Post := by
  intro l hfl _ _ p e ha hc hk s m args below hf hA hF happ hP
  obtain ⟨hcalls, hrest, hpre⟩ := hP
  obtain ⟨-, -, -, hnamed, -, -, -, hat⟩ := (Spec.applies_iff hf).mp happ
  obtain ⟨hg, hn⟩ := and_e (Cond.before_iff.mp (show (Jvm.Cond.and given_1 narrow_1).before args s = true from hpre))
  obtain ⟨hcount, r0⟩ := and_e hg
  obtain ⟨ha0, r1⟩ := and_e r0
  obtain ⟨ha1, r2⟩ := and_e r1
  obtain ⟨ha2, r3⟩ := and_e r2
  obtain ⟨w0, w1, w2, w3, rfl⟩ : ∃ w0 w1 w2 w3 : Value, args = #[w0, w1, w2, w3] := by
    have hs : args.size = 4 := by simpa [Cond.value, given_1] using hcount
    obtain ⟨L⟩ := args
    match L, hs with
    | [w0, w1, w2, w3], _ => exact ⟨w0, w1, w2, w3, rfl⟩
  have hw := fun d (hd : d ∈ tables_1) => atoms_spec (ws := Jvm.Cond.code x code maxLocals ret :: tables_1) hat d (List.mem_cons_of_mem _ hd)
  have hr0 : (jdkStatics_1.foldr Jvm.Cond.and restOwn_1).before _ s = true := (congrArg (fun c => Jvm.Cond.before c _ s) rest_1_c_eq).symm.trans hrest
  obtain ⟨hsets, -⟩ := atoms_of _ hr0
  have js := fun (i : Nat) (d : Jvm.Cond) (h : jdkStatics_1[i]? = some d) => hsets d (List.mem_of_getElem? h)
  obtain ⟨cps, ec⟩ := is_v (Cond.before_iff.mp (js 1 _ rfl))
  have SC := Sta.start ec (Or.inl (js 0 _ rfl))
  have hcp : ¬ cps = 0 := gotF (Cond.eq_ints ec (Term.int_eval (0))) (not_v (Cond.before_iff.mp (js 2 _ rfl)))
  obtain ⟨fmv, efm, hrf⟩ := isR_v (Cond.before_iff.mp (js 8 _ rfl))
  have SF := Sta.start efm (Or.inl (js 7 _ rfl))
  have SA := Sta.start (Cond.eq_int (js 12 _ rfl) rfl) (Or.inl (js 11 _ rfl))
  have SH := Sta.start (Cond.eq_int (js 15 _ rfl) rfl) (Or.inl (js 14 _ rfl))
  have SL := Sta.start (Cond.eq_int (js 18 _ rfl) rfl) (Or.inl (js 17 _ rfl))
  obtain ⟨i0, ei0⟩ := isL_v ha0
  obtain rfl : w0 = (.long i0) := Option.some.inj ei0
  obtain ⟨i1, ei1⟩ := isL_v ha1
  obtain rfl : w1 = (.long i1) := Option.some.inj ei1
  obtain ⟨i2, ei2⟩ := is_v ha2
  obtain rfl : w2 = (.int i2) := Option.some.inj ei2
  obtain ⟨i3, ei3⟩ := is_v r3
  obtain rfl : w3 = (.int i3) := Option.some.inj ei3
  obtain ⟨n, o, h1, h2, h3, _, L, rfl, ⟨rfl, N⟩, hq⟩ := rm0 l s _ hw tables_1 i0 i1 i2 i3 cps fmv s.heap s.heap.size (Nat.le_refl _) SC SA SH SL SF hcp hrf p e ha hc hk s m _ below hf ((Spec.applies_iff_loose hf).mp happ).1 ⟨rfl, State.Warmed39.refl s, rfl⟩ trivial
  refine ⟨n, _, h1, h2, h3, hpost _ _ _ _ _ _ ⟨Cond.after_iff.mpr rfl, Cond.after_iff.mpr (eq_i res_at (Term.int_eval (1)) rfl), trivial⟩ ⟨hq.1, hq.2.1, (hq.2.2.sift fun y hy => Or.inr (N y hy)).mono (by decide) (by decide)⟩⟩
theorem main_1_1 : Claimed_1_1 := comes_1 fun _ _ _ _ _ _ h hF => ⟨h.1, Jvm.RoadKit.wide hF⟩
theorem main_1_2 : Claimed_1_2 := comes_1 fun _ _ _ _ _ _ h hF => ⟨h.2.1, Jvm.RoadKit.wide hF⟩
end Jvm.Pilot.@@N@@
namespace Jvm.Pilot.@@N@@
open Jvm Jvm.ClassFile Sem Op Lib Jvm.Free Jvm.Stand Jvm.Pilot.@@N@@.Jvm.D
/-! MADE BY PROGRAM (witnessworld.py) out of the Statement's table words and the real class files: 27 classes; the members and pool entries that the words name. The judged class is class 1, her method 1. -/
namespace start1
open Jvm.ClassFile
def u (s : String) : CpInfo := .utf8 (stringToUtf16 s)
/-- a pool by its gaps: so many unusable entries, then the entry; so many at the end -/
def gap : Nat → List CpInfo → List CpInfo
  | 0, r => r
  | n + 1, r => .unusable :: gap n r
def poolList (es : List (Nat × CpInfo)) (last : Nat) : List CpInfo := es.foldr (fun e r => gap e.1 (e.2 :: r)) (gap last [])
def pool (es : List (Nat × CpInfo)) (last : Nat) : Array CpInfo := ⟨poolList es last⟩
def fileOf (pool : Array CpInfo) (this : Nat) (attrs : Array Attribute := #[]) (ms : Array MethodInfo := #[]) (fl : Nat := 33) (sup : Nat := 0) (ifs : Array Nat := #[]) (fds : Array FieldInfo := #[]) : ClassFile where
  minorVersion := 0
  majorVersion := 65
  constantPool := pool
  accessFlags := fl
  thisClass := this
  superClass := sup
  interfaces := ifs
  fields := fds
  methods := ms
  attributes := attrs
def plain (name : String) (sup : Option ClassId) : Class where
  name := name
  kind := .ordinary
  loader := none
  accessFlags := 33
  super := sup
  interfaces := #[]
  cf := none
  fields := #[]
  methods := #[]
  instanceTypes := #[]
  staticTypes := #[]
  resolved := #[]
  callSites := []
  init := .initialized
  statics := none
  mirror := none

def pool0 : Array CpInfo := pool [(5, u "<init>"), (0, u "()V"), (1, .class_ 10), (1, u "java/lang/Object"), (85, u "clone"), (0, u "()Ljava/lang/Object;")] 26

def k0c0 : Code := { maxStack := 0, maxLocals := 1, code := object_method_1_code, exceptionTable := #[], attributes := #[] }
def k0m0 : Method := { name := "<init>", desc := "()V", sig := { parameters := [], returnType := none }, accessFlags := 1, code := some k0c0 }
def k0m1 : Method := { name := "clone", desc := "()Ljava/lang/Object;", sig := { parameters := [], returnType := some (.object "java/lang/Object") }, accessFlags := 260, code := none }
/-- java/lang/Object -/
def k0 : Class := { plain "java/lang/Object" none with
  accessFlags := 33
  interfaces := #[]
  cf := some (fileOf pool0 8 #[] #[{ accessFlags := 1, nameIndex := 5, descriptorIndex := 6, attributes := #[] }, { accessFlags := 260, nameIndex := 96, descriptorIndex := 97, attributes := #[] }] 33 0 #[] #[])
  fields := #[]
  methods := #[k0m0, k0m1]
  instanceTypes := #[]
  staticTypes := #[]
  resolved := Array.replicate 124 none
  statics := none }

def pool1 : Array CpInfo := pool [(2, .class_ 4), (1, u "java/lang/Object"), (0, u "<init>"), (0, u "()V"), (0, .class_ 8), (0, u "java/lang/String"), (0, .methodref 7 10), (0, .nameAndType 5 11), (0, u "([C)V"), (0, .class_ 13), (0, u "com/example/clew/clew/CharFilter"), (0, .integer 2147483647), (0, .methodref 12 16), (0, .nameAndType 5 17), (0, u "(Ljava/lang/String;Ljava/lang/String;II)V"), (0, .methodref 12 19), (0, .nameAndType 20 21), (0, u "tested"), (0, u "()[I"), (0, .methodref 23 24), (0, .class_ 25), (0, .nameAndType 26 27), (0, u "com/example/clew/clew/CharFilterTestedPinLaw"), (0, u "count"), (0, u "(I[CII)I"), (0, .methodref 23 29), (0, .nameAndType 30 31), (0, u "isFirst"), (0, u "([III)Z"), (0, .methodref 33 34), (0, .class_ 35), (0, .nameAndType 36 37), (0, u "java/lang/Math"), (0, u "abs"), (0, u "(I)I"), (0, .methodref 23 39), (0, .nameAndType 40 41), (0, u "notBetter"), (0, u "([IIIII)Z"), (0, .integer 2654435769), (0, .methodref 23 44), (0, .nameAndType 45 46), (0, u "bucket"), (0, u "(II)I"), (0, .methodref 23 48), (0, .nameAndType 49 50), (0, u "isFirstAt"), (0, u "([IIII)Z"), (2, u "law"), (0, u "(JJII)Z")] 7

def k1m0 : Method := { name := "<init>", desc := "()V", sig := { parameters := [], returnType := none }, accessFlags := 1, code := none }
def k1c1 : Code := { maxStack := 7, maxLocals := 28, code := code, exceptionTable := #[], attributes := #[] }
def k1m1 : Method := { name := "law", desc := "(JJII)Z", sig := { parameters := [.long, .long, .int, .int], returnType := some .boolean }, accessFlags := 9, code := some k1c1 }
def k1c2 : Code := { maxStack := 2, maxLocals := 2, code := method_3_code, exceptionTable := #[], attributes := #[] }
def k1m2 : Method := { name := "bucket", desc := "(II)I", sig := { parameters := [.int, .int], returnType := some .int }, accessFlags := 10, code := some k1c2 }
def k1c3 : Code := { maxStack := 2, maxLocals := 6, code := method_4_code, exceptionTable := #[], attributes := #[] }
def k1m3 : Method := { name := "count", desc := "(I[CII)I", sig := { parameters := [.int, (.array .char), .int, .int], returnType := some .int }, accessFlags := 10, code := some k1c3 }
def k1c4 : Code := { maxStack := 3, maxLocals := 4, code := method_5_code, exceptionTable := #[], attributes := #[] }
def k1m4 : Method := { name := "isFirstAt", desc := "([IIII)Z", sig := { parameters := [(.array .int), .int, .int, .int], returnType := some .boolean }, accessFlags := 10, code := some k1c4 }
def k1c5 : Code := { maxStack := 4, maxLocals := 3, code := method_6_code, exceptionTable := #[], attributes := #[] }
def k1m5 : Method := { name := "isFirst", desc := "([III)Z", sig := { parameters := [(.array .int), .int, .int], returnType := some .boolean }, accessFlags := 10, code := some k1c5 }
def k1c6 : Code := { maxStack := 3, maxLocals := 7, code := method_7_code, exceptionTable := #[], attributes := #[] }
def k1m6 : Method := { name := "notBetter", desc := "([IIIII)Z", sig := { parameters := [(.array .int), .int, .int, .int, .int], returnType := some .boolean }, accessFlags := 10, code := some k1c6 }
/-- com/example/clew/clew/CharFilterTestedPinLaw -/
def k1 : Class := { plain "com/example/clew/clew/CharFilterTestedPinLaw" (some 0) with
  accessFlags := 49
  interfaces := #[]
  cf := some (fileOf pool1 23 #[] #[{ accessFlags := 1, nameIndex := 5, descriptorIndex := 6, attributes := #[] }, { accessFlags := 9, nameIndex := 53, descriptorIndex := 54, attributes := #[] }, { accessFlags := 10, nameIndex := 45, descriptorIndex := 46, attributes := #[] }, { accessFlags := 10, nameIndex := 26, descriptorIndex := 27, attributes := #[] }, { accessFlags := 10, nameIndex := 49, descriptorIndex := 50, attributes := #[] }, { accessFlags := 10, nameIndex := 30, descriptorIndex := 31, attributes := #[] }, { accessFlags := 10, nameIndex := 40, descriptorIndex := 41, attributes := #[] }] 49 2 #[] #[])
  fields := #[]
  methods := #[k1m0, k1m1, k1m2, k1m3, k1m4, k1m5, k1m6]
  instanceTypes := #[]
  staticTypes := #[]
  resolved := Array.replicate 62 none
  statics := none }

def pool2 : Array CpInfo := pool [(1, .class_ 2), (0, u "java/io/Serializable"), (0, .class_ 4), (0, u "java/lang/Object")] 2

/-- java/io/Serializable -/
def k2 : Class := { plain "java/io/Serializable" (some 0) with
  accessFlags := 1537
  interfaces := #[]
  cf := some (fileOf pool2 1 #[] #[] 1537 3 #[] #[])
  fields := #[]
  methods := #[]
  instanceTypes := #[]
  staticTypes := #[]
  resolved := Array.replicate 7 none
  statics := none }

def pool3 : Array CpInfo := pool [(1, .class_ 2), (0, u "java/lang/Comparable"), (0, .class_ 4), (0, u "java/lang/Object")] 7

/-- java/lang/Comparable -/
def k3 : Class := { plain "java/lang/Comparable" (some 0) with
  accessFlags := 1537
  interfaces := #[]
  cf := some (fileOf pool3 1 #[] #[] 1537 3 #[] #[])
  fields := #[]
  methods := #[]
  instanceTypes := #[]
  staticTypes := #[]
  resolved := Array.replicate 12 none
  statics := none }

def pool4 : Array CpInfo := pool [(2, .class_ 4), (1, u "java/lang/CharSequence"), (42, .class_ 48), (0, u "java/lang/CharSequence$1CodePointIterator"), (10, .class_ 60), (0, u "java/lang/CharSequence$1CharIterator"), (5, .class_ 67), (0, u "java/lang/Object")] 63

/-- java/lang/CharSequence -/
def k4 : Class := { plain "java/lang/CharSequence" (some 0) with
  accessFlags := 1537
  interfaces := #[]
  cf := some (fileOf pool4 2 #[.nestMembers #[47, 59]] #[] 1537 66 #[] #[])
  fields := #[]
  methods := #[]
  instanceTypes := #[]
  staticTypes := #[]
  resolved := Array.replicate 131 none
  statics := none }

def pool5 : Array CpInfo := pool [(1, .class_ 2), (0, u "java/lang/constant/Constable"), (0, .class_ 4), (0, u "java/lang/Object")] 6

/-- java/lang/constant/Constable -/
def k5 : Class := { plain "java/lang/constant/Constable" (some 0) with
  accessFlags := 1537
  interfaces := #[]
  cf := some (fileOf pool5 1 #[] #[] 1537 3 #[] #[])
  fields := #[]
  methods := #[]
  instanceTypes := #[]
  staticTypes := #[]
  resolved := Array.replicate 11 none
  statics := none }

def pool6 : Array CpInfo := pool [(1, .class_ 2), (0, u "java/lang/constant/ConstantDesc"), (0, .class_ 4), (0, u "java/lang/Object")] 32

/-- java/lang/constant/ConstantDesc -/
def k6 : Class := { plain "java/lang/constant/ConstantDesc" (some 0) with
  accessFlags := 1537
  interfaces := #[]
  cf := some (fileOf pool6 1 #[] #[] 1537 3 #[] #[])
  fields := #[]
  methods := #[]
  instanceTypes := #[]
  staticTypes := #[]
  resolved := Array.replicate 37 none
  statics := none }

def pool7 : Array CpInfo := pool [(1, .methodref 2 3), (0, .class_ 4), (0, .nameAndType 5 6), (0, u "java/lang/Object"), (0, u "<init>"), (0, u "()V"), (2, .fieldref 10 11), (0, .class_ 12), (0, .nameAndType 13 14), (0, u "java/lang/String"), (0, u "value"), (0, u "[B"), (0, .fieldref 10 16), (0, .nameAndType 17 18), (0, u "coder"), (0, u "B"), (2, u "hash"), (0, u "I"), (2, u "hashIsZero"), (0, u "Z"), (0, .methodref 10 28), (0, .nameAndType 5 29), (0, u "([CIILjava/lang/Void;)V"), (4, .methodref 10 35), (0, .nameAndType 36 37), (0, u "checkBoundsOffCount"), (0, u "(III)I"), (0, .fieldref 10 39), (0, .nameAndType 40 26), (0, u "COMPACT_STRINGS"), (1, .class_ 44), (1, u "java/lang/StringUTF16"), (0, u "compress"), (1, .methodref 42 48), (0, .nameAndType 49 50), (0, u "coderFromArrayLen"), (0, u "([BI)B"), (56, .class_ 109), (1, u "java/lang/StringLatin1"), (32, u "()Z"), (34, .methodref 42 178), (0, .nameAndType 45 179), (0, u "([CII)[B"), (119, .methodref 107 300), (0, .nameAndType 301 302), (0, u "toChars"), (0, u "([B)[C"), (0, .methodref 42 300), (30, u "()I"), (0, .methodref 10 336), (0, .nameAndType 17 337), (0, u "()B"), (154, .methodref 10 493), (0, .nameAndType 494 142), (0, u "isLatin1"), (10, .methodref 10 506), (0, .nameAndType 507 334), (0, u "length"), (5, u "checkFromToIndex"), (7, .methodref 10 522), (0, .nameAndType 523 524), (0, u "checkBoundsBeginEnd"), (0, u "(III)V"), (0, .methodref 107 526), (0, .nameAndType 527 528), (0, u "getChars"), (0, u "([BII[CI)V"), (0, .methodref 42 526), (45, .class_ 576), (0, u "java/lang/CharSequence"), (22, u "CASE_INSENSITIVE_ORDER"), (0, u "Ljava/util/Comparator;"), (354, u "toCharArray"), (0, u "()[C"), (53, u "([C)V"), (42, .fieldref 1054 1055), (0, .class_ 1056), (0, .nameAndType 1057 1058), (0, u "jdk/internal/util/Preconditions"), (0, u "SIOOBE_FORMATTER"), (0, u "Ljava/util/function/BiFunction;"), (3, .methodref 1054 1063), (0, .nameAndType 513 1064), (0, u "(IIILjava/util/function/BiFunction;)I"), (0, .methodref 1054 1066), (0, .nameAndType 1067 1064), (0, u "checkFromIndexSize"), (33, u "serialPersistentFields"), (0, u "[Ljava/io/ObjectStreamField;"), (0, .class_ 1104), (0, u "java/lang/String$CaseInsensitiveComparator"), (1, .class_ 1107), (0, u "java/io/Serializable"), (0, .class_ 1109), (0, u "java/lang/Comparable"), (0, .class_ 1111), (0, u "java/lang/constant/Constable"), (0, .class_ 1113), (0, u "java/lang/constant/ConstantDesc"), (2, u "serialVersionUID"), (0, u "J"), (3, u "REPL"), (0, u "C"), (2, u "LATIN1"), (1, u "UTF16"), (112, u "(II[CI)V")] 210

def k7m0 : Method := { name := "<init>", desc := "()V", sig := { parameters := [], returnType := none }, accessFlags := 1, code := none }
def k7c1 : Code := { maxStack := 5, maxLocals := 2, code := jdk_42_method_3_code, exceptionTable := #[], attributes := #[] }
def k7m1 : Method := { name := "<init>", desc := "([C)V", sig := { parameters := [(.array .char)], returnType := none }, accessFlags := 1, code := some k7c1 }
def k7c2 : Code := { maxStack := 2, maxLocals := 1, code := jdk_42_method_54_code, exceptionTable := #[], attributes := #[] }
def k7m2 : Method := { name := "length", desc := "()I", sig := { parameters := [], returnType := some .int }, accessFlags := 1, code := some k7c2 }
def k7c3 : Code := { maxStack := 5, maxLocals := 5, code := jdk_42_method_61_code, exceptionTable := #[], attributes := #[] }
def k7m3 : Method := { name := "getChars", desc := "(II[CI)V", sig := { parameters := [.int, .int, (.array .char), .int], returnType := none }, accessFlags := 1, code := some k7c3 }
def k7c4 : Code := { maxStack := 1, maxLocals := 1, code := jdk_42_method_129_code, exceptionTable := #[], attributes := #[] }
def k7m4 : Method := { name := "toCharArray", desc := "()[C", sig := { parameters := [], returnType := some (.array .char) }, accessFlags := 1, code := some k7c4 }
def k7c5 : Code := { maxStack := 4, maxLocals := 6, code := jdk_42_method_149_code, exceptionTable := #[], attributes := #[] }
def k7m5 : Method := { name := "<init>", desc := "([CIILjava/lang/Void;)V", sig := { parameters := [(.array .char), .int, .int, (.object "java/lang/Void")], returnType := none }, accessFlags := 2, code := some k7c5 }
def k7c6 : Code := { maxStack := 1, maxLocals := 1, code := jdk_42_method_152_code, exceptionTable := #[], attributes := #[] }
def k7m6 : Method := { name := "coder", desc := "()B", sig := { parameters := [], returnType := some .byte }, accessFlags := 0, code := some k7c6 }
def k7c7 : Code := { maxStack := 1, maxLocals := 1, code := jdk_42_method_154_code, exceptionTable := #[], attributes := #[] }
def k7m7 : Method := { name := "isLatin1", desc := "()Z", sig := { parameters := [], returnType := some .boolean }, accessFlags := 0, code := some k7c7 }
def k7c8 : Code := { maxStack := 4, maxLocals := 3, code := jdk_42_method_157_code, exceptionTable := #[], attributes := #[] }
def k7m8 : Method := { name := "checkBoundsOffCount", desc := "(III)I", sig := { parameters := [.int, .int, .int], returnType := some .int }, accessFlags := 8, code := some k7c8 }
def k7c9 : Code := { maxStack := 4, maxLocals := 3, code := jdk_42_method_158_code, exceptionTable := #[], attributes := #[] }
def k7m9 : Method := { name := "checkBoundsBeginEnd", desc := "(III)V", sig := { parameters := [.int, .int, .int], returnType := none }, accessFlags := 8, code := some k7c9 }
/-- java/lang/String -/
def k7 : Class := { plain "java/lang/String" (some 0) with
  accessFlags := 49
  interfaces := #[2, 3, 4, 5, 6]
  cf := some (fileOf pool7 10 #[.nestMembers #[1103]] #[{ accessFlags := 1, nameIndex := 5, descriptorIndex := 6, attributes := #[] }, { accessFlags := 1, nameIndex := 5, descriptorIndex := 1010, attributes := #[] }, { accessFlags := 1, nameIndex := 507, descriptorIndex := 334, attributes := #[] }, { accessFlags := 1, nameIndex := 527, descriptorIndex := 1240, attributes := #[] }, { accessFlags := 1, nameIndex := 955, descriptorIndex := 956, attributes := #[] }, { accessFlags := 2, nameIndex := 5, descriptorIndex := 29, attributes := #[] }, { accessFlags := 0, nameIndex := 17, descriptorIndex := 337, attributes := #[] }, { accessFlags := 0, nameIndex := 494, descriptorIndex := 142, attributes := #[] }, { accessFlags := 8, nameIndex := 36, descriptorIndex := 37, attributes := #[] }, { accessFlags := 8, nameIndex := 523, descriptorIndex := 524, attributes := #[] }] 49 2 #[1106, 1108, 575, 1110, 1112] #[{ accessFlags := 18, nameIndex := 13, descriptorIndex := 14, attributes := #[] }, { accessFlags := 18, nameIndex := 17, descriptorIndex := 18, attributes := #[] }, { accessFlags := 2, nameIndex := 21, descriptorIndex := 22, attributes := #[] }, { accessFlags := 2, nameIndex := 25, descriptorIndex := 26, attributes := #[] }, { accessFlags := 26, nameIndex := 1116, descriptorIndex := 1117, attributes := #[] }, { accessFlags := 24, nameIndex := 40, descriptorIndex := 26, attributes := #[] }, { accessFlags := 26, nameIndex := 1101, descriptorIndex := 1102, attributes := #[] }, { accessFlags := 26, nameIndex := 1121, descriptorIndex := 1122, attributes := #[] }, { accessFlags := 25, nameIndex := 599, descriptorIndex := 600, attributes := #[] }, { accessFlags := 24, nameIndex := 1125, descriptorIndex := 18, attributes := #[] }, { accessFlags := 24, nameIndex := 1127, descriptorIndex := 18, attributes := #[] }])
  fields := #[{ name := "value", type := (.array .byte), accessFlags := 18, slot := 0, constantValue := 0 }, { name := "coder", type := .byte, accessFlags := 18, slot := 1, constantValue := 0 }, { name := "hash", type := .int, accessFlags := 2, slot := 2, constantValue := 0 }, { name := "hashIsZero", type := .boolean, accessFlags := 2, slot := 3, constantValue := 0 }, { name := "serialVersionUID", type := .long, accessFlags := 26, slot := 0, constantValue := 0 }, { name := "COMPACT_STRINGS", type := .boolean, accessFlags := 24, slot := 1, constantValue := 0 }, { name := "serialPersistentFields", type := (.array (.object "java/io/ObjectStreamField")), accessFlags := 26, slot := 2, constantValue := 0 }, { name := "REPL", type := .char, accessFlags := 26, slot := 3, constantValue := 0 }, { name := "CASE_INSENSITIVE_ORDER", type := (.object "java/util/Comparator"), accessFlags := 25, slot := 4, constantValue := 0 }, { name := "LATIN1", type := .byte, accessFlags := 24, slot := 5, constantValue := 0 }, { name := "UTF16", type := .byte, accessFlags := 24, slot := 6, constantValue := 0 }]
  methods := #[k7m0, k7m1, k7m2, k7m3, k7m4, k7m5, k7m6, k7m7, k7m8, k7m9]
  instanceTypes := #[(.array .byte), .byte, .int, .boolean]
  staticTypes := #[.long, .boolean, (.array (.object "java/io/ObjectStreamField")), .char, (.object "java/util/Comparator"), .byte, .byte]
  resolved := Array.replicate 1451 none
  statics := some 0 }

def pool8 : Array CpInfo := pool [(3, .class_ 4), (0, u "java/lang/String"), (1, .class_ 8), (1, u "java/lang/Object"), (0, u "<init>"), (0, u "()V"), (0, .methodref 12 13), (0, .class_ 14), (0, .nameAndType 15 16), (0, u "java/lang/StringUTF16"), (0, u "newBytesLength"), (0, u "(I)I"), (3, .integer 1073741823), (23, .fieldref 12 45), (0, .nameAndType 46 47), (0, u "$assertionsDisabled"), (0, u "Z"), (0, .methodref 12 49), (0, .nameAndType 50 51), (0, u "length"), (0, u "([B)I"), (7, .fieldref 12 60), (0, .nameAndType 61 62), (0, u "HI_BYTE_SHIFT"), (0, u "I"), (0, .fieldref 12 64), (0, .nameAndType 65 62), (0, u "LO_BYTE_SHIFT"), (5, .methodref 12 72), (0, .nameAndType 73 74), (0, u "getChar"), (0, u "([BI)C"), (24, u "(II[B)V"), (3, .methodref 12 104), (0, .nameAndType 105 106), (0, u "getChars"), (0, u "([BII[CI)V"), (0, .methodref 12 108), (0, .nameAndType 109 110), (0, u "newBytesFor"), (0, u "(I)[B"), (0, .methodref 12 112), (0, .nameAndType 113 114), (0, u "putChar"), (0, u "([BII)V"), (0, .methodref 12 116), (0, .nameAndType 117 118), (0, u "compress"), (0, u "([CI[BII)I"), (0, .methodref 12 120), (0, .nameAndType 121 122), (0, u "toBytes"), (0, u "([CII)[B"), (50, .methodref 12 174), (0, .nameAndType 175 99), (0, u "checkBoundsOffCount"), (85, u "coderFromArrayLen"), (0, u "([BI)B"), (18, u "(III)I"), (60, u "toChars"), (26, .class_ 371), (1, u "java/lang/StringUTF16$LinesSpliterator"), (47, .methodref 3 420), (0, .nameAndType 175 281), (9, u "MAX_LENGTH"), (23, u "([B)[C"), (172, .class_ 628), (0, u "java/lang/StringUTF16$CodePointsSpliterator"), (0, .class_ 630), (0, u "java/lang/StringUTF16$CharsSpliterator")] 4

def k8m0 : Method := { name := "<init>", desc := "()V", sig := { parameters := [], returnType := none }, accessFlags := 0, code := none }
def k8c1 : Code := { maxStack := 1, maxLocals := 1, code := jdk_52_method_2_code, exceptionTable := #[], attributes := #[] }
def k8m1 : Method := { name := "newBytesFor", desc := "(I)[B", sig := { parameters := [.int], returnType := some (.array .byte) }, accessFlags := 9, code := some k8c1 }
def k8c2 : Code := { maxStack := 4, maxLocals := 1, code := jdk_52_method_3_code, exceptionTable := #[], attributes := #[] }
def k8m2 : Method := { name := "newBytesLength", desc := "(I)I", sig := { parameters := [.int], returnType := some .int }, accessFlags := 9, code := some k8c2 }
def k8c3 : Code := { maxStack := 4, maxLocals := 3, code := jdk_52_method_4_code, exceptionTable := #[], attributes := #[] }
def k8m3 : Method := { name := "putChar", desc := "([BII)V", sig := { parameters := [(.array .byte), .int, .int], returnType := none }, accessFlags := 8, code := some k8c3 }
def k8c4 : Code := { maxStack := 3, maxLocals := 2, code := jdk_52_method_5_code, exceptionTable := #[], attributes := #[] }
def k8m4 : Method := { name := "getChar", desc := "([BI)C", sig := { parameters := [(.array .byte), .int], returnType := some .char }, accessFlags := 8, code := some k8c4 }
def k8c5 : Code := { maxStack := 2, maxLocals := 1, code := jdk_52_method_6_code, exceptionTable := #[], attributes := #[] }
def k8m5 : Method := { name := "length", desc := "([B)I", sig := { parameters := [(.array .byte)], returnType := some .int }, accessFlags := 9, code := some k8c5 }
def k8c6 : Code := { maxStack := 5, maxLocals := 2, code := jdk_52_method_13_code, exceptionTable := #[], attributes := #[] }
def k8m6 : Method := { name := "toChars", desc := "([B)[C", sig := { parameters := [(.array .byte)], returnType := some (.array .char) }, accessFlags := 9, code := some k8c6 }
def k8c7 : Code := { maxStack := 4, maxLocals := 5, code := jdk_52_method_14_code, exceptionTable := #[], attributes := #[] }
def k8m7 : Method := { name := "toBytes", desc := "([CII)[B", sig := { parameters := [(.array .char), .int, .int], returnType := some (.array .byte) }, accessFlags := 9, code := some k8c7 }
def k8c8 : Code := { maxStack := 2, maxLocals := 2, code := jdk_52_method_15_code, exceptionTable := #[], attributes := #[] }
def k8m8 : Method := { name := "coderFromArrayLen", desc := "([BI)B", sig := { parameters := [(.array .byte), .int], returnType := some .byte }, accessFlags := 8, code := some k8c8 }
def k8c9 : Code := { maxStack := 5, maxLocals := 6, code := jdk_52_method_16_code, exceptionTable := #[], attributes := #[] }
def k8m9 : Method := { name := "compress", desc := "([CII)[B", sig := { parameters := [(.array .char), .int, .int], returnType := some (.array .byte) }, accessFlags := 9, code := some k8c9 }
def k8c10 : Code := { maxStack := 3, maxLocals := 7, code := jdk_52_method_21_code, exceptionTable := #[], attributes := #[] }
def k8m10 : Method := { name := "compress", desc := "([CI[BII)I", sig := { parameters := [(.array .char), .int, (.array .byte), .int, .int], returnType := some .int }, accessFlags := 9, code := some k8c10 }
def k8c11 : Code := { maxStack := 4, maxLocals := 6, code := jdk_52_method_26_code, exceptionTable := #[], attributes := #[] }
def k8m11 : Method := { name := "getChars", desc := "([BII[CI)V", sig := { parameters := [(.array .byte), .int, .int, (.array .char), .int], returnType := none }, accessFlags := 9, code := some k8c11 }
def k8c12 : Code := { maxStack := 3, maxLocals := 3, code := jdk_52_method_94_code, exceptionTable := #[], attributes := #[] }
def k8m12 : Method := { name := "checkBoundsOffCount", desc := "(II[B)V", sig := { parameters := [.int, .int, (.array .byte)], returnType := none }, accessFlags := 9, code := some k8c12 }
/-- java/lang/StringUTF16 -/
def k8 : Class := { plain "java/lang/StringUTF16" (some 0) with
  accessFlags := 48
  interfaces := #[]
  cf := some (fileOf pool8 12 #[.nestMembers #[627, 629, 369]] #[{ accessFlags := 0, nameIndex := 9, descriptorIndex := 10, attributes := #[] }, { accessFlags := 9, nameIndex := 109, descriptorIndex := 110, attributes := #[] }, { accessFlags := 9, nameIndex := 15, descriptorIndex := 16, attributes := #[] }, { accessFlags := 8, nameIndex := 113, descriptorIndex := 114, attributes := #[] }, { accessFlags := 8, nameIndex := 73, descriptorIndex := 74, attributes := #[] }, { accessFlags := 9, nameIndex := 50, descriptorIndex := 51, attributes := #[] }, { accessFlags := 9, nameIndex := 342, descriptorIndex := 454, attributes := #[] }, { accessFlags := 9, nameIndex := 121, descriptorIndex := 122, attributes := #[] }, { accessFlags := 8, nameIndex := 261, descriptorIndex := 262, attributes := #[] }, { accessFlags := 9, nameIndex := 117, descriptorIndex := 122, attributes := #[] }, { accessFlags := 9, nameIndex := 117, descriptorIndex := 118, attributes := #[] }, { accessFlags := 9, nameIndex := 105, descriptorIndex := 106, attributes := #[] }, { accessFlags := 9, nameIndex := 175, descriptorIndex := 99, attributes := #[] }] 48 6 #[] #[{ accessFlags := 26, nameIndex := 61, descriptorIndex := 62, attributes := #[] }, { accessFlags := 26, nameIndex := 65, descriptorIndex := 62, attributes := #[] }, { accessFlags := 24, nameIndex := 430, descriptorIndex := 62, attributes := #[] }, { accessFlags := 4120, nameIndex := 46, descriptorIndex := 47, attributes := #[] }])
  fields := #[{ name := "HI_BYTE_SHIFT", type := .int, accessFlags := 26, slot := 0, constantValue := 0 }, { name := "LO_BYTE_SHIFT", type := .int, accessFlags := 26, slot := 1, constantValue := 0 }, { name := "MAX_LENGTH", type := .int, accessFlags := 24, slot := 2, constantValue := 0 }, { name := "$assertionsDisabled", type := .boolean, accessFlags := 4120, slot := 3, constantValue := 0 }]
  methods := #[k8m0, k8m1, k8m2, k8m3, k8m4, k8m5, k8m6, k8m7, k8m8, k8m9, k8m10, k8m11, k8m12]
  instanceTypes := #[]
  staticTypes := #[.int, .int, .int, .boolean]
  resolved := Array.replicate 635 none
  statics := some 1 }

def pool9 : Array CpInfo := pool [(3, .methodref 4 5), (0, .class_ 6), (0, .nameAndType 7 8), (0, u "java/lang/Object"), (0, u "<init>"), (0, u "()V"), (0, .class_ 10), (0, u "[C"), (0, .fieldref 12 13), (0, .class_ 14), (0, .nameAndType 15 16), (0, u "com/example/clew/clew/CharFilter"), (0, u "copies"), (0, u "[[C"), (0, .fieldref 12 18), (0, .nameAndType 19 16), (0, u "slots"), (0, .methodref 21 22), (0, .class_ 23), (0, .nameAndType 24 25), (0, u "java/lang/String"), (0, u "toCharArray"), (0, u "()[C"), (0, .fieldref 12 27), (0, .nameAndType 28 10), (0, u "pattern"), (0, .fieldref 12 30), (0, .nameAndType 31 32), (0, u "text"), (0, u "Ljava/lang/String;"), (0, .fieldref 12 34), (0, .nameAndType 35 36), (0, u "from"), (0, u "I"), (0, .methodref 38 39), (0, .class_ 40), (0, .nameAndType 41 42), (0, u "java/lang/Math"), (0, u "min"), (0, u "(II)I"), (0, .fieldref 12 44), (0, .nameAndType 45 36), (0, u "reach"), (0, .fieldref 12 47), (0, .nameAndType 48 49), (0, u "marks"), (0, u "[B"), (0, .methodref 21 51), (0, .nameAndType 52 53), (0, u "length"), (0, u "()I"), (0, .class_ 55), (0, u "com/example/clew/clew/CharFilter$Counts"), (0, .methodref 54 57), (0, .nameAndType 7 58), (0, u "(I)V"), (0, .methodref 21 60), (0, .nameAndType 61 62), (0, u "getChars"), (0, u "(II[CI)V"), (0, .methodref 54 64), (0, .nameAndType 65 66), (0, u "add"), (0, u "([CII)V"), (0, .methodref 12 68), (0, .nameAndType 69 70), (0, u "spreadPair"), (0, u "(Lcom/example/clew/clew/CharFilter$Counts;)Lcom/example/clew/clew/DefaultSearch$Sieve;"), (0, .methodref 12 72), (0, .nameAndType 73 74), (0, u "test"), (0, u "(Lcom/example/clew/clew/DefaultSearch$Sieve;)V"), (0, .fieldref 12 76), (0, .nameAndType 77 78), (0, u "sieve"), (0, u "Lcom/example/clew/clew/DefaultSearch$Sieve;"), (0, .methodref 80 81), (0, .class_ 82), (0, .nameAndType 83 84), (0, u "com/example/clew/clew/DefaultSearch$Sieve"), (0, u "testsEvery"), (0, u "(I)Z"), (0, .fieldref 12 86), (0, .nameAndType 87 88), (0, u "whole"), (0, u "Z"), (0, .fieldref 80 90), (0, .nameAndType 91 92), (0, u "positions"), (0, u "[I"), (0, .methodref 94 95), (0, .class_ 92), (0, .nameAndType 96 97), (0, u "clone"), (0, u "()Ljava/lang/Object;"), (0, .methodref 54 99), (0, .nameAndType 100 101), (0, u "of"), (0, u "(I)I"), (0, .methodref 38 103), (0, .nameAndType 104 101), (0, u "abs"), (0, .invokeDynamic 0 106), (0, .nameAndType 107 108), (0, u "applyAsInt"), (0, u "(Lcom/example/clew/clew/CharFilter;)Ljava/util/function/IntUnaryOperator;"), (0, .methodref 38 110), (0, .nameAndType 111 42), (0, u "max"), (0, .methodref 80 113), (0, .nameAndType 7 114), (0, u "(Ljava/util/function/IntUnaryOperator;[I)V"), (51, u "Ljava/lang/invoke/VarHandle;"), (23, u "compared"), (0, u "J"), (6, u "readAhead"), (2, u "rounds"), (2, u "misses"), (2, u "widened"), (7, u "MARK"), (19, u "SAMPLE"), (2, u "STRETCH"), (1, u "MISSES_TO_WIDEN"), (1, u "BLOCK"), (1, u "GATHER"), (0, u "(Ljava/lang/String;Ljava/lang/String;II)V"), (3, u "tested"), (0, u "()[I"), (5, u "lambda$spreadPair$0"), (5, .methodType 101), (0, .methodHandle 5 264), (0, .methodref 12 265), (0, .nameAndType 256 101), (4, .methodHandle 6 271), (0, .methodref 272 273), (0, .class_ 274), (0, .nameAndType 275 276), (0, u "java/lang/invoke/LambdaMetafactory"), (0, u "metafactory"), (0, u "(Ljava/lang/invoke/MethodHandles$Lookup;Ljava/lang/String;Ljava/lang/invoke/MethodType;Ljava/lang/invoke/MethodType;Ljava/lang/invoke/MethodHandle;Ljava/lang/invoke/MethodType;)Ljava/lang/invoke/CallSite;")] 6

def k9c0 : Code := { maxStack := 5, maxLocals := 12, code := prog_6_method_1_code, exceptionTable := #[], attributes := #[] }
def k9m0 : Method := { name := "<init>", desc := "(Ljava/lang/String;Ljava/lang/String;II)V", sig := { parameters := [(.object "java/lang/String"), (.object "java/lang/String"), .int, .int], returnType := none }, accessFlags := 0, code := some k9c0 }
def k9c1 : Code := { maxStack := 3, maxLocals := 2, code := prog_6_method_2_code, exceptionTable := #[], attributes := #[] }
def k9m1 : Method := { name := "test", desc := "(Lcom/example/clew/clew/DefaultSearch$Sieve;)V", sig := { parameters := [(.object "com/example/clew/clew/DefaultSearch$Sieve")], returnType := none }, accessFlags := 2, code := some k9c1 }
def k9c2 : Code := { maxStack := 1, maxLocals := 1, code := prog_6_method_3_code, exceptionTable := #[], attributes := #[] }
def k9m2 : Method := { name := "tested", desc := "()[I", sig := { parameters := [], returnType := some (.array .int) }, accessFlags := 0, code := some k9c2 }
def k9c3 : Code := { maxStack := 8, maxLocals := 9, code := prog_6_method_4_code, exceptionTable := #[], attributes := #[] }
def k9m3 : Method := { name := "spreadPair", desc := "(Lcom/example/clew/clew/CharFilter$Counts;)Lcom/example/clew/clew/DefaultSearch$Sieve;", sig := { parameters := [(.object "com/example/clew/clew/CharFilter$Counts")], returnType := some (.object "com/example/clew/clew/DefaultSearch$Sieve") }, accessFlags := 2, code := some k9c3 }
def k9c4 : Code := { maxStack := 2, maxLocals := 2, code := prog_6_method_11_code, exceptionTable := #[], attributes := #[] }
def k9m4 : Method := { name := "lambda$spreadPair$0", desc := "(I)I", sig := { parameters := [.int], returnType := some .int }, accessFlags := 4098, code := some k9c4 }
/-- com/example/clew/clew/CharFilter -/
def k9 : Class := { plain "com/example/clew/clew/CharFilter" (some 0) with
  accessFlags := 32
  interfaces := #[]
  cf := some (fileOf pool9 12 #[.nestMembers #[54], .bootstrapMethods #[⟨270, #[262, 263, 262]⟩, ⟨0, #[]⟩, ⟨0, #[]⟩]] #[{ accessFlags := 0, nameIndex := 7, descriptorIndex := 245, attributes := #[] }, { accessFlags := 2, nameIndex := 73, descriptorIndex := 74, attributes := #[] }, { accessFlags := 0, nameIndex := 249, descriptorIndex := 250, attributes := #[] }, { accessFlags := 2, nameIndex := 69, descriptorIndex := 70, attributes := #[] }, { accessFlags := 4098, nameIndex := 256, descriptorIndex := 101, attributes := #[] }] 32 4 #[] #[{ accessFlags := 26, nameIndex := 235, descriptorIndex := 36, attributes := #[] }, { accessFlags := 26, nameIndex := 238, descriptorIndex := 36, attributes := #[] }, { accessFlags := 26, nameIndex := 240, descriptorIndex := 36, attributes := #[] }, { accessFlags := 26, nameIndex := 242, descriptorIndex := 36, attributes := #[] }, { accessFlags := 26, nameIndex := 215, descriptorIndex := 166, attributes := #[] }, { accessFlags := 26, nameIndex := 244, descriptorIndex := 191, attributes := #[] }, { accessFlags := 18, nameIndex := 28, descriptorIndex := 10, attributes := #[] }, { accessFlags := 18, nameIndex := 31, descriptorIndex := 32, attributes := #[] }, { accessFlags := 2, nameIndex := 198, descriptorIndex := 36, attributes := #[] }, { accessFlags := 18, nameIndex := 35, descriptorIndex := 36, attributes := #[] }, { accessFlags := 2, nameIndex := 190, descriptorIndex := 191, attributes := #[] }, { accessFlags := 2, nameIndex := 77, descriptorIndex := 78, attributes := #[] }, { accessFlags := 2, nameIndex := 87, descriptorIndex := 88, attributes := #[] }, { accessFlags := 2, nameIndex := 207, descriptorIndex := 88, attributes := #[] }, { accessFlags := 2, nameIndex := 201, descriptorIndex := 191, attributes := #[] }, { accessFlags := 2, nameIndex := 204, descriptorIndex := 191, attributes := #[] }, { accessFlags := 18, nameIndex := 45, descriptorIndex := 36, attributes := #[] }, { accessFlags := 18, nameIndex := 15, descriptorIndex := 16, attributes := #[] }, { accessFlags := 18, nameIndex := 19, descriptorIndex := 16, attributes := #[] }, { accessFlags := 18, nameIndex := 48, descriptorIndex := 49, attributes := #[] }])
  fields := #[{ name := "SAMPLE", type := .int, accessFlags := 26, slot := 0, constantValue := 0 }, { name := "STRETCH", type := .int, accessFlags := 26, slot := 1, constantValue := 0 }, { name := "MISSES_TO_WIDEN", type := .int, accessFlags := 26, slot := 2, constantValue := 0 }, { name := "BLOCK", type := .int, accessFlags := 26, slot := 3, constantValue := 0 }, { name := "MARK", type := (.object "java/lang/invoke/VarHandle"), accessFlags := 26, slot := 4, constantValue := 0 }, { name := "GATHER", type := .long, accessFlags := 26, slot := 5, constantValue := 0 }, { name := "pattern", type := (.array .char), accessFlags := 18, slot := 0, constantValue := 0 }, { name := "text", type := (.object "java/lang/String"), accessFlags := 18, slot := 1, constantValue := 0 }, { name := "readAhead", type := .int, accessFlags := 2, slot := 2, constantValue := 0 }, { name := "from", type := .int, accessFlags := 18, slot := 3, constantValue := 0 }, { name := "compared", type := .long, accessFlags := 2, slot := 4, constantValue := 0 }, { name := "sieve", type := (.object "com/example/clew/clew/DefaultSearch$Sieve"), accessFlags := 2, slot := 5, constantValue := 0 }, { name := "whole", type := .boolean, accessFlags := 2, slot := 6, constantValue := 0 }, { name := "widened", type := .boolean, accessFlags := 2, slot := 7, constantValue := 0 }, { name := "rounds", type := .long, accessFlags := 2, slot := 8, constantValue := 0 }, { name := "misses", type := .long, accessFlags := 2, slot := 9, constantValue := 0 }, { name := "reach", type := .int, accessFlags := 18, slot := 10, constantValue := 0 }, { name := "copies", type := (.array (.array .char)), accessFlags := 18, slot := 11, constantValue := 0 }, { name := "slots", type := (.array (.array .char)), accessFlags := 18, slot := 12, constantValue := 0 }, { name := "marks", type := (.array .byte), accessFlags := 18, slot := 13, constantValue := 0 }]
  methods := #[k9m0, k9m1, k9m2, k9m3, k9m4]
  instanceTypes := #[(.array .char), (.object "java/lang/String"), .int, .int, .long, (.object "com/example/clew/clew/DefaultSearch$Sieve"), .boolean, .boolean, .long, .long, .int, (.array (.array .char)), (.array (.array .char)), (.array .byte)]
  staticTypes := #[.int, .int, .int, .int, (.object "java/lang/invoke/VarHandle"), .long]
  resolved := Array.replicate 283 none
  callSites := [(3, 171, .makes 26)]
  statics := none }

def pool10 : Array CpInfo := pool [(4, .class_ 6), (1, u "java/lang/Object"), (0, u "<init>"), (0, u "()V"), (4, .methodref 14 15), (0, .class_ 16), (0, .nameAndType 17 18), (0, u "java/lang/StringLatin1"), (0, u "inflate"), (0, u "([BI[CII)V"), (102, u "$assertionsDisabled"), (0, u "Z"), (69, u "toChars"), (28, .class_ 223), (1, u "java/lang/StringLatin1$LinesSpliterator"), (44, u "([B)[C"), (5, u "getChars"), (0, u "([BII[CI)V"), (114, .class_ 391), (0, u "java/lang/StringLatin1$CharsSpliterator")] 3

def k10m0 : Method := { name := "<init>", desc := "()V", sig := { parameters := [], returnType := none }, accessFlags := 0, code := none }
def k10c1 : Code := { maxStack := 5, maxLocals := 2, code := jdk_43_method_9_code, exceptionTable := #[], attributes := #[] }
def k10m1 : Method := { name := "toChars", desc := "([B)[C", sig := { parameters := [(.array .byte)], returnType := some (.array .char) }, accessFlags := 9, code := some k10c1 }
def k10c2 : Code := { maxStack := 6, maxLocals := 5, code := jdk_43_method_11_code, exceptionTable := #[], attributes := #[] }
def k10m2 : Method := { name := "getChars", desc := "([BII[CI)V", sig := { parameters := [(.array .byte), .int, .int, (.array .char), .int], returnType := none }, accessFlags := 9, code := some k10c2 }
def k10c3 : Code := { maxStack := 4, maxLocals := 6, code := jdk_43_method_49_code, exceptionTable := #[], attributes := #[] }
def k10m3 : Method := { name := "inflate", desc := "([BI[CII)V", sig := { parameters := [(.array .byte), .int, (.array .char), .int, .int], returnType := none }, accessFlags := 9, code := some k10c3 }
/-- java/lang/StringLatin1 -/
def k10 : Class := { plain "java/lang/StringLatin1" (some 0) with
  accessFlags := 48
  interfaces := #[]
  cf := some (fileOf pool10 14 #[.nestMembers #[390, 221]] #[{ accessFlags := 0, nameIndex := 7, descriptorIndex := 8, attributes := #[] }, { accessFlags := 9, nameIndex := 192, descriptorIndex := 268, attributes := #[] }, { accessFlags := 9, nameIndex := 274, descriptorIndex := 275, attributes := #[] }, { accessFlags := 9, nameIndex := 17, descriptorIndex := 18, attributes := #[] }] 48 4 #[] #[{ accessFlags := 4120, nameIndex := 121, descriptorIndex := 122, attributes := #[] }])
  fields := #[{ name := "$assertionsDisabled", type := .boolean, accessFlags := 4120, slot := 0, constantValue := 0 }]
  methods := #[k10m0, k10m1, k10m2, k10m3]
  instanceTypes := #[]
  staticTypes := #[.boolean]
  resolved := Array.replicate 395 none
  statics := none }

def pool11 : Array CpInfo := pool [(1, .class_ 2), (0, u "java/lang/Math"), (1, .class_ 6), (1, u "java/lang/Object"), (0, u "<init>"), (0, u "()V"), (89, .class_ 100), (1, u "java/lang/Math$RandomNumberGeneratorHolder"), (23, u "abs"), (34, u "(I)I"), (12, u "negativeZeroFloatBits"), (0, u "J"), (2, u "negativeZeroDoubleBits"), (21, u "max"), (2, u "min"), (43, u "$assertionsDisabled"), (0, u "Z"), (88, u "(II)I"), (2, u "twoToTheDoubleScaleDown"), (0, u "D"), (4, u "twoToTheDoubleScaleUp"), (9, u "E"), (3, u "PI"), (2, u "TAU"), (2, u "DEGREES_TO_RADIANS"), (0, u "RADIANS_TO_DEGREES")] 94

def k11m0 : Method := { name := "<init>", desc := "()V", sig := { parameters := [], returnType := none }, accessFlags := 2, code := none }
def k11c1 : Code := { maxStack := 1, maxLocals := 1, code := jdk_29_method_59_code, exceptionTable := #[], attributes := #[] }
def k11m1 : Method := { name := "abs", desc := "(I)I", sig := { parameters := [.int], returnType := some .int }, accessFlags := 9, code := some k11c1 }
def k11c2 : Code := { maxStack := 2, maxLocals := 2, code := jdk_29_method_65_code, exceptionTable := #[], attributes := #[] }
def k11m2 : Method := { name := "max", desc := "(II)I", sig := { parameters := [.int, .int], returnType := some .int }, accessFlags := 9, code := some k11c2 }
def k11c3 : Code := { maxStack := 2, maxLocals := 2, code := jdk_29_method_69_code, exceptionTable := #[], attributes := #[] }
def k11m3 : Method := { name := "min", desc := "(II)I", sig := { parameters := [.int, .int], returnType := some .int }, accessFlags := 9, code := some k11c3 }
/-- java/lang/Math -/
def k11 : Class := { plain "java/lang/Math" (some 0) with
  accessFlags := 49
  interfaces := #[]
  cf := some (fileOf pool11 1 #[.nestMembers #[98]] #[{ accessFlags := 2, nameIndex := 7, descriptorIndex := 8, attributes := #[] }, { accessFlags := 9, nameIndex := 124, descriptorIndex := 159, attributes := #[] }, { accessFlags := 9, nameIndex := 198, descriptorIndex := 335, attributes := #[] }, { accessFlags := 9, nameIndex := 201, descriptorIndex := 335, attributes := #[] }] 49 4 #[] #[{ accessFlags := 25, nameIndex := 354, descriptorIndex := 339, attributes := #[] }, { accessFlags := 25, nameIndex := 358, descriptorIndex := 339, attributes := #[] }, { accessFlags := 25, nameIndex := 361, descriptorIndex := 339, attributes := #[] }, { accessFlags := 26, nameIndex := 364, descriptorIndex := 339, attributes := #[] }, { accessFlags := 26, nameIndex := 365, descriptorIndex := 339, attributes := #[] }, { accessFlags := 26, nameIndex := 172, descriptorIndex := 173, attributes := #[] }, { accessFlags := 26, nameIndex := 176, descriptorIndex := 173, attributes := #[] }, { accessFlags := 8, nameIndex := 344, descriptorIndex := 339, attributes := #[] }, { accessFlags := 8, nameIndex := 338, descriptorIndex := 339, attributes := #[] }, { accessFlags := 4120, nameIndex := 245, descriptorIndex := 246, attributes := #[] }])
  fields := #[{ name := "E", type := .double, accessFlags := 25, slot := 0, constantValue := 0 }, { name := "PI", type := .double, accessFlags := 25, slot := 1, constantValue := 0 }, { name := "TAU", type := .double, accessFlags := 25, slot := 2, constantValue := 0 }, { name := "DEGREES_TO_RADIANS", type := .double, accessFlags := 26, slot := 3, constantValue := 0 }, { name := "RADIANS_TO_DEGREES", type := .double, accessFlags := 26, slot := 4, constantValue := 0 }, { name := "negativeZeroFloatBits", type := .long, accessFlags := 26, slot := 5, constantValue := 0 }, { name := "negativeZeroDoubleBits", type := .long, accessFlags := 26, slot := 6, constantValue := 0 }, { name := "twoToTheDoubleScaleUp", type := .double, accessFlags := 8, slot := 7, constantValue := 0 }, { name := "twoToTheDoubleScaleDown", type := .double, accessFlags := 8, slot := 8, constantValue := 0 }, { name := "$assertionsDisabled", type := .boolean, accessFlags := 4120, slot := 9, constantValue := 0 }]
  methods := #[k11m0, k11m1, k11m2, k11m3]
  instanceTypes := #[]
  staticTypes := #[.double, .double, .double, .double, .double, .long, .long, .double, .double, .boolean]
  resolved := Array.replicate 460 none
  statics := none }

def pool12 : Array CpInfo := pool [(1, .methodref 2 3), (0, .class_ 4), (0, .nameAndType 5 6), (0, u "java/lang/Object"), (0, u "<init>"), (0, u "()V"), (0, .methodref 8 9), (0, .class_ 10), (0, .nameAndType 11 12), (0, u "java/lang/Math"), (0, u "max"), (0, u "(II)I"), (0, .methodref 14 15), (0, .class_ 16), (0, .nameAndType 17 18), (0, u "java/lang/Integer"), (0, u "numberOfLeadingZeros"), (0, u "(I)I"), (0, .class_ 20), (0, u "com/example/clew/clew/CharFilter$Counts"), (0, .methodref 8 22), (0, .nameAndType 23 12), (0, u "min"), (0, .fieldref 19 25), (0, .nameAndType 26 27), (0, u "buckets"), (0, u "[I"), (0, .fieldref 19 29), (0, .nameAndType 30 31), (0, u "shift"), (0, u "I"), (0, .methodref 19 33), (0, .nameAndType 34 18), (0, u "bucket"), (0, .integer 2654435769), (0, u "MOST_BITS"), (2, u "(I)V"), (2, u "add"), (0, u "([CII)V"), (1, u "of"), (3, .class_ 50), (0, u "com/example/clew/clew/CharFilter")] 2

def k12c0 : Code := { maxStack := 4, maxLocals := 3, code := prog_7_method_1_code, exceptionTable := #[], attributes := #[] }
def k12m0 : Method := { name := "<init>", desc := "(I)V", sig := { parameters := [.int], returnType := none }, accessFlags := 0, code := some k12c0 }
def k12c1 : Code := { maxStack := 4, maxLocals := 5, code := prog_7_method_2_code, exceptionTable := #[], attributes := #[] }
def k12m1 : Method := { name := "add", desc := "([CII)V", sig := { parameters := [(.array .char), .int, .int], returnType := none }, accessFlags := 0, code := some k12c1 }
def k12c2 : Code := { maxStack := 3, maxLocals := 2, code := prog_7_method_3_code, exceptionTable := #[], attributes := #[] }
def k12m2 : Method := { name := "of", desc := "(I)I", sig := { parameters := [.int], returnType := some .int }, accessFlags := 0, code := some k12c2 }
def k12c3 : Code := { maxStack := 2, maxLocals := 2, code := prog_7_method_4_code, exceptionTable := #[], attributes := #[] }
def k12m3 : Method := { name := "bucket", desc := "(I)I", sig := { parameters := [.int], returnType := some .int }, accessFlags := 2, code := some k12c3 }
/-- com/example/clew/clew/CharFilter$Counts -/
def k12 : Class := { plain "com/example/clew/clew/CharFilter$Counts" (some 0) with
  accessFlags := 32
  interfaces := #[]
  cf := some (fileOf pool12 19 #[.nestHost 49] #[{ accessFlags := 0, nameIndex := 5, descriptorIndex := 39, attributes := #[] }, { accessFlags := 0, nameIndex := 42, descriptorIndex := 43, attributes := #[] }, { accessFlags := 0, nameIndex := 45, descriptorIndex := 18, attributes := #[] }, { accessFlags := 2, nameIndex := 34, descriptorIndex := 18, attributes := #[] }] 32 2 #[] #[{ accessFlags := 26, nameIndex := 36, descriptorIndex := 31, attributes := #[] }, { accessFlags := 18, nameIndex := 26, descriptorIndex := 27, attributes := #[] }, { accessFlags := 18, nameIndex := 30, descriptorIndex := 31, attributes := #[] }])
  fields := #[{ name := "MOST_BITS", type := .int, accessFlags := 26, slot := 0, constantValue := 0 }, { name := "buckets", type := (.array .int), accessFlags := 18, slot := 0, constantValue := 0 }, { name := "shift", type := .int, accessFlags := 18, slot := 1, constantValue := 0 }]
  methods := #[k12m0, k12m1, k12m2, k12m3]
  instanceTypes := #[(.array .int), .int]
  staticTypes := #[.int]
  resolved := Array.replicate 53 none
  statics := none }

def pool13 : Array CpInfo := pool [(2, .class_ 4), (1, u "java/lang/Object"), (0, u "<init>"), (0, u "()V"), (1, .class_ 10), (1, u "java/lang/Number"), (2, .class_ 14), (0, u "java/io/Serializable"), (0, u "serialVersionUID"), (0, u "J")] 20

def k13m0 : Method := { name := "<init>", desc := "()V", sig := { parameters := [], returnType := none }, accessFlags := 1, code := none }
/-- java/lang/Number -/
def k13 : Class := { plain "java/lang/Number" (some 0) with
  accessFlags := 1057
  interfaces := #[2]
  cf := some (fileOf pool13 8 #[] #[{ accessFlags := 1, nameIndex := 5, descriptorIndex := 6, attributes := #[] }] 1057 2 #[13] #[{ accessFlags := 26, nameIndex := 15, descriptorIndex := 16, attributes := #[] }])
  fields := #[{ name := "serialVersionUID", type := .long, accessFlags := 26, slot := 0, constantValue := 0 }]
  methods := #[k13m0]
  instanceTypes := #[]
  staticTypes := #[.long]
  resolved := Array.replicate 37 none
  statics := none }

def pool14 : Array CpInfo := pool [(1, .class_ 2), (0, u "java/lang/Integer"), (16, u "digits"), (0, u "[C"), (32, u "numberOfLeadingZeros"), (0, u "(I)I"), (30, u "DigitOnes"), (0, u "[B"), (2, u "DigitTens"), (99, .class_ 190), (0, u "java/lang/Integer$IntegerCache"), (3, u "I"), (8, .class_ 204), (0, u "java/lang/Number"), (2, u "value"), (56, .integer 65536), (37, u "TYPE"), (0, u "Ljava/lang/Class;"), (0, .class_ 305), (0, u "java/lang/Comparable"), (0, .class_ 307), (0, u "java/lang/constant/Constable"), (0, .class_ 309), (0, u "java/lang/constant/ConstantDesc"), (0, u "MIN_VALUE"), (1, u "MAX_VALUE"), (3, u "SIZE"), (1, u "BYTES"), (1, u "serialVersionUID"), (0, u "J")] 131

def k14c0 : Code := { maxStack := 3, maxLocals := 2, code := jdk_33_method_47_code, exceptionTable := #[], attributes := #[] }
def k14m0 : Method := { name := "numberOfLeadingZeros", desc := "(I)I", sig := { parameters := [.int], returnType := some .int }, accessFlags := 9, code := some k14c0 }
/-- java/lang/Integer -/
def k14 : Class := { plain "java/lang/Integer" (some 13) with
  accessFlags := 49
  interfaces := #[3, 5, 6]
  cf := some (fileOf pool14 1 #[.nestMembers #[189]] #[{ accessFlags := 9, nameIndex := 53, descriptorIndex := 54, attributes := #[] }] 49 203 #[304, 306, 308] #[{ accessFlags := 25, nameIndex := 310, descriptorIndex := 194, attributes := #[] }, { accessFlags := 25, nameIndex := 312, descriptorIndex := 194, attributes := #[] }, { accessFlags := 25, nameIndex := 302, descriptorIndex := 303, attributes := #[] }, { accessFlags := 24, nameIndex := 19, descriptorIndex := 20, attributes := #[] }, { accessFlags := 24, nameIndex := 89, descriptorIndex := 86, attributes := #[] }, { accessFlags := 24, nameIndex := 85, descriptorIndex := 86, attributes := #[] }, { accessFlags := 18, nameIndex := 207, descriptorIndex := 194, attributes := #[] }, { accessFlags := 25, nameIndex := 316, descriptorIndex := 194, attributes := #[] }, { accessFlags := 25, nameIndex := 318, descriptorIndex := 194, attributes := #[] }, { accessFlags := 26, nameIndex := 320, descriptorIndex := 321, attributes := #[] }])
  fields := #[{ name := "MIN_VALUE", type := .int, accessFlags := 25, slot := 0, constantValue := 0 }, { name := "MAX_VALUE", type := .int, accessFlags := 25, slot := 1, constantValue := 0 }, { name := "TYPE", type := (.object "java/lang/Class"), accessFlags := 25, slot := 2, constantValue := 0 }, { name := "digits", type := (.array .char), accessFlags := 24, slot := 3, constantValue := 0 }, { name := "DigitTens", type := (.array .byte), accessFlags := 24, slot := 4, constantValue := 0 }, { name := "DigitOnes", type := (.array .byte), accessFlags := 24, slot := 5, constantValue := 0 }, { name := "value", type := .int, accessFlags := 18, slot := 0, constantValue := 0 }, { name := "SIZE", type := .int, accessFlags := 25, slot := 6, constantValue := 0 }, { name := "BYTES", type := .int, accessFlags := 25, slot := 7, constantValue := 0 }, { name := "serialVersionUID", type := .long, accessFlags := 26, slot := 8, constantValue := 0 }]
  methods := #[k14m0]
  instanceTypes := #[.int]
  staticTypes := #[.int, .int, (.object "java/lang/Class"), (.array .char), (.array .byte), (.array .byte), .int, .int, .long]
  resolved := Array.replicate 453 none
  statics := none }

def pool15 : Array CpInfo := pool [(2, .class_ 4), (1, u "java/lang/Object"), (0, u "<init>"), (0, u "()V"), (17, .class_ 26), (1, u "jdk/internal/util/Preconditions"), (20, u "checkFromToIndex"), (1, u "checkFromIndexSize"), (5, .class_ 56), (0, u "jdk/internal/util/Preconditions$4"), (57, .class_ 115), (0, u "jdk/internal/util/Preconditions$1"), (7, u "SIOOBE_FORMATTER"), (0, u "Ljava/util/function/BiFunction;"), (0, .class_ 126), (0, u "jdk/internal/util/Preconditions$2"), (3, u "AIOOBE_FORMATTER"), (0, .class_ 132), (0, u "jdk/internal/util/Preconditions$3"), (3, u "IOOBE_FORMATTER"), (46, u "(IIILjava/util/function/BiFunction;)I")] 10

def k15m0 : Method := { name := "<init>", desc := "()V", sig := { parameters := [], returnType := none }, accessFlags := 1, code := none }
def k15c1 : Code := { maxStack := 4, maxLocals := 4, code := jdk_41_method_12_code, exceptionTable := #[], attributes := #[] }
def k15m1 : Method := { name := "checkFromToIndex", desc := "(IIILjava/util/function/BiFunction;)I", sig := { parameters := [.int, .int, .int, (.object "java/util/function/BiFunction")], returnType := some .int }, accessFlags := 9, code := some k15c1 }
def k15c2 : Code := { maxStack := 4, maxLocals := 4, code := jdk_41_method_13_code, exceptionTable := #[], attributes := #[] }
def k15m2 : Method := { name := "checkFromIndexSize", desc := "(IIILjava/util/function/BiFunction;)I", sig := { parameters := [.int, .int, .int, (.object "java/util/function/BiFunction")], returnType := some .int }, accessFlags := 9, code := some k15c2 }
/-- jdk/internal/util/Preconditions -/
def k15 : Class := { plain "jdk/internal/util/Preconditions" (some 0) with
  accessFlags := 33
  interfaces := #[]
  cf := some (fileOf pool15 24 #[.nestMembers #[55, 131, 125, 114]] #[{ accessFlags := 1, nameIndex := 5, descriptorIndex := 6, attributes := #[] }, { accessFlags := 9, nameIndex := 47, descriptorIndex := 183, attributes := #[] }, { accessFlags := 9, nameIndex := 49, descriptorIndex := 183, attributes := #[] }] 33 2 #[] #[{ accessFlags := 25, nameIndex := 123, descriptorIndex := 124, attributes := #[] }, { accessFlags := 25, nameIndex := 130, descriptorIndex := 124, attributes := #[] }, { accessFlags := 25, nameIndex := 136, descriptorIndex := 124, attributes := #[] }])
  fields := #[{ name := "SIOOBE_FORMATTER", type := (.object "java/util/function/BiFunction"), accessFlags := 25, slot := 0, constantValue := 0 }, { name := "AIOOBE_FORMATTER", type := (.object "java/util/function/BiFunction"), accessFlags := 25, slot := 1, constantValue := 0 }, { name := "IOOBE_FORMATTER", type := (.object "java/util/function/BiFunction"), accessFlags := 25, slot := 2, constantValue := 0 }]
  methods := #[k15m0, k15m1, k15m2]
  instanceTypes := #[]
  staticTypes := #[(.object "java/util/function/BiFunction"), (.object "java/util/function/BiFunction"), (.object "java/util/function/BiFunction")]
  resolved := Array.replicate 194 none
  statics := some 2 }

def pool16 : Array CpInfo := pool [(1, .class_ 2), (0, u "com/example/clew/clew/DefaultSearch"), (0, .methodref 4 5), (0, .class_ 6), (0, .nameAndType 7 8), (0, u "java/lang/Object"), (0, u "<init>"), (0, u "()V"), (0, .fieldref 10 11), (0, .class_ 12), (0, .nameAndType 13 14), (0, u "com/example/clew/clew/DefaultSearch$Sieve"), (0, u "positions"), (0, u "[I"), (0, .fieldref 10 16), (0, .nameAndType 17 14), (0, u "units"), (0, .interfaceMethodref 19 20), (0, .class_ 21), (0, .nameAndType 22 23), (0, u "java/util/function/IntUnaryOperator"), (0, u "applyAsInt"), (0, u "(I)I"), (34, u "(Ljava/util/function/IntUnaryOperator;[I)V"), (7, u "testsEvery"), (0, u "(I)Z")] 43

def k16c0 : Code := { maxStack := 5, maxLocals := 4, code := prog_13_method_1_code, exceptionTable := #[], attributes := #[] }
def k16m0 : Method := { name := "<init>", desc := "(Ljava/util/function/IntUnaryOperator;[I)V", sig := { parameters := [(.object "java/util/function/IntUnaryOperator"), (.array .int)], returnType := none }, accessFlags := 0, code := some k16c0 }
def k16c1 : Code := { maxStack := 4, maxLocals := 4, code := prog_13_method_2_code, exceptionTable := #[], attributes := #[] }
def k16m1 : Method := { name := "testsEvery", desc := "(I)Z", sig := { parameters := [.int], returnType := some .boolean }, accessFlags := 0, code := some k16c1 }
/-- com/example/clew/clew/DefaultSearch$Sieve -/
def k16 : Class := { plain "com/example/clew/clew/DefaultSearch$Sieve" (some 0) with
  accessFlags := 32
  interfaces := #[]
  cf := some (fileOf pool16 10 #[.nestHost 1] #[{ accessFlags := 0, nameIndex := 7, descriptorIndex := 58, attributes := #[] }, { accessFlags := 0, nameIndex := 66, descriptorIndex := 67, attributes := #[] }] 32 4 #[] #[{ accessFlags := 16, nameIndex := 13, descriptorIndex := 14, attributes := #[] }, { accessFlags := 16, nameIndex := 17, descriptorIndex := 14, attributes := #[] }])
  fields := #[{ name := "positions", type := (.array .int), accessFlags := 16, slot := 0, constantValue := 0 }, { name := "units", type := (.array .int), accessFlags := 16, slot := 1, constantValue := 0 }]
  methods := #[k16m0, k16m1]
  instanceTypes := #[(.array .int), (.array .int)]
  staticTypes := #[]
  resolved := Array.replicate 111 none
  statics := none }

def pool17 : Array CpInfo := pool [(9, u "applyAsInt"), (6, .class_ 18), (1, u "java/util/function/IntUnaryOperator"), (0, u "(I)I"), (0, .class_ 21), (0, u "java/lang/Object")] 46

def k17m0 : Method := { name := "applyAsInt", desc := "(I)I", sig := { parameters := [.int], returnType := some .int }, accessFlags := 1025, code := none }
/-- java/util/function/IntUnaryOperator -/
def k17 : Class := { plain "java/util/function/IntUnaryOperator" (some 0) with
  accessFlags := 1537
  interfaces := #[]
  cf := some (fileOf pool17 16 #[] #[{ accessFlags := 1025, nameIndex := 9, descriptorIndex := 19, attributes := #[] }] 1537 20 #[] #[])
  fields := #[]
  methods := #[k17m0]
  instanceTypes := #[]
  staticTypes := #[]
  resolved := Array.replicate 68 none
  statics := none }

def pool18 : Array CpInfo := pool [(1, .class_ 2), (0, u "java/lang/Cloneable"), (0, .class_ 4), (0, u "java/lang/Object")] 2

/-- java/lang/Cloneable -/
def k18 : Class := { plain "java/lang/Cloneable" (some 0) with
  accessFlags := 1537
  interfaces := #[]
  cf := some (fileOf pool18 1 #[] #[] 1537 3 #[] #[])
  fields := #[]
  methods := #[]
  instanceTypes := #[]
  staticTypes := #[]
  resolved := Array.replicate 7 none
  statics := none }

def pool19 : Array CpInfo := pool [(9, u "<init>"), (6, .class_ 18), (1, u "java/lang/Object"), (0, u "()V"), (1, .class_ 23), (1, u "jdk/internal/util/ArraysSupport"), (0, u "LOG2_ARRAY_LONG_INDEX_SCALE"), (0, u "I"), (2, u "U"), (0, u "Ljdk/internal/misc/Unsafe;"), (8, u "BIG_ENDIAN"), (0, u "Z"), (8, u "LOG2_BYTE_BIT_SIZE"), (4, u "LOG2_ARRAY_INT_INDEX_SCALE"), (54, u "JLA"), (0, u "Ljdk/internal/access/JavaLangAccess;"), (11, u "LOG2_ARRAY_BOOLEAN_INDEX_SCALE"), (9, u "LOG2_ARRAY_BYTE_INDEX_SCALE"), (5, u "LOG2_ARRAY_CHAR_INDEX_SCALE"), (5, u "LOG2_ARRAY_SHORT_INDEX_SCALE"), (18, u "LOG2_ARRAY_FLOAT_INDEX_SCALE"), (24, u "LOG2_ARRAY_DOUBLE_INDEX_SCALE"), (89, u "T_BOOLEAN"), (2, u "T_CHAR"), (1, u "T_FLOAT"), (1, u "T_DOUBLE"), (1, u "T_BYTE"), (1, u "T_SHORT"), (1, u "T_INT"), (1, u "T_LONG"), (1, u "SOFT_MAX_ARRAY_LENGTH")] 83

def k19m0 : Method := { name := "<init>", desc := "()V", sig := { parameters := [], returnType := none }, accessFlags := 2, code := none }
/-- jdk/internal/util/ArraysSupport -/
def k19 : Class := { plain "jdk/internal/util/ArraysSupport" (some 0) with
  accessFlags := 33
  interfaces := #[]
  cf := some (fileOf pool19 21 #[] #[{ accessFlags := 2, nameIndex := 9, descriptorIndex := 19, attributes := #[] }] 33 16 #[] #[{ accessFlags := 24, nameIndex := 28, descriptorIndex := 29, attributes := #[] }, { accessFlags := 26, nameIndex := 38, descriptorIndex := 39, attributes := #[] }, { accessFlags := 25, nameIndex := 121, descriptorIndex := 25, attributes := #[] }, { accessFlags := 25, nameIndex := 131, descriptorIndex := 25, attributes := #[] }, { accessFlags := 25, nameIndex := 137, descriptorIndex := 25, attributes := #[] }, { accessFlags := 25, nameIndex := 143, descriptorIndex := 25, attributes := #[] }, { accessFlags := 25, nameIndex := 53, descriptorIndex := 25, attributes := #[] }, { accessFlags := 25, nameIndex := 24, descriptorIndex := 25, attributes := #[] }, { accessFlags := 25, nameIndex := 162, descriptorIndex := 25, attributes := #[] }, { accessFlags := 25, nameIndex := 187, descriptorIndex := 25, attributes := #[] }, { accessFlags := 26, nameIndex := 48, descriptorIndex := 25, attributes := #[] }, { accessFlags := 25, nameIndex := 277, descriptorIndex := 25, attributes := #[] }, { accessFlags := 25, nameIndex := 280, descriptorIndex := 25, attributes := #[] }, { accessFlags := 25, nameIndex := 282, descriptorIndex := 25, attributes := #[] }, { accessFlags := 25, nameIndex := 284, descriptorIndex := 25, attributes := #[] }, { accessFlags := 25, nameIndex := 286, descriptorIndex := 25, attributes := #[] }, { accessFlags := 25, nameIndex := 288, descriptorIndex := 25, attributes := #[] }, { accessFlags := 25, nameIndex := 290, descriptorIndex := 25, attributes := #[] }, { accessFlags := 25, nameIndex := 292, descriptorIndex := 25, attributes := #[] }, { accessFlags := 26, nameIndex := 108, descriptorIndex := 109, attributes := #[] }, { accessFlags := 25, nameIndex := 294, descriptorIndex := 25, attributes := #[] }])
  fields := #[{ name := "U", type := (.object "jdk/internal/misc/Unsafe"), accessFlags := 24, slot := 0, constantValue := 0 }, { name := "BIG_ENDIAN", type := .boolean, accessFlags := 26, slot := 1, constantValue := 0 }, { name := "LOG2_ARRAY_BOOLEAN_INDEX_SCALE", type := .int, accessFlags := 25, slot := 2, constantValue := 0 }, { name := "LOG2_ARRAY_BYTE_INDEX_SCALE", type := .int, accessFlags := 25, slot := 3, constantValue := 0 }, { name := "LOG2_ARRAY_CHAR_INDEX_SCALE", type := .int, accessFlags := 25, slot := 4, constantValue := 0 }, { name := "LOG2_ARRAY_SHORT_INDEX_SCALE", type := .int, accessFlags := 25, slot := 5, constantValue := 0 }, { name := "LOG2_ARRAY_INT_INDEX_SCALE", type := .int, accessFlags := 25, slot := 6, constantValue := 0 }, { name := "LOG2_ARRAY_LONG_INDEX_SCALE", type := .int, accessFlags := 25, slot := 7, constantValue := 0 }, { name := "LOG2_ARRAY_FLOAT_INDEX_SCALE", type := .int, accessFlags := 25, slot := 8, constantValue := 0 }, { name := "LOG2_ARRAY_DOUBLE_INDEX_SCALE", type := .int, accessFlags := 25, slot := 9, constantValue := 0 }, { name := "LOG2_BYTE_BIT_SIZE", type := .int, accessFlags := 26, slot := 10, constantValue := 0 }, { name := "T_BOOLEAN", type := .int, accessFlags := 25, slot := 11, constantValue := 0 }, { name := "T_CHAR", type := .int, accessFlags := 25, slot := 12, constantValue := 0 }, { name := "T_FLOAT", type := .int, accessFlags := 25, slot := 13, constantValue := 0 }, { name := "T_DOUBLE", type := .int, accessFlags := 25, slot := 14, constantValue := 0 }, { name := "T_BYTE", type := .int, accessFlags := 25, slot := 15, constantValue := 0 }, { name := "T_SHORT", type := .int, accessFlags := 25, slot := 16, constantValue := 0 }, { name := "T_INT", type := .int, accessFlags := 25, slot := 17, constantValue := 0 }, { name := "T_LONG", type := .int, accessFlags := 25, slot := 18, constantValue := 0 }, { name := "JLA", type := (.object "jdk/internal/access/JavaLangAccess"), accessFlags := 26, slot := 19, constantValue := 0 }, { name := "SOFT_MAX_ARRAY_LENGTH", type := .int, accessFlags := 25, slot := 20, constantValue := 0 }]
  methods := #[k19m0]
  instanceTypes := #[]
  staticTypes := #[(.object "jdk/internal/misc/Unsafe"), .boolean, .int, .int, .int, .int, .int, .int, .int, .int, .int, .int, .int, .int, .int, .int, .int, .int, .int, (.object "jdk/internal/access/JavaLangAccess"), .int]
  resolved := Array.replicate 378 none
  statics := none }

/-- the primitive byte -/
def k20 : Class := { plain "byte" none with kind := .primitive 'B', accessFlags := 0x411 }
/-- [B -/
def k21 : Class := { plain "[B" (some 0) with kind := .array 20 .byte, interfaces := #[18, 2], accessFlags := 1041 }

/-- the primitive char -/
def k22 : Class := { plain "char" none with kind := .primitive 'C', accessFlags := 0x411 }
/-- [C -/
def k23 : Class := { plain "[C" (some 0) with kind := .array 22 .char, interfaces := #[18, 2], accessFlags := 1041 }

/-- the primitive int -/
def k24 : Class := { plain "int" none with kind := .primitive 'I', accessFlags := 0x411 }
/-- [I -/
def k25 : Class := { plain "[I" (some 0) with kind := .array 24 .int, interfaces := #[18, 2], accessFlags := 1041 }

def classes0 : Array Class := #[k0, k1, k2, k3, k4, k5, k6, k7, k8, k9, k10, k11, k12, k13, k14, k15, k16, k17, k18, k19, k20, k21, k22, k23, k24, k25]
/-- the class that the rule has made for the site at 171 of com/example/clew/clew/CharFilter.spreadPair -/
def k26 : Class := Jvm.LamKit.madeRec { classes := classes0 } "com/example/clew/clew/CharFilter" (Jvm.Lambda.Shape.mk "java/util/function/IntUnaryOperator" "applyAsInt" (Jvm.ClassFile.MethodDescriptor.mk ([Jvm.ClassFile.FieldType.int] : List Jvm.ClassFile.FieldType) (Option.some Jvm.ClassFile.FieldType.int)) ([(Jvm.ClassFile.FieldType.object "com/example/clew/clew/CharFilter")] : List Jvm.ClassFile.FieldType) (5 : Nat) "com/example/clew/clew/CharFilter" "lambda$spreadPair$0" (Jvm.ClassFile.MethodDescriptor.mk ([Jvm.ClassFile.FieldType.int] : List Jvm.ClassFile.FieldType) (Option.some Jvm.ClassFile.FieldType.int)) false (Jvm.ClassFile.MethodDescriptor.mk ([Jvm.ClassFile.FieldType.int] : List Jvm.ClassFile.FieldType) (Option.some Jvm.ClassFile.FieldType.int))) 26

/-- [[C -/
def k27 : Class := { plain "[[C" (some 0) with kind := .array 23 (.array .char), interfaces := #[18, 2], accessFlags := 1041 }
def heap : Heap := #[{ cls := 7, slots := #[.long 0, .int 1, .null, .int 0, .null, .int 0, .int 0], vm := .statics 7 },
  { cls := 8, slots := #[.int 0, .int 8, .int 0, .int 1], vm := .statics 8 },
  { cls := 15, slots := #[.null, .null, .null], vm := .statics 15 }]
def classes : Array Class := #[k0, k1, k2, k3, k4, k5, k6, k7, k8, k9, k10, k11, k12, k13, k14, k15, k16, k17, k18, k19, k20, k21, k22, k23, k24, k25, k26, k27]
def interned : List (Array UInt16 × Addr) := []
def slotsUsed : Nat := 14
def theMethod : MethodId := ⟨1, 1⟩
def args0 : Array Value := #[.long 5, .long 6, .int 7, .int 8]
def aboutOver (below : List Frame) : State where
  vm := { classes := classes, interned := interned.toArray }
  heap := heap
  slotsUsed := slotsUsed
  threads := #[{ frames := .invoking theMethod args0 :: below }]
def below0 : List Frame := [.native { method := ⟨0, 0⟩, args := #[] }]
def about1 : State := aboutOver below0
def p0 : Program := .bare "" "" ""
def e0 : Env := launch0.env 0 0 0
theorem w_frames : about1.frames = Frame.invoking theMethod args0 :: below0 := rfl
set_option maxRecDepth 65536 in
theorem w_args : argsFit about1.vm theMethod args0 = true := by decide +kernel
set_option maxRecDepth 65536 in
theorem w_heap : heapFits about1 = true := by decide +kernel
set_option maxRecDepth 65536 in
theorem w_runnable : about1.curStatus? = some .runnable := by decide +kernel
set_option maxRecDepth 65536 in
theorem w_alone : about1.alone = true := by decide +kernel
set_option maxRecDepth 65536 in
theorem w_named : about1.methodNamed? x = some theMethod := by decide +kernel
set_option maxRecDepth 65536 in
theorem w_hears : about1.hears theMethod below0 = true := by decide +kernel
set_option maxRecDepth 65536 in
theorem w_ripe : about1.ripe theMethod args0 below0 = true := by decide +kernel
theorem w_running : about1.status = .running := rfl
set_option maxRecDepth 65536 in
theorem w_room : about1.hasRoom e0.platform room_1 = true :=
  launch0.hasRoom_least _ room_1 (by decide +kernel) (by decide +kernel) (by decide +kernel) (by decide +kernel) (by decide +kernel) (by decide +kernel)
theorem allAtoms_all (ts : List Jvm.Cond) (a : Array Jvm.Value) (st : Jvm.State) : (allAtoms ts).before a st = ts.all (fun c => c.before a st) := by
  induction ts with
  | nil => rfl
  | cons c t ih =>
    show (Jvm.Cond.and c (allAtoms t)).before a st = _
    rw [Jvm.Cond.before_and, ih, List.all_cons]
def words1 : List Jvm.Cond := Jvm.Cond.code x code maxLocals ret :: tables_1
/-- a 'code' word, met by the world's own term for the bytes: nothing is compared byte by byte -/
theorem code_word {y : MethodName} {bytes : ByteArray} {mx : Nat} {rt : Option FieldType} {a : Array Value} {s : State} {m : MethodId} {meth : Method} {c : Code} (h1 : s.methodNamed? y = some m) (h2 : s.vm.method? m = some meth) (h3 : meth.code = some c) (h4 : c.code = bytes)
    (h5 : (c.maxLocals == mx && c.exceptionTable.isEmpty && decide (c.maxStack ≤ mostOperands) && decide (meth.sig.returnType = rt) && !meth.locks && decide (parseMethodDescriptor y.desc = some meth.sig)) = true) : (Jvm.Cond.code y bytes mx rt).before a s = true := by
  simp only [Bool.and_eq_true, beq_iff_eq, Bool.not_eq_true', decide_eq_true_eq] at h5
  obtain ⟨⟨⟨⟨⟨g1, g2⟩, g3⟩, g4⟩, g5⟩, g6⟩ := h5
  simp [Cond.before, Cond.holds, Cond.value, h1, h2, h3, h4, g1, g2, g3, g4, g5, g6]
def isCode : Jvm.Cond → Bool
  | .code _ _ _ _ => true
  | _ => false
theorem all_split {L : List Jvm.Cond} {P : Jvm.Cond → Bool} (h1 : L.all (fun c => isCode c || P c) = true) (h2 : ∀ c ∈ L.filter isCode, P c = true) : L.all P = true := by
  refine List.all_eq_true.mpr fun c hc => ?_
  have h := List.all_eq_true.mp h1 c hc
  rcases Bool.eq_false_or_eq_true (isCode c) with hi | hi
  · exact h2 c (List.mem_filter.mpr ⟨hc, hi⟩)
  · simpa [hi] using h
set_option maxRecDepth 65536 in
theorem w_c0 : (Jvm.Cond.code x code maxLocals ret).before args0 about1 = true := code_word (m := ⟨1, 1⟩) (meth := k1m1) (c := k1c1) (by decide +kernel) rfl rfl rfl (by decide +kernel)
set_option maxRecDepth 65536 in
theorem w_c1 : (Jvm.Cond.code ({ cls := "java/lang/String", name := "<init>", desc := "([C)V" } : Jvm.MethodName) jdk_42_method_3_code (2 : Nat) (Option.none : Option Jvm.ClassFile.FieldType)).before args0 about1 = true := code_word (m := ⟨7, 1⟩) (meth := k7m1) (c := k7c1) (by decide +kernel) rfl rfl rfl (by decide +kernel)
set_option maxRecDepth 65536 in
theorem w_c2 : (Jvm.Cond.code ({ cls := "java/lang/String", name := "<init>", desc := "([CIILjava/lang/Void;)V" } : Jvm.MethodName) jdk_42_method_149_code (6 : Nat) (Option.none : Option Jvm.ClassFile.FieldType)).before args0 about1 = true := code_word (m := ⟨7, 5⟩) (meth := k7m5) (c := k7c5) (by decide +kernel) rfl rfl rfl (by decide +kernel)
set_option maxRecDepth 65536 in
theorem w_c3 : (Jvm.Cond.code ({ cls := "java/lang/Object", name := "<init>", desc := "()V" } : Jvm.MethodName) object_method_1_code (1 : Nat) (Option.none : Option Jvm.ClassFile.FieldType)).before args0 about1 = true := code_word (m := ⟨0, 0⟩) (meth := k0m0) (c := k0c0) (by decide +kernel) rfl rfl rfl (by decide +kernel)
set_option maxRecDepth 65536 in
theorem w_c4 : (Jvm.Cond.code ({ cls := "java/lang/StringUTF16", name := "compress", desc := "([CII)[B" } : Jvm.MethodName) jdk_52_method_16_code (6 : Nat) (Option.some (Jvm.ClassFile.FieldType.array Jvm.ClassFile.FieldType.byte))).before args0 about1 = true := code_word (m := ⟨8, 9⟩) (meth := k8m9) (c := k8c9) (by decide +kernel) rfl rfl rfl (by decide +kernel)
set_option maxRecDepth 65536 in
theorem w_c5 : (Jvm.Cond.code ({ cls := "java/lang/StringUTF16", name := "compress", desc := "([CI[BII)I" } : Jvm.MethodName) jdk_52_method_21_code (7 : Nat) (Option.some Jvm.ClassFile.FieldType.int)).before args0 about1 = true := code_word (m := ⟨8, 10⟩) (meth := k8m10) (c := k8c10) (by decide +kernel) rfl rfl rfl (by decide +kernel)
set_option maxRecDepth 65536 in
theorem w_c6 : (Jvm.Cond.code ({ cls := "java/lang/StringUTF16", name := "coderFromArrayLen", desc := "([BI)B" } : Jvm.MethodName) jdk_52_method_15_code (2 : Nat) (Option.some Jvm.ClassFile.FieldType.byte)).before args0 about1 = true := code_word (m := ⟨8, 8⟩) (meth := k8m8) (c := k8c8) (by decide +kernel) rfl rfl rfl (by decide +kernel)
set_option maxRecDepth 65536 in
theorem w_c7 : (Jvm.Cond.code ({ cls := "com/example/clew/clew/CharFilter", name := "<init>", desc := "(Ljava/lang/String;Ljava/lang/String;II)V" } : Jvm.MethodName) prog_6_method_1_code (12 : Nat) (Option.none : Option Jvm.ClassFile.FieldType)).before args0 about1 = true := code_word (m := ⟨9, 0⟩) (meth := k9m0) (c := k9c0) (by decide +kernel) rfl rfl rfl (by decide +kernel)
set_option maxRecDepth 65536 in
theorem w_c8 : (Jvm.Cond.code ({ cls := "java/lang/String", name := "toCharArray", desc := "()[C" } : Jvm.MethodName) jdk_42_method_129_code (1 : Nat) (Option.some (Jvm.ClassFile.FieldType.array Jvm.ClassFile.FieldType.char))).before args0 about1 = true := code_word (m := ⟨7, 4⟩) (meth := k7m4) (c := k7c4) (by decide +kernel) rfl rfl rfl (by decide +kernel)
set_option maxRecDepth 65536 in
theorem w_c9 : (Jvm.Cond.code ({ cls := "java/lang/String", name := "isLatin1", desc := "()Z" } : Jvm.MethodName) jdk_42_method_154_code (1 : Nat) (Option.some Jvm.ClassFile.FieldType.boolean)).before args0 about1 = true := code_word (m := ⟨7, 7⟩) (meth := k7m7) (c := k7c7) (by decide +kernel) rfl rfl rfl (by decide +kernel)
set_option maxRecDepth 65536 in
theorem w_c10 : (Jvm.Cond.code ({ cls := "java/lang/StringLatin1", name := "toChars", desc := "([B)[C" } : Jvm.MethodName) jdk_43_method_9_code (2 : Nat) (Option.some (Jvm.ClassFile.FieldType.array Jvm.ClassFile.FieldType.char))).before args0 about1 = true := code_word (m := ⟨10, 1⟩) (meth := k10m1) (c := k10c1) (by decide +kernel) rfl rfl rfl (by decide +kernel)
set_option maxRecDepth 65536 in
theorem w_c11 : (Jvm.Cond.code ({ cls := "java/lang/StringLatin1", name := "inflate", desc := "([BI[CII)V" } : Jvm.MethodName) jdk_43_method_49_code (6 : Nat) (Option.none : Option Jvm.ClassFile.FieldType)).before args0 about1 = true := code_word (m := ⟨10, 3⟩) (meth := k10m3) (c := k10c3) (by decide +kernel) rfl rfl rfl (by decide +kernel)
set_option maxRecDepth 65536 in
theorem w_c12 : (Jvm.Cond.code ({ cls := "java/lang/Math", name := "min", desc := "(II)I" } : Jvm.MethodName) jdk_29_method_69_code (2 : Nat) (Option.some Jvm.ClassFile.FieldType.int)).before args0 about1 = true := code_word (m := ⟨11, 3⟩) (meth := k11m3) (c := k11c3) (by decide +kernel) rfl rfl rfl (by decide +kernel)
set_option maxRecDepth 65536 in
theorem w_c13 : (Jvm.Cond.code ({ cls := "java/lang/String", name := "length", desc := "()I" } : Jvm.MethodName) jdk_42_method_54_code (1 : Nat) (Option.some Jvm.ClassFile.FieldType.int)).before args0 about1 = true := code_word (m := ⟨7, 2⟩) (meth := k7m2) (c := k7c2) (by decide +kernel) rfl rfl rfl (by decide +kernel)
set_option maxRecDepth 65536 in
theorem w_c14 : (Jvm.Cond.code ({ cls := "java/lang/String", name := "coder", desc := "()B" } : Jvm.MethodName) jdk_42_method_152_code (1 : Nat) (Option.some Jvm.ClassFile.FieldType.byte)).before args0 about1 = true := code_word (m := ⟨7, 6⟩) (meth := k7m6) (c := k7c6) (by decide +kernel) rfl rfl rfl (by decide +kernel)
set_option maxRecDepth 65536 in
theorem w_c15 : (Jvm.Cond.code ({ cls := "com/example/clew/clew/CharFilter$Counts", name := "<init>", desc := "(I)V" } : Jvm.MethodName) prog_7_method_1_code (3 : Nat) (Option.none : Option Jvm.ClassFile.FieldType)).before args0 about1 = true := code_word (m := ⟨12, 0⟩) (meth := k12m0) (c := k12c0) (by decide +kernel) rfl rfl rfl (by decide +kernel)
set_option maxRecDepth 65536 in
theorem w_c16 : (Jvm.Cond.code ({ cls := "java/lang/Math", name := "max", desc := "(II)I" } : Jvm.MethodName) jdk_29_method_65_code (2 : Nat) (Option.some Jvm.ClassFile.FieldType.int)).before args0 about1 = true := code_word (m := ⟨11, 2⟩) (meth := k11m2) (c := k11c2) (by decide +kernel) rfl rfl rfl (by decide +kernel)
set_option maxRecDepth 65536 in
theorem w_c17 : (Jvm.Cond.code ({ cls := "java/lang/Integer", name := "numberOfLeadingZeros", desc := "(I)I" } : Jvm.MethodName) jdk_33_method_47_code (2 : Nat) (Option.some Jvm.ClassFile.FieldType.int)).before args0 about1 = true := code_word (m := ⟨14, 0⟩) (meth := k14m0) (c := k14c0) (by decide +kernel) rfl rfl rfl (by decide +kernel)
set_option maxRecDepth 65536 in
theorem w_c18 : (Jvm.Cond.code ({ cls := "java/lang/String", name := "getChars", desc := "(II[CI)V" } : Jvm.MethodName) jdk_42_method_61_code (5 : Nat) (Option.none : Option Jvm.ClassFile.FieldType)).before args0 about1 = true := code_word (m := ⟨7, 3⟩) (meth := k7m3) (c := k7c3) (by decide +kernel) rfl rfl rfl (by decide +kernel)
set_option maxRecDepth 65536 in
theorem w_c19 : (Jvm.Cond.code ({ cls := "java/lang/String", name := "checkBoundsBeginEnd", desc := "(III)V" } : Jvm.MethodName) jdk_42_method_158_code (3 : Nat) (Option.none : Option Jvm.ClassFile.FieldType)).before args0 about1 = true := code_word (m := ⟨7, 9⟩) (meth := k7m9) (c := k7c9) (by decide +kernel) rfl rfl rfl (by decide +kernel)
set_option maxRecDepth 65536 in
theorem w_c20 : (Jvm.Cond.code ({ cls := "jdk/internal/util/Preconditions", name := "checkFromToIndex", desc := "(IIILjava/util/function/BiFunction;)I" } : Jvm.MethodName) jdk_41_method_12_code (4 : Nat) (Option.some Jvm.ClassFile.FieldType.int)).before args0 about1 = true := code_word (m := ⟨15, 1⟩) (meth := k15m1) (c := k15c1) (by decide +kernel) rfl rfl rfl (by decide +kernel)
set_option maxRecDepth 65536 in
theorem w_c21 : (Jvm.Cond.code ({ cls := "java/lang/String", name := "checkBoundsOffCount", desc := "(III)I" } : Jvm.MethodName) jdk_42_method_157_code (3 : Nat) (Option.some Jvm.ClassFile.FieldType.int)).before args0 about1 = true := code_word (m := ⟨7, 8⟩) (meth := k7m8) (c := k7c8) (by decide +kernel) rfl rfl rfl (by decide +kernel)
set_option maxRecDepth 65536 in
theorem w_c22 : (Jvm.Cond.code ({ cls := "jdk/internal/util/Preconditions", name := "checkFromIndexSize", desc := "(IIILjava/util/function/BiFunction;)I" } : Jvm.MethodName) jdk_41_method_13_code (4 : Nat) (Option.some Jvm.ClassFile.FieldType.int)).before args0 about1 = true := code_word (m := ⟨15, 2⟩) (meth := k15m2) (c := k15c2) (by decide +kernel) rfl rfl rfl (by decide +kernel)
set_option maxRecDepth 65536 in
theorem w_c23 : (Jvm.Cond.code ({ cls := "java/lang/StringLatin1", name := "getChars", desc := "([BII[CI)V" } : Jvm.MethodName) jdk_43_method_11_code (5 : Nat) (Option.none : Option Jvm.ClassFile.FieldType)).before args0 about1 = true := code_word (m := ⟨10, 2⟩) (meth := k10m2) (c := k10c2) (by decide +kernel) rfl rfl rfl (by decide +kernel)
set_option maxRecDepth 65536 in
theorem w_c24 : (Jvm.Cond.code ({ cls := "com/example/clew/clew/CharFilter$Counts", name := "add", desc := "([CII)V" } : Jvm.MethodName) prog_7_method_2_code (5 : Nat) (Option.none : Option Jvm.ClassFile.FieldType)).before args0 about1 = true := code_word (m := ⟨12, 1⟩) (meth := k12m1) (c := k12c1) (by decide +kernel) rfl rfl rfl (by decide +kernel)
set_option maxRecDepth 65536 in
theorem w_c25 : (Jvm.Cond.code ({ cls := "com/example/clew/clew/CharFilter$Counts", name := "bucket", desc := "(I)I" } : Jvm.MethodName) prog_7_method_4_code (2 : Nat) (Option.some Jvm.ClassFile.FieldType.int)).before args0 about1 = true := code_word (m := ⟨12, 3⟩) (meth := k12m3) (c := k12c3) (by decide +kernel) rfl rfl rfl (by decide +kernel)
set_option maxRecDepth 65536 in
theorem w_c26 : (Jvm.Cond.code ({ cls := "com/example/clew/clew/CharFilter", name := "spreadPair", desc := "(Lcom/example/clew/clew/CharFilter$Counts;)Lcom/example/clew/clew/DefaultSearch$Sieve;" } : Jvm.MethodName) prog_6_method_4_code (9 : Nat) (Option.some (Jvm.ClassFile.FieldType.object "com/example/clew/clew/DefaultSearch$Sieve"))).before args0 about1 = true := code_word (m := ⟨9, 3⟩) (meth := k9m3) (c := k9c3) (by decide +kernel) rfl rfl rfl (by decide +kernel)
set_option maxRecDepth 65536 in
theorem w_c27 : (Jvm.Cond.code ({ cls := "java/lang/Math", name := "abs", desc := "(I)I" } : Jvm.MethodName) jdk_29_method_59_code (1 : Nat) (Option.some Jvm.ClassFile.FieldType.int)).before args0 about1 = true := code_word (m := ⟨11, 1⟩) (meth := k11m1) (c := k11c1) (by decide +kernel) rfl rfl rfl (by decide +kernel)
set_option maxRecDepth 65536 in
theorem w_c28 : (Jvm.Cond.code ({ cls := "com/example/clew/clew/CharFilter$Counts", name := "of", desc := "(I)I" } : Jvm.MethodName) prog_7_method_3_code (2 : Nat) (Option.some Jvm.ClassFile.FieldType.int)).before args0 about1 = true := code_word (m := ⟨12, 2⟩) (meth := k12m2) (c := k12c2) (by decide +kernel) rfl rfl rfl (by decide +kernel)
set_option maxRecDepth 65536 in
theorem w_c29 : (Jvm.Cond.code ({ cls := "com/example/clew/clew/DefaultSearch$Sieve", name := "<init>", desc := "(Ljava/util/function/IntUnaryOperator;[I)V" } : Jvm.MethodName) prog_13_method_1_code (4 : Nat) (Option.none : Option Jvm.ClassFile.FieldType)).before args0 about1 = true := code_word (m := ⟨16, 0⟩) (meth := k16m0) (c := k16c0) (by decide +kernel) rfl rfl rfl (by decide +kernel)
set_option maxRecDepth 65536 in
theorem w_c30 : (Jvm.Cond.code ({ cls := "com/example/clew/clew/CharFilter", name := "lambda$spreadPair$0", desc := "(I)I" } : Jvm.MethodName) prog_6_method_11_code (2 : Nat) (Option.some Jvm.ClassFile.FieldType.int)).before args0 about1 = true := code_word (m := ⟨9, 4⟩) (meth := k9m4) (c := k9c4) (by decide +kernel) rfl rfl rfl (by decide +kernel)
set_option maxRecDepth 65536 in
theorem w_c31 : (Jvm.Cond.code ({ cls := "com/example/clew/clew/CharFilter", name := "test", desc := "(Lcom/example/clew/clew/DefaultSearch$Sieve;)V" } : Jvm.MethodName) prog_6_method_2_code (2 : Nat) (Option.none : Option Jvm.ClassFile.FieldType)).before args0 about1 = true := code_word (m := ⟨9, 1⟩) (meth := k9m1) (c := k9c1) (by decide +kernel) rfl rfl rfl (by decide +kernel)
set_option maxRecDepth 65536 in
theorem w_c32 : (Jvm.Cond.code ({ cls := "com/example/clew/clew/DefaultSearch$Sieve", name := "testsEvery", desc := "(I)Z" } : Jvm.MethodName) prog_13_method_2_code (4 : Nat) (Option.some Jvm.ClassFile.FieldType.boolean)).before args0 about1 = true := code_word (m := ⟨16, 1⟩) (meth := k16m1) (c := k16c1) (by decide +kernel) rfl rfl rfl (by decide +kernel)
set_option maxRecDepth 65536 in
theorem w_c33 : (Jvm.Cond.code ({ cls := "com/example/clew/clew/CharFilter", name := "tested", desc := "()[I" } : Jvm.MethodName) prog_6_method_3_code (1 : Nat) (Option.some (Jvm.ClassFile.FieldType.array Jvm.ClassFile.FieldType.int))).before args0 about1 = true := code_word (m := ⟨9, 2⟩) (meth := k9m2) (c := k9c2) (by decide +kernel) rfl rfl rfl (by decide +kernel)
set_option maxRecDepth 65536 in
theorem w_c34 : (Jvm.Cond.code ({ cls := "com/example/clew/clew/CharFilterTestedPinLaw", name := "count", desc := "(I[CII)I" } : Jvm.MethodName) method_4_code (6 : Nat) (Option.some Jvm.ClassFile.FieldType.int)).before args0 about1 = true := code_word (m := ⟨1, 3⟩) (meth := k1m3) (c := k1c3) (by decide +kernel) rfl rfl rfl (by decide +kernel)
set_option maxRecDepth 65536 in
theorem w_c35 : (Jvm.Cond.code ({ cls := "com/example/clew/clew/CharFilterTestedPinLaw", name := "bucket", desc := "(II)I" } : Jvm.MethodName) method_3_code (2 : Nat) (Option.some Jvm.ClassFile.FieldType.int)).before args0 about1 = true := code_word (m := ⟨1, 2⟩) (meth := k1m2) (c := k1c2) (by decide +kernel) rfl rfl rfl (by decide +kernel)
set_option maxRecDepth 65536 in
theorem w_c36 : (Jvm.Cond.code ({ cls := "com/example/clew/clew/CharFilterTestedPinLaw", name := "isFirst", desc := "([III)Z" } : Jvm.MethodName) method_6_code (3 : Nat) (Option.some Jvm.ClassFile.FieldType.boolean)).before args0 about1 = true := code_word (m := ⟨1, 5⟩) (meth := k1m5) (c := k1c5) (by decide +kernel) rfl rfl rfl (by decide +kernel)
set_option maxRecDepth 65536 in
theorem w_c37 : (Jvm.Cond.code ({ cls := "com/example/clew/clew/CharFilterTestedPinLaw", name := "isFirstAt", desc := "([IIII)Z" } : Jvm.MethodName) method_5_code (4 : Nat) (Option.some Jvm.ClassFile.FieldType.boolean)).before args0 about1 = true := code_word (m := ⟨1, 4⟩) (meth := k1m4) (c := k1c4) (by decide +kernel) rfl rfl rfl (by decide +kernel)
set_option maxRecDepth 65536 in
theorem w_c38 : (Jvm.Cond.code ({ cls := "com/example/clew/clew/CharFilterTestedPinLaw", name := "notBetter", desc := "([IIIII)Z" } : Jvm.MethodName) method_7_code (7 : Nat) (Option.some Jvm.ClassFile.FieldType.boolean)).before args0 about1 = true := code_word (m := ⟨1, 6⟩) (meth := k1m6) (c := k1c6) (by decide +kernel) rfl rfl rfl (by decide +kernel)
set_option maxRecDepth 65536 in
theorem w_c39 : (Jvm.Cond.code ({ cls := "java/lang/StringUTF16", name := "toBytes", desc := "([CII)[B" } : Jvm.MethodName) jdk_52_method_14_code (5 : Nat) (Option.some (Jvm.ClassFile.FieldType.array Jvm.ClassFile.FieldType.byte))).before args0 about1 = true := code_word (m := ⟨8, 7⟩) (meth := k8m7) (c := k8c7) (by decide +kernel) rfl rfl rfl (by decide +kernel)
set_option maxRecDepth 65536 in
theorem w_c40 : (Jvm.Cond.code ({ cls := "java/lang/StringUTF16", name := "newBytesFor", desc := "(I)[B" } : Jvm.MethodName) jdk_52_method_2_code (1 : Nat) (Option.some (Jvm.ClassFile.FieldType.array Jvm.ClassFile.FieldType.byte))).before args0 about1 = true := code_word (m := ⟨8, 1⟩) (meth := k8m1) (c := k8c1) (by decide +kernel) rfl rfl rfl (by decide +kernel)
set_option maxRecDepth 65536 in
theorem w_c41 : (Jvm.Cond.code ({ cls := "java/lang/StringUTF16", name := "newBytesLength", desc := "(I)I" } : Jvm.MethodName) jdk_52_method_3_code (1 : Nat) (Option.some Jvm.ClassFile.FieldType.int)).before args0 about1 = true := code_word (m := ⟨8, 2⟩) (meth := k8m2) (c := k8c2) (by decide +kernel) rfl rfl rfl (by decide +kernel)
set_option maxRecDepth 65536 in
theorem w_c42 : (Jvm.Cond.code ({ cls := "java/lang/StringUTF16", name := "putChar", desc := "([BII)V" } : Jvm.MethodName) jdk_52_method_4_code (3 : Nat) (Option.none : Option Jvm.ClassFile.FieldType)).before args0 about1 = true := code_word (m := ⟨8, 3⟩) (meth := k8m3) (c := k8c3) (by decide +kernel) rfl rfl rfl (by decide +kernel)
set_option maxRecDepth 65536 in
theorem w_c43 : (Jvm.Cond.code ({ cls := "java/lang/StringUTF16", name := "getChar", desc := "([BI)C" } : Jvm.MethodName) jdk_52_method_5_code (2 : Nat) (Option.some Jvm.ClassFile.FieldType.char)).before args0 about1 = true := code_word (m := ⟨8, 4⟩) (meth := k8m4) (c := k8c4) (by decide +kernel) rfl rfl rfl (by decide +kernel)
set_option maxRecDepth 65536 in
theorem w_c44 : (Jvm.Cond.code ({ cls := "java/lang/StringUTF16", name := "getChars", desc := "([BII[CI)V" } : Jvm.MethodName) jdk_52_method_26_code (6 : Nat) (Option.none : Option Jvm.ClassFile.FieldType)).before args0 about1 = true := code_word (m := ⟨8, 11⟩) (meth := k8m11) (c := k8c11) (by decide +kernel) rfl rfl rfl (by decide +kernel)
set_option maxRecDepth 65536 in
theorem w_c45 : (Jvm.Cond.code ({ cls := "java/lang/StringUTF16", name := "checkBoundsOffCount", desc := "(II[B)V" } : Jvm.MethodName) jdk_52_method_94_code (3 : Nat) (Option.none : Option Jvm.ClassFile.FieldType)).before args0 about1 = true := code_word (m := ⟨8, 12⟩) (meth := k8m12) (c := k8c12) (by decide +kernel) rfl rfl rfl (by decide +kernel)
set_option maxRecDepth 65536 in
theorem w_c46 : (Jvm.Cond.code ({ cls := "java/lang/StringUTF16", name := "length", desc := "([B)I" } : Jvm.MethodName) jdk_52_method_6_code (1 : Nat) (Option.some Jvm.ClassFile.FieldType.int)).before args0 about1 = true := code_word (m := ⟨8, 5⟩) (meth := k8m5) (c := k8c5) (by decide +kernel) rfl rfl rfl (by decide +kernel)
set_option maxRecDepth 65536 in
theorem w_c47 : (Jvm.Cond.code ({ cls := "java/lang/StringUTF16", name := "toChars", desc := "([B)[C" } : Jvm.MethodName) jdk_52_method_13_code (2 : Nat) (Option.some (Jvm.ClassFile.FieldType.array Jvm.ClassFile.FieldType.char))).before args0 about1 = true := code_word (m := ⟨8, 6⟩) (meth := k8m6) (c := k8c6) (by decide +kernel) rfl rfl rfl (by decide +kernel)
def codes1 : List Jvm.Cond := [Jvm.Cond.code x code maxLocals ret, Jvm.Cond.code ({ cls := "java/lang/String", name := "<init>", desc := "([C)V" } : Jvm.MethodName) jdk_42_method_3_code (2 : Nat) (Option.none : Option Jvm.ClassFile.FieldType), Jvm.Cond.code ({ cls := "java/lang/String", name := "<init>", desc := "([CIILjava/lang/Void;)V" } : Jvm.MethodName) jdk_42_method_149_code (6 : Nat) (Option.none : Option Jvm.ClassFile.FieldType), Jvm.Cond.code ({ cls := "java/lang/Object", name := "<init>", desc := "()V" } : Jvm.MethodName) object_method_1_code (1 : Nat) (Option.none : Option Jvm.ClassFile.FieldType), Jvm.Cond.code ({ cls := "java/lang/StringUTF16", name := "compress", desc := "([CII)[B" } : Jvm.MethodName) jdk_52_method_16_code (6 : Nat) (Option.some (Jvm.ClassFile.FieldType.array Jvm.ClassFile.FieldType.byte)), Jvm.Cond.code ({ cls := "java/lang/StringUTF16", name := "compress", desc := "([CI[BII)I" } : Jvm.MethodName) jdk_52_method_21_code (7 : Nat) (Option.some Jvm.ClassFile.FieldType.int), Jvm.Cond.code ({ cls := "java/lang/StringUTF16", name := "coderFromArrayLen", desc := "([BI)B" } : Jvm.MethodName) jdk_52_method_15_code (2 : Nat) (Option.some Jvm.ClassFile.FieldType.byte), Jvm.Cond.code ({ cls := "com/example/clew/clew/CharFilter", name := "<init>", desc := "(Ljava/lang/String;Ljava/lang/String;II)V" } : Jvm.MethodName) prog_6_method_1_code (12 : Nat) (Option.none : Option Jvm.ClassFile.FieldType), Jvm.Cond.code ({ cls := "java/lang/String", name := "toCharArray", desc := "()[C" } : Jvm.MethodName) jdk_42_method_129_code (1 : Nat) (Option.some (Jvm.ClassFile.FieldType.array Jvm.ClassFile.FieldType.char)), Jvm.Cond.code ({ cls := "java/lang/String", name := "isLatin1", desc := "()Z" } : Jvm.MethodName) jdk_42_method_154_code (1 : Nat) (Option.some Jvm.ClassFile.FieldType.boolean), Jvm.Cond.code ({ cls := "java/lang/StringLatin1", name := "toChars", desc := "([B)[C" } : Jvm.MethodName) jdk_43_method_9_code (2 : Nat) (Option.some (Jvm.ClassFile.FieldType.array Jvm.ClassFile.FieldType.char)), Jvm.Cond.code ({ cls := "java/lang/StringLatin1", name := "inflate", desc := "([BI[CII)V" } : Jvm.MethodName) jdk_43_method_49_code (6 : Nat) (Option.none : Option Jvm.ClassFile.FieldType), Jvm.Cond.code ({ cls := "java/lang/Math", name := "min", desc := "(II)I" } : Jvm.MethodName) jdk_29_method_69_code (2 : Nat) (Option.some Jvm.ClassFile.FieldType.int), Jvm.Cond.code ({ cls := "java/lang/String", name := "length", desc := "()I" } : Jvm.MethodName) jdk_42_method_54_code (1 : Nat) (Option.some Jvm.ClassFile.FieldType.int), Jvm.Cond.code ({ cls := "java/lang/String", name := "coder", desc := "()B" } : Jvm.MethodName) jdk_42_method_152_code (1 : Nat) (Option.some Jvm.ClassFile.FieldType.byte), Jvm.Cond.code ({ cls := "com/example/clew/clew/CharFilter$Counts", name := "<init>", desc := "(I)V" } : Jvm.MethodName) prog_7_method_1_code (3 : Nat) (Option.none : Option Jvm.ClassFile.FieldType), Jvm.Cond.code ({ cls := "java/lang/Math", name := "max", desc := "(II)I" } : Jvm.MethodName) jdk_29_method_65_code (2 : Nat) (Option.some Jvm.ClassFile.FieldType.int), Jvm.Cond.code ({ cls := "java/lang/Integer", name := "numberOfLeadingZeros", desc := "(I)I" } : Jvm.MethodName) jdk_33_method_47_code (2 : Nat) (Option.some Jvm.ClassFile.FieldType.int), Jvm.Cond.code ({ cls := "java/lang/String", name := "getChars", desc := "(II[CI)V" } : Jvm.MethodName) jdk_42_method_61_code (5 : Nat) (Option.none : Option Jvm.ClassFile.FieldType), Jvm.Cond.code ({ cls := "java/lang/String", name := "checkBoundsBeginEnd", desc := "(III)V" } : Jvm.MethodName) jdk_42_method_158_code (3 : Nat) (Option.none : Option Jvm.ClassFile.FieldType), Jvm.Cond.code ({ cls := "jdk/internal/util/Preconditions", name := "checkFromToIndex", desc := "(IIILjava/util/function/BiFunction;)I" } : Jvm.MethodName) jdk_41_method_12_code (4 : Nat) (Option.some Jvm.ClassFile.FieldType.int), Jvm.Cond.code ({ cls := "java/lang/String", name := "checkBoundsOffCount", desc := "(III)I" } : Jvm.MethodName) jdk_42_method_157_code (3 : Nat) (Option.some Jvm.ClassFile.FieldType.int), Jvm.Cond.code ({ cls := "jdk/internal/util/Preconditions", name := "checkFromIndexSize", desc := "(IIILjava/util/function/BiFunction;)I" } : Jvm.MethodName) jdk_41_method_13_code (4 : Nat) (Option.some Jvm.ClassFile.FieldType.int), Jvm.Cond.code ({ cls := "java/lang/StringLatin1", name := "getChars", desc := "([BII[CI)V" } : Jvm.MethodName) jdk_43_method_11_code (5 : Nat) (Option.none : Option Jvm.ClassFile.FieldType), Jvm.Cond.code ({ cls := "com/example/clew/clew/CharFilter$Counts", name := "add", desc := "([CII)V" } : Jvm.MethodName) prog_7_method_2_code (5 : Nat) (Option.none : Option Jvm.ClassFile.FieldType), Jvm.Cond.code ({ cls := "com/example/clew/clew/CharFilter$Counts", name := "bucket", desc := "(I)I" } : Jvm.MethodName) prog_7_method_4_code (2 : Nat) (Option.some Jvm.ClassFile.FieldType.int), Jvm.Cond.code ({ cls := "com/example/clew/clew/CharFilter", name := "spreadPair", desc := "(Lcom/example/clew/clew/CharFilter$Counts;)Lcom/example/clew/clew/DefaultSearch$Sieve;" } : Jvm.MethodName) prog_6_method_4_code (9 : Nat) (Option.some (Jvm.ClassFile.FieldType.object "com/example/clew/clew/DefaultSearch$Sieve")), Jvm.Cond.code ({ cls := "java/lang/Math", name := "abs", desc := "(I)I" } : Jvm.MethodName) jdk_29_method_59_code (1 : Nat) (Option.some Jvm.ClassFile.FieldType.int), Jvm.Cond.code ({ cls := "com/example/clew/clew/CharFilter$Counts", name := "of", desc := "(I)I" } : Jvm.MethodName) prog_7_method_3_code (2 : Nat) (Option.some Jvm.ClassFile.FieldType.int), Jvm.Cond.code ({ cls := "com/example/clew/clew/DefaultSearch$Sieve", name := "<init>", desc := "(Ljava/util/function/IntUnaryOperator;[I)V" } : Jvm.MethodName) prog_13_method_1_code (4 : Nat) (Option.none : Option Jvm.ClassFile.FieldType), Jvm.Cond.code ({ cls := "com/example/clew/clew/CharFilter", name := "lambda$spreadPair$0", desc := "(I)I" } : Jvm.MethodName) prog_6_method_11_code (2 : Nat) (Option.some Jvm.ClassFile.FieldType.int), Jvm.Cond.code ({ cls := "com/example/clew/clew/CharFilter", name := "test", desc := "(Lcom/example/clew/clew/DefaultSearch$Sieve;)V" } : Jvm.MethodName) prog_6_method_2_code (2 : Nat) (Option.none : Option Jvm.ClassFile.FieldType), Jvm.Cond.code ({ cls := "com/example/clew/clew/DefaultSearch$Sieve", name := "testsEvery", desc := "(I)Z" } : Jvm.MethodName) prog_13_method_2_code (4 : Nat) (Option.some Jvm.ClassFile.FieldType.boolean), Jvm.Cond.code ({ cls := "com/example/clew/clew/CharFilter", name := "tested", desc := "()[I" } : Jvm.MethodName) prog_6_method_3_code (1 : Nat) (Option.some (Jvm.ClassFile.FieldType.array Jvm.ClassFile.FieldType.int)), Jvm.Cond.code ({ cls := "com/example/clew/clew/CharFilterTestedPinLaw", name := "count", desc := "(I[CII)I" } : Jvm.MethodName) method_4_code (6 : Nat) (Option.some Jvm.ClassFile.FieldType.int), Jvm.Cond.code ({ cls := "com/example/clew/clew/CharFilterTestedPinLaw", name := "bucket", desc := "(II)I" } : Jvm.MethodName) method_3_code (2 : Nat) (Option.some Jvm.ClassFile.FieldType.int), Jvm.Cond.code ({ cls := "com/example/clew/clew/CharFilterTestedPinLaw", name := "isFirst", desc := "([III)Z" } : Jvm.MethodName) method_6_code (3 : Nat) (Option.some Jvm.ClassFile.FieldType.boolean), Jvm.Cond.code ({ cls := "com/example/clew/clew/CharFilterTestedPinLaw", name := "isFirstAt", desc := "([IIII)Z" } : Jvm.MethodName) method_5_code (4 : Nat) (Option.some Jvm.ClassFile.FieldType.boolean), Jvm.Cond.code ({ cls := "com/example/clew/clew/CharFilterTestedPinLaw", name := "notBetter", desc := "([IIIII)Z" } : Jvm.MethodName) method_7_code (7 : Nat) (Option.some Jvm.ClassFile.FieldType.boolean), Jvm.Cond.code ({ cls := "java/lang/StringUTF16", name := "toBytes", desc := "([CII)[B" } : Jvm.MethodName) jdk_52_method_14_code (5 : Nat) (Option.some (Jvm.ClassFile.FieldType.array Jvm.ClassFile.FieldType.byte)), Jvm.Cond.code ({ cls := "java/lang/StringUTF16", name := "newBytesFor", desc := "(I)[B" } : Jvm.MethodName) jdk_52_method_2_code (1 : Nat) (Option.some (Jvm.ClassFile.FieldType.array Jvm.ClassFile.FieldType.byte)), Jvm.Cond.code ({ cls := "java/lang/StringUTF16", name := "newBytesLength", desc := "(I)I" } : Jvm.MethodName) jdk_52_method_3_code (1 : Nat) (Option.some Jvm.ClassFile.FieldType.int), Jvm.Cond.code ({ cls := "java/lang/StringUTF16", name := "putChar", desc := "([BII)V" } : Jvm.MethodName) jdk_52_method_4_code (3 : Nat) (Option.none : Option Jvm.ClassFile.FieldType), Jvm.Cond.code ({ cls := "java/lang/StringUTF16", name := "getChar", desc := "([BI)C" } : Jvm.MethodName) jdk_52_method_5_code (2 : Nat) (Option.some Jvm.ClassFile.FieldType.char), Jvm.Cond.code ({ cls := "java/lang/StringUTF16", name := "getChars", desc := "([BII[CI)V" } : Jvm.MethodName) jdk_52_method_26_code (6 : Nat) (Option.none : Option Jvm.ClassFile.FieldType), Jvm.Cond.code ({ cls := "java/lang/StringUTF16", name := "checkBoundsOffCount", desc := "(II[B)V" } : Jvm.MethodName) jdk_52_method_94_code (3 : Nat) (Option.none : Option Jvm.ClassFile.FieldType), Jvm.Cond.code ({ cls := "java/lang/StringUTF16", name := "length", desc := "([B)I" } : Jvm.MethodName) jdk_52_method_6_code (1 : Nat) (Option.some Jvm.ClassFile.FieldType.int), Jvm.Cond.code ({ cls := "java/lang/StringUTF16", name := "toChars", desc := "([B)[C" } : Jvm.MethodName) jdk_52_method_13_code (2 : Nat) (Option.some (Jvm.ClassFile.FieldType.array Jvm.ClassFile.FieldType.char))]
set_option maxRecDepth 65536 in
theorem codes_eq : words1.filter isCode = codes1 := rfl
theorem w_codes : ∀ c ∈ words1.filter isCode, c.before args0 about1 = true := by
  rw [codes_eq]
  intro c hc
  simp only [codes1, List.mem_cons, List.not_mem_nil, or_false] at hc
  rcases hc with rfl | rfl | rfl | rfl | rfl | rfl | rfl | rfl | rfl | rfl | rfl | rfl | rfl | rfl | rfl | rfl | rfl | rfl | rfl | rfl | rfl | rfl | rfl | rfl | rfl | rfl | rfl | rfl | rfl | rfl | rfl | rfl | rfl | rfl | rfl | rfl | rfl | rfl | rfl | rfl | rfl | rfl | rfl | rfl | rfl | rfl | rfl | rfl
  · exact w_c0
  · exact w_c1
  · exact w_c2
  · exact w_c3
  · exact w_c4
  · exact w_c5
  · exact w_c6
  · exact w_c7
  · exact w_c8
  · exact w_c9
  · exact w_c10
  · exact w_c11
  · exact w_c12
  · exact w_c13
  · exact w_c14
  · exact w_c15
  · exact w_c16
  · exact w_c17
  · exact w_c18
  · exact w_c19
  · exact w_c20
  · exact w_c21
  · exact w_c22
  · exact w_c23
  · exact w_c24
  · exact w_c25
  · exact w_c26
  · exact w_c27
  · exact w_c28
  · exact w_c29
  · exact w_c30
  · exact w_c31
  · exact w_c32
  · exact w_c33
  · exact w_c34
  · exact w_c35
  · exact w_c36
  · exact w_c37
  · exact w_c38
  · exact w_c39
  · exact w_c40
  · exact w_c41
  · exact w_c42
  · exact w_c43
  · exact w_c44
  · exact w_c45
  · exact w_c46
  · exact w_c47
set_option maxRecDepth 65536 in
theorem w_t1 : (words1.take 24).all (fun c => isCode c || c.before args0 about1) = true := by decide +kernel
set_option maxRecDepth 65536 in
theorem w_t2 : ((words1.drop 24).take 24).all (fun c => isCode c || c.before args0 about1) = true := by decide +kernel
set_option maxRecDepth 65536 in
theorem w_t3 : (((words1.drop 24).drop 24).take 24).all (fun c => isCode c || c.before args0 about1) = true := by decide +kernel
set_option maxRecDepth 65536 in
theorem w_t4 : ((((words1.drop 24).drop 24).drop 24).take 24).all (fun c => isCode c || c.before args0 about1) = true := by decide +kernel
set_option maxRecDepth 65536 in
theorem w_t5 : (((((words1.drop 24).drop 24).drop 24).drop 24).take 24).all (fun c => isCode c || c.before args0 about1) = true := by decide +kernel
set_option maxRecDepth 65536 in
theorem w_t6 : ((((((words1.drop 24).drop 24).drop 24).drop 24).drop 24).take 24).all (fun c => isCode c || c.before args0 about1) = true := by decide +kernel
set_option maxRecDepth 65536 in
theorem w_t7 : (((((((words1.drop 24).drop 24).drop 24).drop 24).drop 24).drop 24).take 24).all (fun c => isCode c || c.before args0 about1) = true := by decide +kernel
set_option maxRecDepth 65536 in
theorem w_t8 : ((((((((words1.drop 24).drop 24).drop 24).drop 24).drop 24).drop 24).drop 24).take 24).all (fun c => isCode c || c.before args0 about1) = true := by decide +kernel
set_option maxRecDepth 65536 in
theorem w_t9 : (((((((((words1.drop 24).drop 24).drop 24).drop 24).drop 24).drop 24).drop 24).drop 24).take 24).all (fun c => isCode c || c.before args0 about1) = true := by decide +kernel
set_option maxRecDepth 65536 in
theorem w_t10 : ((((((((((words1.drop 24).drop 24).drop 24).drop 24).drop 24).drop 24).drop 24).drop 24).drop 24).take 24).all (fun c => isCode c || c.before args0 about1) = true := by decide +kernel
set_option maxRecDepth 65536 in
theorem w_t11 : ((((((((((words1.drop 24).drop 24).drop 24).drop 24).drop 24).drop 24).drop 24).drop 24).drop 24).drop 24).all (fun c => isCode c || c.before args0 about1) = true := by decide +kernel
theorem w_tables : (allAtoms (Jvm.Cond.code x code maxLocals ret :: tables_1)).before args0 about1 = true := by
  rw [allAtoms_all]
  show words1.all (fun c => c.before args0 about1) = true
  refine all_split ?_ w_codes
  rw [← List.take_append_drop 24 words1, List.all_append, w_t1, ← List.take_append_drop 24 (words1.drop 24), List.all_append, w_t2, ← List.take_append_drop 24 ((words1.drop 24).drop 24), List.all_append, w_t3, ← List.take_append_drop 24 (((words1.drop 24).drop 24).drop 24), List.all_append, w_t4, ← List.take_append_drop 24 ((((words1.drop 24).drop 24).drop 24).drop 24), List.all_append, w_t5, ← List.take_append_drop 24 (((((words1.drop 24).drop 24).drop 24).drop 24).drop 24), List.all_append, w_t6, ← List.take_append_drop 24 ((((((words1.drop 24).drop 24).drop 24).drop 24).drop 24).drop 24), List.all_append, w_t7, ← List.take_append_drop 24 (((((((words1.drop 24).drop 24).drop 24).drop 24).drop 24).drop 24).drop 24), List.all_append, w_t8, ← List.take_append_drop 24 ((((((((words1.drop 24).drop 24).drop 24).drop 24).drop 24).drop 24).drop 24).drop 24), List.all_append, w_t9, ← List.take_append_drop 24 (((((((((words1.drop 24).drop 24).drop 24).drop 24).drop 24).drop 24).drop 24).drop 24).drop 24), List.all_append, w_t10, w_t11]
  rfl
set_option maxRecDepth 65536 in
theorem w_rest : rest_1_c.before args0 about1 = true := by decide +kernel
set_option maxRecDepth 65536 in
theorem w_case : (Jvm.Cond.and given_1 narrow_1).before args0 about1 = true := by decide +kernel
theorem w_applies : (headSpec (Jvm.Cond.code x code maxLocals ret :: tables_1) room_1).applies x e0.platform about1 = true :=
  (Spec.applies_iff w_frames).mpr ⟨w_running, w_runnable, w_alone, w_named, w_hears, w_ripe, w_room, w_tables⟩
theorem atStart : AtStart classFile x code maxLocals ret World_1 tables_1 room_1 Calls_1 rest_1 Pre_1 launch0 p0 e0 about1 theMethod args0 below0 :=
  ⟨lists_1, trivial, launch0.admits_env _ _ _, launch0.least_env, fairChoices_fair.cas, fairChoices_fair.clock, w_frames, w_args, w_heap, w_applies, trivial, w_rest, w_case⟩
end start1
theorem witness_1 : WitnessClaimed_1 := ⟨start1.p0, start1.e0, start1.about1, start1.theMethod, start1.args0, start1.below0, start1.atStart⟩
end Jvm.Pilot.@@N@@
