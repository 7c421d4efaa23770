import JvmDerived
import JvmDerived.Pilot.@@N@@Statement
import JvmDerived.Pilot.@@N@@Code
set_option linter.unusedVariables false
set_option linter.unusedSimpArgs false
namespace Jvm.Pilot.@@N@@.Own
open Jvm Sem ClassFile Op Lib Jvm.Stand Jvm.Free Jvm.LawKit Jvm.RoadKit
/-- from the state A the run comes to an end of which P holds -/
def OGo (tb : Tables) (e : Env) (below : List Frame) (P : Outcome → State → Prop) (A : State) : Prop := ∃ s₂ o, Steps tb e below A s₂ ∧ s₂.status = .running ∧ Ended s₂ below o ∧ P o s₂
theorem OGo.go {tb : Tables} {e : Env} {below : List Frame} {P : Outcome → State → Prop} {A B : State} (k : OGo tb e below P B) (h : ∀ t, Steps tb e below B t → Steps tb e below A t) : OGo tb e below P A := by
  obtain ⟨s, o, h1, h2⟩ := k; exact ⟨s, o, h _ h1, h2⟩
theorem OGo.start {tb : Tables} {e : Env} {below : List Frame} {P : Outcome → State → Prop} {T : State} {g g' : JFrame} (q : g = g') (k : OGo tb e below P (T.setTop g')) : OGo tb e below P (T.setTop g) := q ▸ k
theorem OGo.ret {p : Program} {l : Launch} {e : Env} {R : Room} {s : State} {m : MethodId} {args : Array Value} {below : List Frame} {meth : Method} {c : Code} {T : State} {locs : List Loc} {cells slots : Nat}
    (X : Stand p l e R s m args below meth c T locs cells slots) {v : Option Value} (hv : meth.sig.returnType = none → v = none) (hlocks : meth.locks = false) {A : State}
    (hA : ∀ fs, (∀ (f : JFrame) (acts : List Action), f.method = m → f.locked = none → f.entered = [] → (doReturn e (T.setTop f) acts v).1 = T.setFrames fs) → Steps p.tables e below A (T.setFrames fs))
    {Q : Option Value → Heap → List Loc → Prop} {C S : Nat} (hQ : Q v T.heap locs) (hc : cells ≤ C) (hs : slots ≤ S) :
    OGo p.tables e below (fun o U' => ∃ v L, o = .returned v ∧ Q v U'.heap L ∧ FrameEnd s o U' L C S) A := by
  obtain ⟨fs, hr, hrun, hended, hW, hsame⟩ := X.leave hv hlocks
  exact ⟨_, _, hA fs hr, hrun, hended, v, locs, rfl, hQ, ⟨_, rfl⟩, hW, hsame.mono hc hs⟩
theorem OGo.retW {p : Program} {l : Launch} {e : Env} {R : Room} {s : State} {m : MethodId} {args : Array Value} {below : List Frame} {meth : Method} {c : Code} {T : State} {locs : List Loc} {cells slots : Nat} {vm0 : Vm} {k0 : Nat}
    (X : Stand p l e R (s.setVm vm0) m args below meth c T locs cells slots) (hS : s.Since vm0 k0) (hn : k0 ≤ T.heap.size) {v : Option Value} (hv : meth.sig.returnType = none → v = none) (hlocks : meth.locks = false) {A : State}
    (hA : ∀ fs, (∀ (f : JFrame) (acts : List Action), f.method = m → f.locked = none → f.entered = [] → (doReturn e (T.setTop f) acts v).1 = T.setFrames fs) → Steps p.tables e below A (T.setFrames fs))
    {Q : Option Value → Heap → List Loc → Prop} {C S : Nat} (hQ : Q v T.heap locs) (hc : cells ≤ C) (hs : slots ≤ S) :
    OGo p.tables e below (fun o U' => ∃ v L, o = .returned v ∧ Q v U'.heap L ∧ ReturnedEndW s o U' L C S) A := by
  obtain ⟨fs, hr, hrun, hended, h1, h2, h3, h4⟩ := X.leaveW hS hn hv hlocks
  exact ⟨_, _, hA fs hr, hrun, hended, v, locs, rfl, hQ, h1, h2, h3, h4.mono hc hs⟩
theorem OGo.retWH {p : Program} {l : Launch} {e : Env} {R : Room} {s : State} {m : MethodId} {args : Array Value} {below : List Frame} {meth : Method} {c : Code} {T : State} {locs : List Loc} {cells slots : Nat} {vm0 : Vm} {k0 : Nat} {Z : State} {EL : List (String × Nat)}
    (X : Stand p l e R (s.setVm vm0) m args below meth c T locs cells slots) (hS : s.Since vm0 k0) (hn : k0 ≤ T.heap.size) {v : Option Value} (hv : meth.sig.returnType = none → v = none) (hlocks : meth.locks = false) {A : State}
    (hA : ∀ fs, (∀ (f : JFrame) (acts : List Action), f.method = m → f.locked = none → f.entered = [] → (doReturn e (T.setTop f) acts v).1 = T.setFrames fs) → Steps p.tables e below A (T.setFrames fs))
    {Q : Option Value → Heap → List Loc → Prop} {C S : Nat} (hQ : Q v T.heap locs) (hCR : CHr Z EL s.vm s.heap T.vm T.heap) (hc : cells ≤ C) (hs : slots ≤ S) :
    OGo p.tables e below (fun o U' => ∃ v L, o = .returned v ∧ Q v U'.heap L ∧ CHr Z EL s.vm s.heap U'.vm U'.heap ∧ ReturnedEndW s o U' L C S) A := by
  obtain ⟨fs, hr, hrun, hended, h1, h2, h3, h4⟩ := X.leaveW hS hn hv hlocks
  exact ⟨_, _, hA fs hr, hrun, hended, v, locs, rfl, hQ, hCR, h1, h2, h3, h4.mono hc hs⟩
theorem Safe.bare {Z : State} {EL : List (String × Nat)} {vm : Vm} {h : Heap} {x : Addr} (hal : Z.vm.Alike vm) (E : Exa Z h x "java/lang/String") (N : Fld Z h x "java/lang/String" "value" "[B" .null) : Safe Z EL vm h x := fun B => by
  obtain ⟨cell, k, e1, e2, e3, -, -⟩ := E
  obtain ⟨p, -, u, a, -, q, -, F, rfl | rfl⟩ := B
  · obtain ⟨cell', cf, kf, i, f, n1, n2, -, -, -, -, n7⟩ := N
    have ha := F.ha
    obtain ⟨cS, ⟨⟨-, -, -, ⟨c1, k1, i1, f1, -⟩, -, -, -, v1, -⟩, -⟩, -⟩ := F
    obtain ⟨k3, e4, -⟩ := State.fieldFound?_setVm (s := Z) (vm' := vm) hal n2
    have e5 := (show (Wst Z vm h).fieldFound? _ _ _ = _ from e4).symm.trans f1
    simp only [Option.some.injEq, Prod.mk.injEq] at e5
    cases (show h[q.sa]? = some q.sC from ha).symm.trans n1
    rw [← e5.2.2.2, n7] at v1
    cases v1
  · have hd := F.hd
    cases (show h[q.sd]? = some q.SA from hd).symm.trans e1
    obtain ⟨cS, -, -, f, -⟩ := F
    have f' : Z.vm.findClass "[B" = some q.SA.cls := by rw [← hal.findClass]; exact f
    obtain ⟨k1, q1, q2⟩ := Vm.findClass_spec f'
    obtain ⟨k2, q3, q4⟩ := Vm.findClass_spec e2
    cases q1.symm.trans q3
    exact absurd (q2.symm.trans q4) (by decide)
theorem Sta.keep0 {Z : State} {h h' : Heap} {C n d : String} {v : Value} (F : Sta Z h C n d v) (K : Keep h h' []) : Sta Z h' C n d v := by
  obtain ⟨cf, i, k, f, st, cell, h1, h2, h3, h4, h5, r⟩ := F; exact ⟨cf, i, k, f, st, cell, h1, h2, h3, h4, K.2.1 _ _ h5 (fun q => nomatch q), r⟩
theorem Sta.keepE {Z : State} {h h' : Heap} {C n d : String} {v : Value} {ws : List Addr} (F : Sta Z h C n d v) (K : Keep h h' ws) (q : ∀ x ∈ ws, ∃ c : Cell, h[x]? = some c ∧ ∀ q, c.vm ≠ .statics q) : Sta Z h' C n d v := by
  obtain ⟨cf, i, k, f, st, cell, h1, h2, h3, h4, h5, h6, r⟩ := F
  refine ⟨cf, i, k, f, st, cell, h1, h2, h3, h4, K.2.1 _ _ h5 (fun hm => ?_), h6, r⟩
  obtain ⟨c, hc, hq⟩ := q _ hm
  cases h5.symm.trans hc
  cases hv : cell.vm <;> rw [hv] at h6 <;> first | exact hq _ hv | (simp [VmData.isStatics] at h6)
theorem staS {h : Heap} {y : Addr} {ws : List Addr} (a : ∃ c : Cell, h[y]? = some c ∧ ∀ q, c.vm ≠ .statics q) (r : ∀ x ∈ ws, ∃ c : Cell, h[x]? = some c ∧ ∀ q, c.vm ≠ .statics q) : ∀ x ∈ y :: ws, ∃ c : Cell, h[x]? = some c ∧ ∀ q, c.vm ≠ .statics q := fun x hx => (List.mem_cons.mp hx).elim (fun e => e ▸ a) (r x)
theorem own_nf {args : Array Value} {s : State} {C : String} {y y' : MethodName} (hsel : (Cond.selects C y' y').before args s = true) (e : y'.cls = y.cls) : NotFace s y := fun r0 h0 => by
  obtain ⟨c2, r2, m2, q1, q2, q3, q4, kP, hkP, hkPi⟩ := Cond.selects_spec hsel
  have a := findClass_of_methodNamed h0
  have b := findClass_of_methodNamed q3
  rw [e] at b
  have c : r0.cls = m2.cls := Option.some.inj (a.symm.trans b)
  exact ⟨kP, by rw [c]; exact hkP, hkPi⟩
theorem own_decl {a0 a1 : Array Value} {Z : State} {y : MethodName} {bytes : ByteArray} {maxL : Nat} {ret : Option FieldType} (w : (Cond.instanceMethod y).before a0 Z = true) (wc : (Cond.code y bytes maxL ret).before a0 Z = true) : (Cond.declares y).before a1 Z = true := by
  obtain ⟨m, meth, h1, h2, h3, -⟩ := Cond.instanceMethod_spec w
  obtain ⟨m2, c, h4, -, -, -, -, -, -, h5⟩ := Cond.code_spec h1 wc
  cases h2.symm.trans h4
  simp [Cond.before, Cond.holds, Cond.value, h1, h2, h3, h5]
theorem own_same {a0 : Array Value} {Z : State} {y : MethodName} (hmh : y.cls ≠ "java/lang/invoke/MethodHandle" ∧ y.cls ≠ "java/lang/invoke/VarHandle") (w : (Cond.declares y).before a0 Z = true) (nf : NotFace Z y) : (Cond.sameMethod y.cls y.cls y.name y.desc).before a0 Z = true := by
  obtain ⟨m, meth, h1, -⟩ := Cond.declares_spec w
  obtain ⟨k, hk, hi⟩ := nf m h1
  have hc := findClass_of_methodNamed h1
  have hf := State.methodFound?_of_named h1 hmh
  simp [Cond.before, Cond.holds, Cond.value, hc, hf, h1, hk, hi]
theorem fldI {args : Array Value} {s : State} {t : Term} {C n d : String} {x : Addr} {k : Int32} (ht : t.eval args s none [] s = some (.ref x)) (h : (Cond.eq (Term.field t C n d) (Term.int k)).value args s none s [] = some true) : Fld s s.heap x C n d (.int k) := by
  obtain ⟨u, w, hu, hw, hk, hk'⟩ := cmp_v (Or.inl h)
  cases (Term.int_eval k).symm.trans hw
  obtain ⟨z, rfl⟩ := hk'
  have e : z = k := by simpa [Cond.value, hu, Term.int_eval] using h
  subst e
  exact Fld.start (by rw [← fld_at ht]; exact hu)
theorem long_eval {args : Array Value} {s f : State} {o : Option Outcome} {idx : List Nat} (n : Int64) : (Term.long n).eval args f o idx s = some (.long n) := rfl
theorem fldL {args : Array Value} {s : State} {t : Term} {C n d : String} {x : Addr} {k : Int64} (ht : t.eval args s none [] s = some (.ref x)) (h : (Cond.eq (Term.field t C n d) (Term.long k)).value args s none s [] = some true) : Fld s s.heap x C n d (.long k) := by
  obtain ⟨u, w, hu, hw, hk, hk'⟩ := cmp_v (Or.inl h)
  cases (long_eval k).symm.trans hw
  obtain ⟨z, rfl⟩ := hk'
  have e : z = k := by simpa [Cond.value, hu, long_eval] using h
  subst e
  exact Fld.start (by rw [← fld_at ht]; exact hu)
theorem valL {args : Array Value} {s : State} {t : Term} {k : Int64} (h : (Cond.eq t (Term.long k)).value args s none s [] = some true) : t.eval args s none [] s = some (.long k) := by
  obtain ⟨u, w, hu, hw, hk, hk'⟩ := cmp_v (Or.inl h)
  cases (long_eval k).symm.trans hw
  obtain ⟨z, rfl⟩ := hk'
  have e : z = k := by simpa [Cond.value, hu, long_eval] using h
  subst e
  exact hu
theorem valI {args : Array Value} {s : State} {t : Term} {k : Int32} (h : (Cond.eq t (Term.int k)).value args s none s [] = some true) : t.eval args s none [] s = some (.int k) := by
  obtain ⟨u, w, hu, hw, hk, hk'⟩ := cmp_v (Or.inl h)
  cases (Term.int_eval k).symm.trans hw
  obtain ⟨z, rfl⟩ := hk'
  have e : z = k := by simpa [Cond.value, hu, Term.int_eval] using h
  subst e
  exact hu
theorem lenI {args : Array Value} {s : State} {t : Term} {x : Addr} {cl : Cell} {ty : FieldType} {k : Int32} (ht : t.eval args s none [] s = some (.ref x)) (A : Arr s s.heap x cl ty) (h : (Cond.eq (Term.length t) (Term.int k)).value args s none s [] = some true) : cl.slots.size.toInt32 = k ∧ cl.slots.size < 2 ^ 31 := by
  have hv := valI h
  have ha : s.arrayAt? x = some cl := Arr.fin (Vm.Alike.refl _) A
  simp only [Term.eval, ht, ha, Option.bind_eq_bind, Option.bind_some] at hv
  split at hv
  · rename_i q; exact ⟨by simpa using hv, q⟩
  · cases hv
theorem elemR {args : Array Value} {s : State} {t u : Term} {x y : Addr} {cl : Cell} {ty : FieldType} {k : Int32} (ht : t.eval args s none [] s = some (.ref x)) (A : Arr s s.heap x cl ty) (hu : u.eval args s none [] s = some (.ref y)) (h : (Cond.eq (Term.elem t (Term.int k)) u).value args s none s [] = some true) : cl.slots[k.toNatClampNeg]? = some (.ref y) := by
  obtain ⟨v, w, hv, hw, hk, hk'⟩ := cmp_v (Or.inl h)
  cases hu.symm.trans hw
  have e := (elem_in hv ht (Term.int_eval k) A.1).2
  rw [e]
  rcases ref_cases (v := v) hk'.2 with rfl | ⟨z, rfl⟩
  · simp [Cond.value, hv, hu] at h
  · have q : z = y := by simpa [Cond.value, hv, hu] using h
    rw [q]
end Jvm.Pilot.@@N@@.Own
namespace Jvm.Pilot.@@N@@
open Jvm Jvm.ClassFile Sem Op Lib Jvm.Free Jvm.Stand Jvm.LawKit Jvm.RoadKit Bundle Jvm.Pilot.@@N@@.Jvm.D Jvm.Pilot.@@N@@.Own
def own_EL : List (String × Nat) := [("com/example/hushlist/hushlist/server/SaslMechanismNamedPinLaw", 30), ("com/example/hushlist/hushlist/server/SaslMechanismNamedPinLaw", 40), ("java/lang/String", 7)]
theorem own_ewT {Z : State} {a0 : Array Value} (hw : ∀ d ∈ tables_1, d.before a0 Z = true) : EW Z a0 own_EL := EW.cons (hw _ (List.mem_of_getElem? (i := 70) rfl)) (by decide) (EW.cons (hw _ (List.mem_of_getElem? (i := 74) rfl)) (by decide) (EW.cons (hw _ (List.mem_of_getElem? (i := 78) rfl)) (by decide) EW.nil))
theorem own_wST {Z : State} {a0 : Array Value} (hw : ∀ d ∈ tables_1, d.before a0 Z = true) : ∀ d ∈ Bundle.stringAtoms, d.before a0 Z = true := fun d hd => hw d ((by decide +kernel : ∀ d ∈ Bundle.stringAtoms, d ∈ tables_1) d hd)
def own_res (vs : List Value) (uS uP : Addr) : Value := if vs = [(.int (83 : Int32)), (.int (67 : Int32)), (.int (82 : Int32)), (.int (65 : Int32)), (.int (77 : Int32)), (.int (45 : Int32)), (.int (83 : Int32)), (.int (72 : Int32)), (.int (65 : Int32)), (.int (45 : Int32)), (.int (49 : Int32))] then .ref uS else if vs = [(.int (80 : Int32)), (.int (76 : Int32)), (.int (65 : Int32)), (.int (73 : Int32)), (.int (78 : Int32))] then .ref uP else .null
theorem own_isref (vs : List Value) (uS uP : Addr) : (own_res vs uS uP).isRef = true := by
  unfold own_res
  split
  · rfl
  · split <;> rfl
theorem own_resS {vs : List Value} {uS uP : Addr} (h : vs = [(.int (83 : Int32)), (.int (67 : Int32)), (.int (82 : Int32)), (.int (65 : Int32)), (.int (77 : Int32)), (.int (45 : Int32)), (.int (83 : Int32)), (.int (72 : Int32)), (.int (65 : Int32)), (.int (45 : Int32)), (.int (49 : Int32))]) : Value.ref uS = own_res vs uS uP := by subst h; rfl
theorem own_resP {vs : List Value} {uS uP : Addr} (h : vs = [(.int (80 : Int32)), (.int (76 : Int32)), (.int (65 : Int32)), (.int (73 : Int32)), (.int (78 : Int32))]) : Value.ref uP = own_res vs uS uP := by subst h; rfl
theorem own_resN {vs : List Value} {uS uP : Addr} (h : ¬ vs = [(.int (83 : Int32)), (.int (67 : Int32)), (.int (82 : Int32)), (.int (65 : Int32)), (.int (77 : Int32)), (.int (45 : Int32)), (.int (83 : Int32)), (.int (72 : Int32)), (.int (65 : Int32)), (.int (45 : Int32)), (.int (49 : Int32))]) (h2 : ¬ vs = [(.int (80 : Int32)), (.int (76 : Int32)), (.int (65 : Int32)), (.int (73 : Int32)), (.int (78 : Int32))]) : Value.null = own_res vs uS uP := by unfold own_res; rw [if_neg h, if_neg h2]
theorem own_len {xs ys : List Value} (h : xs.length ≠ ys.length) : ¬ xs = ys := fun q => h (congrArg List.length q)
theorem own_i0 {p : Prop} [Decidable p] (h : (if p then (1 : Int32) else (0 : Int32)) = 0) : ¬ p := fun q => by rw [if_pos q] at h; exact absurd h (by decide)
theorem own_i1 {p : Prop} [Decidable p] (h : ¬ (if p then (1 : Int32) else (0 : Int32)) = 0) : p := Decidable.byContradiction fun q => h (by rw [if_neg q])
theorem own_coder (p : Int32) : (((((p - p).toUInt32 >>> ((31 : Int32) &&& 31).toUInt32).toInt32).toInt8.toInt32).toInt8.toInt32) = 0 := by rw [Int32.sub_self]; decide
theorem own_same_str {Z : State} {h : Heap} {a a' b b' : Addr} {k k' : ClassId} {n n' : Int32} {vs vs' : List Value} {d d' : Value} (q : a = a') (F : Fld Z h a "java/lang/String" "value" "[B" (.ref b)) (F' : Fld Z h a' "java/lang/String" "value" "[B" (.ref b'))
    (A : Arv Z h b k .byte n vs d) (A' : Arv Z h b' k' .byte n' vs' d') : n = n' ∧ ∀ i, i < n.toNatClampNeg → vs.getD i d = vs'.getD i d' := by
  subst q
  obtain ⟨c1, _, _, _, _, h1, h2, -, -, -, -, h7⟩ := F
  obtain ⟨c2, _, _, _, _, g1, g2, -, -, -, -, g7⟩ := F'
  cases h1.symm.trans g1; cases h2.symm.trans g2
  cases Option.some.inj (h7.symm.trans g7)
  obtain ⟨cl, Ar, -, S, N, H, -⟩ := A
  obtain ⟨cl', Ar', -, S', N', H', -⟩ := A'
  cases Ar.1.symm.trans Ar'.1
  refine ⟨?_, fun i hi => Option.some.inj ((H i (by rw [S]; exact hi)).symm.trans (H' i (by rw [S]; exact hi)))⟩
  have e : n.toNatClampNeg = n'.toNatClampNeg := S.symm.trans S'
  have e1 := nat_of N; have e2 := nat_of N'
  exact Int32.toInt_inj.mp (by rw [e1, e2, e])
theorem own_ext {xs ys : List Value} {d d' : Value} (hl : xs.length = ys.length) (h : ∀ i, i < xs.length → xs.getD i d = ys.getD i d') : xs = ys := by
  apply List.ext_getElem hl
  intro i h1 h2
  have := h i h1
  simpa [List.getD_eq_getElem?_getD, List.getElem?_eq_getElem h1, List.getElem?_eq_getElem h2] using this
def own_OK (vs : List Value) : Prop := vs.length = 12 ∧ ∀ i, i < 12 → ∃ c : Int32, vs.getD i (.int (0 : Int32)) = .int c ∧ ¬ (255 : Int32) < (c.toUInt32.toUInt16.toUInt32.toInt32)
theorem own_okset {vs : List Value} (h : own_OK vs) {i : Nat} (hi : i < 12) {c : Int32} (hc : ¬ (255 : Int32) < (c.toUInt32.toUInt16.toUInt32.toInt32)) : own_OK (vs.set i (.int c)) := by
  refine ⟨by rw [List.length_set]; exact h.1, fun j hj => ?_⟩
  by_cases e : i = j
  · subst e
    refine ⟨c, ?_, hc⟩
    rw [List.getD_eq_getElem?_getD, List.getElem?_set_self (by rw [h.1]; exact hi)]; rfl
  · obtain ⟨d, h1, h2⟩ := h.2 j hj
    refine ⟨d, ?_, h2⟩
    rw [List.getD_eq_getElem?_getD, List.getElem?_set_ne e, ← List.getD_eq_getElem?_getD]; exact h1
theorem own_ok12 {c0 c1 c2 c3 c4 c5 c6 c7 c8 c9 c10 c11 : Int32} (h0 : ¬ (255 : Int32) < (c0.toUInt32.toUInt16.toUInt32.toInt32)) (h1 : ¬ (255 : Int32) < (c1.toUInt32.toUInt16.toUInt32.toInt32)) (h2 : ¬ (255 : Int32) < (c2.toUInt32.toUInt16.toUInt32.toInt32)) (h3 : ¬ (255 : Int32) < (c3.toUInt32.toUInt16.toUInt32.toInt32)) (h4 : ¬ (255 : Int32) < (c4.toUInt32.toUInt16.toUInt32.toInt32)) (h5 : ¬ (255 : Int32) < (c5.toUInt32.toUInt16.toUInt32.toInt32)) (h6 : ¬ (255 : Int32) < (c6.toUInt32.toUInt16.toUInt32.toInt32)) (h7 : ¬ (255 : Int32) < (c7.toUInt32.toUInt16.toUInt32.toInt32)) (h8 : ¬ (255 : Int32) < (c8.toUInt32.toUInt16.toUInt32.toInt32)) (h9 : ¬ (255 : Int32) < (c9.toUInt32.toUInt16.toUInt32.toInt32)) (h10 : ¬ (255 : Int32) < (c10.toUInt32.toUInt16.toUInt32.toInt32)) (h11 : ¬ (255 : Int32) < (c11.toUInt32.toUInt16.toUInt32.toInt32)) : own_OK [(.int c0), (.int c1), (.int c2), (.int c3), (.int c4), (.int c5), (.int c6), (.int c7), (.int c8), (.int c9), (.int c10), (.int c11)] := by
  refine ⟨rfl, fun i hi => ?_⟩
  match i, hi with
  | 0, _ => exact ⟨c0, rfl, h0⟩
  | 1, _ => exact ⟨c1, rfl, h1⟩
  | 2, _ => exact ⟨c2, rfl, h2⟩
  | 3, _ => exact ⟨c3, rfl, h3⟩
  | 4, _ => exact ⟨c4, rfl, h4⟩
  | 5, _ => exact ⟨c5, rfl, h5⟩
  | 6, _ => exact ⟨c6, rfl, h6⟩
  | 7, _ => exact ⟨c7, rfl, h7⟩
  | 8, _ => exact ⟨c8, rfl, h8⟩
  | 9, _ => exact ⟨c9, rfl, h9⟩
  | 10, _ => exact ⟨c10, rfl, h10⟩
  | 11, _ => exact ⟨c11, rfl, h11⟩
  | n + 12, h => exact absurd h (by omega)
theorem own_12 {vs : List Value} (h : own_OK vs) : ∃ c0 c1 c2 c3 c4 c5 c6 c7 c8 c9 c10 c11 : Int32, (¬ (255 : Int32) < (c0.toUInt32.toUInt16.toUInt32.toInt32)) ∧ (¬ (255 : Int32) < (c1.toUInt32.toUInt16.toUInt32.toInt32)) ∧ (¬ (255 : Int32) < (c2.toUInt32.toUInt16.toUInt32.toInt32)) ∧ (¬ (255 : Int32) < (c3.toUInt32.toUInt16.toUInt32.toInt32)) ∧ (¬ (255 : Int32) < (c4.toUInt32.toUInt16.toUInt32.toInt32)) ∧ (¬ (255 : Int32) < (c5.toUInt32.toUInt16.toUInt32.toInt32)) ∧ (¬ (255 : Int32) < (c6.toUInt32.toUInt16.toUInt32.toInt32)) ∧ (¬ (255 : Int32) < (c7.toUInt32.toUInt16.toUInt32.toInt32)) ∧ (¬ (255 : Int32) < (c8.toUInt32.toUInt16.toUInt32.toInt32)) ∧ (¬ (255 : Int32) < (c9.toUInt32.toUInt16.toUInt32.toInt32)) ∧ (¬ (255 : Int32) < (c10.toUInt32.toUInt16.toUInt32.toInt32)) ∧ (¬ (255 : Int32) < (c11.toUInt32.toUInt16.toUInt32.toInt32)) ∧ vs = [(.int c0), (.int c1), (.int c2), (.int c3), (.int c4), (.int c5), (.int c6), (.int c7), (.int c8), (.int c9), (.int c10), (.int c11)] := by
  obtain ⟨hl, hb⟩ := h
  match vs, hl with
  | [x0, x1, x2, x3, x4, x5, x6, x7, x8, x9, x10, x11], _ =>
    obtain ⟨c0, e0, b0⟩ := hb 0 (by decide)
    obtain rfl : x0 = .int c0 := e0
    obtain ⟨c1, e1, b1⟩ := hb 1 (by decide)
    obtain rfl : x1 = .int c1 := e1
    obtain ⟨c2, e2, b2⟩ := hb 2 (by decide)
    obtain rfl : x2 = .int c2 := e2
    obtain ⟨c3, e3, b3⟩ := hb 3 (by decide)
    obtain rfl : x3 = .int c3 := e3
    obtain ⟨c4, e4, b4⟩ := hb 4 (by decide)
    obtain rfl : x4 = .int c4 := e4
    obtain ⟨c5, e5, b5⟩ := hb 5 (by decide)
    obtain rfl : x5 = .int c5 := e5
    obtain ⟨c6, e6, b6⟩ := hb 6 (by decide)
    obtain rfl : x6 = .int c6 := e6
    obtain ⟨c7, e7, b7⟩ := hb 7 (by decide)
    obtain rfl : x7 = .int c7 := e7
    obtain ⟨c8, e8, b8⟩ := hb 8 (by decide)
    obtain rfl : x8 = .int c8 := e8
    obtain ⟨c9, e9, b9⟩ := hb 9 (by decide)
    obtain rfl : x9 = .int c9 := e9
    obtain ⟨c10, e10, b10⟩ := hb 10 (by decide)
    obtain rfl : x10 = .int c10 := e10
    obtain ⟨c11, e11, b11⟩ := hb 11 (by decide)
    obtain rfl : x11 = .int c11 := e11
    exact ⟨c0, c1, c2, c3, c4, c5, c6, c7, c8, c9, c10, c11, b0, b1, b2, b3, b4, b5, b6, b7, b8, b9, b10, b11, rfl⟩
theorem own_leL (x : Int64) : ¬ (255 : Int32) < (((((x &&& (255 : Int64)).toInt32).toUInt32.toUInt16.toUInt32.toInt32).toUInt32.toUInt16.toUInt32.toInt32).toUInt32.toUInt16.toUInt32.toInt32) := by
  have a := c_maskL x 255 8 (by decide) (by decide)
  have b := c_l2i (x &&& (255 : Int64))
  have r := rng32 ((x &&& (255 : Int64)).toInt32)
  have c := c_i2c ((x &&& (255 : Int64)).toInt32)
  have d := c_i2c ((((x &&& (255 : Int64)).toInt32).toUInt32.toUInt16.toUInt32.toInt32))
  have e := c_i2c (((((x &&& (255 : Int64)).toInt32).toUInt32.toUInt16.toUInt32.toInt32).toUInt32.toUInt16.toUInt32.toInt32))
  have z : (255 : Int32).toInt = 255 := by decide
  rw [Int32.lt_iff_toInt_lt]; omega
theorem own_le (x : Int32) : ¬ (255 : Int32) < ((((x &&& (255 : Int32)).toUInt32.toUInt16.toUInt32.toInt32).toUInt32.toUInt16.toUInt32.toInt32).toUInt32.toUInt16.toUInt32.toInt32) := by
  have a := c_mask x 255 8 (by decide) (by decide)
  have c := c_i2c (x &&& (255 : Int32))
  have d := c_i2c (((x &&& (255 : Int32)).toUInt32.toUInt16.toUInt32.toInt32))
  have e := c_i2c ((((x &&& (255 : Int32)).toUInt32.toUInt16.toUInt32.toInt32).toUInt32.toUInt16.toUInt32.toInt32))
  have z : (255 : Int32).toInt = 255 := by decide
  rw [Int32.lt_iff_toInt_lt]; omega
theorem own_idx (x : Int32) : (¬ ((x &&& (2147483647 : Int32)) % (12 : Int32)) < 0 ∧ ((x &&& (2147483647 : Int32)) % (12 : Int32)) < (12 : Int32)) ∧ ((x &&& (2147483647 : Int32)) % (12 : Int32)).toNatClampNeg < 12 := by
  have a := c_mask x 2147483647 31 (by decide) (by decide)
  have b := (c_irem (x &&& (2147483647 : Int32)) 12 12 (by decide)).1 (by omega)
  have z : (0 : Int32).toInt = 0 := by decide
  have z2 : (12 : Int32).toInt = 12 := by decide
  refine ⟨?_, by simp only [Int32.toNatClampNeg]; omega⟩
  rw [Int32.lt_iff_toInt_lt, Int32.lt_iff_toInt_lt]; omega

theorem own_int {Z : State} {h : Heap} {a : Addr} {k : ClassId} {n i : Int32} {vs : List Value} {d : Value} (A : Arv Z h a k .byte n vs d) (hi : ¬ i < 0 ∧ i < n) : ∃ x : Int32, vs.getD i.toNatClampNeg d = .int x := by
  obtain ⟨cl, Ar, -, S, N, H, G⟩ := A
  have q := G i.toNatClampNeg (Nat.lt_of_not_le fun z => inb_of S hi (Or.inr z))
  cases hv : vs.getD i.toNatClampNeg d with
  | int x => exact ⟨x, rfl⟩
  | _ => rw [hv] at q; simp [fits] at q
theorem own_step {n i : Int32} (h0 : ¬ i < 0) (h1 : i < n) (hn : ¬ n < 0) : ¬ (i + (1 : Int32)) < 0 ∧ ¬ n < (i + (1 : Int32)) ∧ (i + (1 : Int32)).toNatClampNeg = i.toNatClampNeg + 1 := by
  have z : (0 : Int32).toInt = 0 := by decide
  have z1 : (1 : Int32).toInt = 1 := by decide
  have a := c_iadd i 1
  have r := rng32 (i + 1); have r2 := rng32 n
  simp only [Int32.lt_iff_toInt_lt] at *
  simp only [Int32.toNatClampNeg]
  omega
theorem own_natlt {n i : Int32} (h0 : ¬ i < 0) (h1 : i < n) : i.toNatClampNeg < n.toNatClampNeg := by
  have z : (0 : Int32).toInt = 0 := by decide
  simp only [Int32.lt_iff_toInt_lt] at *
  simp only [Int32.toNatClampNeg]; omega
theorem own_natge {n i : Int32} (h1 : ¬ i < n) : n.toNatClampNeg ≤ i.toNatClampNeg := by
  rw [Int32.lt_iff_toInt_lt] at h1
  simp only [Int32.toNatClampNeg]; omega
theorem own_nateq {n n2 : Int32} (h : ¬ n = n2) (h0 : ¬ n < 0) (h1 : ¬ n2 < 0) : n.toNatClampNeg ≠ n2.toNatClampNeg := fun e => h (by
  have e1 := nat_of h0; have e2 := nat_of h1
  exact Int32.toInt_inj.mp (by rw [e1, e2, e]))
theorem own_nn {Z : State} {h : Heap} {a : Addr} {k : ClassId} {ty : FieldType} {n : Int32} {vs : List Value} {d : Value} (A : Arv Z h a k ty n vs d) : ¬ n < 0 := by obtain ⟨_, _, _, _, N, _⟩ := A; exact N
theorem d11_0 : decode jdk_43_method_13_code 0 = .ok (.aload_n 0, 1) := by decide +kernel
theorem d11_1 : decode jdk_43_method_13_code 1 = .ok (.arraylength, 1) := by decide +kernel
theorem d11_2 : decode jdk_43_method_13_code 2 = .ok (.aload_n 1, 1) := by decide +kernel
theorem d11_3 : decode jdk_43_method_13_code 3 = .ok (.arraylength, 1) := by decide +kernel
theorem d11_4 : decode jdk_43_method_13_code 4 = .ok (.if_icmp .ne 30, 3) := by decide +kernel
theorem d11_7 : decode jdk_43_method_13_code 7 = .ok (.iconst 0, 1) := by decide +kernel
theorem d11_8 : decode jdk_43_method_13_code 8 = .ok (.istore_n 2, 1) := by decide +kernel
theorem d11_9 : decode jdk_43_method_13_code 9 = .ok (.iload_n 2, 1) := by decide +kernel
theorem d11_10 : decode jdk_43_method_13_code 10 = .ok (.aload_n 0, 1) := by decide +kernel
theorem d11_11 : decode jdk_43_method_13_code 11 = .ok (.arraylength, 1) := by decide +kernel
theorem d11_12 : decode jdk_43_method_13_code 12 = .ok (.if_icmp .ge 20, 3) := by decide +kernel
theorem d11_32 : decode jdk_43_method_13_code 32 = .ok (.iconst 1, 1) := by decide +kernel
theorem d11_33 : decode jdk_43_method_13_code 33 = .ok (.ireturn, 1) := by decide +kernel
theorem d11_15 : decode jdk_43_method_13_code 15 = .ok (.aload_n 0, 1) := by decide +kernel
theorem d11_16 : decode jdk_43_method_13_code 16 = .ok (.iload_n 2, 1) := by decide +kernel
theorem d11_17 : decode jdk_43_method_13_code 17 = .ok (.baload, 1) := by decide +kernel
theorem d11_18 : decode jdk_43_method_13_code 18 = .ok (.aload_n 1, 1) := by decide +kernel
theorem d11_19 : decode jdk_43_method_13_code 19 = .ok (.iload_n 2, 1) := by decide +kernel
theorem d11_20 : decode jdk_43_method_13_code 20 = .ok (.baload, 1) := by decide +kernel
theorem d11_21 : decode jdk_43_method_13_code 21 = .ok (.if_icmp .eq 5, 3) := by decide +kernel
theorem d11_26 : decode jdk_43_method_13_code 26 = .ok (.iinc 2 1, 3) := by decide +kernel
theorem d11_29 : decode jdk_43_method_13_code 29 = .ok (.goto (-20), 3) := by decide +kernel
theorem d11_24 : decode jdk_43_method_13_code 24 = .ok (.iconst 0, 1) := by decide +kernel
theorem d11_25 : decode jdk_43_method_13_code 25 = .ok (.ireturn, 1) := by decide +kernel
theorem d11_34 : decode jdk_43_method_13_code 34 = .ok (.iconst 0, 1) := by decide +kernel
theorem d11_35 : decode jdk_43_method_13_code 35 = .ok (.ireturn, 1) := by decide +kernel
theorem pn_java_lang_StringLatin1 : plainName "java/lang/StringLatin1" = true := by first | (simp [plainName, overriddenIn]; done) | decide +kernel
def Q11 (Z : State) (a0 : Addr) (a1 : Addr) (k1 : ClassId) (k2 : ClassId) (n1 : Int32) (n2 : Int32) (vs1 : List Value) (vs2 : List Value) (h0 : Heap) (n0 : Nat) (v : Option Value) (h : Heap) (L : List Loc) : Prop := v = some (.int (if vs1 = vs2 then (1 : Int32) else (0 : Int32))) ∧ Fr n0 L ∧ h = h0
def P11 (Z : State) (a0 : Addr) (a1 : Addr) (k1 : ClassId) (k2 : ClassId) (n1 : Int32) (n2 : Int32) (vs1 : List Value) (vs2 : List Value) (h0 : Heap) (n0 : Nat) (s : State) (o : Outcome) (U' : State) : Prop := ∃ v L, o = .returned v ∧ Q11 Z a0 a1 k1 k2 n1 n2 vs1 vs2 h0 n0 v U'.heap L ∧ FrameEnd s o U' L ({ frames := 0, cells := 0, slots := 0, locals := 0 } : Room).cells ({ frames := 0, cells := 0, slots := 0, locals := 0 } : Room).slots
set_option maxRecDepth 65536 in
set_option maxHeartbeats 40000000 in
theorem rm11 (l : Launch) (Z : State) (aV : Array Value) (hw : ∀ d ∈ tables_1, d.before aV Z = true) (ws : List Jvm.Cond) (a0 : Addr) (a1 : Addr) (k1 : ClassId) (k2 : ClassId) (n1 : Int32) (n2 : Int32) (vs1 : List Value) (vs2 : List Value) (h0 : Heap) (n0 : Nat) (Z0 : n0 ≤ h0.size) (V_a0 : Arv Z h0 a0 k1 .byte n1 vs1 (.int (0 : Int32))) (V_a1 : Arv Z h0 a1 k2 .byte n2 vs2 (.int (0 : Int32))) (hl1 : vs1.length = n1.toNatClampNeg) (hl2 : vs2.length = n2.toNatClampNeg) :
    MetFree l (⟨"java/lang/StringLatin1", "equals", "([B[B)Z"⟩ : MethodName) (head1 (Jvm.Cond.code (⟨"java/lang/StringLatin1", "equals", "([B[B)Z"⟩ : MethodName) jdk_43_method_13_code 3 (some .boolean) :: ws) ({ frames := 0, cells := 0, slots := 0, locals := 0 } : Room)) (fun a U => a = #[(.ref a0), (.ref a1)] ∧ Z.Warmed39 U.vm ∧ U.heap = h0) (fun _ _ _ _ _ => True) (fun _ U o U' => ∃ v L, o = .returned v ∧ Q11 Z a0 a1 k1 k2 n1 n2 vs1 vs2 h0 n0 v U'.heap L ∧ FrameEnd U o U' L ({ frames := 0, cells := 0, slots := 0, locals := 0 } : Room).cells ({ frames := 0, cells := 0, slots := 0, locals := 0 } : Room).slots) := by
  refine MetFree.of_bodySF (plainFor_of_name pn_java_lang_StringLatin1) hisR ?_
  intro p e s m args below meth c s₁ Bd hml0 hP hK
  obtain ⟨rfl, hZ, hh⟩ := hP
  have hx := Bd.exec
  have hby := Bd.bytes
  have hml : c.maxLocals = 3 := hml0
  have hown : s.vm.findClass "java/lang/StringLatin1" = some m.cls := findClass_of_methodNamed Bd.named
  have hnm := (name_of_methodNamed Bd.named Bd.method).1
  have X0 : Stand p l e ({ frames := 0, cells := 0, slots := 0, locals := 0 } : Room) s m #[(.ref a0), (.ref a1)] below meth c s₁ [] 0 0 := Stand.of_body Bd
  have e0 : s₁.heap = h0 := by rw [← hh, Bd.state]; rfl
  have efx : entryFrame m #[(.ref a0), (.ref a1)] 3 = mkF m 0 #[.val (.ref a0), .val (.ref a1), .unset] [] := by first | (simp [entryFrame, mkF, argsToLocals, Value.category]; done) | rfl
  have N0 := Fr.nil n0
  have K0 : Keep h0 h0 [] := Keep.refl h0 _
  refine OGo.start (g' := mkF m 0 #[.val (.ref a0), .val (.ref a1), .unset] []) (efx) ?_
  show OGo p.tables e below (P11 Z a0 a1 k1 k2 n1 n2 vs1 vs2 h0 n0 s) (s₁.setTop (mkF m 0 #[.val (.ref a0), .val (.ref a1), .unset] []))
  refine OGo.go (B := s₁.setTop (mkF m 1 #[.val (.ref a0), .val (.ref a1), .unset] [(.ref a0)])) ?_ (fun tX kX => XS.aloadN X0.here hx rfl (hb hby d11_0) rfl rfl kX)
  obtain ⟨cl1, Ar1, qa1, S1, N1', H1, G1⟩ := id V_a0
  refine OGo.go (B := s₁.setTop (mkF m 2 #[.val (.ref a0), .val (.ref a1), .unset] [(.int n1)])) ?_ (fun tX kX => X0.arraylength hx (by rw [e0]; exact Ar1.1) (State.isArrayOf_alike hZ.alike Ar1.2.1) (g := (mkF m 1 #[.val (.ref a0), .val (.ref a1), .unset] [(.ref a0)])) rfl rfl (hb hby d11_1) _ (by rw [len_of S1 N1']; exact kX))
  refine OGo.go (B := s₁.setTop (mkF m 3 #[.val (.ref a0), .val (.ref a1), .unset] [(.ref a1), (.int n1)])) ?_ (fun tX kX => XS.aloadN X0.here hx rfl (hb hby d11_2) rfl rfl kX)
  obtain ⟨cl2, Ar2, qa2, S2, N2', H2, G2⟩ := id V_a1
  refine OGo.go (B := s₁.setTop (mkF m 4 #[.val (.ref a0), .val (.ref a1), .unset] [(.int n2), (.int n1)])) ?_ (fun tX kX => X0.arraylength hx (by rw [e0]; exact Ar2.1) (State.isArrayOf_alike hZ.alike Ar2.2.1) (g := (mkF m 3 #[.val (.ref a0), .val (.ref a1), .unset] [(.ref a1), (.int n1)])) rfl rfl (hb hby d11_3) _ (by rw [len_of S2 N2']; exact kX))
  by_cases hc4 : n1 = n2
  ·
    refine OGo.go (B := s₁.setTop (mkF m 7 #[.val (.ref a0), .val (.ref a1), .unset] [])) ?_ (fun tX kX => XS.icmpNo X0.here hx rfl (hb hby d11_4) rfl (teq hc4).2 kX)
    refine OGo.go (B := s₁.setTop (mkF m 8 #[.val (.ref a0), .val (.ref a1), .unset] [(.int (0 : Int32))])) ?_ (fun tX kX => XS.iconst X0.here hx rfl (hb hby d11_7) kX)
    refine OGo.go (B := s₁.setTop (mkF m 9 #[.val (.ref a0), .val (.ref a1), .val (.int (0 : Int32))] [])) ?_ (fun tX kX => XS.istoreN X0.here hx rfl (hb hby d11_8) rfl (l' := #[.val (.ref a0), .val (.ref a1), .val (.int (0 : Int32))]) rfl kX)
    have hn0 := own_nn V_a0
    have J9 : ∀ (kq : Nat) (iv : Int32), n1.toNatClampNeg = iv.toNatClampNeg + kq → ¬ iv < 0 → ¬ n1 < iv → (∀ j, j < iv.toNatClampNeg → vs1.getD j (.int (0 : Int32)) = vs2.getD j (.int (0 : Int32))) → OGo p.tables e below (P11 Z a0 a1 k1 k2 n1 n2 vs1 vs2 h0 n0 s) (s₁.setTop (mkF m 9 #[.val (.ref a0), .val (.ref a1), .val (.int iv)] [])) := by
      intro kq
      induction kq with
      | zero =>
        intro iv hk1 hk2 hk3 hk4
        refine OGo.go (B := s₁.setTop (mkF m 10 #[.val (.ref a0), .val (.ref a1), .val (.int iv)] [(.int iv)])) ?_ (fun tX kX => XS.iloadN X0.here hx rfl (hb hby d11_9) rfl kX)
        refine OGo.go (B := s₁.setTop (mkF m 11 #[.val (.ref a0), .val (.ref a1), .val (.int iv)] [(.ref a0), (.int iv)])) ?_ (fun tX kX => XS.aloadN X0.here hx rfl (hb hby d11_10) rfl rfl kX)
        obtain ⟨cl3, Ar3, qa3, S3, N3', H3, G3⟩ := id V_a0
        refine OGo.go (B := s₁.setTop (mkF m 12 #[.val (.ref a0), .val (.ref a1), .val (.int iv)] [(.int n1), (.int iv)])) ?_ (fun tX kX => X0.arraylength hx (by rw [e0]; exact Ar3.1) (State.isArrayOf_alike hZ.alike Ar3.2.1) (g := (mkF m 11 #[.val (.ref a0), .val (.ref a1), .val (.int iv)] [(.ref a0), (.int iv)])) rfl rfl (hb hby d11_11) _ (by rw [len_of S3 N3']; exact kX))
        refine OGo.go (B := s₁.setTop (mkF m 32 #[.val (.ref a0), .val (.ref a1), .val (.int iv)] [])) ?_ (fun tX kX => XS.icmpYes X0.here hx rfl (pc0 := 12) (pc' := 32) rfl (hb hby d11_12) rfl (flt (fun q => absurd (own_natlt hk2 q) (by omega))).2.1 (by decide) (by decide) kX)
        refine OGo.go (B := s₁.setTop (mkF m 33 #[.val (.ref a0), .val (.ref a1), .val (.int iv)] [(.int (1 : Int32))])) ?_ (fun tX kX => XS.iconst X0.here hx rfl (hb hby d11_32) kX)
        refine OGo.ret X0 (v := (some (.int (1 : Int32)))) (fun h => by rw [Bd.returns] at h; cases h) (BodyLoose.notSynchronized Bd) (fun fs hr => retN X0 hx (t := .boolean) (z := (1 : Int32)) Bd.returns (by simp) (hb hby d11_33) hr) (Q := Q11 Z a0 a1 k1 k2 n1 n2 vs1 vs2 h0 n0) ?_ (by decide) (by decide)
        show Q11 Z a0 a1 k1 k2 n1 n2 vs1 vs2 h0 n0 _ s₁.heap _
        rw [e0]
        exact ⟨(congrArg (fun z => some (Value.int z)) (if_pos (own_ext (by rw [hl1, hl2, hc4]) (fun i hi => hk4 i (by rw [hl1] at hi; omega)))).symm), N0, rfl⟩
      | succ kq ih =>
        intro iv hk1 hk2 hk3 hk4
        refine OGo.go (B := s₁.setTop (mkF m 10 #[.val (.ref a0), .val (.ref a1), .val (.int iv)] [(.int iv)])) ?_ (fun tX kX => XS.iloadN X0.here hx rfl (hb hby d11_9) rfl kX)
        refine OGo.go (B := s₁.setTop (mkF m 11 #[.val (.ref a0), .val (.ref a1), .val (.int iv)] [(.ref a0), (.int iv)])) ?_ (fun tX kX => XS.aloadN X0.here hx rfl (hb hby d11_10) rfl rfl kX)
        obtain ⟨cl4, Ar4, qa4, S4, N4', H4, G4⟩ := id V_a0
        refine OGo.go (B := s₁.setTop (mkF m 12 #[.val (.ref a0), .val (.ref a1), .val (.int iv)] [(.int n1), (.int iv)])) ?_ (fun tX kX => X0.arraylength hx (by rw [e0]; exact Ar4.1) (State.isArrayOf_alike hZ.alike Ar4.2.1) (g := (mkF m 11 #[.val (.ref a0), .val (.ref a1), .val (.int iv)] [(.ref a0), (.int iv)])) rfl rfl (hb hby d11_11) _ (by rw [len_of S4 N4']; exact kX))
        have hin9 : iv < n1 := Decidable.byContradiction fun q => by have := own_natge q; omega
        refine OGo.go (B := s₁.setTop (mkF m 15 #[.val (.ref a0), .val (.ref a1), .val (.int iv)] [])) ?_ (fun tX kX => XS.icmpNo X0.here hx rfl (hb hby d11_12) rfl (tlt hin9).2.1 kX)
        refine OGo.go (B := s₁.setTop (mkF m 16 #[.val (.ref a0), .val (.ref a1), .val (.int iv)] [(.ref a0)])) ?_ (fun tX kX => XS.aloadN X0.here hx rfl (hb hby d11_15) rfl rfl kX)
        refine OGo.go (B := s₁.setTop (mkF m 17 #[.val (.ref a0), .val (.ref a1), .val (.int iv)] [(.int iv), (.ref a0)])) ?_ (fun tX kX => XS.iloadN X0.here hx rfl (hb hby d11_16) rfl kX)
        obtain ⟨cl5, Ar5, qa5, S5, N5', H5, G5⟩ := id V_a0
        obtain ⟨xv, hxv⟩ := own_int V_a0 ⟨hk2, hin9⟩
        have hin5 := inb_of (j := iv) S5 ⟨hk2, hin9⟩
        have hat5 := H5.at (v := (.int xv)) hin5 hxv
        refine OGo.go (B := s₁.setTop (mkF m 18 #[.val (.ref a0), .val (.ref a1), .val (.int iv)] [(.int xv)])) ?_ (fun tX kX => X0.baloadBytes hx (j := iv) (v := (.int xv)) (by rw [e0]; exact Ar5.1) (State.isArrayOf_alike hZ.alike Ar5.2.1) Ar5.2.2 hin5 hat5 (g := (mkF m 17 #[.val (.ref a0), .val (.ref a1), .val (.int iv)] [(.int iv), (.ref a0)])) rfl rfl (hb hby d11_17) _ kX)
        refine OGo.go (B := s₁.setTop (mkF m 19 #[.val (.ref a0), .val (.ref a1), .val (.int iv)] [(.ref a1), (.int xv)])) ?_ (fun tX kX => XS.aloadN X0.here hx rfl (hb hby d11_18) rfl rfl kX)
        refine OGo.go (B := s₁.setTop (mkF m 20 #[.val (.ref a0), .val (.ref a1), .val (.int iv)] [(.int iv), (.ref a1), (.int xv)])) ?_ (fun tX kX => XS.iloadN X0.here hx rfl (hb hby d11_19) rfl kX)
        obtain ⟨cl6, Ar6, qa6, S6, N6', H6, G6⟩ := id V_a1
        obtain ⟨yv, hyv⟩ := own_int V_a1 ⟨hk2, hc4 ▸ hin9⟩
        have hin6 := inb_of (j := iv) S6 ⟨hk2, hc4 ▸ hin9⟩
        have hat6 := H6.at (v := (.int yv)) hin6 hyv
        refine OGo.go (B := s₁.setTop (mkF m 21 #[.val (.ref a0), .val (.ref a1), .val (.int iv)] [(.int yv), (.int xv)])) ?_ (fun tX kX => X0.baloadBytes hx (j := iv) (v := (.int yv)) (by rw [e0]; exact Ar6.1) (State.isArrayOf_alike hZ.alike Ar6.2.1) Ar6.2.2 hin6 hat6 (g := (mkF m 20 #[.val (.ref a0), .val (.ref a1), .val (.int iv)] [(.int iv), (.ref a1), (.int xv)])) rfl rfl (hb hby d11_20) _ kX)
        by_cases hc21 : xv = yv
        ·
          refine OGo.go (B := s₁.setTop (mkF m 26 #[.val (.ref a0), .val (.ref a1), .val (.int iv)] [])) ?_ (fun tX kX => XS.icmpYes X0.here hx rfl (pc0 := 21) (pc' := 26) rfl (hb hby d11_21) rfl (teq hc21).1 (by decide) (by decide) kX)
          refine OGo.go (B := s₁.setTop (mkF m 29 #[.val (.ref a0), .val (.ref a1), .val (.int (iv + (1 : Int32)))] [])) ?_ (fun tX kX => XS.iinc X0.here hx rfl (hb hby d11_26) rfl (l' := #[.val (.ref a0), .val (.ref a1), .val (.int (iv + (1 : Int32)))]) rfl kX)
          refine OGo.go (B := s₁.setTop (mkF m 9 #[.val (.ref a0), .val (.ref a1), .val (.int (iv + (1 : Int32)))] [])) ?_ (fun tX kX => XS.goto X0.here hx rfl (pc0 := 29) (pc' := 9) rfl (hb hby d11_29) (by decide) (by decide) kX)
          have hst := own_step hk2 hin9 hn0
          exact ih (iv + (1 : Int32)) (by rw [hst.2.2]; omega) hst.1 hst.2.1 (fun j hj => (Nat.lt_succ_iff_lt_or_eq.mp (by rw [hst.2.2] at hj; exact hj)).elim (hk4 j) (fun q => by rw [q, hxv, hyv, hc21]))
        ·
          refine OGo.go (B := s₁.setTop (mkF m 24 #[.val (.ref a0), .val (.ref a1), .val (.int iv)] [])) ?_ (fun tX kX => XS.icmpNo X0.here hx rfl (hb hby d11_21) rfl (feq hc21).1 kX)
          refine OGo.go (B := s₁.setTop (mkF m 25 #[.val (.ref a0), .val (.ref a1), .val (.int iv)] [(.int (0 : Int32))])) ?_ (fun tX kX => XS.iconst X0.here hx rfl (hb hby d11_24) kX)
          refine OGo.ret X0 (v := (some (.int (0 : Int32)))) (fun h => by rw [Bd.returns] at h; cases h) (BodyLoose.notSynchronized Bd) (fun fs hr => retN X0 hx (t := .boolean) (z := (0 : Int32)) Bd.returns (by simp) (hb hby d11_25) hr) (Q := Q11 Z a0 a1 k1 k2 n1 n2 vs1 vs2 h0 n0) ?_ (by decide) (by decide)
          show Q11 Z a0 a1 k1 k2 n1 n2 vs1 vs2 h0 n0 _ s₁.heap _
          rw [e0]
          exact ⟨(congrArg (fun z => some (Value.int z)) (if_neg (fun q => hc21 (Value.int.inj (hxv.symm.trans ((congrArg (fun l => l.getD iv.toNatClampNeg (.int (0 : Int32))) q).trans hyv))))).symm), N0, rfl⟩
    exact J9 n1.toNatClampNeg 0 (by simp) (by decide) hn0 (fun j hj => absurd hj (by simp))
  ·
    refine OGo.go (B := s₁.setTop (mkF m 34 #[.val (.ref a0), .val (.ref a1), .unset] [])) ?_ (fun tX kX => XS.icmpYes X0.here hx rfl (pc0 := 4) (pc' := 34) rfl (hb hby d11_4) rfl (feq hc4).2 (by decide) (by decide) kX)
    refine OGo.go (B := s₁.setTop (mkF m 35 #[.val (.ref a0), .val (.ref a1), .unset] [(.int (0 : Int32))])) ?_ (fun tX kX => XS.iconst X0.here hx rfl (hb hby d11_34) kX)
    refine OGo.ret X0 (v := (some (.int (0 : Int32)))) (fun h => by rw [Bd.returns] at h; cases h) (BodyLoose.notSynchronized Bd) (fun fs hr => retN X0 hx (t := .boolean) (z := (0 : Int32)) Bd.returns (by simp) (hb hby d11_35) hr) (Q := Q11 Z a0 a1 k1 k2 n1 n2 vs1 vs2 h0 n0) ?_ (by decide) (by decide)
    show Q11 Z a0 a1 k1 k2 n1 n2 vs1 vs2 h0 n0 _ s₁.heap _
    rw [e0]
    exact ⟨(congrArg (fun z => some (Value.int z)) (if_neg (own_len (by rw [hl1, hl2]; exact own_nateq hc4 (own_nn V_a0) (own_nn V_a1)))).symm), N0, rfl⟩
theorem d10_0 : decode jdk_42_method_66_code 0 = .ok (.aload_n 0, 1) := by decide +kernel
theorem d10_1 : decode jdk_42_method_66_code 1 = .ok (.aload_n 1, 1) := by decide +kernel
theorem d10_2 : decode jdk_42_method_66_code 2 = .ok (.if_acmp .ne 5, 3) := by decide +kernel
theorem d10_5 : decode jdk_42_method_66_code 5 = .ok (.iconst 1, 1) := by decide +kernel
theorem d10_6 : decode jdk_42_method_66_code 6 = .ok (.ireturn, 1) := by decide +kernel
theorem d10_7 : decode jdk_42_method_66_code 7 = .ok (.aload_n 1, 1) := by decide +kernel
theorem d10_8 : decode jdk_42_method_66_code 8 = .ok (.instanceof 10, 3) := by decide +kernel
theorem d10_11 : decode jdk_42_method_66_code 11 = .ok (.ifCond .eq 43, 3) := by decide +kernel
theorem d10_14 : decode jdk_42_method_66_code 14 = .ok (.aload_n 1, 1) := by decide +kernel
theorem d10_15 : decode jdk_42_method_66_code 15 = .ok (.checkcast 10, 3) := by decide +kernel
theorem d10_18 : decode jdk_42_method_66_code 18 = .ok (.astore_n 2, 1) := by decide +kernel
theorem d10_19 : decode jdk_42_method_66_code 19 = .ok (.getstatic 38, 3) := by decide +kernel
theorem d10_22 : decode jdk_42_method_66_code 22 = .ok (.ifCond .eq 14, 3) := by decide +kernel
theorem d10_25 : decode jdk_42_method_66_code 25 = .ok (.aload_n 0, 1) := by decide +kernel
theorem d10_26 : decode jdk_42_method_66_code 26 = .ok (.getfield 15, 3) := by decide +kernel
theorem d10_29 : decode jdk_42_method_66_code 29 = .ok (.aload_n 2, 1) := by decide +kernel
theorem d10_30 : decode jdk_42_method_66_code 30 = .ok (.getfield 15, 3) := by decide +kernel
theorem d10_33 : decode jdk_42_method_66_code 33 = .ok (.if_icmp .ne 21, 3) := by decide +kernel
theorem d10_36 : decode jdk_42_method_66_code 36 = .ok (.aload_n 0, 1) := by decide +kernel
theorem d10_37 : decode jdk_42_method_66_code 37 = .ok (.getfield 9, 3) := by decide +kernel
theorem d10_40 : decode jdk_42_method_66_code 40 = .ok (.aload_n 2, 1) := by decide +kernel
theorem d10_41 : decode jdk_42_method_66_code 41 = .ok (.getfield 9, 3) := by decide +kernel
theorem d10_44 : decode jdk_42_method_66_code 44 = .ok (.invokestatic 541, 3) := by decide +kernel
theorem pd___B_B_Z : parseMethodDescriptor "([B[B)Z" = some ⟨[(.array .byte), (.array .byte)], some .boolean⟩ := by decide +kernel
theorem d10_47 : decode jdk_42_method_66_code 47 = .ok (.ifCond .eq 7, 3) := by decide +kernel
theorem d10_54 : decode jdk_42_method_66_code 54 = .ok (.iconst 0, 1) := by decide +kernel
theorem d10_55 : decode jdk_42_method_66_code 55 = .ok (.ireturn, 1) := by decide +kernel
theorem d10_50 : decode jdk_42_method_66_code 50 = .ok (.iconst 1, 1) := by decide +kernel
theorem d10_51 : decode jdk_42_method_66_code 51 = .ok (.goto 4, 3) := by decide +kernel
theorem pn_java_lang_String : plainName "java/lang/String" = true := by first | (simp [plainName, overriddenIn]; done) | decide +kernel
def Q10g (Z : State) (a0 : Addr) (a1 : Addr) (vb1 : Addr) (vb2 : Addr) (k1 : ClassId) (k2 : ClassId) (n1 : Int32) (n2 : Int32) (vs1 : List Value) (vs2 : List Value) (cs : Int32) (h0 : Heap) (n0 : Nat) (v : Option Value) (h : Heap) (L : List Loc) : Prop := v = some (.int (if vs1 = vs2 then (1 : Int32) else (0 : Int32))) ∧ Fr n0 L ∧ h = h0
def P10g (Z : State) (a0 : Addr) (a1 : Addr) (vb1 : Addr) (vb2 : Addr) (k1 : ClassId) (k2 : ClassId) (n1 : Int32) (n2 : Int32) (vs1 : List Value) (vs2 : List Value) (cs : Int32) (h0 : Heap) (n0 : Nat) (s : State) (o : Outcome) (U' : State) : Prop := ∃ v L, o = .returned v ∧ Q10g Z a0 a1 vb1 vb2 k1 k2 n1 n2 vs1 vs2 cs h0 n0 v U'.heap L ∧ FrameEnd s o U' L ({ frames := 1, cells := 0, slots := 0, locals := 14 } : Room).cells ({ frames := 1, cells := 0, slots := 0, locals := 14 } : Room).slots
set_option maxRecDepth 65536 in
set_option maxHeartbeats 40000000 in
theorem rm10g (l : Launch) (Z : State) (aV : Array Value) (hw : ∀ d ∈ tables_1, d.before aV Z = true) (ws : List Jvm.Cond) (a0 : Addr) (a1 : Addr) (vb1 : Addr) (vb2 : Addr) (k1 : ClassId) (k2 : ClassId) (n1 : Int32) (n2 : Int32) (vs1 : List Value) (vs2 : List Value) (cs : Int32) (h0 : Heap) (n0 : Nat) (Z0 : n0 ≤ h0.size) (E_a0 : Exa Z h0 a0 "java/lang/String") (F_value_a0 : Fld Z h0 a0 "java/lang/String" "value" "[B" (.ref vb1)) (F_coder_a0 : Fld Z h0 a0 "java/lang/String" "coder" "B" (.int (0 : Int32))) (V_vb1 : Arv Z h0 vb1 k1 .byte n1 vs1 (.int (0 : Int32))) (E_a1 : Exa Z h0 a1 "java/lang/String") (F_value_a1 : Fld Z h0 a1 "java/lang/String" "value" "[B" (.ref vb2)) (F_coder_a1 : Fld Z h0 a1 "java/lang/String" "coder" "B" (.int (0 : Int32))) (V_vb2 : Arv Z h0 vb2 k2 .byte n2 vs2 (.int (0 : Int32))) (S_COMPACT_STRINGS : Sta Z h0 "java/lang/String" "COMPACT_STRINGS" "Z" (.int cs)) (hl1 : vs1.length = n1.toNatClampNeg) (hl2 : vs2.length = n2.toNatClampNeg) (hcs : ¬ cs = 0) :
    MetFree l (⟨"java/lang/String", "equals", "(Ljava/lang/Object;)Z"⟩ : MethodName) (head1 (Jvm.Cond.code (⟨"java/lang/String", "equals", "(Ljava/lang/Object;)Z"⟩ : MethodName) jdk_42_method_66_code 3 (some .boolean) :: ws) ({ frames := 1, cells := 0, slots := 0, locals := 14 } : Room)) (fun a U => a = #[(.ref a0), (.ref a1)] ∧ Z.Warmed39 U.vm ∧ U.heap = h0) (fun _ _ _ _ _ => True) (fun _ U o U' => ∃ v L, o = .returned v ∧ Q10g Z a0 a1 vb1 vb2 k1 k2 n1 n2 vs1 vs2 cs h0 n0 v U'.heap L ∧ FrameEnd U o U' L ({ frames := 1, cells := 0, slots := 0, locals := 14 } : Room).cells ({ frames := 1, cells := 0, slots := 0, locals := 14 } : Room).slots) := by
  refine MetFree.of_bodySF (plainFor_of_name pn_java_lang_String) hisR ?_
  intro p e s m args below meth c s₁ Bd hml0 hP hK
  obtain ⟨rfl, hZ, hh⟩ := hP
  have hx := Bd.exec
  have hby := Bd.bytes
  have hml : c.maxLocals = 3 := hml0
  have hown : s.vm.findClass "java/lang/String" = some m.cls := findClass_of_methodNamed Bd.named
  have hnm := (name_of_methodNamed Bd.named Bd.method).1
  have X0 : Stand p l e ({ frames := 1, cells := 0, slots := 0, locals := 14 } : Room) s m #[(.ref a0), (.ref a1)] below meth c s₁ [] 0 0 := Stand.of_body Bd
  have e0 : s₁.heap = h0 := by rw [← hh, Bd.state]; rfl
  have efx : entryFrame m #[(.ref a0), (.ref a1)] 3 = mkF m 0 #[.val (.ref a0), .val (.ref a1), .unset] [] := by first | (simp [entryFrame, mkF, argsToLocals, Value.category]; done) | rfl
  have N0 := Fr.nil n0
  have K0 : Keep h0 h0 [] := Keep.refl h0 _
  refine OGo.start (g' := mkF m 0 #[.val (.ref a0), .val (.ref a1), .unset] []) (efx) ?_
  show OGo p.tables e below (P10g Z a0 a1 vb1 vb2 k1 k2 n1 n2 vs1 vs2 cs h0 n0 s) (s₁.setTop (mkF m 0 #[.val (.ref a0), .val (.ref a1), .unset] []))
  refine OGo.go (B := s₁.setTop (mkF m 1 #[.val (.ref a0), .val (.ref a1), .unset] [(.ref a0)])) ?_ (fun tX kX => XS.aloadN X0.here hx rfl (hb hby d10_0) rfl rfl kX)
  refine OGo.go (B := s₁.setTop (mkF m 2 #[.val (.ref a0), .val (.ref a1), .unset] [(.ref a1), (.ref a0)])) ?_ (fun tX kX => XS.aloadN X0.here hx rfl (hb hby d10_1) rfl rfl kX)
  by_cases ha2 : a0 = a1
  ·
    refine OGo.go (B := s₁.setTop (mkF m 5 #[.val (.ref a0), .val (.ref a1), .unset] [])) ?_ (fun tX kX => Jvm.RoadKit.acmp (g := (mkF m 2 #[.val (.ref a0), .val (.ref a1), .unset] [(.ref a1), (.ref a0)])) X0 hx rfl rfl rfl (pc0 := 2) (pc' := 5) (same := true) rfl (hb hby d10_2) rfl (decide_eq_true (congrArg Value.ref ha2)) (by decide) (by decide) kX)
    refine OGo.go (B := s₁.setTop (mkF m 6 #[.val (.ref a0), .val (.ref a1), .unset] [(.int (1 : Int32))])) ?_ (fun tX kX => XS.iconst X0.here hx rfl (hb hby d10_5) kX)
    refine OGo.ret X0 (v := (some (.int (1 : Int32)))) (fun h => by rw [Bd.returns] at h; cases h) (BodyLoose.notSynchronized Bd) (fun fs hr => retN X0 hx (t := .boolean) (z := (1 : Int32)) Bd.returns (by simp) (hb hby d10_6) hr) (Q := Q10g Z a0 a1 vb1 vb2 k1 k2 n1 n2 vs1 vs2 cs h0 n0) ?_ (by decide) (by decide)
    show Q10g Z a0 a1 vb1 vb2 k1 k2 n1 n2 vs1 vs2 cs h0 n0 _ s₁.heap _
    rw [e0]
    exact ⟨(congrArg (fun z => some (Value.int z)) (if_pos (own_ext (by rw [hl1, hl2, (own_same_str ha2 F_value_a0 F_value_a1 V_vb1 V_vb2).1]) (fun i hi => (own_same_str ha2 F_value_a0 F_value_a1 V_vb1 V_vb2).2 i (by rw [← hl1]; exact hi)))).symm), N0, rfl⟩
  ·
    refine OGo.go (B := s₁.setTop (mkF m 7 #[.val (.ref a0), .val (.ref a1), .unset] [])) ?_ (fun tX kX => Jvm.RoadKit.acmp (g := (mkF m 2 #[.val (.ref a0), .val (.ref a1), .unset] [(.ref a1), (.ref a0)])) X0 hx rfl rfl rfl (pc0 := 2) (pc' := 7) (same := false) rfl (hb hby d10_2) rfl (decide_eq_false fun q => ha2 (Value.ref.inj q)) (by decide) (by decide) kX)
    refine OGo.go (B := s₁.setTop (mkF m 8 #[.val (.ref a0), .val (.ref a1), .unset] [(.ref a1)])) ?_ (fun tX kX => XS.aloadN X0.here hx rfl (hb hby d10_7) rfl rfl kX)
    obtain ⟨T1, X1, e1, st1⟩ := instY X0 hx hZ hown (hw _ (List.mem_of_getElem? (i := 61) rfl)) e0 (Ins.self E_a1) (g := (mkF m 8 #[.val (.ref a0), .val (.ref a1), .unset] [(.ref a1)])) rfl rfl (hb hby d10_8)
    refine OGo.go (B := T1.setTop (mkF m 11 #[.val (.ref a0), .val (.ref a1), .unset] [(.int (1 : Int32))])) ?_ st1
    refine OGo.go (B := T1.setTop (mkF m 14 #[.val (.ref a0), .val (.ref a1), .unset] [])) ?_ (fun tX kX => XS.ifNo X1.here hx rfl (hb hby d10_11) rfl ((if0 _ _).trans (feq (by decide)).1) kX)
    refine OGo.go (B := T1.setTop (mkF m 15 #[.val (.ref a0), .val (.ref a1), .unset] [(.ref a1)])) ?_ (fun tX kX => XS.aloadN X1.here hx rfl (hb hby d10_14) rfl rfl kX)
    obtain ⟨T2, X2, e2, st2⟩ := castY X1 hx hZ hown (hw _ (List.mem_of_getElem? (i := 61) rfl)) e1 (Ins.self E_a1) (g := (mkF m 15 #[.val (.ref a0), .val (.ref a1), .unset] [(.ref a1)])) rfl rfl (hb hby d10_15)
    refine OGo.go (B := T2.setTop (mkF m 18 #[.val (.ref a0), .val (.ref a1), .unset] [(.ref a1)])) ?_ st2
    refine OGo.go (B := T2.setTop (mkF m 19 #[.val (.ref a0), .val (.ref a1), .val (.ref a1)] [])) ?_ (fun tX kX => XS.astoreN X2.here hx rfl (hb hby d10_18) rfl rfl (l' := #[.val (.ref a0), .val (.ref a1), .val (.ref a1)]) rfl kX)
    obtain ⟨T3, X3, e3, st3⟩ := getS2 X2 hx hZ hown (host := "") (Or.inl (hw _ (List.mem_of_getElem? (i := 19) rfl))) Via.refl e2 S_COMPACT_STRINGS (g := (mkF m 19 #[.val (.ref a0), .val (.ref a1), .val (.ref a1)] [])) rfl (hb hby d10_19)
    refine OGo.go (B := T3.setTop (mkF m 22 #[.val (.ref a0), .val (.ref a1), .val (.ref a1)] [(.int cs)])) ?_ st3
    refine OGo.go (B := T3.setTop (mkF m 25 #[.val (.ref a0), .val (.ref a1), .val (.ref a1)] [])) ?_ (fun tX kX => XS.ifNo X3.here hx rfl (hb hby d10_22) rfl ((if0 _ _).trans (feq hcs).1) kX)
    refine OGo.go (B := T3.setTop (mkF m 26 #[.val (.ref a0), .val (.ref a1), .val (.ref a1)] [(.ref a0)])) ?_ (fun tX kX => XS.aloadN X3.here hx rfl (hb hby d10_25) rfl rfl kX)
    obtain ⟨T4, X4, e4, st4⟩ := getF X3 hx hZ hown (host := "") (Or.inl (hw _ (List.mem_of_getElem? (i := 31) rfl))) Via.refl e3 F_coder_a0 (g := (mkF m 26 #[.val (.ref a0), .val (.ref a1), .val (.ref a1)] [(.ref a0)])) rfl rfl (hb hby d10_26)
    refine OGo.go (B := T4.setTop (mkF m 29 #[.val (.ref a0), .val (.ref a1), .val (.ref a1)] [(.int (0 : Int32))])) ?_ st4
    refine OGo.go (B := T4.setTop (mkF m 30 #[.val (.ref a0), .val (.ref a1), .val (.ref a1)] [(.ref a1), (.int (0 : Int32))])) ?_ (fun tX kX => XS.aloadN X4.here hx rfl (hb hby d10_29) rfl rfl kX)
    obtain ⟨T5, X5, e5, st5⟩ := getF X4 hx hZ hown (host := "") (Or.inl (hw _ (List.mem_of_getElem? (i := 31) rfl))) Via.refl e4 F_coder_a1 (g := (mkF m 30 #[.val (.ref a0), .val (.ref a1), .val (.ref a1)] [(.ref a1), (.int (0 : Int32))])) rfl rfl (hb hby d10_30)
    refine OGo.go (B := T5.setTop (mkF m 33 #[.val (.ref a0), .val (.ref a1), .val (.ref a1)] [(.int (0 : Int32)), (.int (0 : Int32))])) ?_ st5
    refine OGo.go (B := T5.setTop (mkF m 36 #[.val (.ref a0), .val (.ref a1), .val (.ref a1)] [])) ?_ (fun tX kX => XS.icmpNo X5.here hx rfl (hb hby d10_33) rfl (teq rfl).2 kX)
    refine OGo.go (B := T5.setTop (mkF m 37 #[.val (.ref a0), .val (.ref a1), .val (.ref a1)] [(.ref a0)])) ?_ (fun tX kX => XS.aloadN X5.here hx rfl (hb hby d10_36) rfl rfl kX)
    obtain ⟨T6, X6, e6, st6⟩ := getF X5 hx hZ hown (host := "") (Or.inl (hw _ (List.mem_of_getElem? (i := 33) rfl))) Via.refl e5 F_value_a0 (g := (mkF m 37 #[.val (.ref a0), .val (.ref a1), .val (.ref a1)] [(.ref a0)])) rfl rfl (hb hby d10_37)
    refine OGo.go (B := T6.setTop (mkF m 40 #[.val (.ref a0), .val (.ref a1), .val (.ref a1)] [(.ref vb1)])) ?_ st6
    refine OGo.go (B := T6.setTop (mkF m 41 #[.val (.ref a0), .val (.ref a1), .val (.ref a1)] [(.ref a1), (.ref vb1)])) ?_ (fun tX kX => XS.aloadN X6.here hx rfl (hb hby d10_40) rfl rfl kX)
    obtain ⟨T7, X7, e7, st7⟩ := getF X6 hx hZ hown (host := "") (Or.inl (hw _ (List.mem_of_getElem? (i := 33) rfl))) Via.refl e6 F_value_a1 (g := (mkF m 41 #[.val (.ref a0), .val (.ref a1), .val (.ref a1)] [(.ref a1), (.ref vb1)])) rfl rfl (hb hby d10_41)
    refine OGo.go (B := T7.setTop (mkF m 44 #[.val (.ref a0), .val (.ref a1), .val (.ref a1)] [(.ref vb2), (.ref vb1)])) ?_ st7
    obtain ⟨_, _, ⟨T8, L8, k8, n8⟩, -, X8, ⟨Lc8, hQ8, l8, y8, z8⟩, st8⟩ := Jvm.LawKit.callS X7 hx (y := (⟨"java/lang/StringLatin1", "equals", "([B[B)Z"⟩ : MethodName)) hown (mvT hZ (hw _ (List.mem_of_getElem? (i := 62) rfl))) (mvT hZ (hw _ (List.mem_of_getElem? (i := 63) rfl))) (mvT hZ (hw _ (List.mem_of_getElem? (i := 64) rfl))) (mvT hZ (hw _ (List.mem_of_getElem? (i := 65) rfl))) (by decide) (backOf (W := 0) (rm11 l Z aV hw [] vb1 vb2 k1 k2 n1 n2 vs1 vs2 h0 n0 Z0 V_vb1 V_vb2 hl1 hl2) hZ (hw _ (List.mem_of_getElem? (i := 65) rfl)) (hw _ (List.mem_of_getElem? (i := 64) rfl)) (by decide) (by decide)) (g := (mkF m 44 #[.val (.ref a0), .val (.ref a1), .val (.ref a1)] [(.ref vb2), (.ref vb1)])) rfl (by rw [hml]; rfl) (argsL := [(.ref vb1), (.ref vb2)]) (rest := []) (lenOf pd___B_B_Z rfl) rfl (by show 2 * 0 + _ ≤ _; exact Nat.le_of_eq rfl) (hb hby d10_44) (fun _ _ => ⟨rfl, e7, (by decide : 0 + 0 ≤ _), (by decide : 0 + 0 ≤ _)⟩)
    dsimp only [Pt.U, Pt.locs, Pt.cells, Pt.slots] at X8 l8 y8 z8 st8 hQ8
    subst l8 y8 z8
    obtain ⟨rfl, N8q, e8⟩ := hQ8
    have N8 := Fr.app N0 N8q
    refine OGo.go (B := T8.setTop (mkF m 47 #[.val (.ref a0), .val (.ref a1), .val (.ref a1)] [(.int (if vs1 = vs2 then (1 : Int32) else (0 : Int32)))])) ?_ st8
    by_cases hc47 : (if vs1 = vs2 then (1 : Int32) else (0 : Int32)) = (0 : Int32)
    ·
      refine OGo.go (B := T8.setTop (mkF m 54 #[.val (.ref a0), .val (.ref a1), .val (.ref a1)] [])) ?_ (fun tX kX => XS.ifYes X8.here hx rfl (pc0 := 47) (pc' := 54) rfl (hb hby d10_47) rfl ((if0 _ _).trans (teq hc47).1) (by decide) (by decide) kX)
      refine OGo.go (B := T8.setTop (mkF m 55 #[.val (.ref a0), .val (.ref a1), .val (.ref a1)] [(.int (0 : Int32))])) ?_ (fun tX kX => XS.iconst X8.here hx rfl (hb hby d10_54) kX)
      refine OGo.ret X8 (v := (some (.int (0 : Int32)))) (fun h => by rw [Bd.returns] at h; cases h) (BodyLoose.notSynchronized Bd) (fun fs hr => retN X8 hx (t := .boolean) (z := (0 : Int32)) Bd.returns (by simp) (hb hby d10_55) hr) (Q := Q10g Z a0 a1 vb1 vb2 k1 k2 n1 n2 vs1 vs2 cs h0 n0) ?_ (by decide) (by decide)
      show Q10g Z a0 a1 vb1 vb2 k1 k2 n1 n2 vs1 vs2 cs h0 n0 _ T8.heap _
      rw [e8]
      exact ⟨(congrArg (fun z => some (Value.int z)) (if_neg (own_i0 hc47)).symm), N8, rfl⟩
    ·
      refine OGo.go (B := T8.setTop (mkF m 50 #[.val (.ref a0), .val (.ref a1), .val (.ref a1)] [])) ?_ (fun tX kX => XS.ifNo X8.here hx rfl (hb hby d10_47) rfl ((if0 _ _).trans (feq hc47).1) kX)
      refine OGo.go (B := T8.setTop (mkF m 51 #[.val (.ref a0), .val (.ref a1), .val (.ref a1)] [(.int (1 : Int32))])) ?_ (fun tX kX => XS.iconst X8.here hx rfl (hb hby d10_50) kX)
      refine OGo.go (B := T8.setTop (mkF m 55 #[.val (.ref a0), .val (.ref a1), .val (.ref a1)] [(.int (1 : Int32))])) ?_ (fun tX kX => XS.goto X8.here hx rfl (pc0 := 51) (pc' := 55) rfl (hb hby d10_51) (by decide) (by decide) kX)
      refine OGo.ret X8 (v := (some (.int (1 : Int32)))) (fun h => by rw [Bd.returns] at h; cases h) (BodyLoose.notSynchronized Bd) (fun fs hr => retN X8 hx (t := .boolean) (z := (1 : Int32)) Bd.returns (by simp) (hb hby d10_55) hr) (Q := Q10g Z a0 a1 vb1 vb2 k1 k2 n1 n2 vs1 vs2 cs h0 n0) ?_ (by decide) (by decide)
      show Q10g Z a0 a1 vb1 vb2 k1 k2 n1 n2 vs1 vs2 cs h0 n0 _ T8.heap _
      rw [e8]
      exact ⟨(congrArg (fun z => some (Value.int z)) (if_pos (own_i1 hc47)).symm), N8, rfl⟩
def Q10n (Z : State) (a0 : Addr) (h0 : Heap) (n0 : Nat) (v : Option Value) (h : Heap) (L : List Loc) : Prop := v = some (.int (0 : Int32)) ∧ Fr n0 L ∧ h = h0
def P10n (Z : State) (a0 : Addr) (h0 : Heap) (n0 : Nat) (s : State) (o : Outcome) (U' : State) : Prop := ∃ v L, o = .returned v ∧ Q10n Z a0 h0 n0 v U'.heap L ∧ FrameEnd s o U' L ({ frames := 0, cells := 0, slots := 0, locals := 0 } : Room).cells ({ frames := 0, cells := 0, slots := 0, locals := 0 } : Room).slots
set_option maxRecDepth 65536 in
set_option maxHeartbeats 40000000 in
theorem rm10n (l : Launch) (Z : State) (aV : Array Value) (hw : ∀ d ∈ tables_1, d.before aV Z = true) (ws : List Jvm.Cond) (a0 : Addr) (h0 : Heap) (n0 : Nat) (Z0 : n0 ≤ h0.size) :
    MetFree l (⟨"java/lang/String", "equals", "(Ljava/lang/Object;)Z"⟩ : MethodName) (head1 (Jvm.Cond.code (⟨"java/lang/String", "equals", "(Ljava/lang/Object;)Z"⟩ : MethodName) jdk_42_method_66_code 3 (some .boolean) :: ws) ({ frames := 0, cells := 0, slots := 0, locals := 0 } : Room)) (fun a U => a = #[(.ref a0), .null] ∧ Z.Warmed39 U.vm ∧ U.heap = h0) (fun _ _ _ _ _ => True) (fun _ U o U' => ∃ v L, o = .returned v ∧ Q10n Z a0 h0 n0 v U'.heap L ∧ FrameEnd U o U' L ({ frames := 0, cells := 0, slots := 0, locals := 0 } : Room).cells ({ frames := 0, cells := 0, slots := 0, locals := 0 } : Room).slots) := by
  refine MetFree.of_bodySF (plainFor_of_name pn_java_lang_String) hisR ?_
  intro p e s m args below meth c s₁ Bd hml0 hP hK
  obtain ⟨rfl, hZ, hh⟩ := hP
  have hx := Bd.exec
  have hby := Bd.bytes
  have hml : c.maxLocals = 3 := hml0
  have hown : s.vm.findClass "java/lang/String" = some m.cls := findClass_of_methodNamed Bd.named
  have hnm := (name_of_methodNamed Bd.named Bd.method).1
  have X0 : Stand p l e ({ frames := 0, cells := 0, slots := 0, locals := 0 } : Room) s m #[(.ref a0), .null] below meth c s₁ [] 0 0 := Stand.of_body Bd
  have e0 : s₁.heap = h0 := by rw [← hh, Bd.state]; rfl
  have efx : entryFrame m #[(.ref a0), .null] 3 = mkF m 0 #[.val (.ref a0), .val .null, .unset] [] := by first | (simp [entryFrame, mkF, argsToLocals, Value.category]; done) | rfl
  have N0 := Fr.nil n0
  have K0 : Keep h0 h0 [] := Keep.refl h0 _
  refine OGo.start (g' := mkF m 0 #[.val (.ref a0), .val .null, .unset] []) (efx) ?_
  show OGo p.tables e below (P10n Z a0 h0 n0 s) (s₁.setTop (mkF m 0 #[.val (.ref a0), .val .null, .unset] []))
  refine OGo.go (B := s₁.setTop (mkF m 1 #[.val (.ref a0), .val .null, .unset] [(.ref a0)])) ?_ (fun tX kX => XS.aloadN X0.here hx rfl (hb hby d10_0) rfl rfl kX)
  refine OGo.go (B := s₁.setTop (mkF m 2 #[.val (.ref a0), .val .null, .unset] [.null, (.ref a0)])) ?_ (fun tX kX => XS.aloadN X0.here hx rfl (hb hby d10_1) rfl rfl kX)
  refine OGo.go (B := s₁.setTop (mkF m 7 #[.val (.ref a0), .val .null, .unset] [])) ?_ (fun tX kX => Jvm.RoadKit.acmp (g := (mkF m 2 #[.val (.ref a0), .val .null, .unset] [.null, (.ref a0)])) X0 hx rfl rfl rfl (pc0 := 2) (pc' := 7) (same := false) rfl (hb hby d10_2) rfl (decide_eq_false nofun) (by decide) (by decide) kX)
  refine OGo.go (B := s₁.setTop (mkF m 8 #[.val (.ref a0), .val .null, .unset] [.null])) ?_ (fun tX kX => XS.aloadN X0.here hx rfl (hb hby d10_7) rfl rfl kX)
  refine OGo.go (B := s₁.setTop (mkF m 11 #[.val (.ref a0), .val .null, .unset] [(.int (0 : Int32))])) ?_ (fun tX kX => X0.instanceofNull hx (g := (mkF m 8 #[.val (.ref a0), .val .null, .unset] [.null])) rfl rfl (hb hby d10_8) _ kX)
  refine OGo.go (B := s₁.setTop (mkF m 54 #[.val (.ref a0), .val .null, .unset] [])) ?_ (fun tX kX => XS.ifYes X0.here hx rfl (pc0 := 11) (pc' := 54) rfl (hb hby d10_11) rfl ((if0 _ _).trans (teq (by decide)).1) (by decide) (by decide) kX)
  refine OGo.go (B := s₁.setTop (mkF m 55 #[.val (.ref a0), .val .null, .unset] [(.int (0 : Int32))])) ?_ (fun tX kX => XS.iconst X0.here hx rfl (hb hby d10_54) kX)
  refine OGo.ret X0 (v := (some (.int (0 : Int32)))) (fun h => by rw [Bd.returns] at h; cases h) (BodyLoose.notSynchronized Bd) (fun fs hr => retN X0 hx (t := .boolean) (z := (0 : Int32)) Bd.returns (by simp) (hb hby d10_55) hr) (Q := Q10n Z a0 h0 n0) ?_ (by decide) (by decide)
  show Q10n Z a0 h0 n0 _ s₁.heap _
  rw [e0]
  exact ⟨rfl, N0, rfl⟩
theorem d9_0 : decode prog_62_method_1_code 0 = .ok (.getstatic 10, 3) := by decide +kernel
theorem d9_3 : decode prog_62_method_1_code 3 = .ok (.invokevirtual 14, 3) := by decide +kernel
theorem d9_6 : decode prog_62_method_1_code 6 = .ok (.checkcast 15, 3) := by decide +kernel
theorem d9_9 : decode prog_62_method_1_code 9 = .ok (.areturn, 1) := by decide +kernel
theorem pn_com_example_hushlist_hushlist_server_SaslMechanism : plainName "com/example/hushlist/hushlist/server/SaslMechanism" = true := by first | (simp [plainName, overriddenIn]; done) | decide +kernel
def Q9 (Z : State) (uv : Addr) (kv : ClassId) (m0 : Addr) (m1 : Addr) (h0 : Heap) (n0 : Nat) (v : Option Value) (h : Heap) (L : List Loc) : Prop := ∃ (nv : Addr), v = some (.ref nv) ∧ Fr n0 L ∧ Keep h0 h [] ∧ h0.size ≤ nv ∧ Exa Z h nv "[Lcom/example/hushlist/hushlist/server/SaslMechanism;" ∧ Arv Z h nv kv (.object "com/example/hushlist/hushlist/server/SaslMechanism") (2 : Int32) [(.ref m0), (.ref m1)] .null
def P9 (Z : State) (uv : Addr) (kv : ClassId) (m0 : Addr) (m1 : Addr) (h0 : Heap) (n0 : Nat) (s : State) (o : Outcome) (U' : State) : Prop := ∃ v L, o = .returned v ∧ Q9 Z uv kv m0 m1 h0 n0 v U'.heap L ∧ FrameEnd s o U' L ({ frames := 1, cells := 1, slots := 2, locals := 14 } : Room).cells ({ frames := 1, cells := 1, slots := 2, locals := 14 } : Room).slots
set_option maxRecDepth 65536 in
set_option maxHeartbeats 40000000 in
theorem rm9 (l : Launch) (Z : State) (aV : Array Value) (hw : ∀ d ∈ tables_1, d.before aV Z = true) (ws : List Jvm.Cond) (uv : Addr) (kv : ClassId) (m0 : Addr) (m1 : Addr) (h0 : Heap) (n0 : Nat) (Z0 : n0 ≤ h0.size) (S_VAL : Sta Z h0 "com/example/hushlist/hushlist/server/SaslMechanism" "$VALUES" "[Lcom/example/hushlist/hushlist/server/SaslMechanism;" (.ref uv)) (E_uv : Exa Z h0 uv "[Lcom/example/hushlist/hushlist/server/SaslMechanism;") (V_uv : Arv Z h0 uv kv (.object "com/example/hushlist/hushlist/server/SaslMechanism") (2 : Int32) [(.ref m0), (.ref m1)] .null) :
    MetFree l (⟨"com/example/hushlist/hushlist/server/SaslMechanism", "values", "()[Lcom/example/hushlist/hushlist/server/SaslMechanism;"⟩ : MethodName) (head1 (Jvm.Cond.code (⟨"com/example/hushlist/hushlist/server/SaslMechanism", "values", "()[Lcom/example/hushlist/hushlist/server/SaslMechanism;"⟩ : MethodName) prog_62_method_1_code 0 (some (.array (.object "com/example/hushlist/hushlist/server/SaslMechanism"))) :: ws) ({ frames := 1, cells := 1, slots := 2, locals := 14 } : Room)) (fun a U => a = #[] ∧ Z.Warmed39 U.vm ∧ U.heap = h0) (fun _ _ _ _ _ => True) (fun _ U o U' => ∃ v L, o = .returned v ∧ Q9 Z uv kv m0 m1 h0 n0 v U'.heap L ∧ FrameEnd U o U' L ({ frames := 1, cells := 1, slots := 2, locals := 14 } : Room).cells ({ frames := 1, cells := 1, slots := 2, locals := 14 } : Room).slots) := by
  refine MetFree.of_bodySF (plainFor_of_name pn_com_example_hushlist_hushlist_server_SaslMechanism) hisR ?_
  intro p e s m args below meth c s₁ Bd hml0 hP hK
  obtain ⟨rfl, hZ, hh⟩ := hP
  have hx := Bd.exec
  have hby := Bd.bytes
  have hml : c.maxLocals = 0 := hml0
  have hown : s.vm.findClass "com/example/hushlist/hushlist/server/SaslMechanism" = some m.cls := findClass_of_methodNamed Bd.named
  have hnm := (name_of_methodNamed Bd.named Bd.method).1
  have X0 : Stand p l e ({ frames := 1, cells := 1, slots := 2, locals := 14 } : Room) s m #[] below meth c s₁ [] 0 0 := Stand.of_body Bd
  have e0 : s₁.heap = h0 := by rw [← hh, Bd.state]; rfl
  have efx : entryFrame m #[] 0 = mkF m 0 #[] [] := by first | (simp [entryFrame, mkF, argsToLocals, Value.category]; done) | rfl
  have N0 := Fr.nil n0
  have K0 : Keep h0 h0 [] := Keep.refl h0 _
  refine OGo.start (g' := mkF m 0 #[] []) (efx) ?_
  show OGo p.tables e below (P9 Z uv kv m0 m1 h0 n0 s) (s₁.setTop (mkF m 0 #[] []))
  obtain ⟨T1, X1, e1, st1⟩ := getS2 X0 hx hZ hown (host := "") (Or.inl (hw _ (List.mem_of_getElem? (i := 42) rfl))) Via.refl e0 S_VAL (g := (mkF m 0 #[] [])) rfl (hb hby d9_0)
  refine OGo.go (B := T1.setTop (mkF m 3 #[] [(.ref uv)])) ?_ st1
  obtain ⟨T2, h2, X2, e2, E2, A2, EA2, st2⟩ := cloneH X1 hx hZ hown (hw _ (List.mem_of_getElem? (i := 44) rfl)) (hw _ (List.mem_of_getElem? (i := 45) rfl)) (hw _ (List.mem_of_getElem? (i := 49) rfl)) (hw _ (List.mem_of_getElem? (i := 47) rfl)) (hw _ (List.mem_of_getElem? (i := 48) rfl)) (hw _ (List.mem_of_getElem? (i := 50) rfl)) e1 V_uv.arh E_uv (g := (mkF m 3 #[] [(.ref uv)])) rfl (by rw [hml]; rfl) rfl (hb hby d9_3) (by decide) (W := 0) (cap := 2) (by show 2 * 0 + _ ≤ _; exact Nat.le_of_eq rfl) (by decide) (by decide) (by decide) (by decide)
  obtain ⟨b2, g2⟩ : ∃ z, z = h0.size := ⟨_, rfl⟩
  rw [← g2] at A2 EA2 st2
  have ne_uv_b2 : uv ≠ b2 := Nat.ne_of_lt (Nat.lt_of_lt_of_le E_uv.lt (Nat.le_of_eq g2.symm))
  have S_VAL := S_VAL.ext E2
  have E_uv := E_uv.ext E2
  have V_uv := V_uv.ext E2
  have g_b2 : n0 ≤ b2 := Nat.le_trans Z0 (Nat.le_of_eq g2.symm)
  have sz_b2 : h0.size ≤ b2 := Nat.le_trans K0.1 (Nat.le_of_eq g2.symm)
  have zn2 : n0 ≤ h2.size := Nat.le_trans Z0 E2.1
  have K2 := K0.ext E2
  have E_b2 := EA2
  have V_b2 : Arv Z h2 b2 kv (.object "com/example/hushlist/hushlist/server/SaslMechanism") (2 : Int32) [(.ref m0), (.ref m1)] .null := A2
  refine OGo.go (B := T2.setTop (mkF m 6 #[] [(.ref b2)])) ?_ st2
  obtain ⟨T3, X3, e3, st3⟩ := castY X2 hx hZ hown (hw _ (List.mem_of_getElem? (i := 52) rfl)) e2 (Ins.self E_b2) (g := (mkF m 6 #[] [(.ref b2)])) rfl rfl (hb hby d9_6)
  refine OGo.go (B := T3.setTop (mkF m 9 #[] [(.ref b2)])) ?_ st3
  refine OGo.ret X3 (v := (some (.ref b2))) (fun h => by rw [Bd.returns] at h; cases h) (BodyLoose.notSynchronized Bd) (fun fs hr => retOut X3 hx Bd.returns rfl (Or.inr (Or.inr (Or.inr (Or.inr ⟨rfl, rfl, rfl⟩)))) (hb hby d9_9) hr) (Q := Q9 Z uv kv m0 m1 h0 n0) ?_ (by decide) (by decide)
  show Q9 Z uv kv m0 m1 h0 n0 _ T3.heap _
  rw [e3]
  exact ⟨b2, rfl, N0, K2, sz_b2, E_b2, V_b2⟩
theorem d8_0 : decode prog_62_method_5_code 0 = .ok (.invokestatic 33, 3) := by decide +kernel
theorem pd____Lcom_example_hushlist_hushlist_server_SaslMechanism_ : parseMethodDescriptor "()[Lcom/example/hushlist/hushlist/server/SaslMechanism;" = some ⟨[], some (.array (.object "com/example/hushlist/hushlist/server/SaslMechanism"))⟩ := by decide +kernel
theorem d8_3 : decode prog_62_method_5_code 3 = .ok (.astore_n 1, 1) := by decide +kernel
theorem d8_4 : decode prog_62_method_5_code 4 = .ok (.aload_n 1, 1) := by decide +kernel
theorem d8_5 : decode prog_62_method_5_code 5 = .ok (.arraylength, 1) := by decide +kernel
theorem d8_6 : decode prog_62_method_5_code 6 = .ok (.istore_n 2, 1) := by decide +kernel
theorem d8_7 : decode prog_62_method_5_code 7 = .ok (.iconst 0, 1) := by decide +kernel
theorem d8_8 : decode prog_62_method_5_code 8 = .ok (.istore_n 3, 1) := by decide +kernel
theorem d8_9 : decode prog_62_method_5_code 9 = .ok (.iload_n 3, 1) := by decide +kernel
theorem d8_10 : decode prog_62_method_5_code 10 = .ok (.iload_n 2, 1) := by decide +kernel
theorem d8_11 : decode prog_62_method_5_code 11 = .ok (.if_icmp .ge 29, 3) := by decide +kernel
theorem d8_14 : decode prog_62_method_5_code 14 = .ok (.aload_n 1, 1) := by decide +kernel
theorem d8_15 : decode prog_62_method_5_code 15 = .ok (.iload_n 3, 1) := by decide +kernel
theorem d8_16 : decode prog_62_method_5_code 16 = .ok (.aaload, 1) := by decide +kernel
theorem d8_17 : decode prog_62_method_5_code 17 = .ok (.astore 4, 2) := by decide +kernel
theorem d8_19 : decode prog_62_method_5_code 19 = .ok (.aload 4, 2) := by decide +kernel
theorem d8_21 : decode prog_62_method_5_code 21 = .ok (.getfield 29, 3) := by decide +kernel
theorem d8_24 : decode prog_62_method_5_code 24 = .ok (.aload_n 0, 1) := by decide +kernel
theorem d8_25 : decode prog_62_method_5_code 25 = .ok (.invokevirtual 37, 3) := by decide +kernel
theorem pd__Ljava_lang_Object__Z : parseMethodDescriptor "(Ljava/lang/Object;)Z" = some ⟨[(.object "java/lang/Object")], some .boolean⟩ := by decide +kernel
theorem d8_28 : decode prog_62_method_5_code 28 = .ok (.ifCond .eq 6, 3) := by decide +kernel
theorem d8_34 : decode prog_62_method_5_code 34 = .ok (.iinc 3 1, 3) := by decide +kernel
theorem d8_37 : decode prog_62_method_5_code 37 = .ok (.goto (-28), 3) := by decide +kernel
theorem d8_40 : decode prog_62_method_5_code 40 = .ok (.aconst_null, 1) := by decide +kernel
theorem d8_41 : decode prog_62_method_5_code 41 = .ok (.areturn, 1) := by decide +kernel
def Q8null (Z : State) (uv : Addr) (kv : ClassId) (m0 : Addr) (m1 : Addr) (w0 : Addr) (w1 : Addr) (v0 : Addr) (v1 : Addr) (kw0 : ClassId) (kw1 : ClassId) (h0 : Heap) (n0 : Nat) (v : Option Value) (h : Heap) (L : List Loc) : Prop := v = some .null ∧ Fr n0 L ∧ Keep h0 h []
def P8null (Z : State) (uv : Addr) (kv : ClassId) (m0 : Addr) (m1 : Addr) (w0 : Addr) (w1 : Addr) (v0 : Addr) (v1 : Addr) (kw0 : ClassId) (kw1 : ClassId) (h0 : Heap) (n0 : Nat) (s : State) (o : Outcome) (U' : State) : Prop := ∃ v L, o = .returned v ∧ Q8null Z uv kv m0 m1 w0 w1 v0 v1 kw0 kw1 h0 n0 v U'.heap L ∧ FrameEnd s o U' L ({ frames := 2, cells := 1, slots := 2, locals := 25 } : Room).cells ({ frames := 2, cells := 1, slots := 2, locals := 25 } : Room).slots
set_option maxRecDepth 65536 in
set_option maxHeartbeats 40000000 in
theorem rm8null (l : Launch) (Z : State) (aV : Array Value) (hw : ∀ d ∈ tables_1, d.before aV Z = true) (ws : List Jvm.Cond) (uv : Addr) (kv : ClassId) (m0 : Addr) (m1 : Addr) (w0 : Addr) (w1 : Addr) (v0 : Addr) (v1 : Addr) (kw0 : ClassId) (kw1 : ClassId) (h0 : Heap) (n0 : Nat) (Z0 : n0 ≤ h0.size) (S_VAL : Sta Z h0 "com/example/hushlist/hushlist/server/SaslMechanism" "$VALUES" "[Lcom/example/hushlist/hushlist/server/SaslMechanism;" (.ref uv)) (E_uv : Exa Z h0 uv "[Lcom/example/hushlist/hushlist/server/SaslMechanism;") (V_uv : Arv Z h0 uv kv (.object "com/example/hushlist/hushlist/server/SaslMechanism") (2 : Int32) [(.ref m0), (.ref m1)] .null) (F_wireName_m0 : Fld Z h0 m0 "com/example/hushlist/hushlist/server/SaslMechanism" "wireName" "Ljava/lang/String;" (.ref w0)) (F_wireName_m1 : Fld Z h0 m1 "com/example/hushlist/hushlist/server/SaslMechanism" "wireName" "Ljava/lang/String;" (.ref w1)) (E_w0 : Exa Z h0 w0 "java/lang/String") (F_value_w0 : Fld Z h0 w0 "java/lang/String" "value" "[B" (.ref v0)) (F_coder_w0 : Fld Z h0 w0 "java/lang/String" "coder" "B" (.int (0 : Int32))) (V_v0 : Arv Z h0 v0 kw0 .byte (11 : Int32) [(.int (83 : Int32)), (.int (67 : Int32)), (.int (82 : Int32)), (.int (65 : Int32)), (.int (77 : Int32)), (.int (45 : Int32)), (.int (83 : Int32)), (.int (72 : Int32)), (.int (65 : Int32)), (.int (45 : Int32)), (.int (49 : Int32))] (.int (0 : Int32))) (E_w1 : Exa Z h0 w1 "java/lang/String") (F_value_w1 : Fld Z h0 w1 "java/lang/String" "value" "[B" (.ref v1)) (F_coder_w1 : Fld Z h0 w1 "java/lang/String" "coder" "B" (.int (0 : Int32))) (V_v1 : Arv Z h0 v1 kw1 .byte (5 : Int32) [(.int (80 : Int32)), (.int (76 : Int32)), (.int (65 : Int32)), (.int (73 : Int32)), (.int (78 : Int32))] (.int (0 : Int32))) :
    MetFree l (⟨"com/example/hushlist/hushlist/server/SaslMechanism", "named", "(Ljava/lang/String;)Lcom/example/hushlist/hushlist/server/SaslMechanism;"⟩ : MethodName) (head1 (Jvm.Cond.code (⟨"com/example/hushlist/hushlist/server/SaslMechanism", "named", "(Ljava/lang/String;)Lcom/example/hushlist/hushlist/server/SaslMechanism;"⟩ : MethodName) prog_62_method_5_code 5 (some (.object "com/example/hushlist/hushlist/server/SaslMechanism")) :: ws) ({ frames := 2, cells := 1, slots := 2, locals := 25 } : Room)) (fun a U => a = #[.null] ∧ Z.Warmed39 U.vm ∧ U.heap = h0) (fun _ _ _ _ _ => True) (fun _ U o U' => ∃ v L, o = .returned v ∧ Q8null Z uv kv m0 m1 w0 w1 v0 v1 kw0 kw1 h0 n0 v U'.heap L ∧ FrameEnd U o U' L ({ frames := 2, cells := 1, slots := 2, locals := 25 } : Room).cells ({ frames := 2, cells := 1, slots := 2, locals := 25 } : Room).slots) := by
  refine MetFree.of_bodySF (plainFor_of_name pn_com_example_hushlist_hushlist_server_SaslMechanism) hisR ?_
  intro p e s m args below meth c s₁ Bd hml0 hP hK
  obtain ⟨rfl, hZ, hh⟩ := hP
  have hx := Bd.exec
  have hby := Bd.bytes
  have hml : c.maxLocals = 5 := hml0
  have hown : s.vm.findClass "com/example/hushlist/hushlist/server/SaslMechanism" = some m.cls := findClass_of_methodNamed Bd.named
  have hnm := (name_of_methodNamed Bd.named Bd.method).1
  have X0 : Stand p l e ({ frames := 2, cells := 1, slots := 2, locals := 25 } : Room) s m #[.null] below meth c s₁ [] 0 0 := Stand.of_body Bd
  have e0 : s₁.heap = h0 := by rw [← hh, Bd.state]; rfl
  have efx : entryFrame m #[.null] 5 = mkF m 0 #[.val .null, .unset, .unset, .unset, .unset] [] := by first | (simp [entryFrame, mkF, argsToLocals, Value.category]; done) | rfl
  have N0 := Fr.nil n0
  have K0 : Keep h0 h0 [] := Keep.refl h0 _
  refine OGo.start (g' := mkF m 0 #[.val .null, .unset, .unset, .unset, .unset] []) (efx) ?_
  show OGo p.tables e below (P8null Z uv kv m0 m1 w0 w1 v0 v1 kw0 kw1 h0 n0 s) (s₁.setTop (mkF m 0 #[.val .null, .unset, .unset, .unset, .unset] []))
  obtain ⟨_, _, ⟨T1, L1, k1, n1⟩, -, X1, ⟨Lc1, hQ1, l1, y1, z1⟩, st1⟩ := Jvm.LawKit.callS X0 hx (y := (⟨"com/example/hushlist/hushlist/server/SaslMechanism", "values", "()[Lcom/example/hushlist/hushlist/server/SaslMechanism;"⟩ : MethodName)) hown (mvT hZ (hw _ (List.mem_of_getElem? (i := 39) rfl))) (mvT hZ (hw _ (List.mem_of_getElem? (i := 40) rfl))) (mvT hZ (hw _ (List.mem_of_getElem? (i := 37) rfl))) (mvT hZ (hw _ (List.mem_of_getElem? (i := 41) rfl))) (by decide) (backOf (W := 0) (rm9 l Z aV hw [] uv kv m0 m1 h0 n0 Z0 S_VAL E_uv V_uv) hZ (hw _ (List.mem_of_getElem? (i := 41) rfl)) (hw _ (List.mem_of_getElem? (i := 37) rfl)) (by decide) (by decide)) (g := (mkF m 0 #[.val .null, .unset, .unset, .unset, .unset] [])) rfl (by rw [hml]; rfl) (argsL := []) (rest := []) (lenOf pd____Lcom_example_hushlist_hushlist_server_SaslMechanism_ rfl) rfl (by show 2 * 0 + _ ≤ _; exact Nat.le_of_eq rfl) (hb hby d8_0) (fun _ _ => ⟨rfl, e0, (by decide : 0 + 1 ≤ _), (by decide : 0 + 2 ≤ _)⟩)
  dsimp only [Pt.U, Pt.locs, Pt.cells, Pt.slots] at X1 l1 y1 z1 st1 hQ1
  subst l1 y1 z1
  obtain ⟨nv_1, rfl, N1q, Kq1, sz1_nv, E_nv_1_p, V_nv_1_p⟩ := hQ1
  have N1 := Fr.app N0 N1q
  have ne_uv_nv_1 : uv ≠ nv_1 := Nat.ne_of_lt (Nat.lt_of_lt_of_le E_uv.lt sz1_nv)
  have ne_m0_nv_1 : m0 ≠ nv_1 := Nat.ne_of_lt (Nat.lt_of_lt_of_le F_wireName_m0.lt sz1_nv)
  have ne_m1_nv_1 : m1 ≠ nv_1 := Nat.ne_of_lt (Nat.lt_of_lt_of_le F_wireName_m1.lt sz1_nv)
  have ne_w0_nv_1 : w0 ≠ nv_1 := Nat.ne_of_lt (Nat.lt_of_lt_of_le E_w0.lt sz1_nv)
  have ne_v0_nv_1 : v0 ≠ nv_1 := Nat.ne_of_lt (Nat.lt_of_lt_of_le V_v0.lt sz1_nv)
  have ne_w1_nv_1 : w1 ≠ nv_1 := Nat.ne_of_lt (Nat.lt_of_lt_of_le E_w1.lt sz1_nv)
  have ne_v1_nv_1 : v1 ≠ nv_1 := Nat.ne_of_lt (Nat.lt_of_lt_of_le V_v1.lt sz1_nv)
  have S_VAL := Sta.keep0 S_VAL Kq1
  have E_uv := E_uv.keep Kq1
  have V_uv := V_uv.keep Kq1 nin0
  have F_wireName_m0 := F_wireName_m0.keep Kq1 nin0
  have F_wireName_m1 := F_wireName_m1.keep Kq1 nin0
  have E_w0 := E_w0.keep Kq1
  have F_value_w0 := F_value_w0.keep Kq1 nin0
  have F_coder_w0 := F_coder_w0.keep Kq1 nin0
  have V_v0 := V_v0.keep Kq1 nin0
  have E_w1 := E_w1.keep Kq1
  have F_value_w1 := F_value_w1.keep Kq1 nin0
  have F_coder_w1 := F_coder_w1.keep Kq1 nin0
  have V_v1 := V_v1.keep Kq1 nin0
  have g_nv_1 : n0 ≤ nv_1 := Nat.le_trans Z0 sz1_nv
  have sz_nv_1 : h0.size ≤ nv_1 := Nat.le_trans K0.1 sz1_nv
  have K1 := K0.trans Kq1 all0
  have zn1 : n0 ≤ T1.heap.size := Nat.le_trans Z0 Kq1.1
  have E_nv_1 := E_nv_1_p
  have V_nv_1 := V_nv_1_p
  refine OGo.go (B := T1.setTop (mkF m 3 #[.val .null, .unset, .unset, .unset, .unset] [(.ref nv_1)])) ?_ st1
  refine OGo.go (B := T1.setTop (mkF m 4 #[.val .null, .val (.ref nv_1), .unset, .unset, .unset] [])) ?_ (fun tX kX => XS.astoreN X1.here hx rfl (hb hby d8_3) rfl rfl (l' := #[.val .null, .val (.ref nv_1), .unset, .unset, .unset]) rfl kX)
  refine OGo.go (B := T1.setTop (mkF m 5 #[.val .null, .val (.ref nv_1), .unset, .unset, .unset] [(.ref nv_1)])) ?_ (fun tX kX => XS.aloadN X1.here hx rfl (hb hby d8_4) rfl rfl kX)
  obtain ⟨cl2, Ar2, qa2, S2, N2', H2, G2⟩ := id V_nv_1
  refine OGo.go (B := T1.setTop (mkF m 6 #[.val .null, .val (.ref nv_1), .unset, .unset, .unset] [(.int (2 : Int32))])) ?_ (fun tX kX => X1.arraylength hx Ar2.1 (State.isArrayOf_alike hZ.alike Ar2.2.1) (g := (mkF m 5 #[.val .null, .val (.ref nv_1), .unset, .unset, .unset] [(.ref nv_1)])) rfl rfl (hb hby d8_5) _ (by rw [len_of S2 N2']; exact kX))
  refine OGo.go (B := T1.setTop (mkF m 7 #[.val .null, .val (.ref nv_1), .val (.int (2 : Int32)), .unset, .unset] [])) ?_ (fun tX kX => XS.istoreN X1.here hx rfl (hb hby d8_6) rfl (l' := #[.val .null, .val (.ref nv_1), .val (.int (2 : Int32)), .unset, .unset]) rfl kX)
  refine OGo.go (B := T1.setTop (mkF m 8 #[.val .null, .val (.ref nv_1), .val (.int (2 : Int32)), .unset, .unset] [(.int (0 : Int32))])) ?_ (fun tX kX => XS.iconst X1.here hx rfl (hb hby d8_7) kX)
  refine OGo.go (B := T1.setTop (mkF m 9 #[.val .null, .val (.ref nv_1), .val (.int (2 : Int32)), .val (.int (0 : Int32)), .unset] [])) ?_ (fun tX kX => XS.istoreN X1.here hx rfl (hb hby d8_8) rfl (l' := #[.val .null, .val (.ref nv_1), .val (.int (2 : Int32)), .val (.int (0 : Int32)), .unset]) rfl kX)
  refine OGo.go (B := T1.setTop (mkF m 10 #[.val .null, .val (.ref nv_1), .val (.int (2 : Int32)), .val (.int (0 : Int32)), .unset] [(.int (0 : Int32))])) ?_ (fun tX kX => XS.iloadN X1.here hx rfl (hb hby d8_9) rfl kX)
  refine OGo.go (B := T1.setTop (mkF m 11 #[.val .null, .val (.ref nv_1), .val (.int (2 : Int32)), .val (.int (0 : Int32)), .unset] [(.int (2 : Int32)), (.int (0 : Int32))])) ?_ (fun tX kX => XS.iloadN X1.here hx rfl (hb hby d8_10) rfl kX)
  refine OGo.go (B := T1.setTop (mkF m 14 #[.val .null, .val (.ref nv_1), .val (.int (2 : Int32)), .val (.int (0 : Int32)), .unset] [])) ?_ (fun tX kX => XS.icmpNo X1.here hx rfl (hb hby d8_11) rfl (tlt (by decide)).2.1 kX)
  refine OGo.go (B := T1.setTop (mkF m 15 #[.val .null, .val (.ref nv_1), .val (.int (2 : Int32)), .val (.int (0 : Int32)), .unset] [(.ref nv_1)])) ?_ (fun tX kX => XS.aloadN X1.here hx rfl (hb hby d8_14) rfl rfl kX)
  refine OGo.go (B := T1.setTop (mkF m 16 #[.val .null, .val (.ref nv_1), .val (.int (2 : Int32)), .val (.int (0 : Int32)), .unset] [(.int (0 : Int32)), (.ref nv_1)])) ?_ (fun tX kX => XS.iloadN X1.here hx rfl (hb hby d8_15) rfl kX)
  obtain ⟨cl3, Ar3, qa3, S3, N3', H3, G3⟩ := id V_nv_1
  have hin3 := inb_of (j := (0 : Int32)) S3 ⟨by decide, by decide⟩
  have hat3 := H3.at (v := (.ref m0)) hin3 rfl
  refine OGo.go (B := T1.setTop (mkF m 17 #[.val .null, .val (.ref nv_1), .val (.int (2 : Int32)), .val (.int (0 : Int32)), .unset] [(.ref m0)])) ?_ (fun tX kX => X1.aaload hx (j := (0 : Int32)) (v := (.ref m0)) Ar3.1 (State.isArrayOf_alike hZ.alike Ar3.2.1) rfl Ar3.2.2 hin3 hat3 (g := (mkF m 16 #[.val .null, .val (.ref nv_1), .val (.int (2 : Int32)), .val (.int (0 : Int32)), .unset] [(.int (0 : Int32)), (.ref nv_1)])) rfl rfl (hb hby d8_16) _ kX)
  refine OGo.go (B := T1.setTop (mkF m 19 #[.val .null, .val (.ref nv_1), .val (.int (2 : Int32)), .val (.int (0 : Int32)), .val (.ref m0)] [])) ?_ (fun tX kX => XS.astore X1.here hx rfl (hb hby d8_17) rfl rfl (l' := #[.val .null, .val (.ref nv_1), .val (.int (2 : Int32)), .val (.int (0 : Int32)), .val (.ref m0)]) rfl kX)
  refine OGo.go (B := T1.setTop (mkF m 21 #[.val .null, .val (.ref nv_1), .val (.int (2 : Int32)), .val (.int (0 : Int32)), .val (.ref m0)] [(.ref m0)])) ?_ (fun tX kX => XS.aload X1.here hx rfl (hb hby d8_19) rfl rfl kX)
  obtain ⟨T4, X4, e4, st4⟩ := getF X1 hx hZ hown (host := "") (Or.inl (hw _ (List.mem_of_getElem? (i := 54) rfl))) Via.refl rfl F_wireName_m0 (g := (mkF m 21 #[.val .null, .val (.ref nv_1), .val (.int (2 : Int32)), .val (.int (0 : Int32)), .val (.ref m0)] [(.ref m0)])) rfl rfl (hb hby d8_21)
  refine OGo.go (B := T4.setTop (mkF m 24 #[.val .null, .val (.ref nv_1), .val (.int (2 : Int32)), .val (.int (0 : Int32)), .val (.ref m0)] [(.ref w0)])) ?_ st4
  refine OGo.go (B := T4.setTop (mkF m 25 #[.val .null, .val (.ref nv_1), .val (.int (2 : Int32)), .val (.int (0 : Int32)), .val (.ref m0)] [.null, (.ref w0)])) ?_ (fun tX kX => XS.aloadN X4.here hx rfl (hb hby d8_24) rfl rfl kX)
  obtain ⟨cq5, kq5, q5a, q5b, q5c⟩ := isOf hZ e4 E_w0
  obtain ⟨_, _, ⟨T5, L5, k5, n5⟩, -, X5, ⟨Lc5, hQ5, l5, y5, z5⟩, st5⟩ := X4.virtualBack hx (y := (⟨"java/lang/String", "equals", "(Ljava/lang/Object;)Z"⟩ : MethodName)) (z := (⟨"java/lang/String", "equals", "(Ljava/lang/Object;)Z"⟩ : MethodName)) hown (mvT hZ (hw _ (List.mem_of_getElem? (i := 56) rfl))) (mvT hZ (hw _ (List.mem_of_getElem? (i := 57) rfl))) (notFace_of_selects (args := #[]) (mvT hZ (hw _ (List.mem_of_getElem? (i := 59) rfl)))) (mvT hZ (hw _ (List.mem_of_getElem? (i := 59) rfl))) (mvT hZ (hw _ (List.mem_of_getElem? (i := 58) rfl))) (by decide) (backOf (W := 0) (rm10n l Z aV hw [] w0 T1.heap n0 zn1) hZ (hw _ (List.mem_of_getElem? (i := 60) rfl)) (hw _ (List.mem_of_getElem? (i := 8) rfl)) (by decide) (by decide)) q5a q5c (g := (mkF m 25 #[.val .null, .val (.ref nv_1), .val (.int (2 : Int32)), .val (.int (0 : Int32)), .val (.ref m0)] [.null, (.ref w0)])) rfl (by rw [hml]; rfl) (Steps.refl _) (argsL := [.null]) (rest := []) (lenOf pd__Ljava_lang_Object__Z rfl) rfl (by show 2 * 0 + _ ≤ _; exact Nat.le_of_eq rfl) (hb hby d8_25) (fun _ _ => ⟨rfl, e4, (by decide : 1 + 0 ≤ _), (by decide : 2 + 0 ≤ _)⟩)
  dsimp only [Pt.U, Pt.locs, Pt.cells, Pt.slots] at X5 l5 y5 z5 st5 hQ5
  subst l5 y5 z5
  obtain ⟨rfl, N5q, e5⟩ := hQ5
  have N5 := Fr.app N1 N5q
  refine OGo.go (B := T5.setTop (mkF m 28 #[.val .null, .val (.ref nv_1), .val (.int (2 : Int32)), .val (.int (0 : Int32)), .val (.ref m0)] [(.int (0 : Int32))])) ?_ (fun tX kX => st5.trans kX)
  refine OGo.go (B := T5.setTop (mkF m 34 #[.val .null, .val (.ref nv_1), .val (.int (2 : Int32)), .val (.int (0 : Int32)), .val (.ref m0)] [])) ?_ (fun tX kX => XS.ifYes X5.here hx rfl (pc0 := 28) (pc' := 34) rfl (hb hby d8_28) rfl ((if0 _ _).trans (teq (by decide)).1) (by decide) (by decide) kX)
  refine OGo.go (B := T5.setTop (mkF m 37 #[.val .null, .val (.ref nv_1), .val (.int (2 : Int32)), .val (.int (1 : Int32)), .val (.ref m0)] [])) ?_ (fun tX kX => XS.iinc X5.here hx rfl (hb hby d8_34) rfl (l' := #[.val .null, .val (.ref nv_1), .val (.int (2 : Int32)), .val (.int (1 : Int32)), .val (.ref m0)]) rfl kX)
  refine OGo.go (B := T5.setTop (mkF m 9 #[.val .null, .val (.ref nv_1), .val (.int (2 : Int32)), .val (.int (1 : Int32)), .val (.ref m0)] [])) ?_ (fun tX kX => XS.goto X5.here hx rfl (pc0 := 37) (pc' := 9) rfl (hb hby d8_37) (by decide) (by decide) kX)
  refine OGo.go (B := T5.setTop (mkF m 10 #[.val .null, .val (.ref nv_1), .val (.int (2 : Int32)), .val (.int (1 : Int32)), .val (.ref m0)] [(.int (1 : Int32))])) ?_ (fun tX kX => XS.iloadN X5.here hx rfl (hb hby d8_9) rfl kX)
  refine OGo.go (B := T5.setTop (mkF m 11 #[.val .null, .val (.ref nv_1), .val (.int (2 : Int32)), .val (.int (1 : Int32)), .val (.ref m0)] [(.int (2 : Int32)), (.int (1 : Int32))])) ?_ (fun tX kX => XS.iloadN X5.here hx rfl (hb hby d8_10) rfl kX)
  refine OGo.go (B := T5.setTop (mkF m 14 #[.val .null, .val (.ref nv_1), .val (.int (2 : Int32)), .val (.int (1 : Int32)), .val (.ref m0)] [])) ?_ (fun tX kX => XS.icmpNo X5.here hx rfl (hb hby d8_11) rfl (tlt (by decide)).2.1 kX)
  refine OGo.go (B := T5.setTop (mkF m 15 #[.val .null, .val (.ref nv_1), .val (.int (2 : Int32)), .val (.int (1 : Int32)), .val (.ref m0)] [(.ref nv_1)])) ?_ (fun tX kX => XS.aloadN X5.here hx rfl (hb hby d8_14) rfl rfl kX)
  refine OGo.go (B := T5.setTop (mkF m 16 #[.val .null, .val (.ref nv_1), .val (.int (2 : Int32)), .val (.int (1 : Int32)), .val (.ref m0)] [(.int (1 : Int32)), (.ref nv_1)])) ?_ (fun tX kX => XS.iloadN X5.here hx rfl (hb hby d8_15) rfl kX)
  obtain ⟨cl6, Ar6, qa6, S6, N6', H6, G6⟩ := id V_nv_1
  have hin6 := inb_of (j := (1 : Int32)) S6 ⟨by decide, by decide⟩
  have hat6 := H6.at (v := (.ref m1)) hin6 rfl
  refine OGo.go (B := T5.setTop (mkF m 17 #[.val .null, .val (.ref nv_1), .val (.int (2 : Int32)), .val (.int (1 : Int32)), .val (.ref m0)] [(.ref m1)])) ?_ (fun tX kX => X5.aaload hx (j := (1 : Int32)) (v := (.ref m1)) (by rw [e5]; exact Ar6.1) (State.isArrayOf_alike hZ.alike Ar6.2.1) rfl Ar6.2.2 hin6 hat6 (g := (mkF m 16 #[.val .null, .val (.ref nv_1), .val (.int (2 : Int32)), .val (.int (1 : Int32)), .val (.ref m0)] [(.int (1 : Int32)), (.ref nv_1)])) rfl rfl (hb hby d8_16) _ kX)
  refine OGo.go (B := T5.setTop (mkF m 19 #[.val .null, .val (.ref nv_1), .val (.int (2 : Int32)), .val (.int (1 : Int32)), .val (.ref m1)] [])) ?_ (fun tX kX => XS.astore X5.here hx rfl (hb hby d8_17) rfl rfl (l' := #[.val .null, .val (.ref nv_1), .val (.int (2 : Int32)), .val (.int (1 : Int32)), .val (.ref m1)]) rfl kX)
  refine OGo.go (B := T5.setTop (mkF m 21 #[.val .null, .val (.ref nv_1), .val (.int (2 : Int32)), .val (.int (1 : Int32)), .val (.ref m1)] [(.ref m1)])) ?_ (fun tX kX => XS.aload X5.here hx rfl (hb hby d8_19) rfl rfl kX)
  obtain ⟨T7, X7, e7, st7⟩ := getF X5 hx hZ hown (host := "") (Or.inl (hw _ (List.mem_of_getElem? (i := 54) rfl))) Via.refl e5 F_wireName_m1 (g := (mkF m 21 #[.val .null, .val (.ref nv_1), .val (.int (2 : Int32)), .val (.int (1 : Int32)), .val (.ref m1)] [(.ref m1)])) rfl rfl (hb hby d8_21)
  refine OGo.go (B := T7.setTop (mkF m 24 #[.val .null, .val (.ref nv_1), .val (.int (2 : Int32)), .val (.int (1 : Int32)), .val (.ref m1)] [(.ref w1)])) ?_ st7
  refine OGo.go (B := T7.setTop (mkF m 25 #[.val .null, .val (.ref nv_1), .val (.int (2 : Int32)), .val (.int (1 : Int32)), .val (.ref m1)] [.null, (.ref w1)])) ?_ (fun tX kX => XS.aloadN X7.here hx rfl (hb hby d8_24) rfl rfl kX)
  obtain ⟨cq8, kq8, q8a, q8b, q8c⟩ := isOf hZ e7 E_w1
  obtain ⟨_, _, ⟨T8, L8, k8, n8⟩, -, X8, ⟨Lc8, hQ8, l8, y8, z8⟩, st8⟩ := X7.virtualBack hx (y := (⟨"java/lang/String", "equals", "(Ljava/lang/Object;)Z"⟩ : MethodName)) (z := (⟨"java/lang/String", "equals", "(Ljava/lang/Object;)Z"⟩ : MethodName)) hown (mvT hZ (hw _ (List.mem_of_getElem? (i := 56) rfl))) (mvT hZ (hw _ (List.mem_of_getElem? (i := 57) rfl))) (notFace_of_selects (args := #[]) (mvT hZ (hw _ (List.mem_of_getElem? (i := 59) rfl)))) (mvT hZ (hw _ (List.mem_of_getElem? (i := 59) rfl))) (mvT hZ (hw _ (List.mem_of_getElem? (i := 58) rfl))) (by decide) (backOf (W := 0) (rm10n l Z aV hw [] w1 T1.heap n0 zn1) hZ (hw _ (List.mem_of_getElem? (i := 60) rfl)) (hw _ (List.mem_of_getElem? (i := 8) rfl)) (by decide) (by decide)) q8a q8c (g := (mkF m 25 #[.val .null, .val (.ref nv_1), .val (.int (2 : Int32)), .val (.int (1 : Int32)), .val (.ref m1)] [.null, (.ref w1)])) rfl (by rw [hml]; rfl) (Steps.refl _) (argsL := [.null]) (rest := []) (lenOf pd__Ljava_lang_Object__Z rfl) rfl (by show 2 * 0 + _ ≤ _; exact Nat.le_of_eq rfl) (hb hby d8_25) (fun _ _ => ⟨rfl, e7, (by decide : 1 + 0 ≤ _), (by decide : 2 + 0 ≤ _)⟩)
  dsimp only [Pt.U, Pt.locs, Pt.cells, Pt.slots] at X8 l8 y8 z8 st8 hQ8
  subst l8 y8 z8
  obtain ⟨rfl, N8q, e8⟩ := hQ8
  have N8 := Fr.app N5 N8q
  refine OGo.go (B := T8.setTop (mkF m 28 #[.val .null, .val (.ref nv_1), .val (.int (2 : Int32)), .val (.int (1 : Int32)), .val (.ref m1)] [(.int (0 : Int32))])) ?_ (fun tX kX => st8.trans kX)
  refine OGo.go (B := T8.setTop (mkF m 34 #[.val .null, .val (.ref nv_1), .val (.int (2 : Int32)), .val (.int (1 : Int32)), .val (.ref m1)] [])) ?_ (fun tX kX => XS.ifYes X8.here hx rfl (pc0 := 28) (pc' := 34) rfl (hb hby d8_28) rfl ((if0 _ _).trans (teq (by decide)).1) (by decide) (by decide) kX)
  refine OGo.go (B := T8.setTop (mkF m 37 #[.val .null, .val (.ref nv_1), .val (.int (2 : Int32)), .val (.int (2 : Int32)), .val (.ref m1)] [])) ?_ (fun tX kX => XS.iinc X8.here hx rfl (hb hby d8_34) rfl (l' := #[.val .null, .val (.ref nv_1), .val (.int (2 : Int32)), .val (.int (2 : Int32)), .val (.ref m1)]) rfl kX)
  refine OGo.go (B := T8.setTop (mkF m 9 #[.val .null, .val (.ref nv_1), .val (.int (2 : Int32)), .val (.int (2 : Int32)), .val (.ref m1)] [])) ?_ (fun tX kX => XS.goto X8.here hx rfl (pc0 := 37) (pc' := 9) rfl (hb hby d8_37) (by decide) (by decide) kX)
  refine OGo.go (B := T8.setTop (mkF m 10 #[.val .null, .val (.ref nv_1), .val (.int (2 : Int32)), .val (.int (2 : Int32)), .val (.ref m1)] [(.int (2 : Int32))])) ?_ (fun tX kX => XS.iloadN X8.here hx rfl (hb hby d8_9) rfl kX)
  refine OGo.go (B := T8.setTop (mkF m 11 #[.val .null, .val (.ref nv_1), .val (.int (2 : Int32)), .val (.int (2 : Int32)), .val (.ref m1)] [(.int (2 : Int32)), (.int (2 : Int32))])) ?_ (fun tX kX => XS.iloadN X8.here hx rfl (hb hby d8_10) rfl kX)
  refine OGo.go (B := T8.setTop (mkF m 40 #[.val .null, .val (.ref nv_1), .val (.int (2 : Int32)), .val (.int (2 : Int32)), .val (.ref m1)] [])) ?_ (fun tX kX => XS.icmpYes X8.here hx rfl (pc0 := 11) (pc' := 40) rfl (hb hby d8_11) rfl (flt (by decide)).2.1 (by decide) (by decide) kX)
  refine OGo.go (B := T8.setTop (mkF m 41 #[.val .null, .val (.ref nv_1), .val (.int (2 : Int32)), .val (.int (2 : Int32)), .val (.ref m1)] [.null])) ?_ (fun tX kX => XS.aconstNull X8.here hx rfl (hb hby d8_40) kX)
  refine OGo.ret X8 (v := (some .null)) (fun h => by rw [Bd.returns] at h; cases h) (BodyLoose.notSynchronized Bd) (fun fs hr => retOut X8 hx Bd.returns rfl (Or.inr (Or.inr (Or.inr (Or.inr ⟨rfl, rfl, rfl⟩)))) (hb hby d8_41) hr) (Q := Q8null Z uv kv m0 m1 w0 w1 v0 v1 kw0 kw1 h0 n0) ?_ (by decide) (by decide)
  show Q8null Z uv kv m0 m1 w0 w1 v0 v1 kw0 kw1 h0 n0 _ T8.heap _
  rw [e8]
  exact ⟨rfl, N8, K1⟩
theorem d12_0 : decode method_4_code 0 = .ok (.aload_n 0, 1) := by decide +kernel
theorem d12_1 : decode method_4_code 1 = .ok (.ifnonnull 5, 3) := by decide +kernel
theorem d12_4 : decode method_4_code 4 = .ok (.aconst_null, 1) := by decide +kernel
theorem d12_5 : decode method_4_code 5 = .ok (.areturn, 1) := by decide +kernel
theorem pn_com_example_hushlist_hushlist_server_SaslMechanismNamedPinLaw : plainName "com/example/hushlist/hushlist/server/SaslMechanismNamedPinLaw" = true := by first | (simp [plainName, overriddenIn]; done) | decide +kernel
def Q12null (Z : State)  (h0 : Heap) (n0 : Nat) (v : Option Value) (h : Heap) (L : List Loc) : Prop := v = some .null ∧ Fr n0 L ∧ h = h0
def P12null (Z : State)  (h0 : Heap) (n0 : Nat) (s : State) (o : Outcome) (U' : State) : Prop := ∃ v L, o = .returned v ∧ Q12null Z  h0 n0 v U'.heap L ∧ FrameEnd s o U' L ({ frames := 0, cells := 0, slots := 0, locals := 0 } : Room).cells ({ frames := 0, cells := 0, slots := 0, locals := 0 } : Room).slots
set_option maxRecDepth 65536 in
set_option maxHeartbeats 40000000 in
theorem rm12null (l : Launch) (Z : State) (aV : Array Value) (hw : ∀ d ∈ tables_1, d.before aV Z = true) (ws : List Jvm.Cond)  (h0 : Heap) (n0 : Nat) (Z0 : n0 ≤ h0.size) :
    MetFree l (⟨"com/example/hushlist/hushlist/server/SaslMechanismNamedPinLaw", "expected", "(Ljava/lang/String;)Lcom/example/hushlist/hushlist/server/SaslMechanism;"⟩ : MethodName) (head1 (Jvm.Cond.code (⟨"com/example/hushlist/hushlist/server/SaslMechanismNamedPinLaw", "expected", "(Ljava/lang/String;)Lcom/example/hushlist/hushlist/server/SaslMechanism;"⟩ : MethodName) method_4_code 1 (some (.object "com/example/hushlist/hushlist/server/SaslMechanism")) :: ws) ({ frames := 0, cells := 0, slots := 0, locals := 0 } : Room)) (fun a U => a = #[.null] ∧ Z.Warmed39 U.vm ∧ U.heap = h0) (fun _ _ _ _ _ => True) (fun _ U o U' => ∃ v L, o = .returned v ∧ Q12null Z  h0 n0 v U'.heap L ∧ FrameEnd U o U' L ({ frames := 0, cells := 0, slots := 0, locals := 0 } : Room).cells ({ frames := 0, cells := 0, slots := 0, locals := 0 } : Room).slots) := by
  refine MetFree.of_bodySF (plainFor_of_name pn_com_example_hushlist_hushlist_server_SaslMechanismNamedPinLaw) hisR ?_
  intro p e s m args below meth c s₁ Bd hml0 hP hK
  obtain ⟨rfl, hZ, hh⟩ := hP
  have hx := Bd.exec
  have hby := Bd.bytes
  have hml : c.maxLocals = 1 := hml0
  have hown : s.vm.findClass "com/example/hushlist/hushlist/server/SaslMechanismNamedPinLaw" = some m.cls := findClass_of_methodNamed Bd.named
  have hnm := (name_of_methodNamed Bd.named Bd.method).1
  have X0 : Stand p l e ({ frames := 0, cells := 0, slots := 0, locals := 0 } : Room) s m #[.null] below meth c s₁ [] 0 0 := Stand.of_body Bd
  have e0 : s₁.heap = h0 := by rw [← hh, Bd.state]; rfl
  have efx : entryFrame m #[.null] 1 = mkF m 0 #[.val .null] [] := by first | (simp [entryFrame, mkF, argsToLocals, Value.category]; done) | rfl
  have N0 := Fr.nil n0
  have K0 : Keep h0 h0 [] := Keep.refl h0 _
  refine OGo.start (g' := mkF m 0 #[.val .null] []) (efx) ?_
  show OGo p.tables e below (P12null Z  h0 n0 s) (s₁.setTop (mkF m 0 #[.val .null] []))
  refine OGo.go (B := s₁.setTop (mkF m 1 #[.val .null] [.null])) ?_ (fun tX kX => XS.aloadN X0.here hx rfl (hb hby d12_0) rfl rfl kX)
  refine OGo.go (B := s₁.setTop (mkF m 4 #[.val .null] [])) ?_ (fun tX kX => XS.ifnonnullNo X0.here hx rfl (hb hby d12_1) rfl kX)
  refine OGo.go (B := s₁.setTop (mkF m 5 #[.val .null] [.null])) ?_ (fun tX kX => XS.aconstNull X0.here hx rfl (hb hby d12_4) kX)
  refine OGo.ret X0 (v := (some .null)) (fun h => by rw [Bd.returns] at h; cases h) (BodyLoose.notSynchronized Bd) (fun fs hr => retOut X0 hx Bd.returns rfl (Or.inr (Or.inr (Or.inr (Or.inr ⟨rfl, rfl, rfl⟩)))) (hb hby d12_5) hr) (Q := Q12null Z  h0 n0) ?_ (by decide) (by decide)
  show Q12null Z  h0 n0 _ s₁.heap _
  rw [e0]
  exact ⟨rfl, N0, rfl⟩
theorem d8_31 : decode prog_62_method_5_code 31 = .ok (.aload 4, 2) := by decide +kernel
theorem d8_33 : decode prog_62_method_5_code 33 = .ok (.areturn, 1) := by decide +kernel
def Q8s (Z : State) (a0 : Addr) (uv : Addr) (kv : ClassId) (m0 : Addr) (m1 : Addr) (w0 : Addr) (w1 : Addr) (v0 : Addr) (v1 : Addr) (kw0 : ClassId) (kw1 : ClassId) (vb : Addr) (kb : ClassId) (nn : Int32) (vs : List Value) (cs : Int32) (h0 : Heap) (n0 : Nat) (v : Option Value) (h : Heap) (L : List Loc) : Prop := v = some (own_res vs m0 m1) ∧ Fr n0 L ∧ Keep h0 h []
def P8s (Z : State) (a0 : Addr) (uv : Addr) (kv : ClassId) (m0 : Addr) (m1 : Addr) (w0 : Addr) (w1 : Addr) (v0 : Addr) (v1 : Addr) (kw0 : ClassId) (kw1 : ClassId) (vb : Addr) (kb : ClassId) (nn : Int32) (vs : List Value) (cs : Int32) (h0 : Heap) (n0 : Nat) (s : State) (o : Outcome) (U' : State) : Prop := ∃ v L, o = .returned v ∧ Q8s Z a0 uv kv m0 m1 w0 w1 v0 v1 kw0 kw1 vb kb nn vs cs h0 n0 v U'.heap L ∧ FrameEnd s o U' L ({ frames := 2, cells := 1, slots := 2, locals := 28 } : Room).cells ({ frames := 2, cells := 1, slots := 2, locals := 28 } : Room).slots
set_option maxRecDepth 65536 in
set_option maxHeartbeats 40000000 in
theorem rm8s (l : Launch) (Z : State) (aV : Array Value) (hw : ∀ d ∈ tables_1, d.before aV Z = true) (ws : List Jvm.Cond) (a0 : Addr) (uv : Addr) (kv : ClassId) (m0 : Addr) (m1 : Addr) (w0 : Addr) (w1 : Addr) (v0 : Addr) (v1 : Addr) (kw0 : ClassId) (kw1 : ClassId) (vb : Addr) (kb : ClassId) (nn : Int32) (vs : List Value) (cs : Int32) (h0 : Heap) (n0 : Nat) (Z0 : n0 ≤ h0.size) (S_VAL : Sta Z h0 "com/example/hushlist/hushlist/server/SaslMechanism" "$VALUES" "[Lcom/example/hushlist/hushlist/server/SaslMechanism;" (.ref uv)) (E_uv : Exa Z h0 uv "[Lcom/example/hushlist/hushlist/server/SaslMechanism;") (V_uv : Arv Z h0 uv kv (.object "com/example/hushlist/hushlist/server/SaslMechanism") (2 : Int32) [(.ref m0), (.ref m1)] .null) (F_wireName_m0 : Fld Z h0 m0 "com/example/hushlist/hushlist/server/SaslMechanism" "wireName" "Ljava/lang/String;" (.ref w0)) (F_wireName_m1 : Fld Z h0 m1 "com/example/hushlist/hushlist/server/SaslMechanism" "wireName" "Ljava/lang/String;" (.ref w1)) (E_w0 : Exa Z h0 w0 "java/lang/String") (F_value_w0 : Fld Z h0 w0 "java/lang/String" "value" "[B" (.ref v0)) (F_coder_w0 : Fld Z h0 w0 "java/lang/String" "coder" "B" (.int (0 : Int32))) (V_v0 : Arv Z h0 v0 kw0 .byte (11 : Int32) [(.int (83 : Int32)), (.int (67 : Int32)), (.int (82 : Int32)), (.int (65 : Int32)), (.int (77 : Int32)), (.int (45 : Int32)), (.int (83 : Int32)), (.int (72 : Int32)), (.int (65 : Int32)), (.int (45 : Int32)), (.int (49 : Int32))] (.int (0 : Int32))) (E_w1 : Exa Z h0 w1 "java/lang/String") (F_value_w1 : Fld Z h0 w1 "java/lang/String" "value" "[B" (.ref v1)) (F_coder_w1 : Fld Z h0 w1 "java/lang/String" "coder" "B" (.int (0 : Int32))) (V_v1 : Arv Z h0 v1 kw1 .byte (5 : Int32) [(.int (80 : Int32)), (.int (76 : Int32)), (.int (65 : Int32)), (.int (73 : Int32)), (.int (78 : Int32))] (.int (0 : Int32))) (E_a0 : Exa Z h0 a0 "java/lang/String") (F_value_a0 : Fld Z h0 a0 "java/lang/String" "value" "[B" (.ref vb)) (F_coder_a0 : Fld Z h0 a0 "java/lang/String" "coder" "B" (.int (0 : Int32))) (V_vb : Arv Z h0 vb kb .byte nn vs (.int (0 : Int32))) (S_COMPACT_STRINGS : Sta Z h0 "java/lang/String" "COMPACT_STRINGS" "Z" (.int cs)) (hcs : ¬ cs = 0) (hvl : vs.length = nn.toNatClampNeg) :
    MetFree l (⟨"com/example/hushlist/hushlist/server/SaslMechanism", "named", "(Ljava/lang/String;)Lcom/example/hushlist/hushlist/server/SaslMechanism;"⟩ : MethodName) (head1 (Jvm.Cond.code (⟨"com/example/hushlist/hushlist/server/SaslMechanism", "named", "(Ljava/lang/String;)Lcom/example/hushlist/hushlist/server/SaslMechanism;"⟩ : MethodName) prog_62_method_5_code 5 (some (.object "com/example/hushlist/hushlist/server/SaslMechanism")) :: ws) ({ frames := 2, cells := 1, slots := 2, locals := 28 } : Room)) (fun a U => a = #[(.ref a0)] ∧ Z.Warmed39 U.vm ∧ U.heap = h0) (fun _ _ _ _ _ => True) (fun _ U o U' => ∃ v L, o = .returned v ∧ Q8s Z a0 uv kv m0 m1 w0 w1 v0 v1 kw0 kw1 vb kb nn vs cs h0 n0 v U'.heap L ∧ FrameEnd U o U' L ({ frames := 2, cells := 1, slots := 2, locals := 28 } : Room).cells ({ frames := 2, cells := 1, slots := 2, locals := 28 } : Room).slots) := by
  refine MetFree.of_bodySF (plainFor_of_name pn_com_example_hushlist_hushlist_server_SaslMechanism) hisR ?_
  intro p e s m args below meth c s₁ Bd hml0 hP hK
  obtain ⟨rfl, hZ, hh⟩ := hP
  have hx := Bd.exec
  have hby := Bd.bytes
  have hml : c.maxLocals = 5 := hml0
  have hown : s.vm.findClass "com/example/hushlist/hushlist/server/SaslMechanism" = some m.cls := findClass_of_methodNamed Bd.named
  have hnm := (name_of_methodNamed Bd.named Bd.method).1
  have X0 : Stand p l e ({ frames := 2, cells := 1, slots := 2, locals := 28 } : Room) s m #[(.ref a0)] below meth c s₁ [] 0 0 := Stand.of_body Bd
  have e0 : s₁.heap = h0 := by rw [← hh, Bd.state]; rfl
  have efx : entryFrame m #[(.ref a0)] 5 = mkF m 0 #[.val (.ref a0), .unset, .unset, .unset, .unset] [] := by first | (simp [entryFrame, mkF, argsToLocals, Value.category]; done) | rfl
  have N0 := Fr.nil n0
  have K0 : Keep h0 h0 [] := Keep.refl h0 _
  refine OGo.start (g' := mkF m 0 #[.val (.ref a0), .unset, .unset, .unset, .unset] []) (efx) ?_
  show OGo p.tables e below (P8s Z a0 uv kv m0 m1 w0 w1 v0 v1 kw0 kw1 vb kb nn vs cs h0 n0 s) (s₁.setTop (mkF m 0 #[.val (.ref a0), .unset, .unset, .unset, .unset] []))
  obtain ⟨_, _, ⟨T1, L1, k1, n1⟩, -, X1, ⟨Lc1, hQ1, l1, y1, z1⟩, st1⟩ := Jvm.LawKit.callS X0 hx (y := (⟨"com/example/hushlist/hushlist/server/SaslMechanism", "values", "()[Lcom/example/hushlist/hushlist/server/SaslMechanism;"⟩ : MethodName)) hown (mvT hZ (hw _ (List.mem_of_getElem? (i := 39) rfl))) (mvT hZ (hw _ (List.mem_of_getElem? (i := 40) rfl))) (mvT hZ (hw _ (List.mem_of_getElem? (i := 37) rfl))) (mvT hZ (hw _ (List.mem_of_getElem? (i := 41) rfl))) (by decide) (backOf (W := 0) (rm9 l Z aV hw [] uv kv m0 m1 h0 n0 Z0 S_VAL E_uv V_uv) hZ (hw _ (List.mem_of_getElem? (i := 41) rfl)) (hw _ (List.mem_of_getElem? (i := 37) rfl)) (by decide) (by decide)) (g := (mkF m 0 #[.val (.ref a0), .unset, .unset, .unset, .unset] [])) rfl (by rw [hml]; rfl) (argsL := []) (rest := []) (lenOf pd____Lcom_example_hushlist_hushlist_server_SaslMechanism_ rfl) rfl (by show 2 * 0 + _ ≤ _; exact Nat.le_of_eq rfl) (hb hby d8_0) (fun _ _ => ⟨rfl, e0, (by decide : 0 + 1 ≤ _), (by decide : 0 + 2 ≤ _)⟩)
  dsimp only [Pt.U, Pt.locs, Pt.cells, Pt.slots] at X1 l1 y1 z1 st1 hQ1
  subst l1 y1 z1
  obtain ⟨nv_1, rfl, N1q, Kq1, sz1_nv, E_nv_1_p, V_nv_1_p⟩ := hQ1
  have N1 := Fr.app N0 N1q
  have ne_uv_nv_1 : uv ≠ nv_1 := Nat.ne_of_lt (Nat.lt_of_lt_of_le E_uv.lt sz1_nv)
  have ne_m0_nv_1 : m0 ≠ nv_1 := Nat.ne_of_lt (Nat.lt_of_lt_of_le F_wireName_m0.lt sz1_nv)
  have ne_m1_nv_1 : m1 ≠ nv_1 := Nat.ne_of_lt (Nat.lt_of_lt_of_le F_wireName_m1.lt sz1_nv)
  have ne_w0_nv_1 : w0 ≠ nv_1 := Nat.ne_of_lt (Nat.lt_of_lt_of_le E_w0.lt sz1_nv)
  have ne_v0_nv_1 : v0 ≠ nv_1 := Nat.ne_of_lt (Nat.lt_of_lt_of_le V_v0.lt sz1_nv)
  have ne_w1_nv_1 : w1 ≠ nv_1 := Nat.ne_of_lt (Nat.lt_of_lt_of_le E_w1.lt sz1_nv)
  have ne_v1_nv_1 : v1 ≠ nv_1 := Nat.ne_of_lt (Nat.lt_of_lt_of_le V_v1.lt sz1_nv)
  have ne_a0_nv_1 : a0 ≠ nv_1 := Nat.ne_of_lt (Nat.lt_of_lt_of_le E_a0.lt sz1_nv)
  have ne_vb_nv_1 : vb ≠ nv_1 := Nat.ne_of_lt (Nat.lt_of_lt_of_le V_vb.lt sz1_nv)
  have S_VAL := Sta.keep0 S_VAL Kq1
  have S_COMPACT_STRINGS := Sta.keep0 S_COMPACT_STRINGS Kq1
  have E_uv := E_uv.keep Kq1
  have V_uv := V_uv.keep Kq1 nin0
  have F_wireName_m0 := F_wireName_m0.keep Kq1 nin0
  have F_wireName_m1 := F_wireName_m1.keep Kq1 nin0
  have E_w0 := E_w0.keep Kq1
  have F_value_w0 := F_value_w0.keep Kq1 nin0
  have F_coder_w0 := F_coder_w0.keep Kq1 nin0
  have V_v0 := V_v0.keep Kq1 nin0
  have E_w1 := E_w1.keep Kq1
  have F_value_w1 := F_value_w1.keep Kq1 nin0
  have F_coder_w1 := F_coder_w1.keep Kq1 nin0
  have V_v1 := V_v1.keep Kq1 nin0
  have E_a0 := E_a0.keep Kq1
  have F_value_a0 := F_value_a0.keep Kq1 nin0
  have F_coder_a0 := F_coder_a0.keep Kq1 nin0
  have V_vb := V_vb.keep Kq1 nin0
  have g_nv_1 : n0 ≤ nv_1 := Nat.le_trans Z0 sz1_nv
  have sz_nv_1 : h0.size ≤ nv_1 := Nat.le_trans K0.1 sz1_nv
  have K1 := K0.trans Kq1 all0
  have zn1 : n0 ≤ T1.heap.size := Nat.le_trans Z0 Kq1.1
  have E_nv_1 := E_nv_1_p
  have V_nv_1 := V_nv_1_p
  refine OGo.go (B := T1.setTop (mkF m 3 #[.val (.ref a0), .unset, .unset, .unset, .unset] [(.ref nv_1)])) ?_ st1
  refine OGo.go (B := T1.setTop (mkF m 4 #[.val (.ref a0), .val (.ref nv_1), .unset, .unset, .unset] [])) ?_ (fun tX kX => XS.astoreN X1.here hx rfl (hb hby d8_3) rfl rfl (l' := #[.val (.ref a0), .val (.ref nv_1), .unset, .unset, .unset]) rfl kX)
  refine OGo.go (B := T1.setTop (mkF m 5 #[.val (.ref a0), .val (.ref nv_1), .unset, .unset, .unset] [(.ref nv_1)])) ?_ (fun tX kX => XS.aloadN X1.here hx rfl (hb hby d8_4) rfl rfl kX)
  obtain ⟨cl2, Ar2, qa2, S2, N2', H2, G2⟩ := id V_nv_1
  refine OGo.go (B := T1.setTop (mkF m 6 #[.val (.ref a0), .val (.ref nv_1), .unset, .unset, .unset] [(.int (2 : Int32))])) ?_ (fun tX kX => X1.arraylength hx Ar2.1 (State.isArrayOf_alike hZ.alike Ar2.2.1) (g := (mkF m 5 #[.val (.ref a0), .val (.ref nv_1), .unset, .unset, .unset] [(.ref nv_1)])) rfl rfl (hb hby d8_5) _ (by rw [len_of S2 N2']; exact kX))
  refine OGo.go (B := T1.setTop (mkF m 7 #[.val (.ref a0), .val (.ref nv_1), .val (.int (2 : Int32)), .unset, .unset] [])) ?_ (fun tX kX => XS.istoreN X1.here hx rfl (hb hby d8_6) rfl (l' := #[.val (.ref a0), .val (.ref nv_1), .val (.int (2 : Int32)), .unset, .unset]) rfl kX)
  refine OGo.go (B := T1.setTop (mkF m 8 #[.val (.ref a0), .val (.ref nv_1), .val (.int (2 : Int32)), .unset, .unset] [(.int (0 : Int32))])) ?_ (fun tX kX => XS.iconst X1.here hx rfl (hb hby d8_7) kX)
  refine OGo.go (B := T1.setTop (mkF m 9 #[.val (.ref a0), .val (.ref nv_1), .val (.int (2 : Int32)), .val (.int (0 : Int32)), .unset] [])) ?_ (fun tX kX => XS.istoreN X1.here hx rfl (hb hby d8_8) rfl (l' := #[.val (.ref a0), .val (.ref nv_1), .val (.int (2 : Int32)), .val (.int (0 : Int32)), .unset]) rfl kX)
  refine OGo.go (B := T1.setTop (mkF m 10 #[.val (.ref a0), .val (.ref nv_1), .val (.int (2 : Int32)), .val (.int (0 : Int32)), .unset] [(.int (0 : Int32))])) ?_ (fun tX kX => XS.iloadN X1.here hx rfl (hb hby d8_9) rfl kX)
  refine OGo.go (B := T1.setTop (mkF m 11 #[.val (.ref a0), .val (.ref nv_1), .val (.int (2 : Int32)), .val (.int (0 : Int32)), .unset] [(.int (2 : Int32)), (.int (0 : Int32))])) ?_ (fun tX kX => XS.iloadN X1.here hx rfl (hb hby d8_10) rfl kX)
  refine OGo.go (B := T1.setTop (mkF m 14 #[.val (.ref a0), .val (.ref nv_1), .val (.int (2 : Int32)), .val (.int (0 : Int32)), .unset] [])) ?_ (fun tX kX => XS.icmpNo X1.here hx rfl (hb hby d8_11) rfl (tlt (by decide)).2.1 kX)
  refine OGo.go (B := T1.setTop (mkF m 15 #[.val (.ref a0), .val (.ref nv_1), .val (.int (2 : Int32)), .val (.int (0 : Int32)), .unset] [(.ref nv_1)])) ?_ (fun tX kX => XS.aloadN X1.here hx rfl (hb hby d8_14) rfl rfl kX)
  refine OGo.go (B := T1.setTop (mkF m 16 #[.val (.ref a0), .val (.ref nv_1), .val (.int (2 : Int32)), .val (.int (0 : Int32)), .unset] [(.int (0 : Int32)), (.ref nv_1)])) ?_ (fun tX kX => XS.iloadN X1.here hx rfl (hb hby d8_15) rfl kX)
  obtain ⟨cl3, Ar3, qa3, S3, N3', H3, G3⟩ := id V_nv_1
  have hin3 := inb_of (j := (0 : Int32)) S3 ⟨by decide, by decide⟩
  have hat3 := H3.at (v := (.ref m0)) hin3 rfl
  refine OGo.go (B := T1.setTop (mkF m 17 #[.val (.ref a0), .val (.ref nv_1), .val (.int (2 : Int32)), .val (.int (0 : Int32)), .unset] [(.ref m0)])) ?_ (fun tX kX => X1.aaload hx (j := (0 : Int32)) (v := (.ref m0)) Ar3.1 (State.isArrayOf_alike hZ.alike Ar3.2.1) rfl Ar3.2.2 hin3 hat3 (g := (mkF m 16 #[.val (.ref a0), .val (.ref nv_1), .val (.int (2 : Int32)), .val (.int (0 : Int32)), .unset] [(.int (0 : Int32)), (.ref nv_1)])) rfl rfl (hb hby d8_16) _ kX)
  refine OGo.go (B := T1.setTop (mkF m 19 #[.val (.ref a0), .val (.ref nv_1), .val (.int (2 : Int32)), .val (.int (0 : Int32)), .val (.ref m0)] [])) ?_ (fun tX kX => XS.astore X1.here hx rfl (hb hby d8_17) rfl rfl (l' := #[.val (.ref a0), .val (.ref nv_1), .val (.int (2 : Int32)), .val (.int (0 : Int32)), .val (.ref m0)]) rfl kX)
  refine OGo.go (B := T1.setTop (mkF m 21 #[.val (.ref a0), .val (.ref nv_1), .val (.int (2 : Int32)), .val (.int (0 : Int32)), .val (.ref m0)] [(.ref m0)])) ?_ (fun tX kX => XS.aload X1.here hx rfl (hb hby d8_19) rfl rfl kX)
  obtain ⟨T4, X4, e4, st4⟩ := getF X1 hx hZ hown (host := "") (Or.inl (hw _ (List.mem_of_getElem? (i := 54) rfl))) Via.refl rfl F_wireName_m0 (g := (mkF m 21 #[.val (.ref a0), .val (.ref nv_1), .val (.int (2 : Int32)), .val (.int (0 : Int32)), .val (.ref m0)] [(.ref m0)])) rfl rfl (hb hby d8_21)
  refine OGo.go (B := T4.setTop (mkF m 24 #[.val (.ref a0), .val (.ref nv_1), .val (.int (2 : Int32)), .val (.int (0 : Int32)), .val (.ref m0)] [(.ref w0)])) ?_ st4
  refine OGo.go (B := T4.setTop (mkF m 25 #[.val (.ref a0), .val (.ref nv_1), .val (.int (2 : Int32)), .val (.int (0 : Int32)), .val (.ref m0)] [(.ref a0), (.ref w0)])) ?_ (fun tX kX => XS.aloadN X4.here hx rfl (hb hby d8_24) rfl rfl kX)
  obtain ⟨cq5, kq5, q5a, q5b, q5c⟩ := isOf hZ e4 E_w0
  obtain ⟨_, _, ⟨T5, L5, k5, n5⟩, -, X5, ⟨Lc5, hQ5, l5, y5, z5⟩, st5⟩ := X4.virtualBack hx (y := (⟨"java/lang/String", "equals", "(Ljava/lang/Object;)Z"⟩ : MethodName)) (z := (⟨"java/lang/String", "equals", "(Ljava/lang/Object;)Z"⟩ : MethodName)) hown (mvT hZ (hw _ (List.mem_of_getElem? (i := 56) rfl))) (mvT hZ (hw _ (List.mem_of_getElem? (i := 57) rfl))) (notFace_of_selects (args := #[]) (mvT hZ (hw _ (List.mem_of_getElem? (i := 59) rfl)))) (mvT hZ (hw _ (List.mem_of_getElem? (i := 59) rfl))) (mvT hZ (hw _ (List.mem_of_getElem? (i := 58) rfl))) (by decide) (backOf (W := 0) (rm10g l Z aV hw [] w0 a0 v0 vb kw0 kb (11 : Int32) nn [(.int (83 : Int32)), (.int (67 : Int32)), (.int (82 : Int32)), (.int (65 : Int32)), (.int (77 : Int32)), (.int (45 : Int32)), (.int (83 : Int32)), (.int (72 : Int32)), (.int (65 : Int32)), (.int (45 : Int32)), (.int (49 : Int32))] vs cs T1.heap n0 zn1 E_w0 F_value_w0 F_coder_w0 V_v0 E_a0 F_value_a0 F_coder_a0 V_vb S_COMPACT_STRINGS rfl hvl hcs) hZ (hw _ (List.mem_of_getElem? (i := 60) rfl)) (hw _ (List.mem_of_getElem? (i := 8) rfl)) (by decide) (by decide)) q5a q5c (g := (mkF m 25 #[.val (.ref a0), .val (.ref nv_1), .val (.int (2 : Int32)), .val (.int (0 : Int32)), .val (.ref m0)] [(.ref a0), (.ref w0)])) rfl (by rw [hml]; rfl) (Steps.refl _) (argsL := [(.ref a0)]) (rest := []) (lenOf pd__Ljava_lang_Object__Z rfl) rfl (by show 2 * 0 + _ ≤ _; exact Nat.le_of_eq rfl) (hb hby d8_25) (fun _ _ => ⟨rfl, e4, (by decide : 1 + 0 ≤ _), (by decide : 2 + 0 ≤ _)⟩)
  dsimp only [Pt.U, Pt.locs, Pt.cells, Pt.slots] at X5 l5 y5 z5 st5 hQ5
  subst l5 y5 z5
  obtain ⟨rfl, N5q, e5⟩ := hQ5
  have N5 := Fr.app N1 N5q
  refine OGo.go (B := T5.setTop (mkF m 28 #[.val (.ref a0), .val (.ref nv_1), .val (.int (2 : Int32)), .val (.int (0 : Int32)), .val (.ref m0)] [(.int (if [(.int (83 : Int32)), (.int (67 : Int32)), (.int (82 : Int32)), (.int (65 : Int32)), (.int (77 : Int32)), (.int (45 : Int32)), (.int (83 : Int32)), (.int (72 : Int32)), (.int (65 : Int32)), (.int (45 : Int32)), (.int (49 : Int32))] = vs then (1 : Int32) else (0 : Int32)))])) ?_ (fun tX kX => st5.trans kX)
  by_cases hc28 : (if [(.int (83 : Int32)), (.int (67 : Int32)), (.int (82 : Int32)), (.int (65 : Int32)), (.int (77 : Int32)), (.int (45 : Int32)), (.int (83 : Int32)), (.int (72 : Int32)), (.int (65 : Int32)), (.int (45 : Int32)), (.int (49 : Int32))] = vs then (1 : Int32) else (0 : Int32)) = (0 : Int32)
  ·
    refine OGo.go (B := T5.setTop (mkF m 34 #[.val (.ref a0), .val (.ref nv_1), .val (.int (2 : Int32)), .val (.int (0 : Int32)), .val (.ref m0)] [])) ?_ (fun tX kX => XS.ifYes X5.here hx rfl (pc0 := 28) (pc' := 34) rfl (hb hby d8_28) rfl ((if0 _ _).trans (teq hc28).1) (by decide) (by decide) kX)
    refine OGo.go (B := T5.setTop (mkF m 37 #[.val (.ref a0), .val (.ref nv_1), .val (.int (2 : Int32)), .val (.int (1 : Int32)), .val (.ref m0)] [])) ?_ (fun tX kX => XS.iinc X5.here hx rfl (hb hby d8_34) rfl (l' := #[.val (.ref a0), .val (.ref nv_1), .val (.int (2 : Int32)), .val (.int (1 : Int32)), .val (.ref m0)]) rfl kX)
    refine OGo.go (B := T5.setTop (mkF m 9 #[.val (.ref a0), .val (.ref nv_1), .val (.int (2 : Int32)), .val (.int (1 : Int32)), .val (.ref m0)] [])) ?_ (fun tX kX => XS.goto X5.here hx rfl (pc0 := 37) (pc' := 9) rfl (hb hby d8_37) (by decide) (by decide) kX)
    refine OGo.go (B := T5.setTop (mkF m 10 #[.val (.ref a0), .val (.ref nv_1), .val (.int (2 : Int32)), .val (.int (1 : Int32)), .val (.ref m0)] [(.int (1 : Int32))])) ?_ (fun tX kX => XS.iloadN X5.here hx rfl (hb hby d8_9) rfl kX)
    refine OGo.go (B := T5.setTop (mkF m 11 #[.val (.ref a0), .val (.ref nv_1), .val (.int (2 : Int32)), .val (.int (1 : Int32)), .val (.ref m0)] [(.int (2 : Int32)), (.int (1 : Int32))])) ?_ (fun tX kX => XS.iloadN X5.here hx rfl (hb hby d8_10) rfl kX)
    refine OGo.go (B := T5.setTop (mkF m 14 #[.val (.ref a0), .val (.ref nv_1), .val (.int (2 : Int32)), .val (.int (1 : Int32)), .val (.ref m0)] [])) ?_ (fun tX kX => XS.icmpNo X5.here hx rfl (hb hby d8_11) rfl (tlt (by decide)).2.1 kX)
    refine OGo.go (B := T5.setTop (mkF m 15 #[.val (.ref a0), .val (.ref nv_1), .val (.int (2 : Int32)), .val (.int (1 : Int32)), .val (.ref m0)] [(.ref nv_1)])) ?_ (fun tX kX => XS.aloadN X5.here hx rfl (hb hby d8_14) rfl rfl kX)
    refine OGo.go (B := T5.setTop (mkF m 16 #[.val (.ref a0), .val (.ref nv_1), .val (.int (2 : Int32)), .val (.int (1 : Int32)), .val (.ref m0)] [(.int (1 : Int32)), (.ref nv_1)])) ?_ (fun tX kX => XS.iloadN X5.here hx rfl (hb hby d8_15) rfl kX)
    obtain ⟨cl6, Ar6, qa6, S6, N6', H6, G6⟩ := id V_nv_1
    have hin6 := inb_of (j := (1 : Int32)) S6 ⟨by decide, by decide⟩
    have hat6 := H6.at (v := (.ref m1)) hin6 rfl
    refine OGo.go (B := T5.setTop (mkF m 17 #[.val (.ref a0), .val (.ref nv_1), .val (.int (2 : Int32)), .val (.int (1 : Int32)), .val (.ref m0)] [(.ref m1)])) ?_ (fun tX kX => X5.aaload hx (j := (1 : Int32)) (v := (.ref m1)) (by rw [e5]; exact Ar6.1) (State.isArrayOf_alike hZ.alike Ar6.2.1) rfl Ar6.2.2 hin6 hat6 (g := (mkF m 16 #[.val (.ref a0), .val (.ref nv_1), .val (.int (2 : Int32)), .val (.int (1 : Int32)), .val (.ref m0)] [(.int (1 : Int32)), (.ref nv_1)])) rfl rfl (hb hby d8_16) _ kX)
    refine OGo.go (B := T5.setTop (mkF m 19 #[.val (.ref a0), .val (.ref nv_1), .val (.int (2 : Int32)), .val (.int (1 : Int32)), .val (.ref m1)] [])) ?_ (fun tX kX => XS.astore X5.here hx rfl (hb hby d8_17) rfl rfl (l' := #[.val (.ref a0), .val (.ref nv_1), .val (.int (2 : Int32)), .val (.int (1 : Int32)), .val (.ref m1)]) rfl kX)
    refine OGo.go (B := T5.setTop (mkF m 21 #[.val (.ref a0), .val (.ref nv_1), .val (.int (2 : Int32)), .val (.int (1 : Int32)), .val (.ref m1)] [(.ref m1)])) ?_ (fun tX kX => XS.aload X5.here hx rfl (hb hby d8_19) rfl rfl kX)
    obtain ⟨T7, X7, e7, st7⟩ := getF X5 hx hZ hown (host := "") (Or.inl (hw _ (List.mem_of_getElem? (i := 54) rfl))) Via.refl e5 F_wireName_m1 (g := (mkF m 21 #[.val (.ref a0), .val (.ref nv_1), .val (.int (2 : Int32)), .val (.int (1 : Int32)), .val (.ref m1)] [(.ref m1)])) rfl rfl (hb hby d8_21)
    refine OGo.go (B := T7.setTop (mkF m 24 #[.val (.ref a0), .val (.ref nv_1), .val (.int (2 : Int32)), .val (.int (1 : Int32)), .val (.ref m1)] [(.ref w1)])) ?_ st7
    refine OGo.go (B := T7.setTop (mkF m 25 #[.val (.ref a0), .val (.ref nv_1), .val (.int (2 : Int32)), .val (.int (1 : Int32)), .val (.ref m1)] [(.ref a0), (.ref w1)])) ?_ (fun tX kX => XS.aloadN X7.here hx rfl (hb hby d8_24) rfl rfl kX)
    obtain ⟨cq8, kq8, q8a, q8b, q8c⟩ := isOf hZ e7 E_w1
    obtain ⟨_, _, ⟨T8, L8, k8, n8⟩, -, X8, ⟨Lc8, hQ8, l8, y8, z8⟩, st8⟩ := X7.virtualBack hx (y := (⟨"java/lang/String", "equals", "(Ljava/lang/Object;)Z"⟩ : MethodName)) (z := (⟨"java/lang/String", "equals", "(Ljava/lang/Object;)Z"⟩ : MethodName)) hown (mvT hZ (hw _ (List.mem_of_getElem? (i := 56) rfl))) (mvT hZ (hw _ (List.mem_of_getElem? (i := 57) rfl))) (notFace_of_selects (args := #[]) (mvT hZ (hw _ (List.mem_of_getElem? (i := 59) rfl)))) (mvT hZ (hw _ (List.mem_of_getElem? (i := 59) rfl))) (mvT hZ (hw _ (List.mem_of_getElem? (i := 58) rfl))) (by decide) (backOf (W := 0) (rm10g l Z aV hw [] w1 a0 v1 vb kw1 kb (5 : Int32) nn [(.int (80 : Int32)), (.int (76 : Int32)), (.int (65 : Int32)), (.int (73 : Int32)), (.int (78 : Int32))] vs cs T1.heap n0 zn1 E_w1 F_value_w1 F_coder_w1 V_v1 E_a0 F_value_a0 F_coder_a0 V_vb S_COMPACT_STRINGS rfl hvl hcs) hZ (hw _ (List.mem_of_getElem? (i := 60) rfl)) (hw _ (List.mem_of_getElem? (i := 8) rfl)) (by decide) (by decide)) q8a q8c (g := (mkF m 25 #[.val (.ref a0), .val (.ref nv_1), .val (.int (2 : Int32)), .val (.int (1 : Int32)), .val (.ref m1)] [(.ref a0), (.ref w1)])) rfl (by rw [hml]; rfl) (Steps.refl _) (argsL := [(.ref a0)]) (rest := []) (lenOf pd__Ljava_lang_Object__Z rfl) rfl (by show 2 * 0 + _ ≤ _; exact Nat.le_of_eq rfl) (hb hby d8_25) (fun _ _ => ⟨rfl, e7, (by decide : 1 + 0 ≤ _), (by decide : 2 + 0 ≤ _)⟩)
    dsimp only [Pt.U, Pt.locs, Pt.cells, Pt.slots] at X8 l8 y8 z8 st8 hQ8
    subst l8 y8 z8
    obtain ⟨rfl, N8q, e8⟩ := hQ8
    have N8 := Fr.app N5 N8q
    refine OGo.go (B := T8.setTop (mkF m 28 #[.val (.ref a0), .val (.ref nv_1), .val (.int (2 : Int32)), .val (.int (1 : Int32)), .val (.ref m1)] [(.int (if [(.int (80 : Int32)), (.int (76 : Int32)), (.int (65 : Int32)), (.int (73 : Int32)), (.int (78 : Int32))] = vs then (1 : Int32) else (0 : Int32)))])) ?_ (fun tX kX => st8.trans kX)
    by_cases hc28_1 : (if [(.int (80 : Int32)), (.int (76 : Int32)), (.int (65 : Int32)), (.int (73 : Int32)), (.int (78 : Int32))] = vs then (1 : Int32) else (0 : Int32)) = (0 : Int32)
    ·
      refine OGo.go (B := T8.setTop (mkF m 34 #[.val (.ref a0), .val (.ref nv_1), .val (.int (2 : Int32)), .val (.int (1 : Int32)), .val (.ref m1)] [])) ?_ (fun tX kX => XS.ifYes X8.here hx rfl (pc0 := 28) (pc' := 34) rfl (hb hby d8_28) rfl ((if0 _ _).trans (teq hc28_1).1) (by decide) (by decide) kX)
      refine OGo.go (B := T8.setTop (mkF m 37 #[.val (.ref a0), .val (.ref nv_1), .val (.int (2 : Int32)), .val (.int (2 : Int32)), .val (.ref m1)] [])) ?_ (fun tX kX => XS.iinc X8.here hx rfl (hb hby d8_34) rfl (l' := #[.val (.ref a0), .val (.ref nv_1), .val (.int (2 : Int32)), .val (.int (2 : Int32)), .val (.ref m1)]) rfl kX)
      refine OGo.go (B := T8.setTop (mkF m 9 #[.val (.ref a0), .val (.ref nv_1), .val (.int (2 : Int32)), .val (.int (2 : Int32)), .val (.ref m1)] [])) ?_ (fun tX kX => XS.goto X8.here hx rfl (pc0 := 37) (pc' := 9) rfl (hb hby d8_37) (by decide) (by decide) kX)
      refine OGo.go (B := T8.setTop (mkF m 10 #[.val (.ref a0), .val (.ref nv_1), .val (.int (2 : Int32)), .val (.int (2 : Int32)), .val (.ref m1)] [(.int (2 : Int32))])) ?_ (fun tX kX => XS.iloadN X8.here hx rfl (hb hby d8_9) rfl kX)
      refine OGo.go (B := T8.setTop (mkF m 11 #[.val (.ref a0), .val (.ref nv_1), .val (.int (2 : Int32)), .val (.int (2 : Int32)), .val (.ref m1)] [(.int (2 : Int32)), (.int (2 : Int32))])) ?_ (fun tX kX => XS.iloadN X8.here hx rfl (hb hby d8_10) rfl kX)
      refine OGo.go (B := T8.setTop (mkF m 40 #[.val (.ref a0), .val (.ref nv_1), .val (.int (2 : Int32)), .val (.int (2 : Int32)), .val (.ref m1)] [])) ?_ (fun tX kX => XS.icmpYes X8.here hx rfl (pc0 := 11) (pc' := 40) rfl (hb hby d8_11) rfl (flt (by decide)).2.1 (by decide) (by decide) kX)
      refine OGo.go (B := T8.setTop (mkF m 41 #[.val (.ref a0), .val (.ref nv_1), .val (.int (2 : Int32)), .val (.int (2 : Int32)), .val (.ref m1)] [.null])) ?_ (fun tX kX => XS.aconstNull X8.here hx rfl (hb hby d8_40) kX)
      refine OGo.ret X8 (v := (some .null)) (fun h => by rw [Bd.returns] at h; cases h) (BodyLoose.notSynchronized Bd) (fun fs hr => retOut X8 hx Bd.returns rfl (Or.inr (Or.inr (Or.inr (Or.inr ⟨rfl, rfl, rfl⟩)))) (hb hby d8_41) hr) (Q := Q8s Z a0 uv kv m0 m1 w0 w1 v0 v1 kw0 kw1 vb kb nn vs cs h0 n0) ?_ (by decide) (by decide)
      show Q8s Z a0 uv kv m0 m1 w0 w1 v0 v1 kw0 kw1 vb kb nn vs cs h0 n0 _ T8.heap _
      rw [e8]
      exact ⟨(congrArg some (own_resN (fun q => own_i0 hc28 q.symm) (fun q => own_i0 hc28_1 q.symm))), N8, K1⟩
    ·
      refine OGo.go (B := T8.setTop (mkF m 31 #[.val (.ref a0), .val (.ref nv_1), .val (.int (2 : Int32)), .val (.int (1 : Int32)), .val (.ref m1)] [])) ?_ (fun tX kX => XS.ifNo X8.here hx rfl (hb hby d8_28) rfl ((if0 _ _).trans (feq hc28_1).1) kX)
      refine OGo.go (B := T8.setTop (mkF m 33 #[.val (.ref a0), .val (.ref nv_1), .val (.int (2 : Int32)), .val (.int (1 : Int32)), .val (.ref m1)] [(.ref m1)])) ?_ (fun tX kX => XS.aload X8.here hx rfl (hb hby d8_31) rfl rfl kX)
      refine OGo.ret X8 (v := (some (.ref m1))) (fun h => by rw [Bd.returns] at h; cases h) (BodyLoose.notSynchronized Bd) (fun fs hr => retOut X8 hx Bd.returns rfl (Or.inr (Or.inr (Or.inr (Or.inr ⟨rfl, rfl, rfl⟩)))) (hb hby d8_33) hr) (Q := Q8s Z a0 uv kv m0 m1 w0 w1 v0 v1 kw0 kw1 vb kb nn vs cs h0 n0) ?_ (by decide) (by decide)
      show Q8s Z a0 uv kv m0 m1 w0 w1 v0 v1 kw0 kw1 vb kb nn vs cs h0 n0 _ T8.heap _
      rw [e8]
      exact ⟨(congrArg some (own_resP (own_i1 hc28_1).symm)), N8, K1⟩
  ·
    refine OGo.go (B := T5.setTop (mkF m 31 #[.val (.ref a0), .val (.ref nv_1), .val (.int (2 : Int32)), .val (.int (0 : Int32)), .val (.ref m0)] [])) ?_ (fun tX kX => XS.ifNo X5.here hx rfl (hb hby d8_28) rfl ((if0 _ _).trans (feq hc28).1) kX)
    refine OGo.go (B := T5.setTop (mkF m 33 #[.val (.ref a0), .val (.ref nv_1), .val (.int (2 : Int32)), .val (.int (0 : Int32)), .val (.ref m0)] [(.ref m0)])) ?_ (fun tX kX => XS.aload X5.here hx rfl (hb hby d8_31) rfl rfl kX)
    refine OGo.ret X5 (v := (some (.ref m0))) (fun h => by rw [Bd.returns] at h; cases h) (BodyLoose.notSynchronized Bd) (fun fs hr => retOut X5 hx Bd.returns rfl (Or.inr (Or.inr (Or.inr (Or.inr ⟨rfl, rfl, rfl⟩)))) (hb hby d8_33) hr) (Q := Q8s Z a0 uv kv m0 m1 w0 w1 v0 v1 kw0 kw1 vb kb nn vs cs h0 n0) ?_ (by decide) (by decide)
    show Q8s Z a0 uv kv m0 m1 w0 w1 v0 v1 kw0 kw1 vb kb nn vs cs h0 n0 _ T5.heap _
    rw [e5]
    exact ⟨(congrArg some (own_resS (own_i1 hc28).symm)), N5, K1⟩
theorem d12_6 : decode method_4_code 6 = .ok (.aload_n 0, 1) := by decide +kernel
theorem d12_7 : decode method_4_code 7 = .ok (.ldc 30, 2) := by decide +kernel
theorem d12_9 : decode method_4_code 9 = .ok (.invokevirtual 32, 3) := by decide +kernel
theorem d12_12 : decode method_4_code 12 = .ok (.ifCond .eq 7, 3) := by decide +kernel
theorem d12_19 : decode method_4_code 19 = .ok (.aload_n 0, 1) := by decide +kernel
theorem d12_20 : decode method_4_code 20 = .ok (.ldc 40, 2) := by decide +kernel
theorem d12_22 : decode method_4_code 22 = .ok (.invokevirtual 32, 3) := by decide +kernel
theorem d12_25 : decode method_4_code 25 = .ok (.ifCond .eq 7, 3) := by decide +kernel
theorem d12_32 : decode method_4_code 32 = .ok (.aconst_null, 1) := by decide +kernel
theorem d12_33 : decode method_4_code 33 = .ok (.areturn, 1) := by decide +kernel
theorem d12_28 : decode method_4_code 28 = .ok (.getstatic 42, 3) := by decide +kernel
theorem d12_31 : decode method_4_code 31 = .ok (.areturn, 1) := by decide +kernel
theorem d12_15 : decode method_4_code 15 = .ok (.getstatic 36, 3) := by decide +kernel
theorem d12_18 : decode method_4_code 18 = .ok (.areturn, 1) := by decide +kernel
def Q12s (Z : State) (a0 : Addr) (m0 : Addr) (m1 : Addr) (vb : Addr) (kb : ClassId) (nn : Int32) (vs : List Value) (cs : Int32) (h0 : Heap) (n0 : Nat) (v : Option Value) (h : Heap) (L : List Loc) : Prop := v = some (own_res vs m0 m1) ∧ Fr n0 L ∧ Keep h0 h []
def P12s (Z : State) (a0 : Addr) (m0 : Addr) (m1 : Addr) (vb : Addr) (kb : ClassId) (nn : Int32) (vs : List Value) (cs : Int32) (h0 : Heap) (n0 : Nat) (s : State) (o : Outcome) (U' : State) : Prop := ∃ v L, o = .returned v ∧ Q12s Z a0 m0 m1 vb kb nn vs cs h0 n0 v U'.heap L ∧ CHr Z own_EL s.vm s.heap U'.vm U'.heap ∧ ReturnedEndW s o U' L ({ frames := 2, cells := 4, slots := 72, locals := 28 } : Room).cells ({ frames := 2, cells := 4, slots := 72, locals := 28 } : Room).slots
set_option maxRecDepth 65536 in
set_option maxHeartbeats 40000000 in
theorem rm12s (l : Launch) (Z : State) (aV : Array Value) (hw : ∀ d ∈ tables_1, d.before aV Z = true) (ws : List Jvm.Cond) (a0 : Addr) (m0 : Addr) (m1 : Addr) (vb : Addr) (kb : ClassId) (nn : Int32) (vs : List Value) (cs : Int32) (h0 : Heap) (n0 : Nat) (Z0 : n0 ≤ h0.size) (S_SCRAM_SHA_1 : Sta Z h0 "com/example/hushlist/hushlist/server/SaslMechanism" "SCRAM_SHA_1" "Lcom/example/hushlist/hushlist/server/SaslMechanism;" (.ref m0)) (S_PLAIN : Sta Z h0 "com/example/hushlist/hushlist/server/SaslMechanism" "PLAIN" "Lcom/example/hushlist/hushlist/server/SaslMechanism;" (.ref m1)) (E_a0 : Exa Z h0 a0 "java/lang/String") (F_value_a0 : Fld Z h0 a0 "java/lang/String" "value" "[B" (.ref vb)) (F_coder_a0 : Fld Z h0 a0 "java/lang/String" "coder" "B" (.int (0 : Int32))) (V_vb : Arv Z h0 vb kb .byte nn vs (.int (0 : Int32))) (S_COMPACT_STRINGS : Sta Z h0 "java/lang/String" "COMPACT_STRINGS" "Z" (.int cs)) (hcs : ¬ cs = 0) (hvl : vs.length = nn.toNatClampNeg) :
    MetFree l (⟨"com/example/hushlist/hushlist/server/SaslMechanismNamedPinLaw", "expected", "(Ljava/lang/String;)Lcom/example/hushlist/hushlist/server/SaslMechanism;"⟩ : MethodName) (head1 (Jvm.Cond.code (⟨"com/example/hushlist/hushlist/server/SaslMechanismNamedPinLaw", "expected", "(Ljava/lang/String;)Lcom/example/hushlist/hushlist/server/SaslMechanism;"⟩ : MethodName) method_4_code 1 (some (.object "com/example/hushlist/hushlist/server/SaslMechanism")) :: ws) ({ frames := 2, cells := 4, slots := 72, locals := 28 } : Room)) (fun a U => a = #[(.ref a0)] ∧ Z.Warmed39 U.vm ∧ U.heap = h0 ∧ CHv Z own_EL U.vm h0) (fun _ _ _ _ _ => True) (fun _ U o U' => ∃ v L, o = .returned v ∧ Q12s Z a0 m0 m1 vb kb nn vs cs h0 n0 v U'.heap L ∧ CHr Z own_EL U.vm U.heap U'.vm U'.heap ∧ ReturnedEndW U o U' L ({ frames := 2, cells := 4, slots := 72, locals := 28 } : Room).cells ({ frames := 2, cells := 4, slots := 72, locals := 28 } : Room).slots) := by
  refine MetFree.of_bodySF (plainFor_of_name pn_com_example_hushlist_hushlist_server_SaslMechanismNamedPinLaw) hisR ?_
  intro p e s m args below meth c s₁ Bd hml0 hP hK
  obtain ⟨rfl, hZ, hh, hCH⟩ := hP
  have hx := Bd.exec
  have hby := Bd.bytes
  have hml : c.maxLocals = 1 := hml0
  have hown : s.vm.findClass "com/example/hushlist/hushlist/server/SaslMechanismNamedPinLaw" = some m.cls := findClass_of_methodNamed Bd.named
  have hnm := (name_of_methodNamed Bd.named Bd.method).1
  have X0 : Stand p l e ({ frames := 2, cells := 4, slots := 72, locals := 28 } : Room) s m #[(.ref a0)] below meth c s₁ [] 0 0 := Stand.of_body Bd
  have e0 : s₁.heap = h0 := by rw [← hh, Bd.state]; rfl
  have X0 : Stand p l e ({ frames := 2, cells := 4, slots := 72, locals := 28 } : Room) (s.setVm s.vm) m #[(.ref a0)] below meth c s₁ [] 0 0 := X0
  have hZ : Z.Warmed39 (s.setVm s.vm).vm := hZ
  have hown : (s.setVm s.vm).vm.findClass "com/example/hushlist/hushlist/server/SaslMechanismNamedPinLaw" = some m.cls := hown
  have hS0 : s.Since s.vm 0 := (State.WarmedH.refl s).since 0
  have hk0 : 0 ≤ h0.size := Nat.zero_le _
  have own_ew := own_ewT hw
  have own_wS := own_wST hw
  have efx : entryFrame m #[(.ref a0)] 1 = mkF m 0 #[.val (.ref a0)] [] := by first | (simp [entryFrame, mkF, argsToLocals, Value.category]; done) | rfl
  have CR0 : CHr Z own_EL s.vm h0 s.vm h0 := CHr.refl hCH
  have N0 := Fr.nil n0
  have K0 : Keep h0 h0 [] := Keep.refl h0 _
  refine OGo.start (g' := mkF m 0 #[.val (.ref a0)] []) (efx) ?_
  show OGo p.tables e below (P12s Z a0 m0 m1 vb kb nn vs cs h0 n0 s) (s₁.setTop (mkF m 0 #[.val (.ref a0)] []))
  refine OGo.go (B := s₁.setTop (mkF m 1 #[.val (.ref a0)] [(.ref a0)])) ?_ (fun tX kX => XS.aloadN X0.here hx rfl (hb hby d12_0) rfl rfl kX)
  refine OGo.go (B := s₁.setTop (mkF m 6 #[.val (.ref a0)] [])) ?_ (fun tX kX => XS.ifnonnullYes X0.here hx rfl (pc0 := 1) (pc' := 6) rfl (hb hby d12_1) rfl (by decide) (by decide) kX)
  refine OGo.go (B := s₁.setTop (mkF m 7 #[.val (.ref a0)] [(.ref a0)])) ?_ (fun tX kX => XS.aloadN X0.here hx rfl (hb hby d12_6) rfl rfl kX)
  obtain ⟨s1, T1, h1, k1, sb1, kk1, X1, e1, E1, hS1, hk1, hZ1, hown1, EA1, FC1, FV1, VA1, -, -, CR1, LT1, SF1, st1⟩ := ldcCH (vs := [(.int (83 : Int32)), (.int (67 : Int32)), (.int (82 : Int32)), (.int (65 : Int32)), (.int (77 : Int32)), (.int (45 : Int32)), (.int (83 : Int32)), (.int (72 : Int32)), (.int (65 : Int32)), (.int (45 : Int32)), (.int (49 : Int32))]) (z := (11 : Int32)) X0 hx hZ hown (hw _ (List.mem_of_getElem? (i := 70) rfl)) own_wS e0 hS0 hk0 own_ew (by decide) hCH ⟨by decide, rfl⟩ (by decide) rfl (g := (mkF m 7 #[.val (.ref a0)] [(.ref a0)])) rfl (hb hby d12_7) (n := 44) (by decide) (by decide) (by decide) (by decide)
  have CRt1 := CR0.trans CR1
  have hCH := CR1.1
  have S_SCRAM_SHA_1 := S_SCRAM_SHA_1.ext E1
  have S_PLAIN := S_PLAIN.ext E1
  have E_a0 := E_a0.ext E1
  have F_value_a0 := F_value_a0.ext E1
  have F_coder_a0 := F_coder_a0.ext E1
  have V_vb := V_vb.ext E1
  have S_COMPACT_STRINGS := S_COMPACT_STRINGS.ext E1
  have zn1 : n0 ≤ h1.size := Nat.le_trans Z0 E1.1
  have K1 := K0.ext E1
  have E_s1 := EA1
  have F_coder_s1 := FC1
  have F_value_s1 := FV1
  have V_sb1 := VA1
  refine OGo.go (B := T1.setTop (mkF m 9 #[.val (.ref a0)] [(.ref s1), (.ref a0)])) ?_ st1
  obtain ⟨cq2, kq2, q2a, q2b, q2c⟩ := isOf hZ1 e1 E_a0
  obtain ⟨_, _, ⟨T2, L2, k2, n2⟩, -, X2, ⟨Lc2, hQ2, l2, y2, z2⟩, st2⟩ := X1.virtualBack hx (y := (⟨"java/lang/String", "equals", "(Ljava/lang/Object;)Z"⟩ : MethodName)) (z := (⟨"java/lang/String", "equals", "(Ljava/lang/Object;)Z"⟩ : MethodName)) hown1 (mvT hZ1 (hw _ (List.mem_of_getElem? (i := 73) rfl))) (mvT hZ1 (hw _ (List.mem_of_getElem? (i := 57) rfl))) (notFace_of_selects (args := #[]) (mvT hZ1 (hw _ (List.mem_of_getElem? (i := 59) rfl)))) (mvT hZ1 (hw _ (List.mem_of_getElem? (i := 59) rfl))) (mvT hZ1 (hw _ (List.mem_of_getElem? (i := 58) rfl))) (by decide) (backOf (W := 0) (rm10g l Z aV hw [] a0 s1 vb sb1 kb kk1 nn (11 : Int32) vs [(.int (83 : Int32)), (.int (67 : Int32)), (.int (82 : Int32)), (.int (65 : Int32)), (.int (77 : Int32)), (.int (45 : Int32)), (.int (83 : Int32)), (.int (72 : Int32)), (.int (65 : Int32)), (.int (45 : Int32)), (.int (49 : Int32))] cs h1 n0 zn1 E_a0 F_value_a0 F_coder_a0 V_vb E_s1 F_value_s1 F_coder_s1 V_sb1 S_COMPACT_STRINGS hvl rfl hcs) hZ1 (hw _ (List.mem_of_getElem? (i := 60) rfl)) (hw _ (List.mem_of_getElem? (i := 8) rfl)) (by decide) (by decide)) q2a q2c (g := (mkF m 9 #[.val (.ref a0)] [(.ref s1), (.ref a0)])) rfl (by rw [hml]; rfl) (Steps.refl _) (argsL := [(.ref s1)]) (rest := []) (lenOf pd__Ljava_lang_Object__Z rfl) rfl (by show 2 * 0 + _ ≤ _; exact Nat.le_of_eq rfl) (hb hby d12_9) (fun _ _ => ⟨rfl, e1, (by decide : 2 + 0 ≤ _), (by decide : 48 + 0 ≤ _)⟩)
  dsimp only [Pt.U, Pt.locs, Pt.cells, Pt.slots] at X2 l2 y2 z2 st2 hQ2
  subst l2 y2 z2
  obtain ⟨rfl, N2q, e2⟩ := hQ2
  have N2 := Fr.app N0 N2q
  refine OGo.go (B := T2.setTop (mkF m 12 #[.val (.ref a0)] [(.int (if vs = [(.int (83 : Int32)), (.int (67 : Int32)), (.int (82 : Int32)), (.int (65 : Int32)), (.int (77 : Int32)), (.int (45 : Int32)), (.int (83 : Int32)), (.int (72 : Int32)), (.int (65 : Int32)), (.int (45 : Int32)), (.int (49 : Int32))] then (1 : Int32) else (0 : Int32)))])) ?_ (fun tX kX => st2.trans kX)
  by_cases hc12 : (if vs = [(.int (83 : Int32)), (.int (67 : Int32)), (.int (82 : Int32)), (.int (65 : Int32)), (.int (77 : Int32)), (.int (45 : Int32)), (.int (83 : Int32)), (.int (72 : Int32)), (.int (65 : Int32)), (.int (45 : Int32)), (.int (49 : Int32))] then (1 : Int32) else (0 : Int32)) = (0 : Int32)
  ·
    refine OGo.go (B := T2.setTop (mkF m 19 #[.val (.ref a0)] [])) ?_ (fun tX kX => XS.ifYes X2.here hx rfl (pc0 := 12) (pc' := 19) rfl (hb hby d12_12) rfl ((if0 _ _).trans (teq hc12).1) (by decide) (by decide) kX)
    refine OGo.go (B := T2.setTop (mkF m 20 #[.val (.ref a0)] [(.ref a0)])) ?_ (fun tX kX => XS.aloadN X2.here hx rfl (hb hby d12_19) rfl rfl kX)
    obtain ⟨s3, T3, h3, k3, sb3, kk3, X3, e3, E3, hS3, hk3, hZ3, hown3, EA3, FC3, FV3, VA3, -, -, CR3, LT3, SF3, st3⟩ := ldcCH (vs := [(.int (80 : Int32)), (.int (76 : Int32)), (.int (65 : Int32)), (.int (73 : Int32)), (.int (78 : Int32))]) (z := (5 : Int32)) X2 hx hZ1 hown1 (hw _ (List.mem_of_getElem? (i := 74) rfl)) own_wS e2 hS1 hk1 own_ew (by decide) hCH ⟨by decide, rfl⟩ (by decide) rfl (g := (mkF m 20 #[.val (.ref a0)] [(.ref a0)])) rfl (hb hby d12_20) (n := 20) (by decide) (by decide) (by decide) (by decide)
    have CRt3 := CRt1.trans CR3
    have hCH := CR3.1
    have S_SCRAM_SHA_1 := S_SCRAM_SHA_1.ext E3
    have S_PLAIN := S_PLAIN.ext E3
    have E_a0 := E_a0.ext E3
    have F_value_a0 := F_value_a0.ext E3
    have F_coder_a0 := F_coder_a0.ext E3
    have V_vb := V_vb.ext E3
    have S_COMPACT_STRINGS := S_COMPACT_STRINGS.ext E3
    have E_s1 := E_s1.ext E3
    have F_coder_s1 := F_coder_s1.ext E3
    have F_value_s1 := F_value_s1.ext E3
    have V_sb1 := V_sb1.ext E3
    have zn3 : n0 ≤ h3.size := Nat.le_trans zn1 E3.1
    have K3 := K1.ext E3
    have E_s3 := EA3
    have F_coder_s3 := FC3
    have F_value_s3 := FV3
    have V_sb3 := VA3
    refine OGo.go (B := T3.setTop (mkF m 22 #[.val (.ref a0)] [(.ref s3), (.ref a0)])) ?_ st3
    obtain ⟨cq4, kq4, q4a, q4b, q4c⟩ := isOf hZ3 e3 E_a0
    obtain ⟨_, _, ⟨T4, L4, k4, n4⟩, -, X4, ⟨Lc4, hQ4, l4, y4, z4⟩, st4⟩ := X3.virtualBack hx (y := (⟨"java/lang/String", "equals", "(Ljava/lang/Object;)Z"⟩ : MethodName)) (z := (⟨"java/lang/String", "equals", "(Ljava/lang/Object;)Z"⟩ : MethodName)) hown3 (mvT hZ3 (hw _ (List.mem_of_getElem? (i := 73) rfl))) (mvT hZ3 (hw _ (List.mem_of_getElem? (i := 57) rfl))) (notFace_of_selects (args := #[]) (mvT hZ3 (hw _ (List.mem_of_getElem? (i := 59) rfl)))) (mvT hZ3 (hw _ (List.mem_of_getElem? (i := 59) rfl))) (mvT hZ3 (hw _ (List.mem_of_getElem? (i := 58) rfl))) (by decide) (backOf (W := 0) (rm10g l Z aV hw [] a0 s3 vb sb3 kb kk3 nn (5 : Int32) vs [(.int (80 : Int32)), (.int (76 : Int32)), (.int (65 : Int32)), (.int (73 : Int32)), (.int (78 : Int32))] cs h3 n0 zn3 E_a0 F_value_a0 F_coder_a0 V_vb E_s3 F_value_s3 F_coder_s3 V_sb3 S_COMPACT_STRINGS hvl rfl hcs) hZ3 (hw _ (List.mem_of_getElem? (i := 60) rfl)) (hw _ (List.mem_of_getElem? (i := 8) rfl)) (by decide) (by decide)) q4a q4c (g := (mkF m 22 #[.val (.ref a0)] [(.ref s3), (.ref a0)])) rfl (by rw [hml]; rfl) (Steps.refl _) (argsL := [(.ref s3)]) (rest := []) (lenOf pd__Ljava_lang_Object__Z rfl) rfl (by show 2 * 0 + _ ≤ _; exact Nat.le_of_eq rfl) (hb hby d12_22) (fun _ _ => ⟨rfl, e3, (by decide : 4 + 0 ≤ _), (by decide : 72 + 0 ≤ _)⟩)
    dsimp only [Pt.U, Pt.locs, Pt.cells, Pt.slots] at X4 l4 y4 z4 st4 hQ4
    subst l4 y4 z4
    obtain ⟨rfl, N4q, e4⟩ := hQ4
    have N4 := Fr.app N2 N4q
    refine OGo.go (B := T4.setTop (mkF m 25 #[.val (.ref a0)] [(.int (if vs = [(.int (80 : Int32)), (.int (76 : Int32)), (.int (65 : Int32)), (.int (73 : Int32)), (.int (78 : Int32))] then (1 : Int32) else (0 : Int32)))])) ?_ (fun tX kX => st4.trans kX)
    by_cases hc25 : (if vs = [(.int (80 : Int32)), (.int (76 : Int32)), (.int (65 : Int32)), (.int (73 : Int32)), (.int (78 : Int32))] then (1 : Int32) else (0 : Int32)) = (0 : Int32)
    ·
      refine OGo.go (B := T4.setTop (mkF m 32 #[.val (.ref a0)] [])) ?_ (fun tX kX => XS.ifYes X4.here hx rfl (pc0 := 25) (pc' := 32) rfl (hb hby d12_25) rfl ((if0 _ _).trans (teq hc25).1) (by decide) (by decide) kX)
      refine OGo.go (B := T4.setTop (mkF m 33 #[.val (.ref a0)] [.null])) ?_ (fun tX kX => XS.aconstNull X4.here hx rfl (hb hby d12_32) kX)
      have CRe := CRt3.trans (CHv.at X4 hZ3 own_ew hCH)
      refine OGo.retWH X4 hS3 (by rw [e4]; exact hk3) (v := (some .null)) (fun h => by rw [Bd.returns] at h; cases h) (BodyLoose.notSynchronized Bd) (fun fs hr => retOut X4 hx Bd.returns rfl (Or.inr (Or.inr (Or.inr (Or.inr ⟨rfl, rfl, rfl⟩)))) (hb hby d12_33) hr) (Q := Q12s Z a0 m0 m1 vb kb nn vs cs h0 n0) ?_ (by rw [hh, e4]; exact CRe) (by decide) (by decide)
      show Q12s Z a0 m0 m1 vb kb nn vs cs h0 n0 _ T4.heap _
      rw [e4]
      exact ⟨(congrArg some (own_resN (own_i0 hc12) (own_i0 hc25))), N4, K3⟩
    ·
      refine OGo.go (B := T4.setTop (mkF m 28 #[.val (.ref a0)] [])) ?_ (fun tX kX => XS.ifNo X4.here hx rfl (hb hby d12_25) rfl ((if0 _ _).trans (feq hc25).1) kX)
      obtain ⟨T5, X5, e5, st5⟩ := getS2 X4 hx hZ3 hown3 (host := "") (Or.inl (hw _ (List.mem_of_getElem? (i := 75) rfl))) Via.refl e4 S_PLAIN (g := (mkF m 28 #[.val (.ref a0)] [])) rfl (hb hby d12_28)
      refine OGo.go (B := T5.setTop (mkF m 31 #[.val (.ref a0)] [(.ref m1)])) ?_ st5
      have CRe := CRt3.trans (CHv.at X5 hZ3 own_ew hCH)
      refine OGo.retWH X5 hS3 (by rw [e5]; exact hk3) (v := (some (.ref m1))) (fun h => by rw [Bd.returns] at h; cases h) (BodyLoose.notSynchronized Bd) (fun fs hr => retOut X5 hx Bd.returns rfl (Or.inr (Or.inr (Or.inr (Or.inr ⟨rfl, rfl, rfl⟩)))) (hb hby d12_31) hr) (Q := Q12s Z a0 m0 m1 vb kb nn vs cs h0 n0) ?_ (by rw [hh, e5]; exact CRe) (by decide) (by decide)
      show Q12s Z a0 m0 m1 vb kb nn vs cs h0 n0 _ T5.heap _
      rw [e5]
      exact ⟨(congrArg some (own_resP (own_i1 hc25))), N4, K3⟩
  ·
    refine OGo.go (B := T2.setTop (mkF m 15 #[.val (.ref a0)] [])) ?_ (fun tX kX => XS.ifNo X2.here hx rfl (hb hby d12_12) rfl ((if0 _ _).trans (feq hc12).1) kX)
    obtain ⟨T6, X6, e6, st6⟩ := getS2 X2 hx hZ1 hown1 (host := "") (Or.inl (hw _ (List.mem_of_getElem? (i := 79) rfl))) Via.refl e2 S_SCRAM_SHA_1 (g := (mkF m 15 #[.val (.ref a0)] [])) rfl (hb hby d12_15)
    refine OGo.go (B := T6.setTop (mkF m 18 #[.val (.ref a0)] [(.ref m0)])) ?_ st6
    have CRe := CRt1.trans (CHv.at X6 hZ1 own_ew hCH)
    refine OGo.retWH X6 hS1 (by rw [e6]; exact hk1) (v := (some (.ref m0))) (fun h => by rw [Bd.returns] at h; cases h) (BodyLoose.notSynchronized Bd) (fun fs hr => retOut X6 hx Bd.returns rfl (Or.inr (Or.inr (Or.inr (Or.inr ⟨rfl, rfl, rfl⟩)))) (hb hby d12_18) hr) (Q := Q12s Z a0 m0 m1 vb kb nn vs cs h0 n0) ?_ (by rw [hh, e6]; exact CRe) (by decide) (by decide)
    show Q12s Z a0 m0 m1 vb kb nn vs cs h0 n0 _ T6.heap _
    rw [e6]
    exact ⟨(congrArg some (own_resS (own_i1 hc12))), N2, K1⟩
theorem d7_0 : decode jdk_52_method_15_code 0 = .ok (.iload_n 1, 1) := by decide +kernel
theorem d7_1 : decode jdk_52_method_15_code 1 = .ok (.aload_n 0, 1) := by decide +kernel
theorem d7_2 : decode jdk_52_method_15_code 2 = .ok (.arraylength, 1) := by decide +kernel
theorem d7_3 : decode jdk_52_method_15_code 3 = .ok (.isub, 1) := by decide +kernel
theorem d7_4 : decode jdk_52_method_15_code 4 = .ok (.bipush 31, 2) := by decide +kernel
theorem d7_6 : decode jdk_52_method_15_code 6 = .ok (.iushr, 1) := by decide +kernel
theorem d7_7 : decode jdk_52_method_15_code 7 = .ok (.i2b, 1) := by decide +kernel
theorem d7_8 : decode jdk_52_method_15_code 8 = .ok (.ireturn, 1) := by decide +kernel
theorem pn_java_lang_StringUTF16 : plainName "java/lang/StringUTF16" = true := by first | (simp [plainName, overriddenIn]; done) | decide +kernel
def Q7 (Z : State) (a0 : Addr) (p1 : Int32) (kb : ClassId) (vs : List Value) (h0 : Heap) (n0 : Nat) (v : Option Value) (h : Heap) (L : List Loc) : Prop := v = some (.int (0 : Int32)) ∧ Fr n0 L ∧ h = h0
def P7 (Z : State) (a0 : Addr) (p1 : Int32) (kb : ClassId) (vs : List Value) (h0 : Heap) (n0 : Nat) (s : State) (o : Outcome) (U' : State) : Prop := ∃ v L, o = .returned v ∧ Q7 Z a0 p1 kb vs h0 n0 v U'.heap L ∧ FrameEnd s o U' L ({ frames := 0, cells := 0, slots := 0, locals := 0 } : Room).cells ({ frames := 0, cells := 0, slots := 0, locals := 0 } : Room).slots
set_option maxRecDepth 65536 in
set_option maxHeartbeats 40000000 in
theorem rm7 (l : Launch) (Z : State) (aV : Array Value) (hw : ∀ d ∈ tables_1, d.before aV Z = true) (ws : List Jvm.Cond) (a0 : Addr) (p1 : Int32) (kb : ClassId) (vs : List Value) (h0 : Heap) (n0 : Nat) (Z0 : n0 ≤ h0.size) (V_a0 : Arv Z h0 a0 kb .byte p1 vs (.int (0 : Int32))) :
    MetFree l (⟨"java/lang/StringUTF16", "coderFromArrayLen", "([BI)B"⟩ : MethodName) (head1 (Jvm.Cond.code (⟨"java/lang/StringUTF16", "coderFromArrayLen", "([BI)B"⟩ : MethodName) jdk_52_method_15_code 2 (some .byte) :: ws) ({ frames := 0, cells := 0, slots := 0, locals := 0 } : Room)) (fun a U => a = #[(.ref a0), (.int p1)] ∧ Z.Warmed39 U.vm ∧ U.heap = h0) (fun _ _ _ _ _ => True) (fun _ U o U' => ∃ v L, o = .returned v ∧ Q7 Z a0 p1 kb vs h0 n0 v U'.heap L ∧ FrameEnd U o U' L ({ frames := 0, cells := 0, slots := 0, locals := 0 } : Room).cells ({ frames := 0, cells := 0, slots := 0, locals := 0 } : Room).slots) := by
  refine MetFree.of_bodySF (plainFor_of_name pn_java_lang_StringUTF16) hisR ?_
  intro p e s m args below meth c s₁ Bd hml0 hP hK
  obtain ⟨rfl, hZ, hh⟩ := hP
  have hx := Bd.exec
  have hby := Bd.bytes
  have hml : c.maxLocals = 2 := hml0
  have hown : s.vm.findClass "java/lang/StringUTF16" = some m.cls := findClass_of_methodNamed Bd.named
  have hnm := (name_of_methodNamed Bd.named Bd.method).1
  have X0 : Stand p l e ({ frames := 0, cells := 0, slots := 0, locals := 0 } : Room) s m #[(.ref a0), (.int p1)] below meth c s₁ [] 0 0 := Stand.of_body Bd
  have e0 : s₁.heap = h0 := by rw [← hh, Bd.state]; rfl
  have efx : entryFrame m #[(.ref a0), (.int p1)] 2 = mkF m 0 #[.val (.ref a0), .val (.int p1)] [] := by first | (simp [entryFrame, mkF, argsToLocals, Value.category]; done) | rfl
  have N0 := Fr.nil n0
  have K0 : Keep h0 h0 [] := Keep.refl h0 _
  refine OGo.start (g' := mkF m 0 #[.val (.ref a0), .val (.int p1)] []) (efx) ?_
  show OGo p.tables e below (P7 Z a0 p1 kb vs h0 n0 s) (s₁.setTop (mkF m 0 #[.val (.ref a0), .val (.int p1)] []))
  refine OGo.go (B := s₁.setTop (mkF m 1 #[.val (.ref a0), .val (.int p1)] [(.int p1)])) ?_ (fun tX kX => XS.iloadN X0.here hx rfl (hb hby d7_0) rfl kX)
  refine OGo.go (B := s₁.setTop (mkF m 2 #[.val (.ref a0), .val (.int p1)] [(.ref a0), (.int p1)])) ?_ (fun tX kX => XS.aloadN X0.here hx rfl (hb hby d7_1) rfl rfl kX)
  obtain ⟨cl1, Ar1, qa1, S1, N1', H1, G1⟩ := id V_a0
  refine OGo.go (B := s₁.setTop (mkF m 3 #[.val (.ref a0), .val (.int p1)] [(.int p1), (.int p1)])) ?_ (fun tX kX => X0.arraylength hx (by rw [e0]; exact Ar1.1) (State.isArrayOf_alike hZ.alike Ar1.2.1) (g := (mkF m 2 #[.val (.ref a0), .val (.int p1)] [(.ref a0), (.int p1)])) rfl rfl (hb hby d7_2) _ (by rw [len_of S1 N1']; exact kX))
  refine OGo.go (B := s₁.setTop (mkF m 4 #[.val (.ref a0), .val (.int p1)] [(.int (p1 - p1))])) ?_ (fun tX kX => XS.isub X0.here hx rfl (hb hby d7_3) rfl kX)
  refine OGo.go (B := s₁.setTop (mkF m 6 #[.val (.ref a0), .val (.int p1)] [(.int (31 : Int32)), (.int (p1 - p1))])) ?_ (fun tX kX => XS.bipush X0.here hx rfl (hb hby d7_4) kX)
  refine OGo.go (B := s₁.setTop (mkF m 7 #[.val (.ref a0), .val (.int p1)] [(.int (((p1 - p1).toUInt32 >>> ((31 : Int32) &&& 31).toUInt32).toInt32))])) ?_ (fun tX kX => XS.iushr X0.here hx rfl (hb hby d7_6) rfl kX)
  refine OGo.go (B := s₁.setTop (mkF m 8 #[.val (.ref a0), .val (.int p1)] [(.int ((((p1 - p1).toUInt32 >>> ((31 : Int32) &&& 31).toUInt32).toInt32).toInt8.toInt32))])) ?_ (fun tX kX => XS.i2b X0.here hx rfl (hb hby d7_7) rfl kX)
  refine OGo.ret X0 (v := (some (.int (((((p1 - p1).toUInt32 >>> ((31 : Int32) &&& 31).toUInt32).toInt32).toInt8.toInt32).toInt8.toInt32)))) (fun h => by rw [Bd.returns] at h; cases h) (BodyLoose.notSynchronized Bd) (fun fs hr => retN X0 hx (t := .byte) (z := ((((p1 - p1).toUInt32 >>> ((31 : Int32) &&& 31).toUInt32).toInt32).toInt8.toInt32)) Bd.returns (by simp) (hb hby d7_8) hr) (Q := Q7 Z a0 p1 kb vs h0 n0) ?_ (by decide) (by decide)
  show Q7 Z a0 p1 kb vs h0 n0 _ s₁.heap _
  rw [e0]
  exact ⟨(congrArg (fun z => some (Value.int z)) (own_coder p1)), N0, rfl⟩
def own_B (vs : List Value) : Prop := ∀ v ∈ vs, ∃ c : Int32, v = .int c ∧ ¬ (255 : Int32) < c
theorem own_Bn : own_B [] := fun _ q => nomatch q
theorem own_Bc {c : Int32} {vs : List Value} (h : ¬ (255 : Int32) < c) (t : own_B vs) : own_B (.int c :: vs) := fun v q => by
  cases q with
  | head => exact ⟨c, rfl, h⟩
  | tail _ q => exact t v q
theorem own_Bget {vs : List Value} {d : Value} (h : own_B vs) {i : Nat} (hi : i < vs.length) : ∃ c : Int32, vs.getD i d = .int c ∧ ¬ (255 : Int32) < c := by
  rw [List.getD_eq_getElem?_getD, List.getElem?_eq_getElem hi]; exact h _ (List.getElem_mem hi)
theorem own_rep {Z : State} {h : Heap} {a : Addr} {k : ClassId} {z : Int32} {d : Value} (F : Arv Z h a k .byte z [] d) : Arv Z h a k .byte z (List.replicate z.toNatClampNeg d) d := F.pad (pad_rep [] d _)
theorem own_pos {n : Int32} (h : (0 : Int32) < n) : ¬ n = 0 := fun q => by subst q; exact absurd h (by decide)
theorem own_sub (n : Int32) : (n - (0 : Int32)) = n := by simp
theorem d6_0 : decode jdk_52_method_21_code 0 = .ok (.iconst 0, 1) := by decide +kernel
theorem d6_1 : decode jdk_52_method_21_code 1 = .ok (.istore 5, 2) := by decide +kernel
theorem d6_3 : decode jdk_52_method_21_code 3 = .ok (.iload 5, 2) := by decide +kernel
theorem d6_5 : decode jdk_52_method_21_code 5 = .ok (.iload 4, 2) := by decide +kernel
theorem d6_7 : decode jdk_52_method_21_code 7 = .ok (.if_icmp .ge 37, 3) := by decide +kernel
theorem d6_44 : decode jdk_52_method_21_code 44 = .ok (.iload 4, 2) := by decide +kernel
theorem d6_46 : decode jdk_52_method_21_code 46 = .ok (.ireturn, 1) := by decide +kernel
theorem d6_10 : decode jdk_52_method_21_code 10 = .ok (.aload_n 0, 1) := by decide +kernel
theorem d6_11 : decode jdk_52_method_21_code 11 = .ok (.iload_n 1, 1) := by decide +kernel
theorem d6_12 : decode jdk_52_method_21_code 12 = .ok (.caload, 1) := by decide +kernel
theorem d6_13 : decode jdk_52_method_21_code 13 = .ok (.istore 6, 2) := by decide +kernel
theorem d6_15 : decode jdk_52_method_21_code 15 = .ok (.iload 6, 2) := by decide +kernel
theorem d6_17 : decode jdk_52_method_21_code 17 = .ok (.sipush 255, 3) := by decide +kernel
theorem d6_20 : decode jdk_52_method_21_code 20 = .ok (.if_icmp .le 6, 3) := by decide +kernel
theorem d6_26 : decode jdk_52_method_21_code 26 = .ok (.aload_n 2, 1) := by decide +kernel
theorem d6_27 : decode jdk_52_method_21_code 27 = .ok (.iload_n 3, 1) := by decide +kernel
theorem d6_28 : decode jdk_52_method_21_code 28 = .ok (.iload 6, 2) := by decide +kernel
theorem d6_30 : decode jdk_52_method_21_code 30 = .ok (.i2b, 1) := by decide +kernel
theorem d6_31 : decode jdk_52_method_21_code 31 = .ok (.bastore, 1) := by decide +kernel
theorem d6_32 : decode jdk_52_method_21_code 32 = .ok (.iinc 1 1, 3) := by decide +kernel
theorem d6_35 : decode jdk_52_method_21_code 35 = .ok (.iinc 3 1, 3) := by decide +kernel
theorem d6_38 : decode jdk_52_method_21_code 38 = .ok (.iinc 5 1, 3) := by decide +kernel
theorem d6_41 : decode jdk_52_method_21_code 41 = .ok (.goto (-38), 3) := by decide +kernel
def Q6g (Z : State) (a0 : Addr) (a2 : Addr) (nn : Int32) (kc : ClassId) (kb : ClassId) (vs : List Value) (zs : List Value) (h0 : Heap) (n0 : Nat) (v : Option Value) (h : Heap) (L : List Loc) : Prop := ∃ (ys : List Value), v = some (.int nn) ∧ Fr n0 L ∧ Keep h0 h [a2] ∧ Exa Z h a2 "[B" ∧ Arv Z h a2 kb .byte nn ys (.int (0 : Int32)) ∧ ys.length = nn.toNatClampNeg
def P6g (Z : State) (a0 : Addr) (a2 : Addr) (nn : Int32) (kc : ClassId) (kb : ClassId) (vs : List Value) (zs : List Value) (h0 : Heap) (n0 : Nat) (s : State) (o : Outcome) (U' : State) : Prop := ∃ v L, o = .returned v ∧ Q6g Z a0 a2 nn kc kb vs zs h0 n0 v U'.heap L ∧ FrameEnd s o U' L ({ frames := 0, cells := 0, slots := 0, locals := 0 } : Room).cells ({ frames := 0, cells := 0, slots := 0, locals := 0 } : Room).slots
set_option maxRecDepth 65536 in
set_option maxHeartbeats 40000000 in
theorem rm6g (l : Launch) (Z : State) (aV : Array Value) (hw : ∀ d ∈ tables_1, d.before aV Z = true) (ws : List Jvm.Cond) (a0 : Addr) (a2 : Addr) (nn : Int32) (kc : ClassId) (kb : ClassId) (vs : List Value) (zs : List Value) (h0 : Heap) (n0 : Nat) (Z0 : n0 ≤ h0.size) (V_a0 : Arv Z h0 a0 kc .char nn vs (.int (0 : Int32))) (E_a2 : Exa Z h0 a2 "[B") (V_a2 : Arv Z h0 a2 kb .byte nn zs (.int (0 : Int32))) (ga : n0 ≤ a2) (nab : a0 ≠ a2) (hB : own_B vs) (hvl : vs.length = nn.toNatClampNeg) (hzl : zs.length = nn.toNatClampNeg) :
    MetFree l (⟨"java/lang/StringUTF16", "compress", "([CI[BII)I"⟩ : MethodName) (head1 (Jvm.Cond.code (⟨"java/lang/StringUTF16", "compress", "([CI[BII)I"⟩ : MethodName) jdk_52_method_21_code 7 (some .int) :: ws) ({ frames := 0, cells := 0, slots := 0, locals := 0 } : Room)) (fun a U => a = #[(.ref a0), (.int (0 : Int32)), (.ref a2), (.int (0 : Int32)), (.int nn)] ∧ Z.Warmed39 U.vm ∧ U.heap = h0) (fun _ _ _ _ _ => True) (fun _ U o U' => ∃ v L, o = .returned v ∧ Q6g Z a0 a2 nn kc kb vs zs h0 n0 v U'.heap L ∧ FrameEnd U o U' L ({ frames := 0, cells := 0, slots := 0, locals := 0 } : Room).cells ({ frames := 0, cells := 0, slots := 0, locals := 0 } : Room).slots) := by
  refine MetFree.of_bodySF (plainFor_of_name pn_java_lang_StringUTF16) hisR ?_
  intro p e s m args below meth c s₁ Bd hml0 hP hK
  obtain ⟨rfl, hZ, hh⟩ := hP
  have hx := Bd.exec
  have hby := Bd.bytes
  have hml : c.maxLocals = 7 := hml0
  have hown : s.vm.findClass "java/lang/StringUTF16" = some m.cls := findClass_of_methodNamed Bd.named
  have hnm := (name_of_methodNamed Bd.named Bd.method).1
  have X0 : Stand p l e ({ frames := 0, cells := 0, slots := 0, locals := 0 } : Room) s m #[(.ref a0), (.int (0 : Int32)), (.ref a2), (.int (0 : Int32)), (.int nn)] below meth c s₁ [] 0 0 := Stand.of_body Bd
  have e0 : s₁.heap = h0 := by rw [← hh, Bd.state]; rfl
  have efx : entryFrame m #[(.ref a0), (.int (0 : Int32)), (.ref a2), (.int (0 : Int32)), (.int nn)] 7 = mkF m 0 #[.val (.ref a0), .val (.int (0 : Int32)), .val (.ref a2), .val (.int (0 : Int32)), .val (.int nn), .unset, .unset] [] := by first | (simp [entryFrame, mkF, argsToLocals, Value.category]; done) | rfl
  have N0 := Fr.nil n0
  have K0 : Keep h0 h0 [a2] := Keep.refl h0 _
  refine OGo.start (g' := mkF m 0 #[.val (.ref a0), .val (.int (0 : Int32)), .val (.ref a2), .val (.int (0 : Int32)), .val (.int nn), .unset, .unset] []) (efx) ?_
  show OGo p.tables e below (P6g Z a0 a2 nn kc kb vs zs h0 n0 s) (s₁.setTop (mkF m 0 #[.val (.ref a0), .val (.int (0 : Int32)), .val (.ref a2), .val (.int (0 : Int32)), .val (.int nn), .unset, .unset] []))
  refine OGo.go (B := s₁.setTop (mkF m 1 #[.val (.ref a0), .val (.int (0 : Int32)), .val (.ref a2), .val (.int (0 : Int32)), .val (.int nn), .unset, .unset] [(.int (0 : Int32))])) ?_ (fun tX kX => XS.iconst X0.here hx rfl (hb hby d6_0) kX)
  refine OGo.go (B := s₁.setTop (mkF m 3 #[.val (.ref a0), .val (.int (0 : Int32)), .val (.ref a2), .val (.int (0 : Int32)), .val (.int nn), .val (.int (0 : Int32)), .unset] [])) ?_ (fun tX kX => XS.istore X0.here hx rfl (hb hby d6_1) rfl (l' := #[.val (.ref a0), .val (.int (0 : Int32)), .val (.ref a2), .val (.int (0 : Int32)), .val (.int nn), .val (.int (0 : Int32)), .unset]) rfl kX)
  have J3 : ∀ (kq : Nat) (TJ3 : State) (LJ3 : List Loc) (hJ3 : Heap) (iv : Int32) (lc : Slot) (ys : List Value), (Stand p l e ({ frames := 0, cells := 0, slots := 0, locals := 0 } : Room) s m #[(.ref a0), (.int (0 : Int32)), (.ref a2), (.int (0 : Int32)), (.int nn)] below meth c TJ3 LJ3 0 0) → (TJ3.heap = hJ3) → (Fr n0 LJ3) → (n0 ≤ hJ3.size) → (Keep h0 hJ3 [a2]) → (Arv Z hJ3 a0 kc .char nn vs (.int (0 : Int32))) → (Exa Z hJ3 a2 "[B") → (Arv Z hJ3 a2 kb .byte nn ys (.int (0 : Int32))) → (ys.length = nn.toNatClampNeg) → (nn.toNatClampNeg = iv.toNatClampNeg + kq) → (¬ iv < 0) → (¬ nn < iv) → (lc = .unset ∨ ∃ x : Int32, lc = .val (.int x)) → OGo p.tables e below (P6g Z a0 a2 nn kc kb vs zs h0 n0 s) (TJ3.setTop (mkF m 3 #[.val (.ref a0), .val (.int iv), .val (.ref a2), .val (.int iv), .val (.int nn), .val (.int iv), lc] [])) := by
    intro kq
    induction kq with
    | zero =>
      intro TJ3 LJ3 hJ3 iv lc ys XJ3 eJ3 NJ3 znJ3 KJ3 V_a0 E_a2 V_a2 hyl hk1 hk2 hk3 hlc
      refine OGo.go (B := TJ3.setTop (mkF m 5 #[.val (.ref a0), .val (.int iv), .val (.ref a2), .val (.int iv), .val (.int nn), .val (.int iv), lc] [(.int iv)])) ?_ (fun tX kX => XS.iload XJ3.here hx rfl (hb hby d6_3) rfl kX)
      refine OGo.go (B := TJ3.setTop (mkF m 7 #[.val (.ref a0), .val (.int iv), .val (.ref a2), .val (.int iv), .val (.int nn), .val (.int iv), lc] [(.int nn), (.int iv)])) ?_ (fun tX kX => XS.iload XJ3.here hx rfl (hb hby d6_5) rfl kX)
      refine OGo.go (B := TJ3.setTop (mkF m 44 #[.val (.ref a0), .val (.int iv), .val (.ref a2), .val (.int iv), .val (.int nn), .val (.int iv), lc] [])) ?_ (fun tX kX => XS.icmpYes XJ3.here hx rfl (pc0 := 7) (pc' := 44) rfl (hb hby d6_7) rfl (flt (fun q => absurd (own_natlt hk2 q) (by omega))).2.1 (by decide) (by decide) kX)
      refine OGo.go (B := TJ3.setTop (mkF m 46 #[.val (.ref a0), .val (.int iv), .val (.ref a2), .val (.int iv), .val (.int nn), .val (.int iv), lc] [(.int nn)])) ?_ (fun tX kX => XS.iload XJ3.here hx rfl (hb hby d6_44) rfl kX)
      refine OGo.ret XJ3 (v := (some (.int nn))) (fun h => by rw [Bd.returns] at h; cases h) (BodyLoose.notSynchronized Bd) (fun fs hr => retOut XJ3 hx Bd.returns rfl (Or.inl ⟨rfl, Or.inl rfl, _, rfl⟩) (hb hby d6_46) hr) (Q := Q6g Z a0 a2 nn kc kb vs zs h0 n0) ?_ (by decide) (by decide)
      show Q6g Z a0 a2 nn kc kb vs zs h0 n0 _ TJ3.heap _
      rw [eJ3]
      exact ⟨ys, rfl, NJ3, KJ3, E_a2, V_a2, hyl⟩
    | succ kq ih =>
      intro TJ3 LJ3 hJ3 iv lc ys XJ3 eJ3 NJ3 znJ3 KJ3 V_a0 E_a2 V_a2 hyl hk1 hk2 hk3 hlc
      rcases hlc with rfl | ⟨x6, rfl⟩
      ·
        refine OGo.go (B := TJ3.setTop (mkF m 5 #[.val (.ref a0), .val (.int iv), .val (.ref a2), .val (.int iv), .val (.int nn), .val (.int iv), .unset] [(.int iv)])) ?_ (fun tX kX => XS.iload XJ3.here hx rfl (hb hby d6_3) rfl kX)
        refine OGo.go (B := TJ3.setTop (mkF m 7 #[.val (.ref a0), .val (.int iv), .val (.ref a2), .val (.int iv), .val (.int nn), .val (.int iv), .unset] [(.int nn), (.int iv)])) ?_ (fun tX kX => XS.iload XJ3.here hx rfl (hb hby d6_5) rfl kX)
        have hin6 : iv < nn := Decidable.byContradiction fun q => by have := own_natge q; omega
        have hn0 := own_nn V_a2
        obtain ⟨xv, hxv, hxl⟩ := own_Bget (d := (.int (0 : Int32))) hB (i := iv.toNatClampNeg) (by rw [hvl]; exact own_natlt hk2 hin6)
        refine OGo.go (B := TJ3.setTop (mkF m 10 #[.val (.ref a0), .val (.int iv), .val (.ref a2), .val (.int iv), .val (.int nn), .val (.int iv), .unset] [])) ?_ (fun tX kX => XS.icmpNo XJ3.here hx rfl (hb hby d6_7) rfl (tlt hin6).2.1 kX)
        refine OGo.go (B := TJ3.setTop (mkF m 11 #[.val (.ref a0), .val (.int iv), .val (.ref a2), .val (.int iv), .val (.int nn), .val (.int iv), .unset] [(.ref a0)])) ?_ (fun tX kX => XS.aloadN XJ3.here hx rfl (hb hby d6_10) rfl rfl kX)
        refine OGo.go (B := TJ3.setTop (mkF m 12 #[.val (.ref a0), .val (.int iv), .val (.ref a2), .val (.int iv), .val (.int nn), .val (.int iv), .unset] [(.int iv), (.ref a0)])) ?_ (fun tX kX => XS.iloadN XJ3.here hx rfl (hb hby d6_11) rfl kX)
        obtain ⟨cl1, Ar1, qa1, S1, N1', H1, G1⟩ := id V_a0
        have hin1 := inb_of (j := iv) S1 ⟨hk2, hin6⟩
        have hat1 := H1.at (v := (.int xv)) hin1 hxv
        refine OGo.go (B := TJ3.setTop (mkF m 13 #[.val (.ref a0), .val (.int iv), .val (.ref a2), .val (.int iv), .val (.int nn), .val (.int iv), .unset] [(.int xv)])) ?_ (fun tX kX => XJ3.caload hx (j := iv) (v := (.int xv)) (by rw [eJ3]; exact Ar1.1) (State.isArrayOf_alike hZ.alike Ar1.2.1) Ar1.2.2 hin1 hat1 (g := (mkF m 12 #[.val (.ref a0), .val (.int iv), .val (.ref a2), .val (.int iv), .val (.int nn), .val (.int iv), .unset] [(.int iv), (.ref a0)])) rfl rfl (hb hby d6_12) _ kX)
        refine OGo.go (B := TJ3.setTop (mkF m 15 #[.val (.ref a0), .val (.int iv), .val (.ref a2), .val (.int iv), .val (.int nn), .val (.int iv), .val (.int xv)] [])) ?_ (fun tX kX => XS.istore XJ3.here hx rfl (hb hby d6_13) rfl (l' := #[.val (.ref a0), .val (.int iv), .val (.ref a2), .val (.int iv), .val (.int nn), .val (.int iv), .val (.int xv)]) rfl kX)
        refine OGo.go (B := TJ3.setTop (mkF m 17 #[.val (.ref a0), .val (.int iv), .val (.ref a2), .val (.int iv), .val (.int nn), .val (.int iv), .val (.int xv)] [(.int xv)])) ?_ (fun tX kX => XS.iload XJ3.here hx rfl (hb hby d6_15) rfl kX)
        refine OGo.go (B := TJ3.setTop (mkF m 20 #[.val (.ref a0), .val (.int iv), .val (.ref a2), .val (.int iv), .val (.int nn), .val (.int iv), .val (.int xv)] [(.int (255 : Int32)), (.int xv)])) ?_ (fun tX kX => XS.sipush XJ3.here hx rfl (hb hby d6_17) kX)
        refine OGo.go (B := TJ3.setTop (mkF m 26 #[.val (.ref a0), .val (.int iv), .val (.ref a2), .val (.int iv), .val (.int nn), .val (.int iv), .val (.int xv)] [])) ?_ (fun tX kX => XS.icmpYes XJ3.here hx rfl (pc0 := 20) (pc' := 26) rfl (hb hby d6_20) rfl (flt hxl).2.2.2 (by decide) (by decide) kX)
        refine OGo.go (B := TJ3.setTop (mkF m 27 #[.val (.ref a0), .val (.int iv), .val (.ref a2), .val (.int iv), .val (.int nn), .val (.int iv), .val (.int xv)] [(.ref a2)])) ?_ (fun tX kX => XS.aloadN XJ3.here hx rfl (hb hby d6_26) rfl rfl kX)
        refine OGo.go (B := TJ3.setTop (mkF m 28 #[.val (.ref a0), .val (.int iv), .val (.ref a2), .val (.int iv), .val (.int nn), .val (.int iv), .val (.int xv)] [(.int iv), (.ref a2)])) ?_ (fun tX kX => XS.iloadN XJ3.here hx rfl (hb hby d6_27) rfl kX)
        refine OGo.go (B := TJ3.setTop (mkF m 30 #[.val (.ref a0), .val (.int iv), .val (.ref a2), .val (.int iv), .val (.int nn), .val (.int iv), .val (.int xv)] [(.int xv), (.int iv), (.ref a2)])) ?_ (fun tX kX => XS.iload XJ3.here hx rfl (hb hby d6_28) rfl kX)
        refine OGo.go (B := TJ3.setTop (mkF m 31 #[.val (.ref a0), .val (.int iv), .val (.ref a2), .val (.int iv), .val (.int nn), .val (.int iv), .val (.int xv)] [(.int (xv.toInt8.toInt32)), (.int iv), (.ref a2)])) ?_ (fun tX kX => XS.i2b XJ3.here hx rfl (hb hby d6_30) rfl kX)
        obtain ⟨cl2, Ar2, qa2, S2, N2', H2, G2⟩ := id V_a2
        have hin2 := inb_of (j := iv) S2 ⟨hk2, hin6⟩
        obtain ⟨T2, h2, X2, e2, W2, st2⟩ := stB XJ3 hx hZ eJ3 Ar2 (j := iv) hin2 (g := (mkF m 31 #[.val (.ref a0), .val (.int iv), .val (.ref a2), .val (.int iv), .val (.int nn), .val (.int iv), .val (.int xv)] [(.int (xv.toInt8.toInt32)), (.int iv), (.ref a2)])) rfl rfl (hb hby d6_31)
        have V_a2_2 := Arv.set Ar2 qa2 S2 N2' H2 G2 (fits_nar_byte _) W2 iv.toNatClampNeg rfl (by rw [hyl]; exact own_natlt hk2 hin6)
        have V_a0 := V_a0.other W2 nab
        have E_a2 := E_a2.wr W2
        have K2 := KJ3.wr W2 (Or.inl (List.mem_of_getElem? (i := 0) rfl))
        have zn2 : n0 ≤ h2.size := Nat.le_trans znJ3 (Keep.of_wr W2).1
        have N2 := Fr.snoc X2 NJ3 ga
        have V_a2 : Arv Z h2 a2 kb .byte nn (ys.set iv.toNatClampNeg (.int ((xv.toInt8.toInt32).toInt8.toInt32))) (.int (0 : Int32)) := V_a2_2
        refine OGo.go (B := T2.setTop (mkF m 32 #[.val (.ref a0), .val (.int iv), .val (.ref a2), .val (.int iv), .val (.int nn), .val (.int iv), .val (.int xv)] [])) ?_ st2
        refine OGo.go (B := T2.setTop (mkF m 35 #[.val (.ref a0), .val (.int (iv + (1 : Int32))), .val (.ref a2), .val (.int iv), .val (.int nn), .val (.int iv), .val (.int xv)] [])) ?_ (fun tX kX => XS.iinc X2.here hx rfl (hb hby d6_32) rfl (l' := #[.val (.ref a0), .val (.int (iv + (1 : Int32))), .val (.ref a2), .val (.int iv), .val (.int nn), .val (.int iv), .val (.int xv)]) rfl kX)
        refine OGo.go (B := T2.setTop (mkF m 38 #[.val (.ref a0), .val (.int (iv + (1 : Int32))), .val (.ref a2), .val (.int (iv + (1 : Int32))), .val (.int nn), .val (.int iv), .val (.int xv)] [])) ?_ (fun tX kX => XS.iinc X2.here hx rfl (hb hby d6_35) rfl (l' := #[.val (.ref a0), .val (.int (iv + (1 : Int32))), .val (.ref a2), .val (.int (iv + (1 : Int32))), .val (.int nn), .val (.int iv), .val (.int xv)]) rfl kX)
        refine OGo.go (B := T2.setTop (mkF m 41 #[.val (.ref a0), .val (.int (iv + (1 : Int32))), .val (.ref a2), .val (.int (iv + (1 : Int32))), .val (.int nn), .val (.int (iv + (1 : Int32))), .val (.int xv)] [])) ?_ (fun tX kX => XS.iinc X2.here hx rfl (hb hby d6_38) rfl (l' := #[.val (.ref a0), .val (.int (iv + (1 : Int32))), .val (.ref a2), .val (.int (iv + (1 : Int32))), .val (.int nn), .val (.int (iv + (1 : Int32))), .val (.int xv)]) rfl kX)
        refine OGo.go (B := T2.setTop (mkF m 3 #[.val (.ref a0), .val (.int (iv + (1 : Int32))), .val (.ref a2), .val (.int (iv + (1 : Int32))), .val (.int nn), .val (.int (iv + (1 : Int32))), .val (.int xv)] [])) ?_ (fun tX kX => XS.goto X2.here hx rfl (pc0 := 41) (pc' := 3) rfl (hb hby d6_41) (by decide) (by decide) kX)
        have hst := own_step hk2 hin6 hn0
        exact ih T2 _ h2 (iv + (1 : Int32)) (.val (.int xv)) (ys.set iv.toNatClampNeg (.int ((xv.toInt8.toInt32).toInt8.toInt32))) X2 e2 N2 zn2 K2 V_a0 E_a2 V_a2 (by rw [List.length_set]; exact hyl) (by rw [hst.2.2]; omega) hst.1 hst.2.1 (Or.inr ⟨_, rfl⟩)
      ·
        refine OGo.go (B := TJ3.setTop (mkF m 5 #[.val (.ref a0), .val (.int iv), .val (.ref a2), .val (.int iv), .val (.int nn), .val (.int iv), .val (.int x6)] [(.int iv)])) ?_ (fun tX kX => XS.iload XJ3.here hx rfl (hb hby d6_3) rfl kX)
        refine OGo.go (B := TJ3.setTop (mkF m 7 #[.val (.ref a0), .val (.int iv), .val (.ref a2), .val (.int iv), .val (.int nn), .val (.int iv), .val (.int x6)] [(.int nn), (.int iv)])) ?_ (fun tX kX => XS.iload XJ3.here hx rfl (hb hby d6_5) rfl kX)
        have hin6 : iv < nn := Decidable.byContradiction fun q => by have := own_natge q; omega
        have hn0 := own_nn V_a2
        obtain ⟨xv, hxv, hxl⟩ := own_Bget (d := (.int (0 : Int32))) hB (i := iv.toNatClampNeg) (by rw [hvl]; exact own_natlt hk2 hin6)
        refine OGo.go (B := TJ3.setTop (mkF m 10 #[.val (.ref a0), .val (.int iv), .val (.ref a2), .val (.int iv), .val (.int nn), .val (.int iv), .val (.int x6)] [])) ?_ (fun tX kX => XS.icmpNo XJ3.here hx rfl (hb hby d6_7) rfl (tlt hin6).2.1 kX)
        refine OGo.go (B := TJ3.setTop (mkF m 11 #[.val (.ref a0), .val (.int iv), .val (.ref a2), .val (.int iv), .val (.int nn), .val (.int iv), .val (.int x6)] [(.ref a0)])) ?_ (fun tX kX => XS.aloadN XJ3.here hx rfl (hb hby d6_10) rfl rfl kX)
        refine OGo.go (B := TJ3.setTop (mkF m 12 #[.val (.ref a0), .val (.int iv), .val (.ref a2), .val (.int iv), .val (.int nn), .val (.int iv), .val (.int x6)] [(.int iv), (.ref a0)])) ?_ (fun tX kX => XS.iloadN XJ3.here hx rfl (hb hby d6_11) rfl kX)
        obtain ⟨cl3, Ar3, qa3, S3, N3', H3, G3⟩ := id V_a0
        have hin3 := inb_of (j := iv) S3 ⟨hk2, hin6⟩
        have hat3 := H3.at (v := (.int xv)) hin3 hxv
        refine OGo.go (B := TJ3.setTop (mkF m 13 #[.val (.ref a0), .val (.int iv), .val (.ref a2), .val (.int iv), .val (.int nn), .val (.int iv), .val (.int x6)] [(.int xv)])) ?_ (fun tX kX => XJ3.caload hx (j := iv) (v := (.int xv)) (by rw [eJ3]; exact Ar3.1) (State.isArrayOf_alike hZ.alike Ar3.2.1) Ar3.2.2 hin3 hat3 (g := (mkF m 12 #[.val (.ref a0), .val (.int iv), .val (.ref a2), .val (.int iv), .val (.int nn), .val (.int iv), .val (.int x6)] [(.int iv), (.ref a0)])) rfl rfl (hb hby d6_12) _ kX)
        refine OGo.go (B := TJ3.setTop (mkF m 15 #[.val (.ref a0), .val (.int iv), .val (.ref a2), .val (.int iv), .val (.int nn), .val (.int iv), .val (.int xv)] [])) ?_ (fun tX kX => XS.istore XJ3.here hx rfl (hb hby d6_13) rfl (l' := #[.val (.ref a0), .val (.int iv), .val (.ref a2), .val (.int iv), .val (.int nn), .val (.int iv), .val (.int xv)]) rfl kX)
        refine OGo.go (B := TJ3.setTop (mkF m 17 #[.val (.ref a0), .val (.int iv), .val (.ref a2), .val (.int iv), .val (.int nn), .val (.int iv), .val (.int xv)] [(.int xv)])) ?_ (fun tX kX => XS.iload XJ3.here hx rfl (hb hby d6_15) rfl kX)
        refine OGo.go (B := TJ3.setTop (mkF m 20 #[.val (.ref a0), .val (.int iv), .val (.ref a2), .val (.int iv), .val (.int nn), .val (.int iv), .val (.int xv)] [(.int (255 : Int32)), (.int xv)])) ?_ (fun tX kX => XS.sipush XJ3.here hx rfl (hb hby d6_17) kX)
        refine OGo.go (B := TJ3.setTop (mkF m 26 #[.val (.ref a0), .val (.int iv), .val (.ref a2), .val (.int iv), .val (.int nn), .val (.int iv), .val (.int xv)] [])) ?_ (fun tX kX => XS.icmpYes XJ3.here hx rfl (pc0 := 20) (pc' := 26) rfl (hb hby d6_20) rfl (flt hxl).2.2.2 (by decide) (by decide) kX)
        refine OGo.go (B := TJ3.setTop (mkF m 27 #[.val (.ref a0), .val (.int iv), .val (.ref a2), .val (.int iv), .val (.int nn), .val (.int iv), .val (.int xv)] [(.ref a2)])) ?_ (fun tX kX => XS.aloadN XJ3.here hx rfl (hb hby d6_26) rfl rfl kX)
        refine OGo.go (B := TJ3.setTop (mkF m 28 #[.val (.ref a0), .val (.int iv), .val (.ref a2), .val (.int iv), .val (.int nn), .val (.int iv), .val (.int xv)] [(.int iv), (.ref a2)])) ?_ (fun tX kX => XS.iloadN XJ3.here hx rfl (hb hby d6_27) rfl kX)
        refine OGo.go (B := TJ3.setTop (mkF m 30 #[.val (.ref a0), .val (.int iv), .val (.ref a2), .val (.int iv), .val (.int nn), .val (.int iv), .val (.int xv)] [(.int xv), (.int iv), (.ref a2)])) ?_ (fun tX kX => XS.iload XJ3.here hx rfl (hb hby d6_28) rfl kX)
        refine OGo.go (B := TJ3.setTop (mkF m 31 #[.val (.ref a0), .val (.int iv), .val (.ref a2), .val (.int iv), .val (.int nn), .val (.int iv), .val (.int xv)] [(.int (xv.toInt8.toInt32)), (.int iv), (.ref a2)])) ?_ (fun tX kX => XS.i2b XJ3.here hx rfl (hb hby d6_30) rfl kX)
        obtain ⟨cl4, Ar4, qa4, S4, N4', H4, G4⟩ := id V_a2
        have hin4 := inb_of (j := iv) S4 ⟨hk2, hin6⟩
        obtain ⟨T4, h4, X4, e4, W4, st4⟩ := stB XJ3 hx hZ eJ3 Ar4 (j := iv) hin4 (g := (mkF m 31 #[.val (.ref a0), .val (.int iv), .val (.ref a2), .val (.int iv), .val (.int nn), .val (.int iv), .val (.int xv)] [(.int (xv.toInt8.toInt32)), (.int iv), (.ref a2)])) rfl rfl (hb hby d6_31)
        have V_a2_4 := Arv.set Ar4 qa4 S4 N4' H4 G4 (fits_nar_byte _) W4 iv.toNatClampNeg rfl (by rw [hyl]; exact own_natlt hk2 hin6)
        have V_a0 := V_a0.other W4 nab
        have E_a2 := E_a2.wr W4
        have K4 := KJ3.wr W4 (Or.inl (List.mem_of_getElem? (i := 0) rfl))
        have zn4 : n0 ≤ h4.size := Nat.le_trans znJ3 (Keep.of_wr W4).1
        have N4 := Fr.snoc X4 NJ3 ga
        have V_a2 : Arv Z h4 a2 kb .byte nn (ys.set iv.toNatClampNeg (.int ((xv.toInt8.toInt32).toInt8.toInt32))) (.int (0 : Int32)) := V_a2_4
        refine OGo.go (B := T4.setTop (mkF m 32 #[.val (.ref a0), .val (.int iv), .val (.ref a2), .val (.int iv), .val (.int nn), .val (.int iv), .val (.int xv)] [])) ?_ st4
        refine OGo.go (B := T4.setTop (mkF m 35 #[.val (.ref a0), .val (.int (iv + (1 : Int32))), .val (.ref a2), .val (.int iv), .val (.int nn), .val (.int iv), .val (.int xv)] [])) ?_ (fun tX kX => XS.iinc X4.here hx rfl (hb hby d6_32) rfl (l' := #[.val (.ref a0), .val (.int (iv + (1 : Int32))), .val (.ref a2), .val (.int iv), .val (.int nn), .val (.int iv), .val (.int xv)]) rfl kX)
        refine OGo.go (B := T4.setTop (mkF m 38 #[.val (.ref a0), .val (.int (iv + (1 : Int32))), .val (.ref a2), .val (.int (iv + (1 : Int32))), .val (.int nn), .val (.int iv), .val (.int xv)] [])) ?_ (fun tX kX => XS.iinc X4.here hx rfl (hb hby d6_35) rfl (l' := #[.val (.ref a0), .val (.int (iv + (1 : Int32))), .val (.ref a2), .val (.int (iv + (1 : Int32))), .val (.int nn), .val (.int iv), .val (.int xv)]) rfl kX)
        refine OGo.go (B := T4.setTop (mkF m 41 #[.val (.ref a0), .val (.int (iv + (1 : Int32))), .val (.ref a2), .val (.int (iv + (1 : Int32))), .val (.int nn), .val (.int (iv + (1 : Int32))), .val (.int xv)] [])) ?_ (fun tX kX => XS.iinc X4.here hx rfl (hb hby d6_38) rfl (l' := #[.val (.ref a0), .val (.int (iv + (1 : Int32))), .val (.ref a2), .val (.int (iv + (1 : Int32))), .val (.int nn), .val (.int (iv + (1 : Int32))), .val (.int xv)]) rfl kX)
        refine OGo.go (B := T4.setTop (mkF m 3 #[.val (.ref a0), .val (.int (iv + (1 : Int32))), .val (.ref a2), .val (.int (iv + (1 : Int32))), .val (.int nn), .val (.int (iv + (1 : Int32))), .val (.int xv)] [])) ?_ (fun tX kX => XS.goto X4.here hx rfl (pc0 := 41) (pc' := 3) rfl (hb hby d6_41) (by decide) (by decide) kX)
        have hst := own_step hk2 hin6 hn0
        exact ih T4 _ h4 (iv + (1 : Int32)) (.val (.int xv)) (ys.set iv.toNatClampNeg (.int ((xv.toInt8.toInt32).toInt8.toInt32))) X4 e4 N4 zn4 K4 V_a0 E_a2 V_a2 (by rw [List.length_set]; exact hyl) (by rw [hst.2.2]; omega) hst.1 hst.2.1 (Or.inr ⟨_, rfl⟩)
  have hn0 := own_nn V_a2
  exact J3 nn.toNatClampNeg s₁ _ h0 (0 : Int32) .unset zs X0 e0 N0 Z0 K0 V_a0 E_a2 V_a2 hzl (by simp) (by decide) hn0 (Or.inl rfl)
theorem d5_0 : decode jdk_52_method_16_code 0 = .ok (.iload_n 2, 1) := by decide +kernel
theorem d5_1 : decode jdk_52_method_16_code 1 = .ok (.newarray .byte, 2) := by decide +kernel
theorem d5_3 : decode jdk_52_method_16_code 3 = .ok (.astore_n 3, 1) := by decide +kernel
theorem d5_4 : decode jdk_52_method_16_code 4 = .ok (.aload_n 0, 1) := by decide +kernel
theorem d5_5 : decode jdk_52_method_16_code 5 = .ok (.iload_n 1, 1) := by decide +kernel
theorem d5_6 : decode jdk_52_method_16_code 6 = .ok (.aload_n 3, 1) := by decide +kernel
theorem d5_7 : decode jdk_52_method_16_code 7 = .ok (.iconst 0, 1) := by decide +kernel
theorem d5_8 : decode jdk_52_method_16_code 8 = .ok (.iload_n 2, 1) := by decide +kernel
theorem d5_9 : decode jdk_52_method_16_code 9 = .ok (.invokestatic 115, 3) := by decide +kernel
theorem pd___CI_BII_I : parseMethodDescriptor "([CI[BII)I" = some ⟨[(.array .char), .int, (.array .byte), .int, .int], some .int⟩ := by decide +kernel
theorem d5_12 : decode jdk_52_method_16_code 12 = .ok (.istore 4, 2) := by decide +kernel
theorem d5_14 : decode jdk_52_method_16_code 14 = .ok (.iload 4, 2) := by decide +kernel
theorem d5_16 : decode jdk_52_method_16_code 16 = .ok (.iload_n 2, 1) := by decide +kernel
theorem d5_17 : decode jdk_52_method_16_code 17 = .ok (.if_icmp .eq 40, 3) := by decide +kernel
theorem d5_57 : decode jdk_52_method_16_code 57 = .ok (.aload_n 3, 1) := by decide +kernel
theorem d5_58 : decode jdk_52_method_16_code 58 = .ok (.areturn, 1) := by decide +kernel
def Q5g (Z : State) (a0 : Addr) (nn : Int32) (kc : ClassId) (vs : List Value) (h0 : Heap) (n0 : Nat) (v : Option Value) (h : Heap) (L : List Loc) : Prop := ∃ (nb : Addr) (kb : ClassId) (ys : List Value), v = some (.ref nb) ∧ Fr n0 L ∧ Keep h0 h [] ∧ h0.size ≤ nb ∧ Exa Z h nb "[B" ∧ Arv Z h nb kb .byte nn ys (.int (0 : Int32)) ∧ ys.length = nn.toNatClampNeg
def P5g (Z : State) (a0 : Addr) (nn : Int32) (kc : ClassId) (vs : List Value) (h0 : Heap) (n0 : Nat) (s : State) (o : Outcome) (U' : State) : Prop := ∃ v L, o = .returned v ∧ Q5g Z a0 nn kc vs h0 n0 v U'.heap L ∧ FrameEnd s o U' L ({ frames := 1, cells := 1, slots := 12, locals := 18 } : Room).cells ({ frames := 1, cells := 1, slots := 12, locals := 18 } : Room).slots
set_option maxRecDepth 65536 in
set_option maxHeartbeats 40000000 in
theorem rm5g (l : Launch) (Z : State) (aV : Array Value) (hw : ∀ d ∈ tables_1, d.before aV Z = true) (ws : List Jvm.Cond) (a0 : Addr) (nn : Int32) (kc : ClassId) (vs : List Value) (h0 : Heap) (n0 : Nat) (Z0 : n0 ≤ h0.size) (V_a0 : Arv Z h0 a0 kc .char nn vs (.int (0 : Int32))) (hB : own_B vs) (hvl : vs.length = nn.toNatClampNeg) (hcap : nn.toNatClampNeg ≤ 12) :
    MetFree l (⟨"java/lang/StringUTF16", "compress", "([CII)[B"⟩ : MethodName) (head1 (Jvm.Cond.code (⟨"java/lang/StringUTF16", "compress", "([CII)[B"⟩ : MethodName) jdk_52_method_16_code 6 (some (.array .byte)) :: ws) ({ frames := 1, cells := 1, slots := 12, locals := 18 } : Room)) (fun a U => a = #[(.ref a0), (.int (0 : Int32)), (.int nn)] ∧ Z.Warmed39 U.vm ∧ U.heap = h0) (fun _ _ _ _ _ => True) (fun _ U o U' => ∃ v L, o = .returned v ∧ Q5g Z a0 nn kc vs h0 n0 v U'.heap L ∧ FrameEnd U o U' L ({ frames := 1, cells := 1, slots := 12, locals := 18 } : Room).cells ({ frames := 1, cells := 1, slots := 12, locals := 18 } : Room).slots) := by
  refine MetFree.of_bodySF (plainFor_of_name pn_java_lang_StringUTF16) hisR ?_
  intro p e s m args below meth c s₁ Bd hml0 hP hK
  obtain ⟨rfl, hZ, hh⟩ := hP
  have hx := Bd.exec
  have hby := Bd.bytes
  have hml : c.maxLocals = 6 := hml0
  have hown : s.vm.findClass "java/lang/StringUTF16" = some m.cls := findClass_of_methodNamed Bd.named
  have hnm := (name_of_methodNamed Bd.named Bd.method).1
  have X0 : Stand p l e ({ frames := 1, cells := 1, slots := 12, locals := 18 } : Room) s m #[(.ref a0), (.int (0 : Int32)), (.int nn)] below meth c s₁ [] 0 0 := Stand.of_body Bd
  have e0 : s₁.heap = h0 := by rw [← hh, Bd.state]; rfl
  have efx : entryFrame m #[(.ref a0), (.int (0 : Int32)), (.int nn)] 6 = mkF m 0 #[.val (.ref a0), .val (.int (0 : Int32)), .val (.int nn), .unset, .unset, .unset] [] := by first | (simp [entryFrame, mkF, argsToLocals, Value.category]; done) | rfl
  have N0 := Fr.nil n0
  have K0 : Keep h0 h0 [] := Keep.refl h0 _
  refine OGo.start (g' := mkF m 0 #[.val (.ref a0), .val (.int (0 : Int32)), .val (.int nn), .unset, .unset, .unset] []) (efx) ?_
  show OGo p.tables e below (P5g Z a0 nn kc vs h0 n0 s) (s₁.setTop (mkF m 0 #[.val (.ref a0), .val (.int (0 : Int32)), .val (.int nn), .unset, .unset, .unset] []))
  refine OGo.go (B := s₁.setTop (mkF m 1 #[.val (.ref a0), .val (.int (0 : Int32)), .val (.int nn), .unset, .unset, .unset] [(.int nn)])) ?_ (fun tX kX => XS.iloadN X0.here hx rfl (hb hby d5_0) rfl kX)
  obtain ⟨T1, h1, k1, X1, e1, E1, A1, EA1, st1⟩ := newPE X0 hx hZ (hw _ (List.mem_of_getElem? (i := 24) rfl)) e0 (g := (mkF m 1 #[.val (.ref a0), .val (.int (0 : Int32)), .val (.int nn), .unset, .unset, .unset] [(.int nn)])) rfl (hb hby d5_1) rfl (own_nn V_a0) (cap := 12) hcap (by decide) (by decide) (by decide) (ad := "[B") (by decide)
  obtain ⟨b1, g1⟩ : ∃ z, z = h0.size := ⟨_, rfl⟩
  rw [← g1] at A1 EA1 st1
  have ne_a0_b1 : a0 ≠ b1 := Nat.ne_of_lt (Nat.lt_of_lt_of_le V_a0.lt (Nat.le_of_eq g1.symm))
  have V_a0 := V_a0.ext E1
  have g_b1 : n0 ≤ b1 := Nat.le_trans Z0 (Nat.le_of_eq g1.symm)
  have sz_b1 : h0.size ≤ b1 := Nat.le_trans K0.1 (Nat.le_of_eq g1.symm)
  have zn1 : n0 ≤ h1.size := Nat.le_trans Z0 E1.1
  have K1 := K0.ext E1
  have E_b1 := EA1
  have V_b1 : Arv Z h1 b1 k1 .byte nn [] (.int (0 : Int32)) := Arv.new A1 (own_nn V_a0)
  refine OGo.go (B := T1.setTop (mkF m 3 #[.val (.ref a0), .val (.int (0 : Int32)), .val (.int nn), .unset, .unset, .unset] [(.ref b1)])) ?_ st1
  have V_b1 := own_rep V_b1
  refine OGo.go (B := T1.setTop (mkF m 4 #[.val (.ref a0), .val (.int (0 : Int32)), .val (.int nn), .val (.ref b1), .unset, .unset] [])) ?_ (fun tX kX => XS.astoreN X1.here hx rfl (hb hby d5_3) rfl rfl (l' := #[.val (.ref a0), .val (.int (0 : Int32)), .val (.int nn), .val (.ref b1), .unset, .unset]) rfl kX)
  refine OGo.go (B := T1.setTop (mkF m 5 #[.val (.ref a0), .val (.int (0 : Int32)), .val (.int nn), .val (.ref b1), .unset, .unset] [(.ref a0)])) ?_ (fun tX kX => XS.aloadN X1.here hx rfl (hb hby d5_4) rfl rfl kX)
  refine OGo.go (B := T1.setTop (mkF m 6 #[.val (.ref a0), .val (.int (0 : Int32)), .val (.int nn), .val (.ref b1), .unset, .unset] [(.int (0 : Int32)), (.ref a0)])) ?_ (fun tX kX => XS.iloadN X1.here hx rfl (hb hby d5_5) rfl kX)
  refine OGo.go (B := T1.setTop (mkF m 7 #[.val (.ref a0), .val (.int (0 : Int32)), .val (.int nn), .val (.ref b1), .unset, .unset] [(.ref b1), (.int (0 : Int32)), (.ref a0)])) ?_ (fun tX kX => XS.aloadN X1.here hx rfl (hb hby d5_6) rfl rfl kX)
  refine OGo.go (B := T1.setTop (mkF m 8 #[.val (.ref a0), .val (.int (0 : Int32)), .val (.int nn), .val (.ref b1), .unset, .unset] [(.int (0 : Int32)), (.ref b1), (.int (0 : Int32)), (.ref a0)])) ?_ (fun tX kX => XS.iconst X1.here hx rfl (hb hby d5_7) kX)
  refine OGo.go (B := T1.setTop (mkF m 9 #[.val (.ref a0), .val (.int (0 : Int32)), .val (.int nn), .val (.ref b1), .unset, .unset] [(.int nn), (.int (0 : Int32)), (.ref b1), (.int (0 : Int32)), (.ref a0)])) ?_ (fun tX kX => XS.iloadN X1.here hx rfl (hb hby d5_8) rfl kX)
  obtain ⟨_, _, ⟨T2, L2, k2, n2⟩, -, X2, ⟨Lc2, hQ2, l2, y2, z2⟩, st2⟩ := Jvm.LawKit.callS X1 hx (y := (⟨"java/lang/StringUTF16", "compress", "([CI[BII)I"⟩ : MethodName)) hown (mvT hZ (hw _ (List.mem_of_getElem? (i := 25) rfl))) (mvT hZ (hw _ (List.mem_of_getElem? (i := 26) rfl))) (mvT hZ (hw _ (List.mem_of_getElem? (i := 22) rfl))) (mvT hZ (hw _ (List.mem_of_getElem? (i := 27) rfl))) (by decide) (backOf (W := 0) (rm6g l Z aV hw [] a0 b1 nn kc k1 vs (List.replicate nn.toNatClampNeg (.int (0 : Int32))) h1 n0 zn1 V_a0 E_b1 V_b1 g_b1 ne_a0_b1 hB hvl (List.length_replicate ..)) hZ (hw _ (List.mem_of_getElem? (i := 27) rfl)) (hw _ (List.mem_of_getElem? (i := 22) rfl)) (by decide) (by decide)) (g := (mkF m 9 #[.val (.ref a0), .val (.int (0 : Int32)), .val (.int nn), .val (.ref b1), .unset, .unset] [(.int nn), (.int (0 : Int32)), (.ref b1), (.int (0 : Int32)), (.ref a0)])) rfl (by rw [hml]; rfl) (argsL := [(.ref a0), (.int (0 : Int32)), (.ref b1), (.int (0 : Int32)), (.int nn)]) (rest := []) (lenOf pd___CI_BII_I rfl) rfl (by show 2 * 0 + _ ≤ _; exact Nat.le_of_eq rfl) (hb hby d5_9) (fun _ _ => ⟨rfl, e1, (by decide : 1 + 0 ≤ _), (by decide : 12 + 0 ≤ _)⟩)
  dsimp only [Pt.U, Pt.locs, Pt.cells, Pt.slots] at X2 l2 y2 z2 st2 hQ2
  subst l2 y2 z2
  obtain ⟨ys_2, rfl, N2q, Kq2, E_b1_p, V_b1_p, hr2_0⟩ := hQ2
  have N2 := Fr.app N0 N2q
  have V_a0 := V_a0.keep Kq2 (ninS ne_a0_b1 nin0)
  have E_b1 := E_b1.keep Kq2
  have K2 := K1.trans Kq2 (allS (P := fun x => x ∈ ([] : List Addr) ∨ h0.size ≤ x) (Or.inr sz_b1) all0)
  have zn2 : n0 ≤ T2.heap.size := Nat.le_trans zn1 Kq2.1
  have E_b1 := E_b1_p
  have V_b1 := V_b1_p
  refine OGo.go (B := T2.setTop (mkF m 12 #[.val (.ref a0), .val (.int (0 : Int32)), .val (.int nn), .val (.ref b1), .unset, .unset] [(.int nn)])) ?_ st2
  refine OGo.go (B := T2.setTop (mkF m 14 #[.val (.ref a0), .val (.int (0 : Int32)), .val (.int nn), .val (.ref b1), .val (.int nn), .unset] [])) ?_ (fun tX kX => XS.istore X2.here hx rfl (hb hby d5_12) rfl (l' := #[.val (.ref a0), .val (.int (0 : Int32)), .val (.int nn), .val (.ref b1), .val (.int nn), .unset]) rfl kX)
  refine OGo.go (B := T2.setTop (mkF m 16 #[.val (.ref a0), .val (.int (0 : Int32)), .val (.int nn), .val (.ref b1), .val (.int nn), .unset] [(.int nn)])) ?_ (fun tX kX => XS.iload X2.here hx rfl (hb hby d5_14) rfl kX)
  refine OGo.go (B := T2.setTop (mkF m 17 #[.val (.ref a0), .val (.int (0 : Int32)), .val (.int nn), .val (.ref b1), .val (.int nn), .unset] [(.int nn), (.int nn)])) ?_ (fun tX kX => XS.iloadN X2.here hx rfl (hb hby d5_16) rfl kX)
  refine OGo.go (B := T2.setTop (mkF m 57 #[.val (.ref a0), .val (.int (0 : Int32)), .val (.int nn), .val (.ref b1), .val (.int nn), .unset] [])) ?_ (fun tX kX => XS.icmpYes X2.here hx rfl (pc0 := 17) (pc' := 57) rfl (hb hby d5_17) rfl (teq rfl).1 (by decide) (by decide) kX)
  refine OGo.go (B := T2.setTop (mkF m 58 #[.val (.ref a0), .val (.int (0 : Int32)), .val (.int nn), .val (.ref b1), .val (.int nn), .unset] [(.ref b1)])) ?_ (fun tX kX => XS.aloadN X2.here hx rfl (hb hby d5_57) rfl rfl kX)
  refine OGo.ret X2 (v := (some (.ref b1))) (fun h => by rw [Bd.returns] at h; cases h) (BodyLoose.notSynchronized Bd) (fun fs hr => retOut X2 hx Bd.returns rfl (Or.inr (Or.inr (Or.inr (Or.inr ⟨rfl, rfl, rfl⟩)))) (hb hby d5_58) hr) (Q := Q5g Z a0 nn kc vs h0 n0) ?_ (by decide) (by decide)
  show Q5g Z a0 nn kc vs h0 n0 _ T2.heap _
  exact ⟨b1, k1, ys_2, rfl, N2, K2, sz_b1, E_b1, V_b1, hr2_0⟩
theorem d3_0 : decode jdk_42_method_149_code 0 = .ok (.aload_n 0, 1) := by decide +kernel
theorem d3_1 : decode jdk_42_method_149_code 1 = .ok (.invokespecial 1, 3) := by decide +kernel
theorem d3_4 : decode jdk_42_method_149_code 4 = .ok (.iload_n 3, 1) := by decide +kernel
theorem d3_5 : decode jdk_42_method_149_code 5 = .ok (.ifCond .ne 22, 3) := by decide +kernel
theorem d3_27 : decode jdk_42_method_149_code 27 = .ok (.getstatic 38, 3) := by decide +kernel
theorem d3_30 : decode jdk_42_method_149_code 30 = .ok (.ifCond .eq 28, 3) := by decide +kernel
theorem d3_33 : decode jdk_42_method_149_code 33 = .ok (.aload_n 1, 1) := by decide +kernel
theorem d3_34 : decode jdk_42_method_149_code 34 = .ok (.iload_n 2, 1) := by decide +kernel
theorem d3_35 : decode jdk_42_method_149_code 35 = .ok (.iload_n 3, 1) := by decide +kernel
theorem d3_36 : decode jdk_42_method_149_code 36 = .ok (.invokestatic 177, 3) := by decide +kernel
theorem pd___CII__B : parseMethodDescriptor "([CII)[B" = some ⟨[(.array .char), .int, .int], some (.array .byte)⟩ := by decide +kernel
theorem d3_39 : decode jdk_42_method_149_code 39 = .ok (.astore 5, 2) := by decide +kernel
theorem d3_41 : decode jdk_42_method_149_code 41 = .ok (.aload_n 0, 1) := by decide +kernel
theorem d3_42 : decode jdk_42_method_149_code 42 = .ok (.aload 5, 2) := by decide +kernel
theorem d3_44 : decode jdk_42_method_149_code 44 = .ok (.iload_n 3, 1) := by decide +kernel
theorem d3_45 : decode jdk_42_method_149_code 45 = .ok (.invokestatic 47, 3) := by decide +kernel
theorem pd___BI_B : parseMethodDescriptor "([BI)B" = some ⟨[(.array .byte), .int], some .byte⟩ := by decide +kernel
theorem d3_48 : decode jdk_42_method_149_code 48 = .ok (.putfield 15, 3) := by decide +kernel
theorem d3_51 : decode jdk_42_method_149_code 51 = .ok (.aload_n 0, 1) := by decide +kernel
theorem d3_52 : decode jdk_42_method_149_code 52 = .ok (.aload 5, 2) := by decide +kernel
theorem d3_54 : decode jdk_42_method_149_code 54 = .ok (.putfield 9, 3) := by decide +kernel
theorem d3_57 : decode jdk_42_method_149_code 57 = .ok (.return_, 1) := by decide +kernel
def Q3g (Z : State) (a0 : Addr) (a1 : Addr) (nn : Int32) (u1 : Value) (u2 : Value) (kc : ClassId) (cs : Int32) (vs : List Value) (h0 : Heap) (n0 : Nat) (v : Option Value) (h : Heap) (L : List Loc) : Prop := ∃ (nb : Addr) (kb : ClassId) (ys : List Value), v = none ∧ Fr n0 L ∧ Keep h0 h [a0] ∧ Exa Z h a0 "java/lang/String" ∧ Fld Z h a0 "java/lang/String" "value" "[B" (.ref nb) ∧ Fld Z h a0 "java/lang/String" "coder" "B" (.int (0 : Int32)) ∧ Arv Z h nb kb .byte nn ys (.int (0 : Int32)) ∧ ys.length = nn.toNatClampNeg
def P3g (Z : State) (a0 : Addr) (a1 : Addr) (nn : Int32) (u1 : Value) (u2 : Value) (kc : ClassId) (cs : Int32) (vs : List Value) (h0 : Heap) (n0 : Nat) (s : State) (o : Outcome) (U' : State) : Prop := ∃ v L, o = .returned v ∧ Q3g Z a0 a1 nn u1 u2 kc cs vs h0 n0 v U'.heap L ∧ FrameEnd s o U' L ({ frames := 2, cells := 1, slots := 12, locals := 35 } : Room).cells ({ frames := 2, cells := 1, slots := 12, locals := 35 } : Room).slots
set_option maxRecDepth 65536 in
set_option maxHeartbeats 40000000 in
theorem rm3g (l : Launch) (Z : State) (aV : Array Value) (hw : ∀ d ∈ tables_1, d.before aV Z = true) (ws : List Jvm.Cond) (a0 : Addr) (a1 : Addr) (nn : Int32) (u1 : Value) (u2 : Value) (kc : ClassId) (cs : Int32) (vs : List Value) (h0 : Heap) (n0 : Nat) (Z0 : n0 ≤ h0.size) (E_a0 : Exa Z h0 a0 "java/lang/String") (F_value_a0 : Fld Z h0 a0 "java/lang/String" "value" "[B" u1) (F_coder_a0 : Fld Z h0 a0 "java/lang/String" "coder" "B" u2) (V_a1 : Arv Z h0 a1 kc .char nn vs (.int (0 : Int32))) (S_COMPACT_STRINGS : Sta Z h0 "java/lang/String" "COMPACT_STRINGS" "Z" (.int cs)) (ga : n0 ≤ a0) (nac : a1 ≠ a0) (hcs : ¬ cs = 0) (hB : own_B vs) (hvl : vs.length = nn.toNatClampNeg) (hcap : nn.toNatClampNeg ≤ 12) (hnz : ¬ nn = 0) :
    MetFree l (⟨"java/lang/String", "<init>", "([CIILjava/lang/Void;)V"⟩ : MethodName) (head1 (Jvm.Cond.code (⟨"java/lang/String", "<init>", "([CIILjava/lang/Void;)V"⟩ : MethodName) jdk_42_method_149_code 6 none :: ws) ({ frames := 2, cells := 1, slots := 12, locals := 35 } : Room)) (fun a U => a = #[(.ref a0), (.ref a1), (.int (0 : Int32)), (.int nn), .null] ∧ Z.Warmed39 U.vm ∧ U.heap = h0) (fun _ _ _ _ _ => True) (fun _ U o U' => ∃ v L, o = .returned v ∧ Q3g Z a0 a1 nn u1 u2 kc cs vs h0 n0 v U'.heap L ∧ FrameEnd U o U' L ({ frames := 2, cells := 1, slots := 12, locals := 35 } : Room).cells ({ frames := 2, cells := 1, slots := 12, locals := 35 } : Room).slots) := by
  refine MetFree.of_bodySF (plainFor_of_name pn_java_lang_String) hisR ?_
  intro p e s m args below meth c s₁ Bd hml0 hP hK
  obtain ⟨rfl, hZ, hh⟩ := hP
  have hx := Bd.exec
  have hby := Bd.bytes
  have hml : c.maxLocals = 6 := hml0
  have hown : s.vm.findClass "java/lang/String" = some m.cls := findClass_of_methodNamed Bd.named
  have hnm := (name_of_methodNamed Bd.named Bd.method).1
  have X0 : Stand p l e ({ frames := 2, cells := 1, slots := 12, locals := 35 } : Room) s m #[(.ref a0), (.ref a1), (.int (0 : Int32)), (.int nn), .null] below meth c s₁ [] 0 0 := Stand.of_body Bd
  have e0 : s₁.heap = h0 := by rw [← hh, Bd.state]; rfl
  have efx : entryFrame m #[(.ref a0), (.ref a1), (.int (0 : Int32)), (.int nn), .null] 6 = mkF m 0 #[.val (.ref a0), .val (.ref a1), .val (.int (0 : Int32)), .val (.int nn), .val .null, .unset] [] := by first | (simp [entryFrame, mkF, argsToLocals, Value.category]; done) | rfl
  have N0 := Fr.nil n0
  have K0 : Keep h0 h0 [a0] := Keep.refl h0 _
  refine OGo.start (g' := mkF m 0 #[.val (.ref a0), .val (.ref a1), .val (.int (0 : Int32)), .val (.int nn), .val .null, .unset] []) (efx) ?_
  show OGo p.tables e below (P3g Z a0 a1 nn u1 u2 kc cs vs h0 n0 s) (s₁.setTop (mkF m 0 #[.val (.ref a0), .val (.ref a1), .val (.int (0 : Int32)), .val (.int nn), .val .null, .unset] []))
  refine OGo.go (B := s₁.setTop (mkF m 1 #[.val (.ref a0), .val (.ref a1), .val (.int (0 : Int32)), .val (.int nn), .val .null, .unset] [(.ref a0)])) ?_ (fun tX kX => XS.aloadN X0.here hx rfl (hb hby d3_0) rfl rfl kX)
  obtain ⟨T1, X1, e1, st1⟩ := initO X0 hx hZ hown (hw _ (List.mem_of_getElem? (i := 16) rfl)) (hw _ (List.mem_of_getElem? (i := 17) rfl)) (hw _ (List.mem_of_getElem? (i := 18) rfl)) e0 (g := (mkF m 1 #[.val (.ref a0), .val (.ref a1), .val (.int (0 : Int32)), .val (.int nn), .val .null, .unset] [(.ref a0)])) rfl (by rw [hml]; rfl) rfl (hb hby d3_1) (by decide) (W := 0) (by show 2 * 0 + _ ≤ _; exact Nat.le_of_eq rfl) (by decide)
  refine OGo.go (B := T1.setTop (mkF m 4 #[.val (.ref a0), .val (.ref a1), .val (.int (0 : Int32)), .val (.int nn), .val .null, .unset] [])) ?_ st1
  refine OGo.go (B := T1.setTop (mkF m 5 #[.val (.ref a0), .val (.ref a1), .val (.int (0 : Int32)), .val (.int nn), .val .null, .unset] [(.int nn)])) ?_ (fun tX kX => XS.iloadN X1.here hx rfl (hb hby d3_4) rfl kX)
  refine OGo.go (B := T1.setTop (mkF m 27 #[.val (.ref a0), .val (.ref a1), .val (.int (0 : Int32)), .val (.int nn), .val .null, .unset] [])) ?_ (fun tX kX => XS.ifYes X1.here hx rfl (pc0 := 5) (pc' := 27) rfl (hb hby d3_5) rfl ((if0 _ _).trans (feq hnz).2) (by decide) (by decide) kX)
  obtain ⟨T2, X2, e2, st2⟩ := getS2 X1 hx hZ hown (host := "") (Or.inl (hw _ (List.mem_of_getElem? (i := 19) rfl))) Via.refl e1 S_COMPACT_STRINGS (g := (mkF m 27 #[.val (.ref a0), .val (.ref a1), .val (.int (0 : Int32)), .val (.int nn), .val .null, .unset] [])) rfl (hb hby d3_27)
  refine OGo.go (B := T2.setTop (mkF m 30 #[.val (.ref a0), .val (.ref a1), .val (.int (0 : Int32)), .val (.int nn), .val .null, .unset] [(.int cs)])) ?_ st2
  refine OGo.go (B := T2.setTop (mkF m 33 #[.val (.ref a0), .val (.ref a1), .val (.int (0 : Int32)), .val (.int nn), .val .null, .unset] [])) ?_ (fun tX kX => XS.ifNo X2.here hx rfl (hb hby d3_30) rfl ((if0 _ _).trans (feq hcs).1) kX)
  refine OGo.go (B := T2.setTop (mkF m 34 #[.val (.ref a0), .val (.ref a1), .val (.int (0 : Int32)), .val (.int nn), .val .null, .unset] [(.ref a1)])) ?_ (fun tX kX => XS.aloadN X2.here hx rfl (hb hby d3_33) rfl rfl kX)
  refine OGo.go (B := T2.setTop (mkF m 35 #[.val (.ref a0), .val (.ref a1), .val (.int (0 : Int32)), .val (.int nn), .val .null, .unset] [(.int (0 : Int32)), (.ref a1)])) ?_ (fun tX kX => XS.iloadN X2.here hx rfl (hb hby d3_34) rfl kX)
  refine OGo.go (B := T2.setTop (mkF m 36 #[.val (.ref a0), .val (.ref a1), .val (.int (0 : Int32)), .val (.int nn), .val .null, .unset] [(.int nn), (.int (0 : Int32)), (.ref a1)])) ?_ (fun tX kX => XS.iloadN X2.here hx rfl (hb hby d3_35) rfl kX)
  obtain ⟨_, _, ⟨T3, L3, k3, n3⟩, -, X3, ⟨Lc3, hQ3, l3, y3, z3⟩, st3⟩ := Jvm.LawKit.callS X2 hx (y := (⟨"java/lang/StringUTF16", "compress", "([CII)[B"⟩ : MethodName)) hown (mvT hZ (hw _ (List.mem_of_getElem? (i := 20) rfl))) (mvT hZ (hw _ (List.mem_of_getElem? (i := 21) rfl))) (mvT hZ (hw _ (List.mem_of_getElem? (i := 22) rfl))) (mvT hZ (hw _ (List.mem_of_getElem? (i := 23) rfl))) (by decide) (backOf (W := 0) (rm5g l Z aV hw [] a1 nn kc vs h0 n0 Z0 V_a1 hB hvl hcap) hZ (hw _ (List.mem_of_getElem? (i := 23) rfl)) (hw _ (List.mem_of_getElem? (i := 22) rfl)) (by decide) (by decide)) (g := (mkF m 36 #[.val (.ref a0), .val (.ref a1), .val (.int (0 : Int32)), .val (.int nn), .val .null, .unset] [(.int nn), (.int (0 : Int32)), (.ref a1)])) rfl (by rw [hml]; rfl) (argsL := [(.ref a1), (.int (0 : Int32)), (.int nn)]) (rest := []) (lenOf pd___CII__B rfl) rfl (by show 2 * 0 + _ ≤ _; exact Nat.le_of_eq rfl) (hb hby d3_36) (fun _ _ => ⟨rfl, e2, (by decide : 0 + 1 ≤ _), (by decide : 0 + 12 ≤ _)⟩)
  dsimp only [Pt.U, Pt.locs, Pt.cells, Pt.slots] at X3 l3 y3 z3 st3 hQ3
  subst l3 y3 z3
  obtain ⟨nb_3, kb_3, ys_3, rfl, N3q, Kq3, sz3_nb, E_nb_3_p, V_nb_3_p, hr3_0⟩ := hQ3
  have N3 := Fr.app N0 N3q
  have ne_a0_nb_3 : a0 ≠ nb_3 := Nat.ne_of_lt (Nat.lt_of_lt_of_le E_a0.lt sz3_nb)
  have ne_a1_nb_3 : a1 ≠ nb_3 := Nat.ne_of_lt (Nat.lt_of_lt_of_le V_a1.lt sz3_nb)
  have S_COMPACT_STRINGS := Sta.keep0 S_COMPACT_STRINGS Kq3
  have E_a0 := E_a0.keep Kq3
  have F_value_a0 := F_value_a0.keep Kq3 nin0
  have F_coder_a0 := F_coder_a0.keep Kq3 nin0
  have V_a1 := V_a1.keep Kq3 nin0
  have g_nb_3 : n0 ≤ nb_3 := Nat.le_trans Z0 sz3_nb
  have sz_nb_3 : h0.size ≤ nb_3 := Nat.le_trans K0.1 sz3_nb
  have K3 := K0.trans Kq3 all0
  have zn3 : n0 ≤ T3.heap.size := Nat.le_trans Z0 Kq3.1
  have E_nb_3 := E_nb_3_p
  have V_nb_3 := V_nb_3_p
  refine OGo.go (B := T3.setTop (mkF m 39 #[.val (.ref a0), .val (.ref a1), .val (.int (0 : Int32)), .val (.int nn), .val .null, .unset] [(.ref nb_3)])) ?_ st3
  refine OGo.go (B := T3.setTop (mkF m 41 #[.val (.ref a0), .val (.ref a1), .val (.int (0 : Int32)), .val (.int nn), .val .null, .val (.ref nb_3)] [])) ?_ (fun tX kX => XS.astore X3.here hx rfl (hb hby d3_39) rfl rfl (l' := #[.val (.ref a0), .val (.ref a1), .val (.int (0 : Int32)), .val (.int nn), .val .null, .val (.ref nb_3)]) rfl kX)
  refine OGo.go (B := T3.setTop (mkF m 42 #[.val (.ref a0), .val (.ref a1), .val (.int (0 : Int32)), .val (.int nn), .val .null, .val (.ref nb_3)] [(.ref a0)])) ?_ (fun tX kX => XS.aloadN X3.here hx rfl (hb hby d3_41) rfl rfl kX)
  refine OGo.go (B := T3.setTop (mkF m 44 #[.val (.ref a0), .val (.ref a1), .val (.int (0 : Int32)), .val (.int nn), .val .null, .val (.ref nb_3)] [(.ref nb_3), (.ref a0)])) ?_ (fun tX kX => XS.aload X3.here hx rfl (hb hby d3_42) rfl rfl kX)
  refine OGo.go (B := T3.setTop (mkF m 45 #[.val (.ref a0), .val (.ref a1), .val (.int (0 : Int32)), .val (.int nn), .val .null, .val (.ref nb_3)] [(.int nn), (.ref nb_3), (.ref a0)])) ?_ (fun tX kX => XS.iloadN X3.here hx rfl (hb hby d3_44) rfl kX)
  obtain ⟨_, _, ⟨T4, L4, k4, n4⟩, -, X4, ⟨Lc4, hQ4, l4, y4, z4⟩, st4⟩ := Jvm.LawKit.callS X3 hx (y := (⟨"java/lang/StringUTF16", "coderFromArrayLen", "([BI)B"⟩ : MethodName)) hown (mvT hZ (hw _ (List.mem_of_getElem? (i := 28) rfl))) (mvT hZ (hw _ (List.mem_of_getElem? (i := 29) rfl))) (mvT hZ (hw _ (List.mem_of_getElem? (i := 22) rfl))) (mvT hZ (hw _ (List.mem_of_getElem? (i := 30) rfl))) (by decide) (backOf (W := 1) (rm7 l Z aV hw [] nb_3 nn kb_3 ys_3 T3.heap n0 zn3 V_nb_3) hZ (hw _ (List.mem_of_getElem? (i := 30) rfl)) (hw _ (List.mem_of_getElem? (i := 22) rfl)) (by decide) (by decide)) (g := (mkF m 45 #[.val (.ref a0), .val (.ref a1), .val (.int (0 : Int32)), .val (.int nn), .val .null, .val (.ref nb_3)] [(.int nn), (.ref nb_3), (.ref a0)])) rfl (by rw [hml]; rfl) (argsL := [(.ref nb_3), (.int nn)]) (rest := [(.ref a0)]) (lenOf pd___BI_B rfl) rfl (by show 2 * 0 + _ ≤ _; exact Nat.le_of_eq rfl) (hb hby d3_45) (fun _ _ => ⟨rfl, rfl, (by decide : 1 + 0 ≤ _), (by decide : 12 + 0 ≤ _)⟩)
  dsimp only [Pt.U, Pt.locs, Pt.cells, Pt.slots] at X4 l4 y4 z4 st4 hQ4
  subst l4 y4 z4
  obtain ⟨rfl, N4q, e4⟩ := hQ4
  have N4 := Fr.app N3 N4q
  refine OGo.go (B := T4.setTop (mkF m 48 #[.val (.ref a0), .val (.ref a1), .val (.int (0 : Int32)), .val (.int nn), .val .null, .val (.ref nb_3)] [(.int (0 : Int32)), (.ref a0)])) ?_ st4
  obtain ⟨T5, h5, X5, e5, W5, st5⟩ := putF X4 hx hZ hown (host := "") (Or.inl (hw _ (List.mem_of_getElem? (i := 31) rfl))) Via.refl e4 F_coder_a0 E_a0 (Or.inr ⟨(hw _ (List.mem_of_getElem? (i := 32) rfl)), rfl, hnm⟩) (hw _ (List.mem_of_getElem? (i := 7) rfl)) (ty := .byte) (by decide) rfl rfl (g := (mkF m 48 #[.val (.ref a0), .val (.ref a1), .val (.int (0 : Int32)), .val (.int nn), .val .null, .val (.ref nb_3)] [(.int (0 : Int32)), (.ref a0)])) rfl rfl (hb hby d3_48)
  have E_a0 := E_a0.wr W5
  have F_value_a0 := F_value_a0.other W5 (Or.inr (slot_ne (Or.inr (hw _ (List.mem_of_getElem? (i := 34) rfl))) (Or.inr (hw _ (List.mem_of_getElem? (i := 32) rfl))) (by decide) (t := (.array .byte)) (t' := .byte) (by decide) (by decide)))
  have F_coder_a0 := F_coder_a0.same W5
  have V_a1 := V_a1.other W5 nac
  have S_COMPACT_STRINGS := S_COMPACT_STRINGS.wr W5
  have E_nb_3 := E_nb_3.wr W5
  have V_nb_3 := V_nb_3.other W5 (Ne.symm ne_a0_nb_3)
  have K5 := K3.wr W5 (Or.inl (List.mem_of_getElem? (i := 0) rfl))
  have zn5 : n0 ≤ h5.size := Nat.le_trans zn3 (Keep.of_wr W5).1
  have N5 := Fr.snoc X5 N4 ga
  refine OGo.go (B := T5.setTop (mkF m 51 #[.val (.ref a0), .val (.ref a1), .val (.int (0 : Int32)), .val (.int nn), .val .null, .val (.ref nb_3)] [])) ?_ st5
  refine OGo.go (B := T5.setTop (mkF m 52 #[.val (.ref a0), .val (.ref a1), .val (.int (0 : Int32)), .val (.int nn), .val .null, .val (.ref nb_3)] [(.ref a0)])) ?_ (fun tX kX => XS.aloadN X5.here hx rfl (hb hby d3_51) rfl rfl kX)
  refine OGo.go (B := T5.setTop (mkF m 54 #[.val (.ref a0), .val (.ref a1), .val (.int (0 : Int32)), .val (.int nn), .val .null, .val (.ref nb_3)] [(.ref nb_3), (.ref a0)])) ?_ (fun tX kX => XS.aload X5.here hx rfl (hb hby d3_52) rfl rfl kX)
  obtain ⟨T6, h6, X6, e6, W6, st6⟩ := putF X5 hx hZ hown (host := "") (Or.inl (hw _ (List.mem_of_getElem? (i := 33) rfl))) Via.refl e5 F_value_a0 E_a0 (Or.inr ⟨(hw _ (List.mem_of_getElem? (i := 34) rfl)), rfl, hnm⟩) (hw _ (List.mem_of_getElem? (i := 7) rfl)) (ty := (.array .byte)) (by decide) rfl rfl (g := (mkF m 54 #[.val (.ref a0), .val (.ref a1), .val (.int (0 : Int32)), .val (.int nn), .val .null, .val (.ref nb_3)] [(.ref nb_3), (.ref a0)])) rfl rfl (hb hby d3_54)
  have E_a0 := E_a0.wr W6
  have F_value_a0 := F_value_a0.same W6
  have F_coder_a0 := F_coder_a0.other W6 (Or.inr (slot_ne (Or.inr (hw _ (List.mem_of_getElem? (i := 32) rfl))) (Or.inr (hw _ (List.mem_of_getElem? (i := 34) rfl))) (by decide) (t := .byte) (t' := (.array .byte)) (by decide) (by decide)))
  have V_a1 := V_a1.other W6 nac
  have S_COMPACT_STRINGS := S_COMPACT_STRINGS.wr W6
  have E_nb_3 := E_nb_3.wr W6
  have V_nb_3 := V_nb_3.other W6 (Ne.symm ne_a0_nb_3)
  have K6 := K5.wr W6 (Or.inl (List.mem_of_getElem? (i := 0) rfl))
  have zn6 : n0 ≤ h6.size := Nat.le_trans zn5 (Keep.of_wr W6).1
  have N6 := Fr.snoc X6 N5 ga
  refine OGo.go (B := T6.setTop (mkF m 57 #[.val (.ref a0), .val (.ref a1), .val (.int (0 : Int32)), .val (.int nn), .val .null, .val (.ref nb_3)] [])) ?_ st6
  refine OGo.ret X6 (v := none) (fun _ => rfl) (BodyLoose.notSynchronized Bd) (fun fs hr => X6.returnOut hx Bd.returns (hb hby d3_57) hr) (Q := Q3g Z a0 a1 nn u1 u2 kc cs vs h0 n0) ?_ (by decide) (by decide)
  show Q3g Z a0 a1 nn u1 u2 kc cs vs h0 n0 _ T6.heap _
  rw [e6]
  exact ⟨nb_3, kb_3, ys_3, rfl, N6, K6, E_a0, F_value_a0, F_coder_a0, V_nb_3, hr3_0⟩
theorem d2_0 : decode jdk_42_method_3_code 0 = .ok (.aload_n 0, 1) := by decide +kernel
theorem d2_1 : decode jdk_42_method_3_code 1 = .ok (.aload_n 1, 1) := by decide +kernel
theorem d2_2 : decode jdk_42_method_3_code 2 = .ok (.iconst 0, 1) := by decide +kernel
theorem d2_3 : decode jdk_42_method_3_code 3 = .ok (.aload_n 1, 1) := by decide +kernel
theorem d2_4 : decode jdk_42_method_3_code 4 = .ok (.arraylength, 1) := by decide +kernel
theorem d2_5 : decode jdk_42_method_3_code 5 = .ok (.aconst_null, 1) := by decide +kernel
theorem d2_6 : decode jdk_42_method_3_code 6 = .ok (.invokespecial 27, 3) := by decide +kernel
theorem pd___CIILjava_lang_Void__V : parseMethodDescriptor "([CIILjava/lang/Void;)V" = some ⟨[(.array .char), .int, .int, (.object "java/lang/Void")], none⟩ := by decide +kernel
theorem d2_9 : decode jdk_42_method_3_code 9 = .ok (.return_, 1) := by decide +kernel
def Q2g (Z : State) (a0 : Addr) (a1 : Addr) (u1 : Value) (u2 : Value) (kc : ClassId) (cs : Int32) (nn : Int32) (vs : List Value) (h0 : Heap) (n0 : Nat) (v : Option Value) (h : Heap) (L : List Loc) : Prop := ∃ (nb : Addr) (kb : ClassId) (ys : List Value), v = none ∧ Fr n0 L ∧ Keep h0 h [a0] ∧ Exa Z h a0 "java/lang/String" ∧ Fld Z h a0 "java/lang/String" "value" "[B" (.ref nb) ∧ Fld Z h a0 "java/lang/String" "coder" "B" (.int (0 : Int32)) ∧ Arv Z h nb kb .byte nn ys (.int (0 : Int32)) ∧ ys.length = nn.toNatClampNeg
def P2g (Z : State) (a0 : Addr) (a1 : Addr) (u1 : Value) (u2 : Value) (kc : ClassId) (cs : Int32) (nn : Int32) (vs : List Value) (h0 : Heap) (n0 : Nat) (s : State) (o : Outcome) (U' : State) : Prop := ∃ v L, o = .returned v ∧ Q2g Z a0 a1 u1 u2 kc cs nn vs h0 n0 v U'.heap L ∧ FrameEnd s o U' L ({ frames := 3, cells := 1, slots := 12, locals := 52 } : Room).cells ({ frames := 3, cells := 1, slots := 12, locals := 52 } : Room).slots
set_option maxRecDepth 65536 in
set_option maxHeartbeats 40000000 in
theorem rm2g (l : Launch) (Z : State) (aV : Array Value) (hw : ∀ d ∈ tables_1, d.before aV Z = true) (ws : List Jvm.Cond) (a0 : Addr) (a1 : Addr) (u1 : Value) (u2 : Value) (kc : ClassId) (cs : Int32) (nn : Int32) (vs : List Value) (h0 : Heap) (n0 : Nat) (Z0 : n0 ≤ h0.size) (E_a0 : Exa Z h0 a0 "java/lang/String") (F_value_a0 : Fld Z h0 a0 "java/lang/String" "value" "[B" u1) (F_coder_a0 : Fld Z h0 a0 "java/lang/String" "coder" "B" u2) (V_a1 : Arv Z h0 a1 kc .char nn vs (.int (0 : Int32))) (S_COMPACT_STRINGS : Sta Z h0 "java/lang/String" "COMPACT_STRINGS" "Z" (.int cs)) (ga : n0 ≤ a0) (nac : a1 ≠ a0) (hcs : ¬ cs = 0) (hB : own_B vs) (hvl : vs.length = nn.toNatClampNeg) (hcap : nn.toNatClampNeg ≤ 12) (hnz : ¬ nn = 0) :
    MetFree l (⟨"java/lang/String", "<init>", "([C)V"⟩ : MethodName) (head1 (Jvm.Cond.code (⟨"java/lang/String", "<init>", "([C)V"⟩ : MethodName) jdk_42_method_3_code 2 none :: ws) ({ frames := 3, cells := 1, slots := 12, locals := 52 } : Room)) (fun a U => a = #[(.ref a0), (.ref a1)] ∧ Z.Warmed39 U.vm ∧ U.heap = h0) (fun _ _ _ _ _ => True) (fun _ U o U' => ∃ v L, o = .returned v ∧ Q2g Z a0 a1 u1 u2 kc cs nn vs h0 n0 v U'.heap L ∧ FrameEnd U o U' L ({ frames := 3, cells := 1, slots := 12, locals := 52 } : Room).cells ({ frames := 3, cells := 1, slots := 12, locals := 52 } : Room).slots) := by
  refine MetFree.of_bodySF (plainFor_of_name pn_java_lang_String) hisR ?_
  intro p e s m args below meth c s₁ Bd hml0 hP hK
  obtain ⟨rfl, hZ, hh⟩ := hP
  have hx := Bd.exec
  have hby := Bd.bytes
  have hml : c.maxLocals = 2 := hml0
  have hown : s.vm.findClass "java/lang/String" = some m.cls := findClass_of_methodNamed Bd.named
  have hnm := (name_of_methodNamed Bd.named Bd.method).1
  have X0 : Stand p l e ({ frames := 3, cells := 1, slots := 12, locals := 52 } : Room) s m #[(.ref a0), (.ref a1)] below meth c s₁ [] 0 0 := Stand.of_body Bd
  have e0 : s₁.heap = h0 := by rw [← hh, Bd.state]; rfl
  have efx : entryFrame m #[(.ref a0), (.ref a1)] 2 = mkF m 0 #[.val (.ref a0), .val (.ref a1)] [] := by first | (simp [entryFrame, mkF, argsToLocals, Value.category]; done) | rfl
  have N0 := Fr.nil n0
  have K0 : Keep h0 h0 [a0] := Keep.refl h0 _
  refine OGo.start (g' := mkF m 0 #[.val (.ref a0), .val (.ref a1)] []) (efx) ?_
  show OGo p.tables e below (P2g Z a0 a1 u1 u2 kc cs nn vs h0 n0 s) (s₁.setTop (mkF m 0 #[.val (.ref a0), .val (.ref a1)] []))
  refine OGo.go (B := s₁.setTop (mkF m 1 #[.val (.ref a0), .val (.ref a1)] [(.ref a0)])) ?_ (fun tX kX => XS.aloadN X0.here hx rfl (hb hby d2_0) rfl rfl kX)
  refine OGo.go (B := s₁.setTop (mkF m 2 #[.val (.ref a0), .val (.ref a1)] [(.ref a1), (.ref a0)])) ?_ (fun tX kX => XS.aloadN X0.here hx rfl (hb hby d2_1) rfl rfl kX)
  refine OGo.go (B := s₁.setTop (mkF m 3 #[.val (.ref a0), .val (.ref a1)] [(.int (0 : Int32)), (.ref a1), (.ref a0)])) ?_ (fun tX kX => XS.iconst X0.here hx rfl (hb hby d2_2) kX)
  refine OGo.go (B := s₁.setTop (mkF m 4 #[.val (.ref a0), .val (.ref a1)] [(.ref a1), (.int (0 : Int32)), (.ref a1), (.ref a0)])) ?_ (fun tX kX => XS.aloadN X0.here hx rfl (hb hby d2_3) rfl rfl kX)
  obtain ⟨cl1, Ar1, qa1, S1, N1', H1, G1⟩ := id V_a1
  refine OGo.go (B := s₁.setTop (mkF m 5 #[.val (.ref a0), .val (.ref a1)] [(.int nn), (.int (0 : Int32)), (.ref a1), (.ref a0)])) ?_ (fun tX kX => X0.arraylength hx (by rw [e0]; exact Ar1.1) (State.isArrayOf_alike hZ.alike Ar1.2.1) (g := (mkF m 4 #[.val (.ref a0), .val (.ref a1)] [(.ref a1), (.int (0 : Int32)), (.ref a1), (.ref a0)])) rfl rfl (hb hby d2_4) _ (by rw [len_of S1 N1']; exact kX))
  refine OGo.go (B := s₁.setTop (mkF m 6 #[.val (.ref a0), .val (.ref a1)] [.null, (.int nn), (.int (0 : Int32)), (.ref a1), (.ref a0)])) ?_ (fun tX kX => XS.aconstNull X0.here hx rfl (hb hby d2_5) kX)
  obtain ⟨_, _, ⟨T2, L2, k2, n2⟩, -, X2, ⟨Lc2, hQ2, l2, y2, z2⟩, st2⟩ := X0.specialBack hx (y := (⟨"java/lang/String", "<init>", "([CIILjava/lang/Void;)V"⟩ : MethodName)) rfl hown (mvT hZ (hw _ (List.mem_of_getElem? (i := 12) rfl))) (mvT hZ (hw _ (List.mem_of_getElem? (i := 13) rfl))) (mvT hZ (hw _ (List.mem_of_getElem? (i := 15) rfl))) (by decide) (backOf (W := 0) (rm3g l Z aV hw [] a0 a1 nn u1 u2 kc cs vs h0 n0 Z0 E_a0 F_value_a0 F_coder_a0 V_a1 S_COMPACT_STRINGS ga nac hcs hB hvl hcap hnz) hZ (hw _ (List.mem_of_getElem? (i := 15) rfl)) (hw _ (List.mem_of_getElem? (i := 8) rfl)) (by decide) (by decide)) (g := (mkF m 6 #[.val (.ref a0), .val (.ref a1)] [.null, (.int nn), (.int (0 : Int32)), (.ref a1), (.ref a0)])) rfl (by rw [hml]; rfl) (Steps.refl _) (a := a0) (argsL := [(.ref a1), (.int (0 : Int32)), (.int nn), .null]) (rest := []) (lenOf pd___CIILjava_lang_Void__V rfl) rfl (by show 2 * 0 + _ ≤ _; exact Nat.le_of_eq rfl) (hb hby d2_6) (fun _ _ => ⟨rfl, e0, (by decide : 0 + 1 ≤ _), (by decide : 0 + 12 ≤ _)⟩)
  dsimp only [Pt.U, Pt.locs, Pt.cells, Pt.slots] at X2 l2 y2 z2 st2 hQ2
  subst l2 y2 z2
  obtain ⟨nb_2, kb_2, ys_2, rfl, N2q, Kq2, E_a0_p, F_value_a0_p, F_coder_a0_p, V_nb_2_p, hr2_0⟩ := hQ2
  have N2 := Fr.app N0 N2q
  have S_COMPACT_STRINGS := Sta.keepE S_COMPACT_STRINGS Kq2 (staS E_a0.cell (fun x hx' => nomatch hx'))
  have E_a0 := E_a0.keep Kq2
  have V_a1 := V_a1.keep Kq2 (ninS nac nin0)
  have K2 := K0.trans Kq2 (allS (P := fun x => x ∈ [a0] ∨ h0.size ≤ x) (Or.inl (List.mem_of_getElem? (i := 0) rfl)) all0)
  have zn2 : n0 ≤ T2.heap.size := Nat.le_trans Z0 Kq2.1
  have E_a0 := E_a0_p
  have F_value_a0 := F_value_a0_p
  have F_coder_a0 := F_coder_a0_p
  have V_nb_2 := V_nb_2_p
  refine OGo.go (B := T2.setTop (mkF m 9 #[.val (.ref a0), .val (.ref a1)] [])) ?_ (fun tX kX => st2.trans kX)
  refine OGo.ret X2 (v := none) (fun _ => rfl) (BodyLoose.notSynchronized Bd) (fun fs hr => X2.returnOut hx Bd.returns (hb hby d2_9) hr) (Q := Q2g Z a0 a1 u1 u2 kc cs nn vs h0 n0) ?_ (by decide) (by decide)
  show Q2g Z a0 a1 u1 u2 kc cs nn vs h0 n0 _ T2.heap _
  exact ⟨nb_2, kb_2, ys_2, rfl, N2, K2, E_a0, F_value_a0, F_coder_a0, V_nb_2, hr2_0⟩
theorem d3_8 : decode jdk_42_method_149_code 8 = .ok (.aload_n 0, 1) := by decide +kernel
theorem d3_9 : decode jdk_42_method_149_code 9 = .ok (.ldc 7, 2) := by decide +kernel
theorem d3_11 : decode jdk_42_method_149_code 11 = .ok (.getfield 9, 3) := by decide +kernel
theorem d3_14 : decode jdk_42_method_149_code 14 = .ok (.putfield 9, 3) := by decide +kernel
theorem d3_17 : decode jdk_42_method_149_code 17 = .ok (.aload_n 0, 1) := by decide +kernel
theorem d3_18 : decode jdk_42_method_149_code 18 = .ok (.ldc 7, 2) := by decide +kernel
theorem d3_20 : decode jdk_42_method_149_code 20 = .ok (.getfield 15, 3) := by decide +kernel
theorem d3_23 : decode jdk_42_method_149_code 23 = .ok (.putfield 15, 3) := by decide +kernel
theorem d3_26 : decode jdk_42_method_149_code 26 = .ok (.return_, 1) := by decide +kernel
def Q3c0 (Z : State) (a0 : Addr) (a1 : Addr) (u2 : Value) (h0 : Heap) (n0 : Nat) (v : Option Value) (h : Heap) (L : List Loc) : Prop := ∃ (nb : Addr) (kb : ClassId), v = none ∧ Fr n0 L ∧ Keep h0 h [a0] ∧ Exa Z h a0 "java/lang/String" ∧ Fld Z h a0 "java/lang/String" "value" "[B" (.ref nb) ∧ Fld Z h a0 "java/lang/String" "coder" "B" (.int (0 : Int32)) ∧ Arv Z h nb kb .byte (0 : Int32) [] (.int (0 : Int32))
def P3c0 (Z : State) (a0 : Addr) (a1 : Addr) (u2 : Value) (h0 : Heap) (n0 : Nat) (s : State) (o : Outcome) (U' : State) : Prop := ∃ v L, o = .returned v ∧ Q3c0 Z a0 a1 u2 h0 n0 v U'.heap L ∧ CHr Z own_EL s.vm s.heap U'.vm U'.heap ∧ ReturnedEndW s o U' L ({ frames := 1, cells := 2, slots := 4, locals := 12 } : Room).cells ({ frames := 1, cells := 2, slots := 4, locals := 12 } : Room).slots
set_option maxRecDepth 65536 in
set_option maxHeartbeats 40000000 in
theorem rm3c0 (l : Launch) (Z : State) (aV : Array Value) (hw : ∀ d ∈ tables_1, d.before aV Z = true) (ws : List Jvm.Cond) (a0 : Addr) (a1 : Addr) (u2 : Value) (h0 : Heap) (n0 : Nat) (Z0 : n0 ≤ h0.size) (E_a0 : Exa Z h0 a0 "java/lang/String") (F_value_a0 : Fld Z h0 a0 "java/lang/String" "value" "[B" .null) (F_coder_a0 : Fld Z h0 a0 "java/lang/String" "coder" "B" u2) (ga : n0 ≤ a0) :
    MetFree l (⟨"java/lang/String", "<init>", "([CIILjava/lang/Void;)V"⟩ : MethodName) (head1 (Jvm.Cond.code (⟨"java/lang/String", "<init>", "([CIILjava/lang/Void;)V"⟩ : MethodName) jdk_42_method_149_code 6 none :: ws) ({ frames := 1, cells := 2, slots := 4, locals := 12 } : Room)) (fun a U => a = #[(.ref a0), (.ref a1), (.int (0 : Int32)), (.int (0 : Int32)), .null] ∧ Z.Warmed39 U.vm ∧ U.heap = h0 ∧ CHv Z own_EL U.vm h0) (fun _ _ _ _ _ => True) (fun _ U o U' => ∃ v L, o = .returned v ∧ Q3c0 Z a0 a1 u2 h0 n0 v U'.heap L ∧ CHr Z own_EL U.vm U.heap U'.vm U'.heap ∧ ReturnedEndW U o U' L ({ frames := 1, cells := 2, slots := 4, locals := 12 } : Room).cells ({ frames := 1, cells := 2, slots := 4, locals := 12 } : Room).slots) := by
  refine MetFree.of_bodySF (plainFor_of_name pn_java_lang_String) hisR ?_
  intro p e s m args below meth c s₁ Bd hml0 hP hK
  obtain ⟨rfl, hZ, hh, hCH⟩ := hP
  have hx := Bd.exec
  have hby := Bd.bytes
  have hml : c.maxLocals = 6 := hml0
  have hown : s.vm.findClass "java/lang/String" = some m.cls := findClass_of_methodNamed Bd.named
  have hnm := (name_of_methodNamed Bd.named Bd.method).1
  have X0 : Stand p l e ({ frames := 1, cells := 2, slots := 4, locals := 12 } : Room) s m #[(.ref a0), (.ref a1), (.int (0 : Int32)), (.int (0 : Int32)), .null] below meth c s₁ [] 0 0 := Stand.of_body Bd
  have e0 : s₁.heap = h0 := by rw [← hh, Bd.state]; rfl
  have X0 : Stand p l e ({ frames := 1, cells := 2, slots := 4, locals := 12 } : Room) (s.setVm s.vm) m #[(.ref a0), (.ref a1), (.int (0 : Int32)), (.int (0 : Int32)), .null] below meth c s₁ [] 0 0 := X0
  have hZ : Z.Warmed39 (s.setVm s.vm).vm := hZ
  have hown : (s.setVm s.vm).vm.findClass "java/lang/String" = some m.cls := hown
  have hS0 : s.Since s.vm 0 := (State.WarmedH.refl s).since 0
  have hk0 : 0 ≤ h0.size := Nat.zero_le _
  have own_ew := own_ewT hw
  have own_wS := own_wST hw
  have efx : entryFrame m #[(.ref a0), (.ref a1), (.int (0 : Int32)), (.int (0 : Int32)), .null] 6 = mkF m 0 #[.val (.ref a0), .val (.ref a1), .val (.int (0 : Int32)), .val (.int (0 : Int32)), .val .null, .unset] [] := by first | (simp [entryFrame, mkF, argsToLocals, Value.category]; done) | rfl
  have CR0 : CHr Z own_EL s.vm h0 s.vm h0 := CHr.refl hCH
  have N0 := Fr.nil n0
  have K0 : Keep h0 h0 [a0] := Keep.refl h0 _
  refine OGo.start (g' := mkF m 0 #[.val (.ref a0), .val (.ref a1), .val (.int (0 : Int32)), .val (.int (0 : Int32)), .val .null, .unset] []) (efx) ?_
  show OGo p.tables e below (P3c0 Z a0 a1 u2 h0 n0 s) (s₁.setTop (mkF m 0 #[.val (.ref a0), .val (.ref a1), .val (.int (0 : Int32)), .val (.int (0 : Int32)), .val .null, .unset] []))
  have Sf_a0 : Safe Z own_EL s.vm h0 a0 := Safe.bare hZ.alike E_a0 F_value_a0
  refine OGo.go (B := s₁.setTop (mkF m 1 #[.val (.ref a0), .val (.ref a1), .val (.int (0 : Int32)), .val (.int (0 : Int32)), .val .null, .unset] [(.ref a0)])) ?_ (fun tX kX => XS.aloadN X0.here hx rfl (hb hby d3_0) rfl rfl kX)
  obtain ⟨T1, X1, e1, st1⟩ := initO X0 hx hZ hown (hw _ (List.mem_of_getElem? (i := 16) rfl)) (hw _ (List.mem_of_getElem? (i := 17) rfl)) (hw _ (List.mem_of_getElem? (i := 18) rfl)) e0 (g := (mkF m 1 #[.val (.ref a0), .val (.ref a1), .val (.int (0 : Int32)), .val (.int (0 : Int32)), .val .null, .unset] [(.ref a0)])) rfl (by rw [hml]; rfl) rfl (hb hby d3_1) (by decide) (W := 0) (by show 2 * 0 + _ ≤ _; exact Nat.le_of_eq rfl) (by decide)
  refine OGo.go (B := T1.setTop (mkF m 4 #[.val (.ref a0), .val (.ref a1), .val (.int (0 : Int32)), .val (.int (0 : Int32)), .val .null, .unset] [])) ?_ st1
  refine OGo.go (B := T1.setTop (mkF m 5 #[.val (.ref a0), .val (.ref a1), .val (.int (0 : Int32)), .val (.int (0 : Int32)), .val .null, .unset] [(.int (0 : Int32))])) ?_ (fun tX kX => XS.iloadN X1.here hx rfl (hb hby d3_4) rfl kX)
  refine OGo.go (B := T1.setTop (mkF m 8 #[.val (.ref a0), .val (.ref a1), .val (.int (0 : Int32)), .val (.int (0 : Int32)), .val .null, .unset] [])) ?_ (fun tX kX => XS.ifNo X1.here hx rfl (hb hby d3_5) rfl ((if0 _ _).trans (teq (by decide)).2) kX)
  refine OGo.go (B := T1.setTop (mkF m 9 #[.val (.ref a0), .val (.ref a1), .val (.int (0 : Int32)), .val (.int (0 : Int32)), .val .null, .unset] [(.ref a0)])) ?_ (fun tX kX => XS.aloadN X1.here hx rfl (hb hby d3_8) rfl rfl kX)
  obtain ⟨s2, T2, h2, k2, sb2, kk2, X2, e2, E2, hS2, hk2, hZ2, hown2, EA2, FC2, FV2, VA2, -, -, CR2, LT2, SF2, st2⟩ := ldcCH (vs := []) (z := (0 : Int32)) X1 hx hZ hown (hw _ (List.mem_of_getElem? (i := 78) rfl)) own_wS e1 hS0 hk0 own_ew (by decide) hCH ⟨by decide, rfl⟩ (by decide) rfl (g := (mkF m 9 #[.val (.ref a0), .val (.ref a1), .val (.int (0 : Int32)), .val (.int (0 : Int32)), .val .null, .unset] [(.ref a0)])) rfl (hb hby d3_9) (n := 0) (by decide) (by decide) (by decide) (by decide)
  have Sf_a0 := CR2.safe E_a0.lt Sf_a0
  have CRt2 := CR0.trans CR2
  have hCH := CR2.1
  have E_a0 := E_a0.ext E2
  have F_value_a0 := F_value_a0.ext E2
  have F_coder_a0 := F_coder_a0.ext E2
  have zn2 : n0 ≤ h2.size := Nat.le_trans Z0 E2.1
  have K2 := K0.ext E2
  have E_s2 := EA2
  have F_coder_s2 := FC2
  have F_value_s2 := FV2
  have V_sb2 := VA2
  refine OGo.go (B := T2.setTop (mkF m 11 #[.val (.ref a0), .val (.ref a1), .val (.int (0 : Int32)), .val (.int (0 : Int32)), .val .null, .unset] [(.ref s2), (.ref a0)])) ?_ st2
  obtain ⟨T3, X3, e3, st3⟩ := getF X2 hx hZ2 hown2 (host := "") (Or.inl (hw _ (List.mem_of_getElem? (i := 33) rfl))) Via.refl e2 F_value_s2 (g := (mkF m 11 #[.val (.ref a0), .val (.ref a1), .val (.int (0 : Int32)), .val (.int (0 : Int32)), .val .null, .unset] [(.ref s2), (.ref a0)])) rfl rfl (hb hby d3_11)
  refine OGo.go (B := T3.setTop (mkF m 14 #[.val (.ref a0), .val (.ref a1), .val (.int (0 : Int32)), .val (.int (0 : Int32)), .val .null, .unset] [(.ref sb2), (.ref a0)])) ?_ st3
  obtain ⟨T4, h4, X4, e4, W4, st4⟩ := putF X3 hx hZ2 hown2 (host := "") (Or.inl (hw _ (List.mem_of_getElem? (i := 33) rfl))) Via.refl e3 F_value_a0 E_a0 (Or.inr ⟨(hw _ (List.mem_of_getElem? (i := 34) rfl)), rfl, hnm⟩) (hw _ (List.mem_of_getElem? (i := 7) rfl)) (ty := (.array .byte)) (by decide) rfl rfl (g := (mkF m 14 #[.val (.ref a0), .val (.ref a1), .val (.int (0 : Int32)), .val (.int (0 : Int32)), .val .null, .unset] [(.ref sb2), (.ref a0)])) rfl rfl (hb hby d3_14)
  have Eold4 := E_a0
  have Sfo4 := Sf_a0
  have CHo4 := hCH
  have Sf_a0 := Safe.wr W4 Sfo4 CHo4 Sf_a0
  have CR4 := CRt2.trans (CHr.wr W4 Sfo4 CHo4)
  have hCH := CHv.wr W4 Sfo4 CHo4
  have E_a0 := E_a0.wr W4
  have F_value_a0 := F_value_a0.same W4
  have F_coder_a0 := F_coder_a0.other W4 (Or.inr (slot_ne (Or.inr (hw _ (List.mem_of_getElem? (i := 32) rfl))) (Or.inr (hw _ (List.mem_of_getElem? (i := 34) rfl))) (by decide) (t := .byte) (t' := (.array .byte)) (by decide) (by decide)))
  have E_s2 := E_s2.wr W4
  have F_coder_s2 := F_coder_s2.other W4 (Or.inr (slot_ne (Or.inr (hw _ (List.mem_of_getElem? (i := 32) rfl))) (Or.inr (hw _ (List.mem_of_getElem? (i := 34) rfl))) (by decide) (t := .byte) (t' := (.array .byte)) (by decide) (by decide)))
  have V_sb2 := V_sb2.other W4 (Ne.symm (Exa.neArv Eold4 V_sb2 (hw _ (List.mem_of_getElem? (i := 7) rfl))))
  have K4 := K2.wr W4 (Or.inl (List.mem_of_getElem? (i := 0) rfl))
  have zn4 : n0 ≤ h4.size := Nat.le_trans zn2 (Keep.of_wr W4).1
  have hk4 := Nat.le_trans hk2 (Keep.of_wr W4).1
  have N4 := Fr.snoc X4 N0 ga
  refine OGo.go (B := T4.setTop (mkF m 17 #[.val (.ref a0), .val (.ref a1), .val (.int (0 : Int32)), .val (.int (0 : Int32)), .val .null, .unset] [])) ?_ st4
  refine OGo.go (B := T4.setTop (mkF m 18 #[.val (.ref a0), .val (.ref a1), .val (.int (0 : Int32)), .val (.int (0 : Int32)), .val .null, .unset] [(.ref a0)])) ?_ (fun tX kX => XS.aloadN X4.here hx rfl (hb hby d3_17) rfl rfl kX)
  refine OGo.go (B := T4.setTop (mkF m 20 #[.val (.ref a0), .val (.ref a1), .val (.int (0 : Int32)), .val (.int (0 : Int32)), .val .null, .unset] [(.ref s2), (.ref a0)])) ?_ (ldcAgain X4 hx hZ2 hown2 (hw _ (List.mem_of_getElem? (i := 78) rfl)) LT2 (g := (mkF m 18 #[.val (.ref a0), .val (.ref a1), .val (.int (0 : Int32)), .val (.int (0 : Int32)), .val .null, .unset] [(.ref a0)])) rfl (hb hby d3_18))
  obtain ⟨T5, X5, e5, st5⟩ := getF X4 hx hZ2 hown2 (host := "") (Or.inl (hw _ (List.mem_of_getElem? (i := 31) rfl))) Via.refl e4 F_coder_s2 (g := (mkF m 20 #[.val (.ref a0), .val (.ref a1), .val (.int (0 : Int32)), .val (.int (0 : Int32)), .val .null, .unset] [(.ref s2), (.ref a0)])) rfl rfl (hb hby d3_20)
  refine OGo.go (B := T5.setTop (mkF m 23 #[.val (.ref a0), .val (.ref a1), .val (.int (0 : Int32)), .val (.int (0 : Int32)), .val .null, .unset] [(.int (0 : Int32)), (.ref a0)])) ?_ st5
  obtain ⟨T6, h6, X6, e6, W6, st6⟩ := putF X5 hx hZ2 hown2 (host := "") (Or.inl (hw _ (List.mem_of_getElem? (i := 31) rfl))) Via.refl e5 F_coder_a0 E_a0 (Or.inr ⟨(hw _ (List.mem_of_getElem? (i := 32) rfl)), rfl, hnm⟩) (hw _ (List.mem_of_getElem? (i := 7) rfl)) (ty := .byte) (by decide) rfl rfl (g := (mkF m 23 #[.val (.ref a0), .val (.ref a1), .val (.int (0 : Int32)), .val (.int (0 : Int32)), .val .null, .unset] [(.int (0 : Int32)), (.ref a0)])) rfl rfl (hb hby d3_23)
  have Eold6 := E_a0
  have Sfo6 := Sf_a0
  have CHo6 := hCH
  have Sf_a0 := Safe.wr W6 Sfo6 CHo6 Sf_a0
  have CR6 := CR4.trans (CHr.wr W6 Sfo6 CHo6)
  have hCH := CHv.wr W6 Sfo6 CHo6
  have E_a0 := E_a0.wr W6
  have F_value_a0 := F_value_a0.other W6 (Or.inr (slot_ne (Or.inr (hw _ (List.mem_of_getElem? (i := 34) rfl))) (Or.inr (hw _ (List.mem_of_getElem? (i := 32) rfl))) (by decide) (t := (.array .byte)) (t' := .byte) (by decide) (by decide)))
  have F_coder_a0 := F_coder_a0.same W6
  have E_s2 := E_s2.wr W6
  have V_sb2 := V_sb2.other W6 (Ne.symm (Exa.neArv Eold6 V_sb2 (hw _ (List.mem_of_getElem? (i := 7) rfl))))
  have K6 := K4.wr W6 (Or.inl (List.mem_of_getElem? (i := 0) rfl))
  have zn6 : n0 ≤ h6.size := Nat.le_trans zn4 (Keep.of_wr W6).1
  have hk6 := Nat.le_trans hk4 (Keep.of_wr W6).1
  have N6 := Fr.snoc X6 N4 ga
  refine OGo.go (B := T6.setTop (mkF m 26 #[.val (.ref a0), .val (.ref a1), .val (.int (0 : Int32)), .val (.int (0 : Int32)), .val .null, .unset] [])) ?_ st6
  have CRe := CR6.trans (CHv.at X6 hZ2 own_ew hCH)
  refine OGo.retWH X6 hS2 (by rw [e6]; exact hk6) (v := none) (fun _ => rfl) (BodyLoose.notSynchronized Bd) (fun fs hr => X6.returnOut hx Bd.returns (hb hby d3_26) hr) (Q := Q3c0 Z a0 a1 u2 h0 n0) ?_ (by rw [hh, e6]; exact CRe) (by decide) (by decide)
  show Q3c0 Z a0 a1 u2 h0 n0 _ T6.heap _
  rw [e6]
  exact ⟨sb2, kk2, rfl, N6, K6, E_a0, F_value_a0, F_coder_a0, V_sb2⟩
def Q2c0 (Z : State) (a0 : Addr) (a1 : Addr) (u2 : Value) (kc : ClassId) (h0 : Heap) (n0 : Nat) (v : Option Value) (h : Heap) (L : List Loc) : Prop := ∃ (nb : Addr) (kb : ClassId), v = none ∧ Fr n0 L ∧ Keep h0 h [a0] ∧ Exa Z h a0 "java/lang/String" ∧ Fld Z h a0 "java/lang/String" "value" "[B" (.ref nb) ∧ Fld Z h a0 "java/lang/String" "coder" "B" (.int (0 : Int32)) ∧ Arv Z h nb kb .byte (0 : Int32) [] (.int (0 : Int32))
def P2c0 (Z : State) (a0 : Addr) (a1 : Addr) (u2 : Value) (kc : ClassId) (h0 : Heap) (n0 : Nat) (s : State) (o : Outcome) (U' : State) : Prop := ∃ v L, o = .returned v ∧ Q2c0 Z a0 a1 u2 kc h0 n0 v U'.heap L ∧ CHr Z own_EL s.vm s.heap U'.vm U'.heap ∧ ReturnedEndW s o U' L ({ frames := 2, cells := 2, slots := 4, locals := 29 } : Room).cells ({ frames := 2, cells := 2, slots := 4, locals := 29 } : Room).slots
set_option maxRecDepth 65536 in
set_option maxHeartbeats 40000000 in
theorem rm2c0 (l : Launch) (Z : State) (aV : Array Value) (hw : ∀ d ∈ tables_1, d.before aV Z = true) (ws : List Jvm.Cond) (a0 : Addr) (a1 : Addr) (u2 : Value) (kc : ClassId) (h0 : Heap) (n0 : Nat) (Z0 : n0 ≤ h0.size) (E_a0 : Exa Z h0 a0 "java/lang/String") (F_value_a0 : Fld Z h0 a0 "java/lang/String" "value" "[B" .null) (F_coder_a0 : Fld Z h0 a0 "java/lang/String" "coder" "B" u2) (V_a1 : Arv Z h0 a1 kc .char (0 : Int32) [] (.int (0 : Int32))) (ga : n0 ≤ a0) :
    MetFree l (⟨"java/lang/String", "<init>", "([C)V"⟩ : MethodName) (head1 (Jvm.Cond.code (⟨"java/lang/String", "<init>", "([C)V"⟩ : MethodName) jdk_42_method_3_code 2 none :: ws) ({ frames := 2, cells := 2, slots := 4, locals := 29 } : Room)) (fun a U => a = #[(.ref a0), (.ref a1)] ∧ Z.Warmed39 U.vm ∧ U.heap = h0 ∧ CHv Z own_EL U.vm h0) (fun _ _ _ _ _ => True) (fun _ U o U' => ∃ v L, o = .returned v ∧ Q2c0 Z a0 a1 u2 kc h0 n0 v U'.heap L ∧ CHr Z own_EL U.vm U.heap U'.vm U'.heap ∧ ReturnedEndW U o U' L ({ frames := 2, cells := 2, slots := 4, locals := 29 } : Room).cells ({ frames := 2, cells := 2, slots := 4, locals := 29 } : Room).slots) := by
  refine MetFree.of_bodySF (plainFor_of_name pn_java_lang_String) hisR ?_
  intro p e s m args below meth c s₁ Bd hml0 hP hK
  obtain ⟨rfl, hZ, hh, hCH⟩ := hP
  have hx := Bd.exec
  have hby := Bd.bytes
  have hml : c.maxLocals = 2 := hml0
  have hown : s.vm.findClass "java/lang/String" = some m.cls := findClass_of_methodNamed Bd.named
  have hnm := (name_of_methodNamed Bd.named Bd.method).1
  have X0 : Stand p l e ({ frames := 2, cells := 2, slots := 4, locals := 29 } : Room) s m #[(.ref a0), (.ref a1)] below meth c s₁ [] 0 0 := Stand.of_body Bd
  have e0 : s₁.heap = h0 := by rw [← hh, Bd.state]; rfl
  have X0 : Stand p l e ({ frames := 2, cells := 2, slots := 4, locals := 29 } : Room) (s.setVm s.vm) m #[(.ref a0), (.ref a1)] below meth c s₁ [] 0 0 := X0
  have hZ : Z.Warmed39 (s.setVm s.vm).vm := hZ
  have hown : (s.setVm s.vm).vm.findClass "java/lang/String" = some m.cls := hown
  have hS0 : s.Since s.vm 0 := (State.WarmedH.refl s).since 0
  have hk0 : 0 ≤ h0.size := Nat.zero_le _
  have own_ew := own_ewT hw
  have own_wS := own_wST hw
  have efx : entryFrame m #[(.ref a0), (.ref a1)] 2 = mkF m 0 #[.val (.ref a0), .val (.ref a1)] [] := by first | (simp [entryFrame, mkF, argsToLocals, Value.category]; done) | rfl
  have CR0 : CHr Z own_EL s.vm h0 s.vm h0 := CHr.refl hCH
  have N0 := Fr.nil n0
  have K0 : Keep h0 h0 [a0] := Keep.refl h0 _
  refine OGo.start (g' := mkF m 0 #[.val (.ref a0), .val (.ref a1)] []) (efx) ?_
  show OGo p.tables e below (P2c0 Z a0 a1 u2 kc h0 n0 s) (s₁.setTop (mkF m 0 #[.val (.ref a0), .val (.ref a1)] []))
  have Sf_a0 : Safe Z own_EL s.vm h0 a0 := Safe.bare hZ.alike E_a0 F_value_a0
  refine OGo.go (B := s₁.setTop (mkF m 1 #[.val (.ref a0), .val (.ref a1)] [(.ref a0)])) ?_ (fun tX kX => XS.aloadN X0.here hx rfl (hb hby d2_0) rfl rfl kX)
  refine OGo.go (B := s₁.setTop (mkF m 2 #[.val (.ref a0), .val (.ref a1)] [(.ref a1), (.ref a0)])) ?_ (fun tX kX => XS.aloadN X0.here hx rfl (hb hby d2_1) rfl rfl kX)
  refine OGo.go (B := s₁.setTop (mkF m 3 #[.val (.ref a0), .val (.ref a1)] [(.int (0 : Int32)), (.ref a1), (.ref a0)])) ?_ (fun tX kX => XS.iconst X0.here hx rfl (hb hby d2_2) kX)
  refine OGo.go (B := s₁.setTop (mkF m 4 #[.val (.ref a0), .val (.ref a1)] [(.ref a1), (.int (0 : Int32)), (.ref a1), (.ref a0)])) ?_ (fun tX kX => XS.aloadN X0.here hx rfl (hb hby d2_3) rfl rfl kX)
  obtain ⟨cl1, Ar1, qa1, S1, N1', H1, G1⟩ := id V_a1
  refine OGo.go (B := s₁.setTop (mkF m 5 #[.val (.ref a0), .val (.ref a1)] [(.int (0 : Int32)), (.int (0 : Int32)), (.ref a1), (.ref a0)])) ?_ (fun tX kX => X0.arraylength hx (by rw [e0]; exact Ar1.1) (State.isArrayOf_alike hZ.alike Ar1.2.1) (g := (mkF m 4 #[.val (.ref a0), .val (.ref a1)] [(.ref a1), (.int (0 : Int32)), (.ref a1), (.ref a0)])) rfl rfl (hb hby d2_4) _ (by rw [len_of S1 N1']; exact kX))
  refine OGo.go (B := s₁.setTop (mkF m 6 #[.val (.ref a0), .val (.ref a1)] [.null, (.int (0 : Int32)), (.int (0 : Int32)), (.ref a1), (.ref a0)])) ?_ (fun tX kX => XS.aconstNull X0.here hx rfl (hb hby d2_5) kX)
  obtain ⟨_, _, ⟨T2, L2, k2, n2⟩, -, X2, hSq2, hgr2, ⟨Lc2, hQ2, l2, y2, z2, CRq2⟩, st2⟩ := X0.specialBackS hx (y := (⟨"java/lang/String", "<init>", "([CIILjava/lang/Void;)V"⟩ : MethodName)) rfl hown (mvT hZ (hw _ (List.mem_of_getElem? (i := 12) rfl))) (mvT hZ (hw _ (List.mem_of_getElem? (i := 13) rfl))) (mvT hZ (hw _ (List.mem_of_getElem? (i := 15) rfl))) (by decide) (backOfSH (W := 0) (rm3c0 l Z aV hw [] a0 a1 u2 h0 n0 Z0 E_a0 F_value_a0 F_coder_a0 ga) hZ (hw _ (List.mem_of_getElem? (i := 15) rfl)) (hw _ (List.mem_of_getElem? (i := 8) rfl)) (by decide) (by decide) own_ew hCH) (g := (mkF m 6 #[.val (.ref a0), .val (.ref a1)] [.null, (.int (0 : Int32)), (.int (0 : Int32)), (.ref a1), (.ref a0)])) rfl (by rw [hml]; rfl) (Steps.refl _) (a := a0) (argsL := [(.ref a1), (.int (0 : Int32)), (.int (0 : Int32)), .null]) (rest := []) (lenOf pd___CIILjava_lang_Void__V rfl) rfl (by show 2 * 0 + _ ≤ _; exact Nat.le_of_eq rfl) (hb hby d2_6) (fun _ _ => ⟨rfl, e0, (by decide : 0 + 2 ≤ _), (by decide : 0 + 4 ≤ _)⟩)
  dsimp only [Pt.U, Pt.locs, Pt.cells, Pt.slots] at X2 l2 y2 z2 st2 hQ2 hSq2 hgr2 CRq2
  subst l2 y2 z2
  obtain ⟨X2, hS2, hZ2, hown2⟩ := rebS hS0 hk0 X2 hSq2 (by rw [← e0]; exact hgr2) hZ hown
  have Sf_a0 := CRq2.safe E_a0.lt Sf_a0
  have CRt2 := CR0.trans CRq2
  have hCH := CRq2.1
  obtain ⟨nb_2, kb_2, rfl, N2q, Kq2, E_a0_p, F_value_a0_p, F_coder_a0_p, V_nb_2_p⟩ := hQ2
  have N2 := Fr.app N0 N2q
  have E_a0 := E_a0.keep Kq2
  have K2 := K0.trans Kq2 (allS (P := fun x => x ∈ [a0] ∨ h0.size ≤ x) (Or.inl (List.mem_of_getElem? (i := 0) rfl)) all0)
  have zn2 : n0 ≤ T2.heap.size := Nat.le_trans Z0 Kq2.1
  have hk2 := Nat.le_trans hk0 Kq2.1
  have E_a0 := E_a0_p
  have F_value_a0 := F_value_a0_p
  have F_coder_a0 := F_coder_a0_p
  have V_nb_2 := V_nb_2_p
  refine OGo.go (B := T2.setTop (mkF m 9 #[.val (.ref a0), .val (.ref a1)] [])) ?_ (fun tX kX => st2.trans kX)
  have CRe := CRt2.trans (CHv.at X2 hZ2 own_ew hCH)
  refine OGo.retWH X2 hS2 (Nat.le_refl _) (v := none) (fun _ => rfl) (BodyLoose.notSynchronized Bd) (fun fs hr => X2.returnOut hx Bd.returns (hb hby d2_9) hr) (Q := Q2c0 Z a0 a1 u2 kc h0 n0) ?_ (by rw [hh]; exact CRe) (by decide) (by decide)
  show Q2c0 Z a0 a1 u2 kc h0 n0 _ T2.heap _
  exact ⟨nb_2, kb_2, rfl, N2, K2, E_a0, F_value_a0, F_coder_a0, V_nb_2⟩
theorem own_Bset {vs : List Value} (h : own_B vs) {i : Nat} {c : Int32} (hc : ¬ (255 : Int32) < c) : own_B (vs.set i (.int c)) := fun v q => by
  rcases List.mem_or_eq_of_mem_set q with q | q
  · exact h v q
  · exact ⟨c, q, hc⟩
theorem d1_0 : decode method_3_code 0 = .ok (.aload_n 1, 1) := by decide +kernel
theorem d1_1 : decode method_3_code 1 = .ok (.arraylength, 1) := by decide +kernel
theorem d1_2 : decode method_3_code 2 = .ok (.istore_n 2, 1) := by decide +kernel
theorem d1_152 : decode method_3_code 152 = .ok (.new 25, 3) := by decide +kernel
theorem d1_155 : decode method_3_code 155 = .ok (.dup, 1) := by decide +kernel
theorem d1_156 : decode method_3_code 156 = .ok (.aload_n 1, 1) := by decide +kernel
theorem d1_157 : decode method_3_code 157 = .ok (.invokespecial 27, 3) := by decide +kernel
theorem pd___C_V : parseMethodDescriptor "([C)V" = some ⟨[(.array .char)], none⟩ := by decide +kernel
theorem d1_160 : decode method_3_code 160 = .ok (.areturn, 1) := by decide +kernel
theorem d1_138 : decode method_3_code 138 = .ok (.iload_n 2, 1) := by decide +kernel
theorem d1_139 : decode method_3_code 139 = .ok (.bipush 11, 2) := by decide +kernel
theorem d1_141 : decode method_3_code 141 = .ok (.if_icmp .le 11, 3) := by decide +kernel
theorem d1_144 : decode method_3_code 144 = .ok (.aload_n 1, 1) := by decide +kernel
theorem d1_145 : decode method_3_code 145 = .ok (.bipush 11, 2) := by decide +kernel
theorem d1_147 : decode method_3_code 147 = .ok (.aload_n 0, 1) := by decide +kernel
theorem d1_148 : decode method_3_code 148 = .ok (.bipush 11, 2) := by decide +kernel
theorem d1_150 : decode method_3_code 150 = .ok (.caload, 1) := by decide +kernel
theorem d1_151 : decode method_3_code 151 = .ok (.castore, 1) := by decide +kernel
theorem d1_124 : decode method_3_code 124 = .ok (.iload_n 2, 1) := by decide +kernel
theorem d1_125 : decode method_3_code 125 = .ok (.bipush 10, 2) := by decide +kernel
theorem d1_127 : decode method_3_code 127 = .ok (.if_icmp .le 11, 3) := by decide +kernel
theorem d1_130 : decode method_3_code 130 = .ok (.aload_n 1, 1) := by decide +kernel
theorem d1_131 : decode method_3_code 131 = .ok (.bipush 10, 2) := by decide +kernel
theorem d1_133 : decode method_3_code 133 = .ok (.aload_n 0, 1) := by decide +kernel
theorem d1_134 : decode method_3_code 134 = .ok (.bipush 10, 2) := by decide +kernel
theorem d1_136 : decode method_3_code 136 = .ok (.caload, 1) := by decide +kernel
theorem d1_137 : decode method_3_code 137 = .ok (.castore, 1) := by decide +kernel
theorem d1_110 : decode method_3_code 110 = .ok (.iload_n 2, 1) := by decide +kernel
theorem d1_111 : decode method_3_code 111 = .ok (.bipush 9, 2) := by decide +kernel
theorem d1_113 : decode method_3_code 113 = .ok (.if_icmp .le 11, 3) := by decide +kernel
theorem d1_116 : decode method_3_code 116 = .ok (.aload_n 1, 1) := by decide +kernel
theorem d1_117 : decode method_3_code 117 = .ok (.bipush 9, 2) := by decide +kernel
theorem d1_119 : decode method_3_code 119 = .ok (.aload_n 0, 1) := by decide +kernel
theorem d1_120 : decode method_3_code 120 = .ok (.bipush 9, 2) := by decide +kernel
theorem d1_122 : decode method_3_code 122 = .ok (.caload, 1) := by decide +kernel
theorem d1_123 : decode method_3_code 123 = .ok (.castore, 1) := by decide +kernel
theorem d1_96 : decode method_3_code 96 = .ok (.iload_n 2, 1) := by decide +kernel
theorem d1_97 : decode method_3_code 97 = .ok (.bipush 8, 2) := by decide +kernel
theorem d1_99 : decode method_3_code 99 = .ok (.if_icmp .le 11, 3) := by decide +kernel
theorem d1_102 : decode method_3_code 102 = .ok (.aload_n 1, 1) := by decide +kernel
theorem d1_103 : decode method_3_code 103 = .ok (.bipush 8, 2) := by decide +kernel
theorem d1_105 : decode method_3_code 105 = .ok (.aload_n 0, 1) := by decide +kernel
theorem d1_106 : decode method_3_code 106 = .ok (.bipush 8, 2) := by decide +kernel
theorem d1_108 : decode method_3_code 108 = .ok (.caload, 1) := by decide +kernel
theorem d1_109 : decode method_3_code 109 = .ok (.castore, 1) := by decide +kernel
theorem d1_82 : decode method_3_code 82 = .ok (.iload_n 2, 1) := by decide +kernel
theorem d1_83 : decode method_3_code 83 = .ok (.bipush 7, 2) := by decide +kernel
theorem d1_85 : decode method_3_code 85 = .ok (.if_icmp .le 11, 3) := by decide +kernel
theorem d1_88 : decode method_3_code 88 = .ok (.aload_n 1, 1) := by decide +kernel
theorem d1_89 : decode method_3_code 89 = .ok (.bipush 7, 2) := by decide +kernel
theorem d1_91 : decode method_3_code 91 = .ok (.aload_n 0, 1) := by decide +kernel
theorem d1_92 : decode method_3_code 92 = .ok (.bipush 7, 2) := by decide +kernel
theorem d1_94 : decode method_3_code 94 = .ok (.caload, 1) := by decide +kernel
theorem d1_95 : decode method_3_code 95 = .ok (.castore, 1) := by decide +kernel
theorem d1_68 : decode method_3_code 68 = .ok (.iload_n 2, 1) := by decide +kernel
theorem d1_69 : decode method_3_code 69 = .ok (.bipush 6, 2) := by decide +kernel
theorem d1_71 : decode method_3_code 71 = .ok (.if_icmp .le 11, 3) := by decide +kernel
theorem d1_74 : decode method_3_code 74 = .ok (.aload_n 1, 1) := by decide +kernel
theorem d1_75 : decode method_3_code 75 = .ok (.bipush 6, 2) := by decide +kernel
theorem d1_77 : decode method_3_code 77 = .ok (.aload_n 0, 1) := by decide +kernel
theorem d1_78 : decode method_3_code 78 = .ok (.bipush 6, 2) := by decide +kernel
theorem d1_80 : decode method_3_code 80 = .ok (.caload, 1) := by decide +kernel
theorem d1_81 : decode method_3_code 81 = .ok (.castore, 1) := by decide +kernel
theorem d1_57 : decode method_3_code 57 = .ok (.iload_n 2, 1) := by decide +kernel
theorem d1_58 : decode method_3_code 58 = .ok (.iconst 5, 1) := by decide +kernel
theorem d1_59 : decode method_3_code 59 = .ok (.if_icmp .le 9, 3) := by decide +kernel
theorem d1_62 : decode method_3_code 62 = .ok (.aload_n 1, 1) := by decide +kernel
theorem d1_63 : decode method_3_code 63 = .ok (.iconst 5, 1) := by decide +kernel
theorem d1_64 : decode method_3_code 64 = .ok (.aload_n 0, 1) := by decide +kernel
theorem d1_65 : decode method_3_code 65 = .ok (.iconst 5, 1) := by decide +kernel
theorem d1_66 : decode method_3_code 66 = .ok (.caload, 1) := by decide +kernel
theorem d1_67 : decode method_3_code 67 = .ok (.castore, 1) := by decide +kernel
theorem d1_46 : decode method_3_code 46 = .ok (.iload_n 2, 1) := by decide +kernel
theorem d1_47 : decode method_3_code 47 = .ok (.iconst 4, 1) := by decide +kernel
theorem d1_48 : decode method_3_code 48 = .ok (.if_icmp .le 9, 3) := by decide +kernel
theorem d1_51 : decode method_3_code 51 = .ok (.aload_n 1, 1) := by decide +kernel
theorem d1_52 : decode method_3_code 52 = .ok (.iconst 4, 1) := by decide +kernel
theorem d1_53 : decode method_3_code 53 = .ok (.aload_n 0, 1) := by decide +kernel
theorem d1_54 : decode method_3_code 54 = .ok (.iconst 4, 1) := by decide +kernel
theorem d1_55 : decode method_3_code 55 = .ok (.caload, 1) := by decide +kernel
theorem d1_56 : decode method_3_code 56 = .ok (.castore, 1) := by decide +kernel
theorem d1_35 : decode method_3_code 35 = .ok (.iload_n 2, 1) := by decide +kernel
theorem d1_36 : decode method_3_code 36 = .ok (.iconst 3, 1) := by decide +kernel
theorem d1_37 : decode method_3_code 37 = .ok (.if_icmp .le 9, 3) := by decide +kernel
theorem d1_40 : decode method_3_code 40 = .ok (.aload_n 1, 1) := by decide +kernel
theorem d1_41 : decode method_3_code 41 = .ok (.iconst 3, 1) := by decide +kernel
theorem d1_42 : decode method_3_code 42 = .ok (.aload_n 0, 1) := by decide +kernel
theorem d1_43 : decode method_3_code 43 = .ok (.iconst 3, 1) := by decide +kernel
theorem d1_44 : decode method_3_code 44 = .ok (.caload, 1) := by decide +kernel
theorem d1_45 : decode method_3_code 45 = .ok (.castore, 1) := by decide +kernel
theorem d1_24 : decode method_3_code 24 = .ok (.iload_n 2, 1) := by decide +kernel
theorem d1_25 : decode method_3_code 25 = .ok (.iconst 2, 1) := by decide +kernel
theorem d1_26 : decode method_3_code 26 = .ok (.if_icmp .le 9, 3) := by decide +kernel
theorem d1_29 : decode method_3_code 29 = .ok (.aload_n 1, 1) := by decide +kernel
theorem d1_30 : decode method_3_code 30 = .ok (.iconst 2, 1) := by decide +kernel
theorem d1_31 : decode method_3_code 31 = .ok (.aload_n 0, 1) := by decide +kernel
theorem d1_32 : decode method_3_code 32 = .ok (.iconst 2, 1) := by decide +kernel
theorem d1_33 : decode method_3_code 33 = .ok (.caload, 1) := by decide +kernel
theorem d1_34 : decode method_3_code 34 = .ok (.castore, 1) := by decide +kernel
theorem d1_13 : decode method_3_code 13 = .ok (.iload_n 2, 1) := by decide +kernel
theorem d1_14 : decode method_3_code 14 = .ok (.iconst 1, 1) := by decide +kernel
theorem d1_15 : decode method_3_code 15 = .ok (.if_icmp .le 9, 3) := by decide +kernel
theorem d1_18 : decode method_3_code 18 = .ok (.aload_n 1, 1) := by decide +kernel
theorem d1_19 : decode method_3_code 19 = .ok (.iconst 1, 1) := by decide +kernel
theorem d1_20 : decode method_3_code 20 = .ok (.aload_n 0, 1) := by decide +kernel
theorem d1_21 : decode method_3_code 21 = .ok (.iconst 1, 1) := by decide +kernel
theorem d1_22 : decode method_3_code 22 = .ok (.caload, 1) := by decide +kernel
theorem d1_23 : decode method_3_code 23 = .ok (.castore, 1) := by decide +kernel
theorem d1_3 : decode method_3_code 3 = .ok (.iload_n 2, 1) := by decide +kernel
theorem d1_4 : decode method_3_code 4 = .ok (.ifCond .le 9, 3) := by decide +kernel
theorem d1_7 : decode method_3_code 7 = .ok (.aload_n 1, 1) := by decide +kernel
theorem d1_8 : decode method_3_code 8 = .ok (.iconst 0, 1) := by decide +kernel
theorem d1_9 : decode method_3_code 9 = .ok (.aload_n 0, 1) := by decide +kernel
theorem d1_10 : decode method_3_code 10 = .ok (.iconst 0, 1) := by decide +kernel
theorem d1_11 : decode method_3_code 11 = .ok (.caload, 1) := by decide +kernel
theorem d1_12 : decode method_3_code 12 = .ok (.castore, 1) := by decide +kernel
def Q1g (Z : State) (a0 : Addr) (a1 : Addr) (ks : ClassId) (ko : ClassId) (cs : Int32) (nn : Int32) (zs : List Value) (ch0 : Int32) (ch1 : Int32) (ch2 : Int32) (ch3 : Int32) (ch4 : Int32) (ch5 : Int32) (ch6 : Int32) (ch7 : Int32) (ch8 : Int32) (ch9 : Int32) (ch10 : Int32) (ch11 : Int32) (h0 : Heap) (n0 : Nat) (v : Option Value) (h : Heap) (L : List Loc) : Prop := ∃ (b : Addr) (nb : Addr) (kb : ClassId) (ys : List Value), v = some (.ref b) ∧ Fr n0 L ∧ Keep h0 h [a1] ∧ h0.size ≤ b ∧ Exa Z h b "java/lang/String" ∧ Fld Z h b "java/lang/String" "value" "[B" (.ref nb) ∧ Fld Z h b "java/lang/String" "coder" "B" (.int (0 : Int32)) ∧ Arv Z h nb kb .byte nn ys (.int (0 : Int32)) ∧ ys.length = nn.toNatClampNeg
def P1g (Z : State) (a0 : Addr) (a1 : Addr) (ks : ClassId) (ko : ClassId) (cs : Int32) (nn : Int32) (zs : List Value) (ch0 : Int32) (ch1 : Int32) (ch2 : Int32) (ch3 : Int32) (ch4 : Int32) (ch5 : Int32) (ch6 : Int32) (ch7 : Int32) (ch8 : Int32) (ch9 : Int32) (ch10 : Int32) (ch11 : Int32) (h0 : Heap) (n0 : Nat) (s : State) (o : Outcome) (U' : State) : Prop := ∃ v L, o = .returned v ∧ Q1g Z a0 a1 ks ko cs nn zs ch0 ch1 ch2 ch3 ch4 ch5 ch6 ch7 ch8 ch9 ch10 ch11 h0 n0 v U'.heap L ∧ FrameEnd s o U' L ({ frames := 4, cells := 2, slots := 16, locals := 66 } : Room).cells ({ frames := 4, cells := 2, slots := 16, locals := 66 } : Room).slots
set_option maxRecDepth 65536 in
set_option maxHeartbeats 40000000 in
theorem rm1g (l : Launch) (Z : State) (aV : Array Value) (hw : ∀ d ∈ tables_1, d.before aV Z = true) (ws : List Jvm.Cond) (a0 : Addr) (a1 : Addr) (ks : ClassId) (ko : ClassId) (cs : Int32) (nn : Int32) (zs : List Value) (ch0 : Int32) (ch1 : Int32) (ch2 : Int32) (ch3 : Int32) (ch4 : Int32) (ch5 : Int32) (ch6 : Int32) (ch7 : Int32) (ch8 : Int32) (ch9 : Int32) (ch10 : Int32) (ch11 : Int32) (h0 : Heap) (n0 : Nat) (Z0 : n0 ≤ h0.size) (V_a0 : Arv Z h0 a0 ks .char (12 : Int32) [(.int ch0), (.int ch1), (.int ch2), (.int ch3), (.int ch4), (.int ch5), (.int ch6), (.int ch7), (.int ch8), (.int ch9), (.int ch10), (.int ch11)] (.int (0 : Int32))) (V_a1 : Arv Z h0 a1 ko .char nn zs (.int (0 : Int32))) (S_COMPACT_STRINGS : Sta Z h0 "java/lang/String" "COMPACT_STRINGS" "Z" (.int cs)) (ga : n0 ≤ a1) (nab : a0 ≠ a1) (hcs : ¬ cs = 0) (hB : own_B zs) (hzl : zs.length = nn.toNatClampNeg) (hcap : nn.toNatClampNeg ≤ 12) (hnz : ¬ nn = 0) (le0 : ¬ (255 : Int32) < (ch0.toUInt32.toUInt16.toUInt32.toInt32)) (le1 : ¬ (255 : Int32) < (ch1.toUInt32.toUInt16.toUInt32.toInt32)) (le2 : ¬ (255 : Int32) < (ch2.toUInt32.toUInt16.toUInt32.toInt32)) (le3 : ¬ (255 : Int32) < (ch3.toUInt32.toUInt16.toUInt32.toInt32)) (le4 : ¬ (255 : Int32) < (ch4.toUInt32.toUInt16.toUInt32.toInt32)) (le5 : ¬ (255 : Int32) < (ch5.toUInt32.toUInt16.toUInt32.toInt32)) (le6 : ¬ (255 : Int32) < (ch6.toUInt32.toUInt16.toUInt32.toInt32)) (le7 : ¬ (255 : Int32) < (ch7.toUInt32.toUInt16.toUInt32.toInt32)) (le8 : ¬ (255 : Int32) < (ch8.toUInt32.toUInt16.toUInt32.toInt32)) (le9 : ¬ (255 : Int32) < (ch9.toUInt32.toUInt16.toUInt32.toInt32)) (le10 : ¬ (255 : Int32) < (ch10.toUInt32.toUInt16.toUInt32.toInt32)) (le11 : ¬ (255 : Int32) < (ch11.toUInt32.toUInt16.toUInt32.toInt32)) :
    MetFree l (⟨"com/example/hushlist/hushlist/server/SaslMechanismNamedPinLaw", "prefix", "([C[C)Ljava/lang/String;"⟩ : MethodName) (head1 (Jvm.Cond.code (⟨"com/example/hushlist/hushlist/server/SaslMechanismNamedPinLaw", "prefix", "([C[C)Ljava/lang/String;"⟩ : MethodName) method_3_code 3 (some (.object "java/lang/String")) :: ws) ({ frames := 4, cells := 2, slots := 16, locals := 66 } : Room)) (fun a U => a = #[(.ref a0), (.ref a1)] ∧ Z.Warmed39 U.vm ∧ U.heap = h0) (fun _ _ _ _ _ => True) (fun _ U o U' => ∃ v L, o = .returned v ∧ Q1g Z a0 a1 ks ko cs nn zs ch0 ch1 ch2 ch3 ch4 ch5 ch6 ch7 ch8 ch9 ch10 ch11 h0 n0 v U'.heap L ∧ FrameEnd U o U' L ({ frames := 4, cells := 2, slots := 16, locals := 66 } : Room).cells ({ frames := 4, cells := 2, slots := 16, locals := 66 } : Room).slots) := by
  refine MetFree.of_bodySF (plainFor_of_name pn_com_example_hushlist_hushlist_server_SaslMechanismNamedPinLaw) hisR ?_
  intro p e s m args below meth c s₁ Bd hml0 hP hK
  obtain ⟨rfl, hZ, hh⟩ := hP
  have hx := Bd.exec
  have hby := Bd.bytes
  have hml : c.maxLocals = 3 := hml0
  have hown : s.vm.findClass "com/example/hushlist/hushlist/server/SaslMechanismNamedPinLaw" = some m.cls := findClass_of_methodNamed Bd.named
  have hnm := (name_of_methodNamed Bd.named Bd.method).1
  have X0 : Stand p l e ({ frames := 4, cells := 2, slots := 16, locals := 66 } : Room) s m #[(.ref a0), (.ref a1)] below meth c s₁ [] 0 0 := Stand.of_body Bd
  have e0 : s₁.heap = h0 := by rw [← hh, Bd.state]; rfl
  have efx : entryFrame m #[(.ref a0), (.ref a1)] 3 = mkF m 0 #[.val (.ref a0), .val (.ref a1), .unset] [] := by first | (simp [entryFrame, mkF, argsToLocals, Value.category]; done) | rfl
  have N0 := Fr.nil n0
  have K0 : Keep h0 h0 [a1] := Keep.refl h0 _
  refine OGo.start (g' := mkF m 0 #[.val (.ref a0), .val (.ref a1), .unset] []) (efx) ?_
  show OGo p.tables e below (P1g Z a0 a1 ks ko cs nn zs ch0 ch1 ch2 ch3 ch4 ch5 ch6 ch7 ch8 ch9 ch10 ch11 h0 n0 s) (s₁.setTop (mkF m 0 #[.val (.ref a0), .val (.ref a1), .unset] []))
  refine OGo.go (B := s₁.setTop (mkF m 1 #[.val (.ref a0), .val (.ref a1), .unset] [(.ref a1)])) ?_ (fun tX kX => XS.aloadN X0.here hx rfl (hb hby d1_0) rfl rfl kX)
  obtain ⟨cl1, Ar1, qa1, S1, N1', H1, G1⟩ := id V_a1
  refine OGo.go (B := s₁.setTop (mkF m 2 #[.val (.ref a0), .val (.ref a1), .unset] [(.int nn)])) ?_ (fun tX kX => X0.arraylength hx (by rw [e0]; exact Ar1.1) (State.isArrayOf_alike hZ.alike Ar1.2.1) (g := (mkF m 1 #[.val (.ref a0), .val (.ref a1), .unset] [(.ref a1)])) rfl rfl (hb hby d1_1) _ (by rw [len_of S1 N1']; exact kX))
  refine OGo.go (B := s₁.setTop (mkF m 3 #[.val (.ref a0), .val (.ref a1), .val (.int nn)] [])) ?_ (fun tX kX => XS.istoreN X0.here hx rfl (hb hby d1_2) rfl (l' := #[.val (.ref a0), .val (.ref a1), .val (.int nn)]) rfl kX)
  have J152 : ∀ (TJ152 : State) (LJ152 : List Loc) (hJ152 : Heap) (zz : List Value), (Stand p l e ({ frames := 4, cells := 2, slots := 16, locals := 66 } : Room) s m #[(.ref a0), (.ref a1)] below meth c TJ152 LJ152 0 0) → (TJ152.heap = hJ152) → (Fr n0 LJ152) → (n0 ≤ hJ152.size) → (Keep h0 hJ152 [a1]) → (Arv Z hJ152 a0 ks .char (12 : Int32) [(.int ch0), (.int ch1), (.int ch2), (.int ch3), (.int ch4), (.int ch5), (.int ch6), (.int ch7), (.int ch8), (.int ch9), (.int ch10), (.int ch11)] (.int (0 : Int32))) → (Arv Z hJ152 a1 ko .char nn zz (.int (0 : Int32))) → (Sta Z hJ152 "java/lang/String" "COMPACT_STRINGS" "Z" (.int cs)) → (own_B zz) → (zz.length = nn.toNatClampNeg) → OGo p.tables e below (P1g Z a0 a1 ks ko cs nn zs ch0 ch1 ch2 ch3 ch4 ch5 ch6 ch7 ch8 ch9 ch10 ch11 h0 n0 s) (TJ152.setTop (mkF m 152 #[.val (.ref a0), .val (.ref a1), .val (.int nn)] [])) := by
    intro TJ152 LJ152 hJ152 zz XJ152 eJ152 NJ152 znJ152 KJ152 V_a0 V_a1 S_COMPACT_STRINGS hBz hlz
    obtain ⟨T2, h2, X2, e2, E2, A2, D2, C2, st2⟩ := newO XJ152 hx hZ hown (hw _ (List.mem_of_getElem? (i := 6) rfl)) (hw _ (List.mem_of_getElem? (i := 7) rfl)) (hw _ (List.mem_of_getElem? (i := 8) rfl)) eJ152 (g := (mkF m 152 #[.val (.ref a0), .val (.ref a1), .val (.int nn)] [])) rfl (hb hby d1_152) (by decide) (by decide)
    obtain ⟨b2, g2⟩ : ∃ z, z = hJ152.size := ⟨_, rfl⟩
    rw [← g2] at A2 D2 st2 C2
    have ne_a0_b2 : a0 ≠ b2 := Nat.ne_of_lt (Nat.lt_of_lt_of_le V_a0.lt (Nat.le_of_eq g2.symm))
    have ne_a1_b2 : a1 ≠ b2 := Nat.ne_of_lt (Nat.lt_of_lt_of_le V_a1.lt (Nat.le_of_eq g2.symm))
    have V_a0 := V_a0.ext E2
    have V_a1 := V_a1.ext E2
    have S_COMPACT_STRINGS := S_COMPACT_STRINGS.ext E2
    have g_b2 : n0 ≤ b2 := Nat.le_trans znJ152 (Nat.le_of_eq g2.symm)
    have sz_b2 : h0.size ≤ b2 := Nat.le_trans KJ152.1 (Nat.le_of_eq g2.symm)
    have zn2 : n0 ≤ h2.size := Nat.le_trans znJ152 E2.1
    have K2 := KJ152.ext E2
    have E_b2 := A2
    have F_coder_b2 : Fld Z h2 b2 "java/lang/String" "coder" "B" (.int (0 : Int32)) := D2 (Or.inr (hw _ (List.mem_of_getElem? (i := 32) rfl))) (ty := .byte) (by decide)
    have F_value_b2 : Fld Z h2 b2 "java/lang/String" "value" "[B" .null := D2 (Or.inr (hw _ (List.mem_of_getElem? (i := 34) rfl))) (ty := (.array .byte)) (by decide)
    refine OGo.go (B := T2.setTop (mkF m 155 #[.val (.ref a0), .val (.ref a1), .val (.int nn)] [(.ref b2)])) ?_ st2
    refine OGo.go (B := T2.setTop (mkF m 156 #[.val (.ref a0), .val (.ref a1), .val (.int nn)] [(.ref b2), (.ref b2)])) ?_ (fun tX kX => XS.dup X2.here hx rfl (hb hby d1_155) rfl rfl kX)
    refine OGo.go (B := T2.setTop (mkF m 157 #[.val (.ref a0), .val (.ref a1), .val (.int nn)] [(.ref a1), (.ref b2), (.ref b2)])) ?_ (fun tX kX => XS.aloadN X2.here hx rfl (hb hby d1_156) rfl rfl kX)
    obtain ⟨_, _, ⟨T3, L3, k3, n3⟩, -, X3, ⟨Lc3, hQ3, l3, y3, z3⟩, st3⟩ := X2.specialBack hx (y := (⟨"java/lang/String", "<init>", "([C)V"⟩ : MethodName)) rfl hown (mvT hZ (hw _ (List.mem_of_getElem? (i := 9) rfl))) (mvT hZ (hw _ (List.mem_of_getElem? (i := 10) rfl))) (mvT hZ (hw _ (List.mem_of_getElem? (i := 11) rfl))) (by decide) (backOf (W := 1) (rm2g l Z aV hw [] b2 a1 .null (.int (0 : Int32)) ko cs nn zz h2 n0 zn2 E_b2 F_value_b2 F_coder_b2 V_a1 S_COMPACT_STRINGS g_b2 ne_a1_b2 hcs hBz hlz hcap hnz) hZ (hw _ (List.mem_of_getElem? (i := 11) rfl)) (hw _ (List.mem_of_getElem? (i := 8) rfl)) (by decide) (by decide)) (g := (mkF m 157 #[.val (.ref a0), .val (.ref a1), .val (.int nn)] [(.ref a1), (.ref b2), (.ref b2)])) rfl (by rw [hml]; rfl) (Steps.refl _) (a := b2) (argsL := [(.ref a1)]) (rest := [(.ref b2)]) (lenOf pd___C_V rfl) rfl (by show 2 * 0 + _ ≤ _; exact Nat.le_of_eq rfl) (hb hby d1_157) (fun _ _ => ⟨rfl, e2, (by decide : 1 + 1 ≤ _), (by decide : 4 + 12 ≤ _)⟩)
    dsimp only [Pt.U, Pt.locs, Pt.cells, Pt.slots] at X3 l3 y3 z3 st3 hQ3
    subst l3 y3 z3
    obtain ⟨nb_3, kb_3, ys_3, rfl, N3q, Kq3, E_b2_p, F_value_b2_p, F_coder_b2_p, V_nb_3_p, hr3_0⟩ := hQ3
    have N3 := Fr.app NJ152 N3q
    have S_COMPACT_STRINGS := Sta.keepE S_COMPACT_STRINGS Kq3 (staS E_b2.cell (fun x hx' => nomatch hx'))
    have V_a0 := V_a0.keep Kq3 (ninS ne_a0_b2 nin0)
    have V_a1 := V_a1.keep Kq3 (ninS ne_a1_b2 nin0)
    have E_b2 := E_b2.keep Kq3
    have K3 := K2.trans Kq3 (allS (P := fun x => x ∈ [a1] ∨ h0.size ≤ x) (Or.inr sz_b2) all0)
    have zn3 : n0 ≤ T3.heap.size := Nat.le_trans zn2 Kq3.1
    have E_b2 := E_b2_p
    have F_value_b2 := F_value_b2_p
    have F_coder_b2 := F_coder_b2_p
    have V_nb_3 := V_nb_3_p
    refine OGo.go (B := T3.setTop (mkF m 160 #[.val (.ref a0), .val (.ref a1), .val (.int nn)] [(.ref b2)])) ?_ (fun tX kX => st3.trans kX)
    refine OGo.ret X3 (v := (some (.ref b2))) (fun h => by rw [Bd.returns] at h; cases h) (BodyLoose.notSynchronized Bd) (fun fs hr => retOut X3 hx Bd.returns rfl (Or.inr (Or.inr (Or.inr (Or.inr ⟨rfl, rfl, rfl⟩)))) (hb hby d1_160) hr) (Q := Q1g Z a0 a1 ks ko cs nn zs ch0 ch1 ch2 ch3 ch4 ch5 ch6 ch7 ch8 ch9 ch10 ch11 h0 n0) ?_ (by decide) (by decide)
    show Q1g Z a0 a1 ks ko cs nn zs ch0 ch1 ch2 ch3 ch4 ch5 ch6 ch7 ch8 ch9 ch10 ch11 h0 n0 _ T3.heap _
    exact ⟨b2, nb_3, kb_3, ys_3, rfl, N3, K3, sz_b2, E_b2, F_value_b2, F_coder_b2, V_nb_3, hr3_0⟩
  have J138 : ∀ (TJ138 : State) (LJ138 : List Loc) (hJ138 : Heap) (zz : List Value), (Stand p l e ({ frames := 4, cells := 2, slots := 16, locals := 66 } : Room) s m #[(.ref a0), (.ref a1)] below meth c TJ138 LJ138 0 0) → (TJ138.heap = hJ138) → (Fr n0 LJ138) → (n0 ≤ hJ138.size) → (Keep h0 hJ138 [a1]) → (Arv Z hJ138 a0 ks .char (12 : Int32) [(.int ch0), (.int ch1), (.int ch2), (.int ch3), (.int ch4), (.int ch5), (.int ch6), (.int ch7), (.int ch8), (.int ch9), (.int ch10), (.int ch11)] (.int (0 : Int32))) → (Arv Z hJ138 a1 ko .char nn zz (.int (0 : Int32))) → (Sta Z hJ138 "java/lang/String" "COMPACT_STRINGS" "Z" (.int cs)) → (own_B zz) → (zz.length = nn.toNatClampNeg) → OGo p.tables e below (P1g Z a0 a1 ks ko cs nn zs ch0 ch1 ch2 ch3 ch4 ch5 ch6 ch7 ch8 ch9 ch10 ch11 h0 n0 s) (TJ138.setTop (mkF m 138 #[.val (.ref a0), .val (.ref a1), .val (.int nn)] [])) := by
    intro TJ138 LJ138 hJ138 zz XJ138 eJ138 NJ138 znJ138 KJ138 V_a0 V_a1 S_COMPACT_STRINGS hBz hlz
    refine OGo.go (B := TJ138.setTop (mkF m 139 #[.val (.ref a0), .val (.ref a1), .val (.int nn)] [(.int nn)])) ?_ (fun tX kX => XS.iloadN XJ138.here hx rfl (hb hby d1_138) rfl kX)
    refine OGo.go (B := TJ138.setTop (mkF m 141 #[.val (.ref a0), .val (.ref a1), .val (.int nn)] [(.int (11 : Int32)), (.int nn)])) ?_ (fun tX kX => XS.bipush XJ138.here hx rfl (hb hby d1_139) kX)
    by_cases hc141 : (11 : Int32) < nn
    ·
      refine OGo.go (B := TJ138.setTop (mkF m 144 #[.val (.ref a0), .val (.ref a1), .val (.int nn)] [])) ?_ (fun tX kX => XS.icmpNo XJ138.here hx rfl (hb hby d1_141) rfl (tlt hc141).2.2.2 kX)
      refine OGo.go (B := TJ138.setTop (mkF m 145 #[.val (.ref a0), .val (.ref a1), .val (.int nn)] [(.ref a1)])) ?_ (fun tX kX => XS.aloadN XJ138.here hx rfl (hb hby d1_144) rfl rfl kX)
      refine OGo.go (B := TJ138.setTop (mkF m 147 #[.val (.ref a0), .val (.ref a1), .val (.int nn)] [(.int (11 : Int32)), (.ref a1)])) ?_ (fun tX kX => XS.bipush XJ138.here hx rfl (hb hby d1_145) kX)
      refine OGo.go (B := TJ138.setTop (mkF m 148 #[.val (.ref a0), .val (.ref a1), .val (.int nn)] [(.ref a0), (.int (11 : Int32)), (.ref a1)])) ?_ (fun tX kX => XS.aloadN XJ138.here hx rfl (hb hby d1_147) rfl rfl kX)
      refine OGo.go (B := TJ138.setTop (mkF m 150 #[.val (.ref a0), .val (.ref a1), .val (.int nn)] [(.int (11 : Int32)), (.ref a0), (.int (11 : Int32)), (.ref a1)])) ?_ (fun tX kX => XS.bipush XJ138.here hx rfl (hb hby d1_148) kX)
      obtain ⟨cl4, Ar4, qa4, S4, N4', H4, G4⟩ := id V_a0
      have hin4 := inb_of (j := (11 : Int32)) S4 ⟨by decide, by decide⟩
      have hat4 := H4.at (v := (.int ch11)) hin4 rfl
      refine OGo.go (B := TJ138.setTop (mkF m 151 #[.val (.ref a0), .val (.ref a1), .val (.int nn)] [(.int ch11), (.int (11 : Int32)), (.ref a1)])) ?_ (fun tX kX => XJ138.caload hx (j := (11 : Int32)) (v := (.int ch11)) (by rw [eJ138]; exact Ar4.1) (State.isArrayOf_alike hZ.alike Ar4.2.1) Ar4.2.2 hin4 hat4 (g := (mkF m 150 #[.val (.ref a0), .val (.ref a1), .val (.int nn)] [(.int (11 : Int32)), (.ref a0), (.int (11 : Int32)), (.ref a1)])) rfl rfl (hb hby d1_150) _ kX)
      obtain ⟨cl5, Ar5, qa5, S5, N5', H5, G5⟩ := id V_a1
      have hin5 := inb_of (j := (11 : Int32)) S5 ⟨by decide, hc141⟩
      obtain ⟨T5, h5, X5, e5, W5, st5⟩ := stC XJ138 hx hZ eJ138 Ar5 (j := (11 : Int32)) hin5 (g := (mkF m 151 #[.val (.ref a0), .val (.ref a1), .val (.int nn)] [(.int ch11), (.int (11 : Int32)), (.ref a1)])) rfl rfl (hb hby d1_151)
      have V_a1_5 := Arv.set Ar5 qa5 S5 N5' H5 G5 (fits_nar_char _) W5 11 rfl (by rw [hlz]; exact own_natlt (i := (11 : Int32)) (by decide) hc141)
      have V_a0 := V_a0.other W5 nab
      have S_COMPACT_STRINGS := S_COMPACT_STRINGS.wr W5
      have K5 := KJ138.wr W5 (Or.inl (List.mem_of_getElem? (i := 0) rfl))
      have zn5 : n0 ≤ h5.size := Nat.le_trans znJ138 (Keep.of_wr W5).1
      have N5 := Fr.snoc X5 NJ138 ga
      have V_a1 : Arv Z h5 a1 ko .char nn (zz.set 11 (.int (ch11.toUInt32.toUInt16.toUInt32.toInt32))) (.int (0 : Int32)) := V_a1_5
      refine OGo.go (B := T5.setTop (mkF m 152 #[.val (.ref a0), .val (.ref a1), .val (.int nn)] [])) ?_ st5
      exact J152 T5 _ h5 (zz.set 11 (.int (ch11.toUInt32.toUInt16.toUInt32.toInt32))) X5 e5 N5 zn5 K5 V_a0 V_a1 S_COMPACT_STRINGS (own_Bset hBz le11) (by rw [List.length_set]; exact hlz)
    ·
      refine OGo.go (B := TJ138.setTop (mkF m 152 #[.val (.ref a0), .val (.ref a1), .val (.int nn)] [])) ?_ (fun tX kX => XS.icmpYes XJ138.here hx rfl (pc0 := 141) (pc' := 152) rfl (hb hby d1_141) rfl (flt hc141).2.2.2 (by decide) (by decide) kX)
      exact J152 TJ138 _ hJ138 zz XJ138 eJ138 NJ138 znJ138 KJ138 V_a0 V_a1 S_COMPACT_STRINGS hBz hlz
  have J124 : ∀ (TJ124 : State) (LJ124 : List Loc) (hJ124 : Heap) (zz : List Value), (Stand p l e ({ frames := 4, cells := 2, slots := 16, locals := 66 } : Room) s m #[(.ref a0), (.ref a1)] below meth c TJ124 LJ124 0 0) → (TJ124.heap = hJ124) → (Fr n0 LJ124) → (n0 ≤ hJ124.size) → (Keep h0 hJ124 [a1]) → (Arv Z hJ124 a0 ks .char (12 : Int32) [(.int ch0), (.int ch1), (.int ch2), (.int ch3), (.int ch4), (.int ch5), (.int ch6), (.int ch7), (.int ch8), (.int ch9), (.int ch10), (.int ch11)] (.int (0 : Int32))) → (Arv Z hJ124 a1 ko .char nn zz (.int (0 : Int32))) → (Sta Z hJ124 "java/lang/String" "COMPACT_STRINGS" "Z" (.int cs)) → (own_B zz) → (zz.length = nn.toNatClampNeg) → OGo p.tables e below (P1g Z a0 a1 ks ko cs nn zs ch0 ch1 ch2 ch3 ch4 ch5 ch6 ch7 ch8 ch9 ch10 ch11 h0 n0 s) (TJ124.setTop (mkF m 124 #[.val (.ref a0), .val (.ref a1), .val (.int nn)] [])) := by
    intro TJ124 LJ124 hJ124 zz XJ124 eJ124 NJ124 znJ124 KJ124 V_a0 V_a1 S_COMPACT_STRINGS hBz hlz
    refine OGo.go (B := TJ124.setTop (mkF m 125 #[.val (.ref a0), .val (.ref a1), .val (.int nn)] [(.int nn)])) ?_ (fun tX kX => XS.iloadN XJ124.here hx rfl (hb hby d1_124) rfl kX)
    refine OGo.go (B := TJ124.setTop (mkF m 127 #[.val (.ref a0), .val (.ref a1), .val (.int nn)] [(.int (10 : Int32)), (.int nn)])) ?_ (fun tX kX => XS.bipush XJ124.here hx rfl (hb hby d1_125) kX)
    by_cases hc127 : (10 : Int32) < nn
    ·
      refine OGo.go (B := TJ124.setTop (mkF m 130 #[.val (.ref a0), .val (.ref a1), .val (.int nn)] [])) ?_ (fun tX kX => XS.icmpNo XJ124.here hx rfl (hb hby d1_127) rfl (tlt hc127).2.2.2 kX)
      refine OGo.go (B := TJ124.setTop (mkF m 131 #[.val (.ref a0), .val (.ref a1), .val (.int nn)] [(.ref a1)])) ?_ (fun tX kX => XS.aloadN XJ124.here hx rfl (hb hby d1_130) rfl rfl kX)
      refine OGo.go (B := TJ124.setTop (mkF m 133 #[.val (.ref a0), .val (.ref a1), .val (.int nn)] [(.int (10 : Int32)), (.ref a1)])) ?_ (fun tX kX => XS.bipush XJ124.here hx rfl (hb hby d1_131) kX)
      refine OGo.go (B := TJ124.setTop (mkF m 134 #[.val (.ref a0), .val (.ref a1), .val (.int nn)] [(.ref a0), (.int (10 : Int32)), (.ref a1)])) ?_ (fun tX kX => XS.aloadN XJ124.here hx rfl (hb hby d1_133) rfl rfl kX)
      refine OGo.go (B := TJ124.setTop (mkF m 136 #[.val (.ref a0), .val (.ref a1), .val (.int nn)] [(.int (10 : Int32)), (.ref a0), (.int (10 : Int32)), (.ref a1)])) ?_ (fun tX kX => XS.bipush XJ124.here hx rfl (hb hby d1_134) kX)
      obtain ⟨cl6, Ar6, qa6, S6, N6', H6, G6⟩ := id V_a0
      have hin6 := inb_of (j := (10 : Int32)) S6 ⟨by decide, by decide⟩
      have hat6 := H6.at (v := (.int ch10)) hin6 rfl
      refine OGo.go (B := TJ124.setTop (mkF m 137 #[.val (.ref a0), .val (.ref a1), .val (.int nn)] [(.int ch10), (.int (10 : Int32)), (.ref a1)])) ?_ (fun tX kX => XJ124.caload hx (j := (10 : Int32)) (v := (.int ch10)) (by rw [eJ124]; exact Ar6.1) (State.isArrayOf_alike hZ.alike Ar6.2.1) Ar6.2.2 hin6 hat6 (g := (mkF m 136 #[.val (.ref a0), .val (.ref a1), .val (.int nn)] [(.int (10 : Int32)), (.ref a0), (.int (10 : Int32)), (.ref a1)])) rfl rfl (hb hby d1_136) _ kX)
      obtain ⟨cl7, Ar7, qa7, S7, N7', H7, G7⟩ := id V_a1
      have hin7 := inb_of (j := (10 : Int32)) S7 ⟨by decide, hc127⟩
      obtain ⟨T7, h7, X7, e7, W7, st7⟩ := stC XJ124 hx hZ eJ124 Ar7 (j := (10 : Int32)) hin7 (g := (mkF m 137 #[.val (.ref a0), .val (.ref a1), .val (.int nn)] [(.int ch10), (.int (10 : Int32)), (.ref a1)])) rfl rfl (hb hby d1_137)
      have V_a1_7 := Arv.set Ar7 qa7 S7 N7' H7 G7 (fits_nar_char _) W7 10 rfl (by rw [hlz]; exact own_natlt (i := (10 : Int32)) (by decide) hc127)
      have V_a0 := V_a0.other W7 nab
      have S_COMPACT_STRINGS := S_COMPACT_STRINGS.wr W7
      have K7 := KJ124.wr W7 (Or.inl (List.mem_of_getElem? (i := 0) rfl))
      have zn7 : n0 ≤ h7.size := Nat.le_trans znJ124 (Keep.of_wr W7).1
      have N7 := Fr.snoc X7 NJ124 ga
      have V_a1 : Arv Z h7 a1 ko .char nn (zz.set 10 (.int (ch10.toUInt32.toUInt16.toUInt32.toInt32))) (.int (0 : Int32)) := V_a1_7
      refine OGo.go (B := T7.setTop (mkF m 138 #[.val (.ref a0), .val (.ref a1), .val (.int nn)] [])) ?_ st7
      exact J138 T7 _ h7 (zz.set 10 (.int (ch10.toUInt32.toUInt16.toUInt32.toInt32))) X7 e7 N7 zn7 K7 V_a0 V_a1 S_COMPACT_STRINGS (own_Bset hBz le10) (by rw [List.length_set]; exact hlz)
    ·
      refine OGo.go (B := TJ124.setTop (mkF m 138 #[.val (.ref a0), .val (.ref a1), .val (.int nn)] [])) ?_ (fun tX kX => XS.icmpYes XJ124.here hx rfl (pc0 := 127) (pc' := 138) rfl (hb hby d1_127) rfl (flt hc127).2.2.2 (by decide) (by decide) kX)
      exact J138 TJ124 _ hJ124 zz XJ124 eJ124 NJ124 znJ124 KJ124 V_a0 V_a1 S_COMPACT_STRINGS hBz hlz
  have J110 : ∀ (TJ110 : State) (LJ110 : List Loc) (hJ110 : Heap) (zz : List Value), (Stand p l e ({ frames := 4, cells := 2, slots := 16, locals := 66 } : Room) s m #[(.ref a0), (.ref a1)] below meth c TJ110 LJ110 0 0) → (TJ110.heap = hJ110) → (Fr n0 LJ110) → (n0 ≤ hJ110.size) → (Keep h0 hJ110 [a1]) → (Arv Z hJ110 a0 ks .char (12 : Int32) [(.int ch0), (.int ch1), (.int ch2), (.int ch3), (.int ch4), (.int ch5), (.int ch6), (.int ch7), (.int ch8), (.int ch9), (.int ch10), (.int ch11)] (.int (0 : Int32))) → (Arv Z hJ110 a1 ko .char nn zz (.int (0 : Int32))) → (Sta Z hJ110 "java/lang/String" "COMPACT_STRINGS" "Z" (.int cs)) → (own_B zz) → (zz.length = nn.toNatClampNeg) → OGo p.tables e below (P1g Z a0 a1 ks ko cs nn zs ch0 ch1 ch2 ch3 ch4 ch5 ch6 ch7 ch8 ch9 ch10 ch11 h0 n0 s) (TJ110.setTop (mkF m 110 #[.val (.ref a0), .val (.ref a1), .val (.int nn)] [])) := by
    intro TJ110 LJ110 hJ110 zz XJ110 eJ110 NJ110 znJ110 KJ110 V_a0 V_a1 S_COMPACT_STRINGS hBz hlz
    refine OGo.go (B := TJ110.setTop (mkF m 111 #[.val (.ref a0), .val (.ref a1), .val (.int nn)] [(.int nn)])) ?_ (fun tX kX => XS.iloadN XJ110.here hx rfl (hb hby d1_110) rfl kX)
    refine OGo.go (B := TJ110.setTop (mkF m 113 #[.val (.ref a0), .val (.ref a1), .val (.int nn)] [(.int (9 : Int32)), (.int nn)])) ?_ (fun tX kX => XS.bipush XJ110.here hx rfl (hb hby d1_111) kX)
    by_cases hc113 : (9 : Int32) < nn
    ·
      refine OGo.go (B := TJ110.setTop (mkF m 116 #[.val (.ref a0), .val (.ref a1), .val (.int nn)] [])) ?_ (fun tX kX => XS.icmpNo XJ110.here hx rfl (hb hby d1_113) rfl (tlt hc113).2.2.2 kX)
      refine OGo.go (B := TJ110.setTop (mkF m 117 #[.val (.ref a0), .val (.ref a1), .val (.int nn)] [(.ref a1)])) ?_ (fun tX kX => XS.aloadN XJ110.here hx rfl (hb hby d1_116) rfl rfl kX)
      refine OGo.go (B := TJ110.setTop (mkF m 119 #[.val (.ref a0), .val (.ref a1), .val (.int nn)] [(.int (9 : Int32)), (.ref a1)])) ?_ (fun tX kX => XS.bipush XJ110.here hx rfl (hb hby d1_117) kX)
      refine OGo.go (B := TJ110.setTop (mkF m 120 #[.val (.ref a0), .val (.ref a1), .val (.int nn)] [(.ref a0), (.int (9 : Int32)), (.ref a1)])) ?_ (fun tX kX => XS.aloadN XJ110.here hx rfl (hb hby d1_119) rfl rfl kX)
      refine OGo.go (B := TJ110.setTop (mkF m 122 #[.val (.ref a0), .val (.ref a1), .val (.int nn)] [(.int (9 : Int32)), (.ref a0), (.int (9 : Int32)), (.ref a1)])) ?_ (fun tX kX => XS.bipush XJ110.here hx rfl (hb hby d1_120) kX)
      obtain ⟨cl8, Ar8, qa8, S8, N8', H8, G8⟩ := id V_a0
      have hin8 := inb_of (j := (9 : Int32)) S8 ⟨by decide, by decide⟩
      have hat8 := H8.at (v := (.int ch9)) hin8 rfl
      refine OGo.go (B := TJ110.setTop (mkF m 123 #[.val (.ref a0), .val (.ref a1), .val (.int nn)] [(.int ch9), (.int (9 : Int32)), (.ref a1)])) ?_ (fun tX kX => XJ110.caload hx (j := (9 : Int32)) (v := (.int ch9)) (by rw [eJ110]; exact Ar8.1) (State.isArrayOf_alike hZ.alike Ar8.2.1) Ar8.2.2 hin8 hat8 (g := (mkF m 122 #[.val (.ref a0), .val (.ref a1), .val (.int nn)] [(.int (9 : Int32)), (.ref a0), (.int (9 : Int32)), (.ref a1)])) rfl rfl (hb hby d1_122) _ kX)
      obtain ⟨cl9, Ar9, qa9, S9, N9', H9, G9⟩ := id V_a1
      have hin9 := inb_of (j := (9 : Int32)) S9 ⟨by decide, hc113⟩
      obtain ⟨T9, h9, X9, e9, W9, st9⟩ := stC XJ110 hx hZ eJ110 Ar9 (j := (9 : Int32)) hin9 (g := (mkF m 123 #[.val (.ref a0), .val (.ref a1), .val (.int nn)] [(.int ch9), (.int (9 : Int32)), (.ref a1)])) rfl rfl (hb hby d1_123)
      have V_a1_9 := Arv.set Ar9 qa9 S9 N9' H9 G9 (fits_nar_char _) W9 9 rfl (by rw [hlz]; exact own_natlt (i := (9 : Int32)) (by decide) hc113)
      have V_a0 := V_a0.other W9 nab
      have S_COMPACT_STRINGS := S_COMPACT_STRINGS.wr W9
      have K9 := KJ110.wr W9 (Or.inl (List.mem_of_getElem? (i := 0) rfl))
      have zn9 : n0 ≤ h9.size := Nat.le_trans znJ110 (Keep.of_wr W9).1
      have N9 := Fr.snoc X9 NJ110 ga
      have V_a1 : Arv Z h9 a1 ko .char nn (zz.set 9 (.int (ch9.toUInt32.toUInt16.toUInt32.toInt32))) (.int (0 : Int32)) := V_a1_9
      refine OGo.go (B := T9.setTop (mkF m 124 #[.val (.ref a0), .val (.ref a1), .val (.int nn)] [])) ?_ st9
      exact J124 T9 _ h9 (zz.set 9 (.int (ch9.toUInt32.toUInt16.toUInt32.toInt32))) X9 e9 N9 zn9 K9 V_a0 V_a1 S_COMPACT_STRINGS (own_Bset hBz le9) (by rw [List.length_set]; exact hlz)
    ·
      refine OGo.go (B := TJ110.setTop (mkF m 124 #[.val (.ref a0), .val (.ref a1), .val (.int nn)] [])) ?_ (fun tX kX => XS.icmpYes XJ110.here hx rfl (pc0 := 113) (pc' := 124) rfl (hb hby d1_113) rfl (flt hc113).2.2.2 (by decide) (by decide) kX)
      exact J124 TJ110 _ hJ110 zz XJ110 eJ110 NJ110 znJ110 KJ110 V_a0 V_a1 S_COMPACT_STRINGS hBz hlz
  have J96 : ∀ (TJ96 : State) (LJ96 : List Loc) (hJ96 : Heap) (zz : List Value), (Stand p l e ({ frames := 4, cells := 2, slots := 16, locals := 66 } : Room) s m #[(.ref a0), (.ref a1)] below meth c TJ96 LJ96 0 0) → (TJ96.heap = hJ96) → (Fr n0 LJ96) → (n0 ≤ hJ96.size) → (Keep h0 hJ96 [a1]) → (Arv Z hJ96 a0 ks .char (12 : Int32) [(.int ch0), (.int ch1), (.int ch2), (.int ch3), (.int ch4), (.int ch5), (.int ch6), (.int ch7), (.int ch8), (.int ch9), (.int ch10), (.int ch11)] (.int (0 : Int32))) → (Arv Z hJ96 a1 ko .char nn zz (.int (0 : Int32))) → (Sta Z hJ96 "java/lang/String" "COMPACT_STRINGS" "Z" (.int cs)) → (own_B zz) → (zz.length = nn.toNatClampNeg) → OGo p.tables e below (P1g Z a0 a1 ks ko cs nn zs ch0 ch1 ch2 ch3 ch4 ch5 ch6 ch7 ch8 ch9 ch10 ch11 h0 n0 s) (TJ96.setTop (mkF m 96 #[.val (.ref a0), .val (.ref a1), .val (.int nn)] [])) := by
    intro TJ96 LJ96 hJ96 zz XJ96 eJ96 NJ96 znJ96 KJ96 V_a0 V_a1 S_COMPACT_STRINGS hBz hlz
    refine OGo.go (B := TJ96.setTop (mkF m 97 #[.val (.ref a0), .val (.ref a1), .val (.int nn)] [(.int nn)])) ?_ (fun tX kX => XS.iloadN XJ96.here hx rfl (hb hby d1_96) rfl kX)
    refine OGo.go (B := TJ96.setTop (mkF m 99 #[.val (.ref a0), .val (.ref a1), .val (.int nn)] [(.int (8 : Int32)), (.int nn)])) ?_ (fun tX kX => XS.bipush XJ96.here hx rfl (hb hby d1_97) kX)
    by_cases hc99 : (8 : Int32) < nn
    ·
      refine OGo.go (B := TJ96.setTop (mkF m 102 #[.val (.ref a0), .val (.ref a1), .val (.int nn)] [])) ?_ (fun tX kX => XS.icmpNo XJ96.here hx rfl (hb hby d1_99) rfl (tlt hc99).2.2.2 kX)
      refine OGo.go (B := TJ96.setTop (mkF m 103 #[.val (.ref a0), .val (.ref a1), .val (.int nn)] [(.ref a1)])) ?_ (fun tX kX => XS.aloadN XJ96.here hx rfl (hb hby d1_102) rfl rfl kX)
      refine OGo.go (B := TJ96.setTop (mkF m 105 #[.val (.ref a0), .val (.ref a1), .val (.int nn)] [(.int (8 : Int32)), (.ref a1)])) ?_ (fun tX kX => XS.bipush XJ96.here hx rfl (hb hby d1_103) kX)
      refine OGo.go (B := TJ96.setTop (mkF m 106 #[.val (.ref a0), .val (.ref a1), .val (.int nn)] [(.ref a0), (.int (8 : Int32)), (.ref a1)])) ?_ (fun tX kX => XS.aloadN XJ96.here hx rfl (hb hby d1_105) rfl rfl kX)
      refine OGo.go (B := TJ96.setTop (mkF m 108 #[.val (.ref a0), .val (.ref a1), .val (.int nn)] [(.int (8 : Int32)), (.ref a0), (.int (8 : Int32)), (.ref a1)])) ?_ (fun tX kX => XS.bipush XJ96.here hx rfl (hb hby d1_106) kX)
      obtain ⟨cl10, Ar10, qa10, S10, N10', H10, G10⟩ := id V_a0
      have hin10 := inb_of (j := (8 : Int32)) S10 ⟨by decide, by decide⟩
      have hat10 := H10.at (v := (.int ch8)) hin10 rfl
      refine OGo.go (B := TJ96.setTop (mkF m 109 #[.val (.ref a0), .val (.ref a1), .val (.int nn)] [(.int ch8), (.int (8 : Int32)), (.ref a1)])) ?_ (fun tX kX => XJ96.caload hx (j := (8 : Int32)) (v := (.int ch8)) (by rw [eJ96]; exact Ar10.1) (State.isArrayOf_alike hZ.alike Ar10.2.1) Ar10.2.2 hin10 hat10 (g := (mkF m 108 #[.val (.ref a0), .val (.ref a1), .val (.int nn)] [(.int (8 : Int32)), (.ref a0), (.int (8 : Int32)), (.ref a1)])) rfl rfl (hb hby d1_108) _ kX)
      obtain ⟨cl11, Ar11, qa11, S11, N11', H11, G11⟩ := id V_a1
      have hin11 := inb_of (j := (8 : Int32)) S11 ⟨by decide, hc99⟩
      obtain ⟨T11, h11, X11, e11, W11, st11⟩ := stC XJ96 hx hZ eJ96 Ar11 (j := (8 : Int32)) hin11 (g := (mkF m 109 #[.val (.ref a0), .val (.ref a1), .val (.int nn)] [(.int ch8), (.int (8 : Int32)), (.ref a1)])) rfl rfl (hb hby d1_109)
      have V_a1_11 := Arv.set Ar11 qa11 S11 N11' H11 G11 (fits_nar_char _) W11 8 rfl (by rw [hlz]; exact own_natlt (i := (8 : Int32)) (by decide) hc99)
      have V_a0 := V_a0.other W11 nab
      have S_COMPACT_STRINGS := S_COMPACT_STRINGS.wr W11
      have K11 := KJ96.wr W11 (Or.inl (List.mem_of_getElem? (i := 0) rfl))
      have zn11 : n0 ≤ h11.size := Nat.le_trans znJ96 (Keep.of_wr W11).1
      have N11 := Fr.snoc X11 NJ96 ga
      have V_a1 : Arv Z h11 a1 ko .char nn (zz.set 8 (.int (ch8.toUInt32.toUInt16.toUInt32.toInt32))) (.int (0 : Int32)) := V_a1_11
      refine OGo.go (B := T11.setTop (mkF m 110 #[.val (.ref a0), .val (.ref a1), .val (.int nn)] [])) ?_ st11
      exact J110 T11 _ h11 (zz.set 8 (.int (ch8.toUInt32.toUInt16.toUInt32.toInt32))) X11 e11 N11 zn11 K11 V_a0 V_a1 S_COMPACT_STRINGS (own_Bset hBz le8) (by rw [List.length_set]; exact hlz)
    ·
      refine OGo.go (B := TJ96.setTop (mkF m 110 #[.val (.ref a0), .val (.ref a1), .val (.int nn)] [])) ?_ (fun tX kX => XS.icmpYes XJ96.here hx rfl (pc0 := 99) (pc' := 110) rfl (hb hby d1_99) rfl (flt hc99).2.2.2 (by decide) (by decide) kX)
      exact J110 TJ96 _ hJ96 zz XJ96 eJ96 NJ96 znJ96 KJ96 V_a0 V_a1 S_COMPACT_STRINGS hBz hlz
  have J82 : ∀ (TJ82 : State) (LJ82 : List Loc) (hJ82 : Heap) (zz : List Value), (Stand p l e ({ frames := 4, cells := 2, slots := 16, locals := 66 } : Room) s m #[(.ref a0), (.ref a1)] below meth c TJ82 LJ82 0 0) → (TJ82.heap = hJ82) → (Fr n0 LJ82) → (n0 ≤ hJ82.size) → (Keep h0 hJ82 [a1]) → (Arv Z hJ82 a0 ks .char (12 : Int32) [(.int ch0), (.int ch1), (.int ch2), (.int ch3), (.int ch4), (.int ch5), (.int ch6), (.int ch7), (.int ch8), (.int ch9), (.int ch10), (.int ch11)] (.int (0 : Int32))) → (Arv Z hJ82 a1 ko .char nn zz (.int (0 : Int32))) → (Sta Z hJ82 "java/lang/String" "COMPACT_STRINGS" "Z" (.int cs)) → (own_B zz) → (zz.length = nn.toNatClampNeg) → OGo p.tables e below (P1g Z a0 a1 ks ko cs nn zs ch0 ch1 ch2 ch3 ch4 ch5 ch6 ch7 ch8 ch9 ch10 ch11 h0 n0 s) (TJ82.setTop (mkF m 82 #[.val (.ref a0), .val (.ref a1), .val (.int nn)] [])) := by
    intro TJ82 LJ82 hJ82 zz XJ82 eJ82 NJ82 znJ82 KJ82 V_a0 V_a1 S_COMPACT_STRINGS hBz hlz
    refine OGo.go (B := TJ82.setTop (mkF m 83 #[.val (.ref a0), .val (.ref a1), .val (.int nn)] [(.int nn)])) ?_ (fun tX kX => XS.iloadN XJ82.here hx rfl (hb hby d1_82) rfl kX)
    refine OGo.go (B := TJ82.setTop (mkF m 85 #[.val (.ref a0), .val (.ref a1), .val (.int nn)] [(.int (7 : Int32)), (.int nn)])) ?_ (fun tX kX => XS.bipush XJ82.here hx rfl (hb hby d1_83) kX)
    by_cases hc85 : (7 : Int32) < nn
    ·
      refine OGo.go (B := TJ82.setTop (mkF m 88 #[.val (.ref a0), .val (.ref a1), .val (.int nn)] [])) ?_ (fun tX kX => XS.icmpNo XJ82.here hx rfl (hb hby d1_85) rfl (tlt hc85).2.2.2 kX)
      refine OGo.go (B := TJ82.setTop (mkF m 89 #[.val (.ref a0), .val (.ref a1), .val (.int nn)] [(.ref a1)])) ?_ (fun tX kX => XS.aloadN XJ82.here hx rfl (hb hby d1_88) rfl rfl kX)
      refine OGo.go (B := TJ82.setTop (mkF m 91 #[.val (.ref a0), .val (.ref a1), .val (.int nn)] [(.int (7 : Int32)), (.ref a1)])) ?_ (fun tX kX => XS.bipush XJ82.here hx rfl (hb hby d1_89) kX)
      refine OGo.go (B := TJ82.setTop (mkF m 92 #[.val (.ref a0), .val (.ref a1), .val (.int nn)] [(.ref a0), (.int (7 : Int32)), (.ref a1)])) ?_ (fun tX kX => XS.aloadN XJ82.here hx rfl (hb hby d1_91) rfl rfl kX)
      refine OGo.go (B := TJ82.setTop (mkF m 94 #[.val (.ref a0), .val (.ref a1), .val (.int nn)] [(.int (7 : Int32)), (.ref a0), (.int (7 : Int32)), (.ref a1)])) ?_ (fun tX kX => XS.bipush XJ82.here hx rfl (hb hby d1_92) kX)
      obtain ⟨cl12, Ar12, qa12, S12, N12', H12, G12⟩ := id V_a0
      have hin12 := inb_of (j := (7 : Int32)) S12 ⟨by decide, by decide⟩
      have hat12 := H12.at (v := (.int ch7)) hin12 rfl
      refine OGo.go (B := TJ82.setTop (mkF m 95 #[.val (.ref a0), .val (.ref a1), .val (.int nn)] [(.int ch7), (.int (7 : Int32)), (.ref a1)])) ?_ (fun tX kX => XJ82.caload hx (j := (7 : Int32)) (v := (.int ch7)) (by rw [eJ82]; exact Ar12.1) (State.isArrayOf_alike hZ.alike Ar12.2.1) Ar12.2.2 hin12 hat12 (g := (mkF m 94 #[.val (.ref a0), .val (.ref a1), .val (.int nn)] [(.int (7 : Int32)), (.ref a0), (.int (7 : Int32)), (.ref a1)])) rfl rfl (hb hby d1_94) _ kX)
      obtain ⟨cl13, Ar13, qa13, S13, N13', H13, G13⟩ := id V_a1
      have hin13 := inb_of (j := (7 : Int32)) S13 ⟨by decide, hc85⟩
      obtain ⟨T13, h13, X13, e13, W13, st13⟩ := stC XJ82 hx hZ eJ82 Ar13 (j := (7 : Int32)) hin13 (g := (mkF m 95 #[.val (.ref a0), .val (.ref a1), .val (.int nn)] [(.int ch7), (.int (7 : Int32)), (.ref a1)])) rfl rfl (hb hby d1_95)
      have V_a1_13 := Arv.set Ar13 qa13 S13 N13' H13 G13 (fits_nar_char _) W13 7 rfl (by rw [hlz]; exact own_natlt (i := (7 : Int32)) (by decide) hc85)
      have V_a0 := V_a0.other W13 nab
      have S_COMPACT_STRINGS := S_COMPACT_STRINGS.wr W13
      have K13 := KJ82.wr W13 (Or.inl (List.mem_of_getElem? (i := 0) rfl))
      have zn13 : n0 ≤ h13.size := Nat.le_trans znJ82 (Keep.of_wr W13).1
      have N13 := Fr.snoc X13 NJ82 ga
      have V_a1 : Arv Z h13 a1 ko .char nn (zz.set 7 (.int (ch7.toUInt32.toUInt16.toUInt32.toInt32))) (.int (0 : Int32)) := V_a1_13
      refine OGo.go (B := T13.setTop (mkF m 96 #[.val (.ref a0), .val (.ref a1), .val (.int nn)] [])) ?_ st13
      exact J96 T13 _ h13 (zz.set 7 (.int (ch7.toUInt32.toUInt16.toUInt32.toInt32))) X13 e13 N13 zn13 K13 V_a0 V_a1 S_COMPACT_STRINGS (own_Bset hBz le7) (by rw [List.length_set]; exact hlz)
    ·
      refine OGo.go (B := TJ82.setTop (mkF m 96 #[.val (.ref a0), .val (.ref a1), .val (.int nn)] [])) ?_ (fun tX kX => XS.icmpYes XJ82.here hx rfl (pc0 := 85) (pc' := 96) rfl (hb hby d1_85) rfl (flt hc85).2.2.2 (by decide) (by decide) kX)
      exact J96 TJ82 _ hJ82 zz XJ82 eJ82 NJ82 znJ82 KJ82 V_a0 V_a1 S_COMPACT_STRINGS hBz hlz
  have J68 : ∀ (TJ68 : State) (LJ68 : List Loc) (hJ68 : Heap) (zz : List Value), (Stand p l e ({ frames := 4, cells := 2, slots := 16, locals := 66 } : Room) s m #[(.ref a0), (.ref a1)] below meth c TJ68 LJ68 0 0) → (TJ68.heap = hJ68) → (Fr n0 LJ68) → (n0 ≤ hJ68.size) → (Keep h0 hJ68 [a1]) → (Arv Z hJ68 a0 ks .char (12 : Int32) [(.int ch0), (.int ch1), (.int ch2), (.int ch3), (.int ch4), (.int ch5), (.int ch6), (.int ch7), (.int ch8), (.int ch9), (.int ch10), (.int ch11)] (.int (0 : Int32))) → (Arv Z hJ68 a1 ko .char nn zz (.int (0 : Int32))) → (Sta Z hJ68 "java/lang/String" "COMPACT_STRINGS" "Z" (.int cs)) → (own_B zz) → (zz.length = nn.toNatClampNeg) → OGo p.tables e below (P1g Z a0 a1 ks ko cs nn zs ch0 ch1 ch2 ch3 ch4 ch5 ch6 ch7 ch8 ch9 ch10 ch11 h0 n0 s) (TJ68.setTop (mkF m 68 #[.val (.ref a0), .val (.ref a1), .val (.int nn)] [])) := by
    intro TJ68 LJ68 hJ68 zz XJ68 eJ68 NJ68 znJ68 KJ68 V_a0 V_a1 S_COMPACT_STRINGS hBz hlz
    refine OGo.go (B := TJ68.setTop (mkF m 69 #[.val (.ref a0), .val (.ref a1), .val (.int nn)] [(.int nn)])) ?_ (fun tX kX => XS.iloadN XJ68.here hx rfl (hb hby d1_68) rfl kX)
    refine OGo.go (B := TJ68.setTop (mkF m 71 #[.val (.ref a0), .val (.ref a1), .val (.int nn)] [(.int (6 : Int32)), (.int nn)])) ?_ (fun tX kX => XS.bipush XJ68.here hx rfl (hb hby d1_69) kX)
    by_cases hc71 : (6 : Int32) < nn
    ·
      refine OGo.go (B := TJ68.setTop (mkF m 74 #[.val (.ref a0), .val (.ref a1), .val (.int nn)] [])) ?_ (fun tX kX => XS.icmpNo XJ68.here hx rfl (hb hby d1_71) rfl (tlt hc71).2.2.2 kX)
      refine OGo.go (B := TJ68.setTop (mkF m 75 #[.val (.ref a0), .val (.ref a1), .val (.int nn)] [(.ref a1)])) ?_ (fun tX kX => XS.aloadN XJ68.here hx rfl (hb hby d1_74) rfl rfl kX)
      refine OGo.go (B := TJ68.setTop (mkF m 77 #[.val (.ref a0), .val (.ref a1), .val (.int nn)] [(.int (6 : Int32)), (.ref a1)])) ?_ (fun tX kX => XS.bipush XJ68.here hx rfl (hb hby d1_75) kX)
      refine OGo.go (B := TJ68.setTop (mkF m 78 #[.val (.ref a0), .val (.ref a1), .val (.int nn)] [(.ref a0), (.int (6 : Int32)), (.ref a1)])) ?_ (fun tX kX => XS.aloadN XJ68.here hx rfl (hb hby d1_77) rfl rfl kX)
      refine OGo.go (B := TJ68.setTop (mkF m 80 #[.val (.ref a0), .val (.ref a1), .val (.int nn)] [(.int (6 : Int32)), (.ref a0), (.int (6 : Int32)), (.ref a1)])) ?_ (fun tX kX => XS.bipush XJ68.here hx rfl (hb hby d1_78) kX)
      obtain ⟨cl14, Ar14, qa14, S14, N14', H14, G14⟩ := id V_a0
      have hin14 := inb_of (j := (6 : Int32)) S14 ⟨by decide, by decide⟩
      have hat14 := H14.at (v := (.int ch6)) hin14 rfl
      refine OGo.go (B := TJ68.setTop (mkF m 81 #[.val (.ref a0), .val (.ref a1), .val (.int nn)] [(.int ch6), (.int (6 : Int32)), (.ref a1)])) ?_ (fun tX kX => XJ68.caload hx (j := (6 : Int32)) (v := (.int ch6)) (by rw [eJ68]; exact Ar14.1) (State.isArrayOf_alike hZ.alike Ar14.2.1) Ar14.2.2 hin14 hat14 (g := (mkF m 80 #[.val (.ref a0), .val (.ref a1), .val (.int nn)] [(.int (6 : Int32)), (.ref a0), (.int (6 : Int32)), (.ref a1)])) rfl rfl (hb hby d1_80) _ kX)
      obtain ⟨cl15, Ar15, qa15, S15, N15', H15, G15⟩ := id V_a1
      have hin15 := inb_of (j := (6 : Int32)) S15 ⟨by decide, hc71⟩
      obtain ⟨T15, h15, X15, e15, W15, st15⟩ := stC XJ68 hx hZ eJ68 Ar15 (j := (6 : Int32)) hin15 (g := (mkF m 81 #[.val (.ref a0), .val (.ref a1), .val (.int nn)] [(.int ch6), (.int (6 : Int32)), (.ref a1)])) rfl rfl (hb hby d1_81)
      have V_a1_15 := Arv.set Ar15 qa15 S15 N15' H15 G15 (fits_nar_char _) W15 6 rfl (by rw [hlz]; exact own_natlt (i := (6 : Int32)) (by decide) hc71)
      have V_a0 := V_a0.other W15 nab
      have S_COMPACT_STRINGS := S_COMPACT_STRINGS.wr W15
      have K15 := KJ68.wr W15 (Or.inl (List.mem_of_getElem? (i := 0) rfl))
      have zn15 : n0 ≤ h15.size := Nat.le_trans znJ68 (Keep.of_wr W15).1
      have N15 := Fr.snoc X15 NJ68 ga
      have V_a1 : Arv Z h15 a1 ko .char nn (zz.set 6 (.int (ch6.toUInt32.toUInt16.toUInt32.toInt32))) (.int (0 : Int32)) := V_a1_15
      refine OGo.go (B := T15.setTop (mkF m 82 #[.val (.ref a0), .val (.ref a1), .val (.int nn)] [])) ?_ st15
      exact J82 T15 _ h15 (zz.set 6 (.int (ch6.toUInt32.toUInt16.toUInt32.toInt32))) X15 e15 N15 zn15 K15 V_a0 V_a1 S_COMPACT_STRINGS (own_Bset hBz le6) (by rw [List.length_set]; exact hlz)
    ·
      refine OGo.go (B := TJ68.setTop (mkF m 82 #[.val (.ref a0), .val (.ref a1), .val (.int nn)] [])) ?_ (fun tX kX => XS.icmpYes XJ68.here hx rfl (pc0 := 71) (pc' := 82) rfl (hb hby d1_71) rfl (flt hc71).2.2.2 (by decide) (by decide) kX)
      exact J82 TJ68 _ hJ68 zz XJ68 eJ68 NJ68 znJ68 KJ68 V_a0 V_a1 S_COMPACT_STRINGS hBz hlz
  have J57 : ∀ (TJ57 : State) (LJ57 : List Loc) (hJ57 : Heap) (zz : List Value), (Stand p l e ({ frames := 4, cells := 2, slots := 16, locals := 66 } : Room) s m #[(.ref a0), (.ref a1)] below meth c TJ57 LJ57 0 0) → (TJ57.heap = hJ57) → (Fr n0 LJ57) → (n0 ≤ hJ57.size) → (Keep h0 hJ57 [a1]) → (Arv Z hJ57 a0 ks .char (12 : Int32) [(.int ch0), (.int ch1), (.int ch2), (.int ch3), (.int ch4), (.int ch5), (.int ch6), (.int ch7), (.int ch8), (.int ch9), (.int ch10), (.int ch11)] (.int (0 : Int32))) → (Arv Z hJ57 a1 ko .char nn zz (.int (0 : Int32))) → (Sta Z hJ57 "java/lang/String" "COMPACT_STRINGS" "Z" (.int cs)) → (own_B zz) → (zz.length = nn.toNatClampNeg) → OGo p.tables e below (P1g Z a0 a1 ks ko cs nn zs ch0 ch1 ch2 ch3 ch4 ch5 ch6 ch7 ch8 ch9 ch10 ch11 h0 n0 s) (TJ57.setTop (mkF m 57 #[.val (.ref a0), .val (.ref a1), .val (.int nn)] [])) := by
    intro TJ57 LJ57 hJ57 zz XJ57 eJ57 NJ57 znJ57 KJ57 V_a0 V_a1 S_COMPACT_STRINGS hBz hlz
    refine OGo.go (B := TJ57.setTop (mkF m 58 #[.val (.ref a0), .val (.ref a1), .val (.int nn)] [(.int nn)])) ?_ (fun tX kX => XS.iloadN XJ57.here hx rfl (hb hby d1_57) rfl kX)
    refine OGo.go (B := TJ57.setTop (mkF m 59 #[.val (.ref a0), .val (.ref a1), .val (.int nn)] [(.int (5 : Int32)), (.int nn)])) ?_ (fun tX kX => XS.iconst XJ57.here hx rfl (hb hby d1_58) kX)
    by_cases hc59 : (5 : Int32) < nn
    ·
      refine OGo.go (B := TJ57.setTop (mkF m 62 #[.val (.ref a0), .val (.ref a1), .val (.int nn)] [])) ?_ (fun tX kX => XS.icmpNo XJ57.here hx rfl (hb hby d1_59) rfl (tlt hc59).2.2.2 kX)
      refine OGo.go (B := TJ57.setTop (mkF m 63 #[.val (.ref a0), .val (.ref a1), .val (.int nn)] [(.ref a1)])) ?_ (fun tX kX => XS.aloadN XJ57.here hx rfl (hb hby d1_62) rfl rfl kX)
      refine OGo.go (B := TJ57.setTop (mkF m 64 #[.val (.ref a0), .val (.ref a1), .val (.int nn)] [(.int (5 : Int32)), (.ref a1)])) ?_ (fun tX kX => XS.iconst XJ57.here hx rfl (hb hby d1_63) kX)
      refine OGo.go (B := TJ57.setTop (mkF m 65 #[.val (.ref a0), .val (.ref a1), .val (.int nn)] [(.ref a0), (.int (5 : Int32)), (.ref a1)])) ?_ (fun tX kX => XS.aloadN XJ57.here hx rfl (hb hby d1_64) rfl rfl kX)
      refine OGo.go (B := TJ57.setTop (mkF m 66 #[.val (.ref a0), .val (.ref a1), .val (.int nn)] [(.int (5 : Int32)), (.ref a0), (.int (5 : Int32)), (.ref a1)])) ?_ (fun tX kX => XS.iconst XJ57.here hx rfl (hb hby d1_65) kX)
      obtain ⟨cl16, Ar16, qa16, S16, N16', H16, G16⟩ := id V_a0
      have hin16 := inb_of (j := (5 : Int32)) S16 ⟨by decide, by decide⟩
      have hat16 := H16.at (v := (.int ch5)) hin16 rfl
      refine OGo.go (B := TJ57.setTop (mkF m 67 #[.val (.ref a0), .val (.ref a1), .val (.int nn)] [(.int ch5), (.int (5 : Int32)), (.ref a1)])) ?_ (fun tX kX => XJ57.caload hx (j := (5 : Int32)) (v := (.int ch5)) (by rw [eJ57]; exact Ar16.1) (State.isArrayOf_alike hZ.alike Ar16.2.1) Ar16.2.2 hin16 hat16 (g := (mkF m 66 #[.val (.ref a0), .val (.ref a1), .val (.int nn)] [(.int (5 : Int32)), (.ref a0), (.int (5 : Int32)), (.ref a1)])) rfl rfl (hb hby d1_66) _ kX)
      obtain ⟨cl17, Ar17, qa17, S17, N17', H17, G17⟩ := id V_a1
      have hin17 := inb_of (j := (5 : Int32)) S17 ⟨by decide, hc59⟩
      obtain ⟨T17, h17, X17, e17, W17, st17⟩ := stC XJ57 hx hZ eJ57 Ar17 (j := (5 : Int32)) hin17 (g := (mkF m 67 #[.val (.ref a0), .val (.ref a1), .val (.int nn)] [(.int ch5), (.int (5 : Int32)), (.ref a1)])) rfl rfl (hb hby d1_67)
      have V_a1_17 := Arv.set Ar17 qa17 S17 N17' H17 G17 (fits_nar_char _) W17 5 rfl (by rw [hlz]; exact own_natlt (i := (5 : Int32)) (by decide) hc59)
      have V_a0 := V_a0.other W17 nab
      have S_COMPACT_STRINGS := S_COMPACT_STRINGS.wr W17
      have K17 := KJ57.wr W17 (Or.inl (List.mem_of_getElem? (i := 0) rfl))
      have zn17 : n0 ≤ h17.size := Nat.le_trans znJ57 (Keep.of_wr W17).1
      have N17 := Fr.snoc X17 NJ57 ga
      have V_a1 : Arv Z h17 a1 ko .char nn (zz.set 5 (.int (ch5.toUInt32.toUInt16.toUInt32.toInt32))) (.int (0 : Int32)) := V_a1_17
      refine OGo.go (B := T17.setTop (mkF m 68 #[.val (.ref a0), .val (.ref a1), .val (.int nn)] [])) ?_ st17
      exact J68 T17 _ h17 (zz.set 5 (.int (ch5.toUInt32.toUInt16.toUInt32.toInt32))) X17 e17 N17 zn17 K17 V_a0 V_a1 S_COMPACT_STRINGS (own_Bset hBz le5) (by rw [List.length_set]; exact hlz)
    ·
      refine OGo.go (B := TJ57.setTop (mkF m 68 #[.val (.ref a0), .val (.ref a1), .val (.int nn)] [])) ?_ (fun tX kX => XS.icmpYes XJ57.here hx rfl (pc0 := 59) (pc' := 68) rfl (hb hby d1_59) rfl (flt hc59).2.2.2 (by decide) (by decide) kX)
      exact J68 TJ57 _ hJ57 zz XJ57 eJ57 NJ57 znJ57 KJ57 V_a0 V_a1 S_COMPACT_STRINGS hBz hlz
  have J46 : ∀ (TJ46 : State) (LJ46 : List Loc) (hJ46 : Heap) (zz : List Value), (Stand p l e ({ frames := 4, cells := 2, slots := 16, locals := 66 } : Room) s m #[(.ref a0), (.ref a1)] below meth c TJ46 LJ46 0 0) → (TJ46.heap = hJ46) → (Fr n0 LJ46) → (n0 ≤ hJ46.size) → (Keep h0 hJ46 [a1]) → (Arv Z hJ46 a0 ks .char (12 : Int32) [(.int ch0), (.int ch1), (.int ch2), (.int ch3), (.int ch4), (.int ch5), (.int ch6), (.int ch7), (.int ch8), (.int ch9), (.int ch10), (.int ch11)] (.int (0 : Int32))) → (Arv Z hJ46 a1 ko .char nn zz (.int (0 : Int32))) → (Sta Z hJ46 "java/lang/String" "COMPACT_STRINGS" "Z" (.int cs)) → (own_B zz) → (zz.length = nn.toNatClampNeg) → OGo p.tables e below (P1g Z a0 a1 ks ko cs nn zs ch0 ch1 ch2 ch3 ch4 ch5 ch6 ch7 ch8 ch9 ch10 ch11 h0 n0 s) (TJ46.setTop (mkF m 46 #[.val (.ref a0), .val (.ref a1), .val (.int nn)] [])) := by
    intro TJ46 LJ46 hJ46 zz XJ46 eJ46 NJ46 znJ46 KJ46 V_a0 V_a1 S_COMPACT_STRINGS hBz hlz
    refine OGo.go (B := TJ46.setTop (mkF m 47 #[.val (.ref a0), .val (.ref a1), .val (.int nn)] [(.int nn)])) ?_ (fun tX kX => XS.iloadN XJ46.here hx rfl (hb hby d1_46) rfl kX)
    refine OGo.go (B := TJ46.setTop (mkF m 48 #[.val (.ref a0), .val (.ref a1), .val (.int nn)] [(.int (4 : Int32)), (.int nn)])) ?_ (fun tX kX => XS.iconst XJ46.here hx rfl (hb hby d1_47) kX)
    by_cases hc48 : (4 : Int32) < nn
    ·
      refine OGo.go (B := TJ46.setTop (mkF m 51 #[.val (.ref a0), .val (.ref a1), .val (.int nn)] [])) ?_ (fun tX kX => XS.icmpNo XJ46.here hx rfl (hb hby d1_48) rfl (tlt hc48).2.2.2 kX)
      refine OGo.go (B := TJ46.setTop (mkF m 52 #[.val (.ref a0), .val (.ref a1), .val (.int nn)] [(.ref a1)])) ?_ (fun tX kX => XS.aloadN XJ46.here hx rfl (hb hby d1_51) rfl rfl kX)
      refine OGo.go (B := TJ46.setTop (mkF m 53 #[.val (.ref a0), .val (.ref a1), .val (.int nn)] [(.int (4 : Int32)), (.ref a1)])) ?_ (fun tX kX => XS.iconst XJ46.here hx rfl (hb hby d1_52) kX)
      refine OGo.go (B := TJ46.setTop (mkF m 54 #[.val (.ref a0), .val (.ref a1), .val (.int nn)] [(.ref a0), (.int (4 : Int32)), (.ref a1)])) ?_ (fun tX kX => XS.aloadN XJ46.here hx rfl (hb hby d1_53) rfl rfl kX)
      refine OGo.go (B := TJ46.setTop (mkF m 55 #[.val (.ref a0), .val (.ref a1), .val (.int nn)] [(.int (4 : Int32)), (.ref a0), (.int (4 : Int32)), (.ref a1)])) ?_ (fun tX kX => XS.iconst XJ46.here hx rfl (hb hby d1_54) kX)
      obtain ⟨cl18, Ar18, qa18, S18, N18', H18, G18⟩ := id V_a0
      have hin18 := inb_of (j := (4 : Int32)) S18 ⟨by decide, by decide⟩
      have hat18 := H18.at (v := (.int ch4)) hin18 rfl
      refine OGo.go (B := TJ46.setTop (mkF m 56 #[.val (.ref a0), .val (.ref a1), .val (.int nn)] [(.int ch4), (.int (4 : Int32)), (.ref a1)])) ?_ (fun tX kX => XJ46.caload hx (j := (4 : Int32)) (v := (.int ch4)) (by rw [eJ46]; exact Ar18.1) (State.isArrayOf_alike hZ.alike Ar18.2.1) Ar18.2.2 hin18 hat18 (g := (mkF m 55 #[.val (.ref a0), .val (.ref a1), .val (.int nn)] [(.int (4 : Int32)), (.ref a0), (.int (4 : Int32)), (.ref a1)])) rfl rfl (hb hby d1_55) _ kX)
      obtain ⟨cl19, Ar19, qa19, S19, N19', H19, G19⟩ := id V_a1
      have hin19 := inb_of (j := (4 : Int32)) S19 ⟨by decide, hc48⟩
      obtain ⟨T19, h19, X19, e19, W19, st19⟩ := stC XJ46 hx hZ eJ46 Ar19 (j := (4 : Int32)) hin19 (g := (mkF m 56 #[.val (.ref a0), .val (.ref a1), .val (.int nn)] [(.int ch4), (.int (4 : Int32)), (.ref a1)])) rfl rfl (hb hby d1_56)
      have V_a1_19 := Arv.set Ar19 qa19 S19 N19' H19 G19 (fits_nar_char _) W19 4 rfl (by rw [hlz]; exact own_natlt (i := (4 : Int32)) (by decide) hc48)
      have V_a0 := V_a0.other W19 nab
      have S_COMPACT_STRINGS := S_COMPACT_STRINGS.wr W19
      have K19 := KJ46.wr W19 (Or.inl (List.mem_of_getElem? (i := 0) rfl))
      have zn19 : n0 ≤ h19.size := Nat.le_trans znJ46 (Keep.of_wr W19).1
      have N19 := Fr.snoc X19 NJ46 ga
      have V_a1 : Arv Z h19 a1 ko .char nn (zz.set 4 (.int (ch4.toUInt32.toUInt16.toUInt32.toInt32))) (.int (0 : Int32)) := V_a1_19
      refine OGo.go (B := T19.setTop (mkF m 57 #[.val (.ref a0), .val (.ref a1), .val (.int nn)] [])) ?_ st19
      exact J57 T19 _ h19 (zz.set 4 (.int (ch4.toUInt32.toUInt16.toUInt32.toInt32))) X19 e19 N19 zn19 K19 V_a0 V_a1 S_COMPACT_STRINGS (own_Bset hBz le4) (by rw [List.length_set]; exact hlz)
    ·
      refine OGo.go (B := TJ46.setTop (mkF m 57 #[.val (.ref a0), .val (.ref a1), .val (.int nn)] [])) ?_ (fun tX kX => XS.icmpYes XJ46.here hx rfl (pc0 := 48) (pc' := 57) rfl (hb hby d1_48) rfl (flt hc48).2.2.2 (by decide) (by decide) kX)
      exact J57 TJ46 _ hJ46 zz XJ46 eJ46 NJ46 znJ46 KJ46 V_a0 V_a1 S_COMPACT_STRINGS hBz hlz
  have J35 : ∀ (TJ35 : State) (LJ35 : List Loc) (hJ35 : Heap) (zz : List Value), (Stand p l e ({ frames := 4, cells := 2, slots := 16, locals := 66 } : Room) s m #[(.ref a0), (.ref a1)] below meth c TJ35 LJ35 0 0) → (TJ35.heap = hJ35) → (Fr n0 LJ35) → (n0 ≤ hJ35.size) → (Keep h0 hJ35 [a1]) → (Arv Z hJ35 a0 ks .char (12 : Int32) [(.int ch0), (.int ch1), (.int ch2), (.int ch3), (.int ch4), (.int ch5), (.int ch6), (.int ch7), (.int ch8), (.int ch9), (.int ch10), (.int ch11)] (.int (0 : Int32))) → (Arv Z hJ35 a1 ko .char nn zz (.int (0 : Int32))) → (Sta Z hJ35 "java/lang/String" "COMPACT_STRINGS" "Z" (.int cs)) → (own_B zz) → (zz.length = nn.toNatClampNeg) → OGo p.tables e below (P1g Z a0 a1 ks ko cs nn zs ch0 ch1 ch2 ch3 ch4 ch5 ch6 ch7 ch8 ch9 ch10 ch11 h0 n0 s) (TJ35.setTop (mkF m 35 #[.val (.ref a0), .val (.ref a1), .val (.int nn)] [])) := by
    intro TJ35 LJ35 hJ35 zz XJ35 eJ35 NJ35 znJ35 KJ35 V_a0 V_a1 S_COMPACT_STRINGS hBz hlz
    refine OGo.go (B := TJ35.setTop (mkF m 36 #[.val (.ref a0), .val (.ref a1), .val (.int nn)] [(.int nn)])) ?_ (fun tX kX => XS.iloadN XJ35.here hx rfl (hb hby d1_35) rfl kX)
    refine OGo.go (B := TJ35.setTop (mkF m 37 #[.val (.ref a0), .val (.ref a1), .val (.int nn)] [(.int (3 : Int32)), (.int nn)])) ?_ (fun tX kX => XS.iconst XJ35.here hx rfl (hb hby d1_36) kX)
    by_cases hc37 : (3 : Int32) < nn
    ·
      refine OGo.go (B := TJ35.setTop (mkF m 40 #[.val (.ref a0), .val (.ref a1), .val (.int nn)] [])) ?_ (fun tX kX => XS.icmpNo XJ35.here hx rfl (hb hby d1_37) rfl (tlt hc37).2.2.2 kX)
      refine OGo.go (B := TJ35.setTop (mkF m 41 #[.val (.ref a0), .val (.ref a1), .val (.int nn)] [(.ref a1)])) ?_ (fun tX kX => XS.aloadN XJ35.here hx rfl (hb hby d1_40) rfl rfl kX)
      refine OGo.go (B := TJ35.setTop (mkF m 42 #[.val (.ref a0), .val (.ref a1), .val (.int nn)] [(.int (3 : Int32)), (.ref a1)])) ?_ (fun tX kX => XS.iconst XJ35.here hx rfl (hb hby d1_41) kX)
      refine OGo.go (B := TJ35.setTop (mkF m 43 #[.val (.ref a0), .val (.ref a1), .val (.int nn)] [(.ref a0), (.int (3 : Int32)), (.ref a1)])) ?_ (fun tX kX => XS.aloadN XJ35.here hx rfl (hb hby d1_42) rfl rfl kX)
      refine OGo.go (B := TJ35.setTop (mkF m 44 #[.val (.ref a0), .val (.ref a1), .val (.int nn)] [(.int (3 : Int32)), (.ref a0), (.int (3 : Int32)), (.ref a1)])) ?_ (fun tX kX => XS.iconst XJ35.here hx rfl (hb hby d1_43) kX)
      obtain ⟨cl20, Ar20, qa20, S20, N20', H20, G20⟩ := id V_a0
      have hin20 := inb_of (j := (3 : Int32)) S20 ⟨by decide, by decide⟩
      have hat20 := H20.at (v := (.int ch3)) hin20 rfl
      refine OGo.go (B := TJ35.setTop (mkF m 45 #[.val (.ref a0), .val (.ref a1), .val (.int nn)] [(.int ch3), (.int (3 : Int32)), (.ref a1)])) ?_ (fun tX kX => XJ35.caload hx (j := (3 : Int32)) (v := (.int ch3)) (by rw [eJ35]; exact Ar20.1) (State.isArrayOf_alike hZ.alike Ar20.2.1) Ar20.2.2 hin20 hat20 (g := (mkF m 44 #[.val (.ref a0), .val (.ref a1), .val (.int nn)] [(.int (3 : Int32)), (.ref a0), (.int (3 : Int32)), (.ref a1)])) rfl rfl (hb hby d1_44) _ kX)
      obtain ⟨cl21, Ar21, qa21, S21, N21', H21, G21⟩ := id V_a1
      have hin21 := inb_of (j := (3 : Int32)) S21 ⟨by decide, hc37⟩
      obtain ⟨T21, h21, X21, e21, W21, st21⟩ := stC XJ35 hx hZ eJ35 Ar21 (j := (3 : Int32)) hin21 (g := (mkF m 45 #[.val (.ref a0), .val (.ref a1), .val (.int nn)] [(.int ch3), (.int (3 : Int32)), (.ref a1)])) rfl rfl (hb hby d1_45)
      have V_a1_21 := Arv.set Ar21 qa21 S21 N21' H21 G21 (fits_nar_char _) W21 3 rfl (by rw [hlz]; exact own_natlt (i := (3 : Int32)) (by decide) hc37)
      have V_a0 := V_a0.other W21 nab
      have S_COMPACT_STRINGS := S_COMPACT_STRINGS.wr W21
      have K21 := KJ35.wr W21 (Or.inl (List.mem_of_getElem? (i := 0) rfl))
      have zn21 : n0 ≤ h21.size := Nat.le_trans znJ35 (Keep.of_wr W21).1
      have N21 := Fr.snoc X21 NJ35 ga
      have V_a1 : Arv Z h21 a1 ko .char nn (zz.set 3 (.int (ch3.toUInt32.toUInt16.toUInt32.toInt32))) (.int (0 : Int32)) := V_a1_21
      refine OGo.go (B := T21.setTop (mkF m 46 #[.val (.ref a0), .val (.ref a1), .val (.int nn)] [])) ?_ st21
      exact J46 T21 _ h21 (zz.set 3 (.int (ch3.toUInt32.toUInt16.toUInt32.toInt32))) X21 e21 N21 zn21 K21 V_a0 V_a1 S_COMPACT_STRINGS (own_Bset hBz le3) (by rw [List.length_set]; exact hlz)
    ·
      refine OGo.go (B := TJ35.setTop (mkF m 46 #[.val (.ref a0), .val (.ref a1), .val (.int nn)] [])) ?_ (fun tX kX => XS.icmpYes XJ35.here hx rfl (pc0 := 37) (pc' := 46) rfl (hb hby d1_37) rfl (flt hc37).2.2.2 (by decide) (by decide) kX)
      exact J46 TJ35 _ hJ35 zz XJ35 eJ35 NJ35 znJ35 KJ35 V_a0 V_a1 S_COMPACT_STRINGS hBz hlz
  have J24 : ∀ (TJ24 : State) (LJ24 : List Loc) (hJ24 : Heap) (zz : List Value), (Stand p l e ({ frames := 4, cells := 2, slots := 16, locals := 66 } : Room) s m #[(.ref a0), (.ref a1)] below meth c TJ24 LJ24 0 0) → (TJ24.heap = hJ24) → (Fr n0 LJ24) → (n0 ≤ hJ24.size) → (Keep h0 hJ24 [a1]) → (Arv Z hJ24 a0 ks .char (12 : Int32) [(.int ch0), (.int ch1), (.int ch2), (.int ch3), (.int ch4), (.int ch5), (.int ch6), (.int ch7), (.int ch8), (.int ch9), (.int ch10), (.int ch11)] (.int (0 : Int32))) → (Arv Z hJ24 a1 ko .char nn zz (.int (0 : Int32))) → (Sta Z hJ24 "java/lang/String" "COMPACT_STRINGS" "Z" (.int cs)) → (own_B zz) → (zz.length = nn.toNatClampNeg) → OGo p.tables e below (P1g Z a0 a1 ks ko cs nn zs ch0 ch1 ch2 ch3 ch4 ch5 ch6 ch7 ch8 ch9 ch10 ch11 h0 n0 s) (TJ24.setTop (mkF m 24 #[.val (.ref a0), .val (.ref a1), .val (.int nn)] [])) := by
    intro TJ24 LJ24 hJ24 zz XJ24 eJ24 NJ24 znJ24 KJ24 V_a0 V_a1 S_COMPACT_STRINGS hBz hlz
    refine OGo.go (B := TJ24.setTop (mkF m 25 #[.val (.ref a0), .val (.ref a1), .val (.int nn)] [(.int nn)])) ?_ (fun tX kX => XS.iloadN XJ24.here hx rfl (hb hby d1_24) rfl kX)
    refine OGo.go (B := TJ24.setTop (mkF m 26 #[.val (.ref a0), .val (.ref a1), .val (.int nn)] [(.int (2 : Int32)), (.int nn)])) ?_ (fun tX kX => XS.iconst XJ24.here hx rfl (hb hby d1_25) kX)
    by_cases hc26 : (2 : Int32) < nn
    ·
      refine OGo.go (B := TJ24.setTop (mkF m 29 #[.val (.ref a0), .val (.ref a1), .val (.int nn)] [])) ?_ (fun tX kX => XS.icmpNo XJ24.here hx rfl (hb hby d1_26) rfl (tlt hc26).2.2.2 kX)
      refine OGo.go (B := TJ24.setTop (mkF m 30 #[.val (.ref a0), .val (.ref a1), .val (.int nn)] [(.ref a1)])) ?_ (fun tX kX => XS.aloadN XJ24.here hx rfl (hb hby d1_29) rfl rfl kX)
      refine OGo.go (B := TJ24.setTop (mkF m 31 #[.val (.ref a0), .val (.ref a1), .val (.int nn)] [(.int (2 : Int32)), (.ref a1)])) ?_ (fun tX kX => XS.iconst XJ24.here hx rfl (hb hby d1_30) kX)
      refine OGo.go (B := TJ24.setTop (mkF m 32 #[.val (.ref a0), .val (.ref a1), .val (.int nn)] [(.ref a0), (.int (2 : Int32)), (.ref a1)])) ?_ (fun tX kX => XS.aloadN XJ24.here hx rfl (hb hby d1_31) rfl rfl kX)
      refine OGo.go (B := TJ24.setTop (mkF m 33 #[.val (.ref a0), .val (.ref a1), .val (.int nn)] [(.int (2 : Int32)), (.ref a0), (.int (2 : Int32)), (.ref a1)])) ?_ (fun tX kX => XS.iconst XJ24.here hx rfl (hb hby d1_32) kX)
      obtain ⟨cl22, Ar22, qa22, S22, N22', H22, G22⟩ := id V_a0
      have hin22 := inb_of (j := (2 : Int32)) S22 ⟨by decide, by decide⟩
      have hat22 := H22.at (v := (.int ch2)) hin22 rfl
      refine OGo.go (B := TJ24.setTop (mkF m 34 #[.val (.ref a0), .val (.ref a1), .val (.int nn)] [(.int ch2), (.int (2 : Int32)), (.ref a1)])) ?_ (fun tX kX => XJ24.caload hx (j := (2 : Int32)) (v := (.int ch2)) (by rw [eJ24]; exact Ar22.1) (State.isArrayOf_alike hZ.alike Ar22.2.1) Ar22.2.2 hin22 hat22 (g := (mkF m 33 #[.val (.ref a0), .val (.ref a1), .val (.int nn)] [(.int (2 : Int32)), (.ref a0), (.int (2 : Int32)), (.ref a1)])) rfl rfl (hb hby d1_33) _ kX)
      obtain ⟨cl23, Ar23, qa23, S23, N23', H23, G23⟩ := id V_a1
      have hin23 := inb_of (j := (2 : Int32)) S23 ⟨by decide, hc26⟩
      obtain ⟨T23, h23, X23, e23, W23, st23⟩ := stC XJ24 hx hZ eJ24 Ar23 (j := (2 : Int32)) hin23 (g := (mkF m 34 #[.val (.ref a0), .val (.ref a1), .val (.int nn)] [(.int ch2), (.int (2 : Int32)), (.ref a1)])) rfl rfl (hb hby d1_34)
      have V_a1_23 := Arv.set Ar23 qa23 S23 N23' H23 G23 (fits_nar_char _) W23 2 rfl (by rw [hlz]; exact own_natlt (i := (2 : Int32)) (by decide) hc26)
      have V_a0 := V_a0.other W23 nab
      have S_COMPACT_STRINGS := S_COMPACT_STRINGS.wr W23
      have K23 := KJ24.wr W23 (Or.inl (List.mem_of_getElem? (i := 0) rfl))
      have zn23 : n0 ≤ h23.size := Nat.le_trans znJ24 (Keep.of_wr W23).1
      have N23 := Fr.snoc X23 NJ24 ga
      have V_a1 : Arv Z h23 a1 ko .char nn (zz.set 2 (.int (ch2.toUInt32.toUInt16.toUInt32.toInt32))) (.int (0 : Int32)) := V_a1_23
      refine OGo.go (B := T23.setTop (mkF m 35 #[.val (.ref a0), .val (.ref a1), .val (.int nn)] [])) ?_ st23
      exact J35 T23 _ h23 (zz.set 2 (.int (ch2.toUInt32.toUInt16.toUInt32.toInt32))) X23 e23 N23 zn23 K23 V_a0 V_a1 S_COMPACT_STRINGS (own_Bset hBz le2) (by rw [List.length_set]; exact hlz)
    ·
      refine OGo.go (B := TJ24.setTop (mkF m 35 #[.val (.ref a0), .val (.ref a1), .val (.int nn)] [])) ?_ (fun tX kX => XS.icmpYes XJ24.here hx rfl (pc0 := 26) (pc' := 35) rfl (hb hby d1_26) rfl (flt hc26).2.2.2 (by decide) (by decide) kX)
      exact J35 TJ24 _ hJ24 zz XJ24 eJ24 NJ24 znJ24 KJ24 V_a0 V_a1 S_COMPACT_STRINGS hBz hlz
  have J13 : ∀ (TJ13 : State) (LJ13 : List Loc) (hJ13 : Heap) (zz : List Value), (Stand p l e ({ frames := 4, cells := 2, slots := 16, locals := 66 } : Room) s m #[(.ref a0), (.ref a1)] below meth c TJ13 LJ13 0 0) → (TJ13.heap = hJ13) → (Fr n0 LJ13) → (n0 ≤ hJ13.size) → (Keep h0 hJ13 [a1]) → (Arv Z hJ13 a0 ks .char (12 : Int32) [(.int ch0), (.int ch1), (.int ch2), (.int ch3), (.int ch4), (.int ch5), (.int ch6), (.int ch7), (.int ch8), (.int ch9), (.int ch10), (.int ch11)] (.int (0 : Int32))) → (Arv Z hJ13 a1 ko .char nn zz (.int (0 : Int32))) → (Sta Z hJ13 "java/lang/String" "COMPACT_STRINGS" "Z" (.int cs)) → (own_B zz) → (zz.length = nn.toNatClampNeg) → OGo p.tables e below (P1g Z a0 a1 ks ko cs nn zs ch0 ch1 ch2 ch3 ch4 ch5 ch6 ch7 ch8 ch9 ch10 ch11 h0 n0 s) (TJ13.setTop (mkF m 13 #[.val (.ref a0), .val (.ref a1), .val (.int nn)] [])) := by
    intro TJ13 LJ13 hJ13 zz XJ13 eJ13 NJ13 znJ13 KJ13 V_a0 V_a1 S_COMPACT_STRINGS hBz hlz
    refine OGo.go (B := TJ13.setTop (mkF m 14 #[.val (.ref a0), .val (.ref a1), .val (.int nn)] [(.int nn)])) ?_ (fun tX kX => XS.iloadN XJ13.here hx rfl (hb hby d1_13) rfl kX)
    refine OGo.go (B := TJ13.setTop (mkF m 15 #[.val (.ref a0), .val (.ref a1), .val (.int nn)] [(.int (1 : Int32)), (.int nn)])) ?_ (fun tX kX => XS.iconst XJ13.here hx rfl (hb hby d1_14) kX)
    by_cases hc15 : (1 : Int32) < nn
    ·
      refine OGo.go (B := TJ13.setTop (mkF m 18 #[.val (.ref a0), .val (.ref a1), .val (.int nn)] [])) ?_ (fun tX kX => XS.icmpNo XJ13.here hx rfl (hb hby d1_15) rfl (tlt hc15).2.2.2 kX)
      refine OGo.go (B := TJ13.setTop (mkF m 19 #[.val (.ref a0), .val (.ref a1), .val (.int nn)] [(.ref a1)])) ?_ (fun tX kX => XS.aloadN XJ13.here hx rfl (hb hby d1_18) rfl rfl kX)
      refine OGo.go (B := TJ13.setTop (mkF m 20 #[.val (.ref a0), .val (.ref a1), .val (.int nn)] [(.int (1 : Int32)), (.ref a1)])) ?_ (fun tX kX => XS.iconst XJ13.here hx rfl (hb hby d1_19) kX)
      refine OGo.go (B := TJ13.setTop (mkF m 21 #[.val (.ref a0), .val (.ref a1), .val (.int nn)] [(.ref a0), (.int (1 : Int32)), (.ref a1)])) ?_ (fun tX kX => XS.aloadN XJ13.here hx rfl (hb hby d1_20) rfl rfl kX)
      refine OGo.go (B := TJ13.setTop (mkF m 22 #[.val (.ref a0), .val (.ref a1), .val (.int nn)] [(.int (1 : Int32)), (.ref a0), (.int (1 : Int32)), (.ref a1)])) ?_ (fun tX kX => XS.iconst XJ13.here hx rfl (hb hby d1_21) kX)
      obtain ⟨cl24, Ar24, qa24, S24, N24', H24, G24⟩ := id V_a0
      have hin24 := inb_of (j := (1 : Int32)) S24 ⟨by decide, by decide⟩
      have hat24 := H24.at (v := (.int ch1)) hin24 rfl
      refine OGo.go (B := TJ13.setTop (mkF m 23 #[.val (.ref a0), .val (.ref a1), .val (.int nn)] [(.int ch1), (.int (1 : Int32)), (.ref a1)])) ?_ (fun tX kX => XJ13.caload hx (j := (1 : Int32)) (v := (.int ch1)) (by rw [eJ13]; exact Ar24.1) (State.isArrayOf_alike hZ.alike Ar24.2.1) Ar24.2.2 hin24 hat24 (g := (mkF m 22 #[.val (.ref a0), .val (.ref a1), .val (.int nn)] [(.int (1 : Int32)), (.ref a0), (.int (1 : Int32)), (.ref a1)])) rfl rfl (hb hby d1_22) _ kX)
      obtain ⟨cl25, Ar25, qa25, S25, N25', H25, G25⟩ := id V_a1
      have hin25 := inb_of (j := (1 : Int32)) S25 ⟨by decide, hc15⟩
      obtain ⟨T25, h25, X25, e25, W25, st25⟩ := stC XJ13 hx hZ eJ13 Ar25 (j := (1 : Int32)) hin25 (g := (mkF m 23 #[.val (.ref a0), .val (.ref a1), .val (.int nn)] [(.int ch1), (.int (1 : Int32)), (.ref a1)])) rfl rfl (hb hby d1_23)
      have V_a1_25 := Arv.set Ar25 qa25 S25 N25' H25 G25 (fits_nar_char _) W25 1 rfl (by rw [hlz]; exact own_natlt (i := (1 : Int32)) (by decide) hc15)
      have V_a0 := V_a0.other W25 nab
      have S_COMPACT_STRINGS := S_COMPACT_STRINGS.wr W25
      have K25 := KJ13.wr W25 (Or.inl (List.mem_of_getElem? (i := 0) rfl))
      have zn25 : n0 ≤ h25.size := Nat.le_trans znJ13 (Keep.of_wr W25).1
      have N25 := Fr.snoc X25 NJ13 ga
      have V_a1 : Arv Z h25 a1 ko .char nn (zz.set 1 (.int (ch1.toUInt32.toUInt16.toUInt32.toInt32))) (.int (0 : Int32)) := V_a1_25
      refine OGo.go (B := T25.setTop (mkF m 24 #[.val (.ref a0), .val (.ref a1), .val (.int nn)] [])) ?_ st25
      exact J24 T25 _ h25 (zz.set 1 (.int (ch1.toUInt32.toUInt16.toUInt32.toInt32))) X25 e25 N25 zn25 K25 V_a0 V_a1 S_COMPACT_STRINGS (own_Bset hBz le1) (by rw [List.length_set]; exact hlz)
    ·
      refine OGo.go (B := TJ13.setTop (mkF m 24 #[.val (.ref a0), .val (.ref a1), .val (.int nn)] [])) ?_ (fun tX kX => XS.icmpYes XJ13.here hx rfl (pc0 := 15) (pc' := 24) rfl (hb hby d1_15) rfl (flt hc15).2.2.2 (by decide) (by decide) kX)
      exact J24 TJ13 _ hJ13 zz XJ13 eJ13 NJ13 znJ13 KJ13 V_a0 V_a1 S_COMPACT_STRINGS hBz hlz
  refine OGo.go (B := s₁.setTop (mkF m 4 #[.val (.ref a0), .val (.ref a1), .val (.int nn)] [(.int nn)])) ?_ (fun tX kX => XS.iloadN X0.here hx rfl (hb hby d1_3) rfl kX)
  by_cases hc4 : (0 : Int32) < nn
  ·
    refine OGo.go (B := s₁.setTop (mkF m 7 #[.val (.ref a0), .val (.ref a1), .val (.int nn)] [])) ?_ (fun tX kX => XS.ifNo X0.here hx rfl (hb hby d1_4) rfl ((if0 _ _).trans (tlt hc4).2.2.2) kX)
    refine OGo.go (B := s₁.setTop (mkF m 8 #[.val (.ref a0), .val (.ref a1), .val (.int nn)] [(.ref a1)])) ?_ (fun tX kX => XS.aloadN X0.here hx rfl (hb hby d1_7) rfl rfl kX)
    refine OGo.go (B := s₁.setTop (mkF m 9 #[.val (.ref a0), .val (.ref a1), .val (.int nn)] [(.int (0 : Int32)), (.ref a1)])) ?_ (fun tX kX => XS.iconst X0.here hx rfl (hb hby d1_8) kX)
    refine OGo.go (B := s₁.setTop (mkF m 10 #[.val (.ref a0), .val (.ref a1), .val (.int nn)] [(.ref a0), (.int (0 : Int32)), (.ref a1)])) ?_ (fun tX kX => XS.aloadN X0.here hx rfl (hb hby d1_9) rfl rfl kX)
    refine OGo.go (B := s₁.setTop (mkF m 11 #[.val (.ref a0), .val (.ref a1), .val (.int nn)] [(.int (0 : Int32)), (.ref a0), (.int (0 : Int32)), (.ref a1)])) ?_ (fun tX kX => XS.iconst X0.here hx rfl (hb hby d1_10) kX)
    obtain ⟨cl26, Ar26, qa26, S26, N26', H26, G26⟩ := id V_a0
    have hin26 := inb_of (j := (0 : Int32)) S26 ⟨by decide, by decide⟩
    have hat26 := H26.at (v := (.int ch0)) hin26 rfl
    refine OGo.go (B := s₁.setTop (mkF m 12 #[.val (.ref a0), .val (.ref a1), .val (.int nn)] [(.int ch0), (.int (0 : Int32)), (.ref a1)])) ?_ (fun tX kX => X0.caload hx (j := (0 : Int32)) (v := (.int ch0)) (by rw [e0]; exact Ar26.1) (State.isArrayOf_alike hZ.alike Ar26.2.1) Ar26.2.2 hin26 hat26 (g := (mkF m 11 #[.val (.ref a0), .val (.ref a1), .val (.int nn)] [(.int (0 : Int32)), (.ref a0), (.int (0 : Int32)), (.ref a1)])) rfl rfl (hb hby d1_11) _ kX)
    obtain ⟨cl27, Ar27, qa27, S27, N27', H27, G27⟩ := id V_a1
    have hin27 := inb_of (j := (0 : Int32)) S27 ⟨by decide, hc4⟩
    obtain ⟨T27, h27, X27, e27, W27, st27⟩ := stC X0 hx hZ e0 Ar27 (j := (0 : Int32)) hin27 (g := (mkF m 12 #[.val (.ref a0), .val (.ref a1), .val (.int nn)] [(.int ch0), (.int (0 : Int32)), (.ref a1)])) rfl rfl (hb hby d1_12)
    have V_a1_27 := Arv.set Ar27 qa27 S27 N27' H27 G27 (fits_nar_char _) W27 0 rfl (by rw [hzl]; exact own_natlt (i := (0 : Int32)) (by decide) hc4)
    have V_a0 := V_a0.other W27 nab
    have S_COMPACT_STRINGS := S_COMPACT_STRINGS.wr W27
    have K27 := K0.wr W27 (Or.inl (List.mem_of_getElem? (i := 0) rfl))
    have zn27 : n0 ≤ h27.size := Nat.le_trans Z0 (Keep.of_wr W27).1
    have N27 := Fr.snoc X27 N0 ga
    have V_a1 : Arv Z h27 a1 ko .char nn (zs.set 0 (.int (ch0.toUInt32.toUInt16.toUInt32.toInt32))) (.int (0 : Int32)) := V_a1_27
    refine OGo.go (B := T27.setTop (mkF m 13 #[.val (.ref a0), .val (.ref a1), .val (.int nn)] [])) ?_ st27
    exact J13 T27 _ h27 (zs.set 0 (.int (ch0.toUInt32.toUInt16.toUInt32.toInt32))) X27 e27 N27 zn27 K27 V_a0 V_a1 S_COMPACT_STRINGS (own_Bset hB le0) (by rw [List.length_set]; exact hzl)
  ·
    refine OGo.go (B := s₁.setTop (mkF m 13 #[.val (.ref a0), .val (.ref a1), .val (.int nn)] [])) ?_ (fun tX kX => XS.ifYes X0.here hx rfl (pc0 := 4) (pc' := 13) rfl (hb hby d1_4) rfl ((if0 _ _).trans (flt hc4).2.2.2) (by decide) (by decide) kX)
    exact J13 s₁ _ h0 zs X0 e0 N0 Z0 K0 V_a0 V_a1 S_COMPACT_STRINGS hB hzl
def Q1p0 (Z : State) (a0 : Addr) (a1 : Addr) (ks : ClassId) (ko : ClassId) (ch0 : Int32) (ch1 : Int32) (ch2 : Int32) (ch3 : Int32) (ch4 : Int32) (ch5 : Int32) (ch6 : Int32) (ch7 : Int32) (ch8 : Int32) (ch9 : Int32) (ch10 : Int32) (ch11 : Int32) (h0 : Heap) (n0 : Nat) (v : Option Value) (h : Heap) (L : List Loc) : Prop := ∃ (b : Addr) (nb : Addr) (kb : ClassId), v = some (.ref b) ∧ Fr n0 L ∧ Keep h0 h [a1] ∧ h0.size ≤ b ∧ Exa Z h b "java/lang/String" ∧ Fld Z h b "java/lang/String" "value" "[B" (.ref nb) ∧ Fld Z h b "java/lang/String" "coder" "B" (.int (0 : Int32)) ∧ Arv Z h nb kb .byte (0 : Int32) [] (.int (0 : Int32))
def P1p0 (Z : State) (a0 : Addr) (a1 : Addr) (ks : ClassId) (ko : ClassId) (ch0 : Int32) (ch1 : Int32) (ch2 : Int32) (ch3 : Int32) (ch4 : Int32) (ch5 : Int32) (ch6 : Int32) (ch7 : Int32) (ch8 : Int32) (ch9 : Int32) (ch10 : Int32) (ch11 : Int32) (h0 : Heap) (n0 : Nat) (s : State) (o : Outcome) (U' : State) : Prop := ∃ v L, o = .returned v ∧ Q1p0 Z a0 a1 ks ko ch0 ch1 ch2 ch3 ch4 ch5 ch6 ch7 ch8 ch9 ch10 ch11 h0 n0 v U'.heap L ∧ CHr Z own_EL s.vm s.heap U'.vm U'.heap ∧ ReturnedEndW s o U' L ({ frames := 3, cells := 3, slots := 8, locals := 43 } : Room).cells ({ frames := 3, cells := 3, slots := 8, locals := 43 } : Room).slots
set_option maxRecDepth 65536 in
set_option maxHeartbeats 40000000 in
theorem rm1p0 (l : Launch) (Z : State) (aV : Array Value) (hw : ∀ d ∈ tables_1, d.before aV Z = true) (ws : List Jvm.Cond) (a0 : Addr) (a1 : Addr) (ks : ClassId) (ko : ClassId) (ch0 : Int32) (ch1 : Int32) (ch2 : Int32) (ch3 : Int32) (ch4 : Int32) (ch5 : Int32) (ch6 : Int32) (ch7 : Int32) (ch8 : Int32) (ch9 : Int32) (ch10 : Int32) (ch11 : Int32) (h0 : Heap) (n0 : Nat) (Z0 : n0 ≤ h0.size) (V_a0 : Arv Z h0 a0 ks .char (12 : Int32) [(.int ch0), (.int ch1), (.int ch2), (.int ch3), (.int ch4), (.int ch5), (.int ch6), (.int ch7), (.int ch8), (.int ch9), (.int ch10), (.int ch11)] (.int (0 : Int32))) (V_a1 : Arv Z h0 a1 ko .char (0 : Int32) [] (.int (0 : Int32))) (ga : n0 ≤ a1) :
    MetFree l (⟨"com/example/hushlist/hushlist/server/SaslMechanismNamedPinLaw", "prefix", "([C[C)Ljava/lang/String;"⟩ : MethodName) (head1 (Jvm.Cond.code (⟨"com/example/hushlist/hushlist/server/SaslMechanismNamedPinLaw", "prefix", "([C[C)Ljava/lang/String;"⟩ : MethodName) method_3_code 3 (some (.object "java/lang/String")) :: ws) ({ frames := 3, cells := 3, slots := 8, locals := 43 } : Room)) (fun a U => a = #[(.ref a0), (.ref a1)] ∧ Z.Warmed39 U.vm ∧ U.heap = h0 ∧ CHv Z own_EL U.vm h0) (fun _ _ _ _ _ => True) (fun _ U o U' => ∃ v L, o = .returned v ∧ Q1p0 Z a0 a1 ks ko ch0 ch1 ch2 ch3 ch4 ch5 ch6 ch7 ch8 ch9 ch10 ch11 h0 n0 v U'.heap L ∧ CHr Z own_EL U.vm U.heap U'.vm U'.heap ∧ ReturnedEndW U o U' L ({ frames := 3, cells := 3, slots := 8, locals := 43 } : Room).cells ({ frames := 3, cells := 3, slots := 8, locals := 43 } : Room).slots) := by
  refine MetFree.of_bodySF (plainFor_of_name pn_com_example_hushlist_hushlist_server_SaslMechanismNamedPinLaw) hisR ?_
  intro p e s m args below meth c s₁ Bd hml0 hP hK
  obtain ⟨rfl, hZ, hh, hCH⟩ := hP
  have hx := Bd.exec
  have hby := Bd.bytes
  have hml : c.maxLocals = 3 := hml0
  have hown : s.vm.findClass "com/example/hushlist/hushlist/server/SaslMechanismNamedPinLaw" = some m.cls := findClass_of_methodNamed Bd.named
  have hnm := (name_of_methodNamed Bd.named Bd.method).1
  have X0 : Stand p l e ({ frames := 3, cells := 3, slots := 8, locals := 43 } : Room) s m #[(.ref a0), (.ref a1)] below meth c s₁ [] 0 0 := Stand.of_body Bd
  have e0 : s₁.heap = h0 := by rw [← hh, Bd.state]; rfl
  have X0 : Stand p l e ({ frames := 3, cells := 3, slots := 8, locals := 43 } : Room) (s.setVm s.vm) m #[(.ref a0), (.ref a1)] below meth c s₁ [] 0 0 := X0
  have hZ : Z.Warmed39 (s.setVm s.vm).vm := hZ
  have hown : (s.setVm s.vm).vm.findClass "com/example/hushlist/hushlist/server/SaslMechanismNamedPinLaw" = some m.cls := hown
  have hS0 : s.Since s.vm 0 := (State.WarmedH.refl s).since 0
  have hk0 : 0 ≤ h0.size := Nat.zero_le _
  have own_ew := own_ewT hw
  have own_wS := own_wST hw
  have efx : entryFrame m #[(.ref a0), (.ref a1)] 3 = mkF m 0 #[.val (.ref a0), .val (.ref a1), .unset] [] := by first | (simp [entryFrame, mkF, argsToLocals, Value.category]; done) | rfl
  have CR0 : CHr Z own_EL s.vm h0 s.vm h0 := CHr.refl hCH
  have N0 := Fr.nil n0
  have K0 : Keep h0 h0 [a1] := Keep.refl h0 _
  refine OGo.start (g' := mkF m 0 #[.val (.ref a0), .val (.ref a1), .unset] []) (efx) ?_
  show OGo p.tables e below (P1p0 Z a0 a1 ks ko ch0 ch1 ch2 ch3 ch4 ch5 ch6 ch7 ch8 ch9 ch10 ch11 h0 n0 s) (s₁.setTop (mkF m 0 #[.val (.ref a0), .val (.ref a1), .unset] []))
  refine OGo.go (B := s₁.setTop (mkF m 1 #[.val (.ref a0), .val (.ref a1), .unset] [(.ref a1)])) ?_ (fun tX kX => XS.aloadN X0.here hx rfl (hb hby d1_0) rfl rfl kX)
  obtain ⟨cl1, Ar1, qa1, S1, N1', H1, G1⟩ := id V_a1
  refine OGo.go (B := s₁.setTop (mkF m 2 #[.val (.ref a0), .val (.ref a1), .unset] [(.int (0 : Int32))])) ?_ (fun tX kX => X0.arraylength hx (by rw [e0]; exact Ar1.1) (State.isArrayOf_alike hZ.alike Ar1.2.1) (g := (mkF m 1 #[.val (.ref a0), .val (.ref a1), .unset] [(.ref a1)])) rfl rfl (hb hby d1_1) _ (by rw [len_of S1 N1']; exact kX))
  refine OGo.go (B := s₁.setTop (mkF m 3 #[.val (.ref a0), .val (.ref a1), .val (.int (0 : Int32))] [])) ?_ (fun tX kX => XS.istoreN X0.here hx rfl (hb hby d1_2) rfl (l' := #[.val (.ref a0), .val (.ref a1), .val (.int (0 : Int32))]) rfl kX)
  refine OGo.go (B := s₁.setTop (mkF m 4 #[.val (.ref a0), .val (.ref a1), .val (.int (0 : Int32))] [(.int (0 : Int32))])) ?_ (fun tX kX => XS.iloadN X0.here hx rfl (hb hby d1_3) rfl kX)
  refine OGo.go (B := s₁.setTop (mkF m 13 #[.val (.ref a0), .val (.ref a1), .val (.int (0 : Int32))] [])) ?_ (fun tX kX => XS.ifYes X0.here hx rfl (pc0 := 4) (pc' := 13) rfl (hb hby d1_4) rfl ((if0 _ _).trans (flt (by decide)).2.2.2) (by decide) (by decide) kX)
  refine OGo.go (B := s₁.setTop (mkF m 14 #[.val (.ref a0), .val (.ref a1), .val (.int (0 : Int32))] [(.int (0 : Int32))])) ?_ (fun tX kX => XS.iloadN X0.here hx rfl (hb hby d1_13) rfl kX)
  refine OGo.go (B := s₁.setTop (mkF m 15 #[.val (.ref a0), .val (.ref a1), .val (.int (0 : Int32))] [(.int (1 : Int32)), (.int (0 : Int32))])) ?_ (fun tX kX => XS.iconst X0.here hx rfl (hb hby d1_14) kX)
  refine OGo.go (B := s₁.setTop (mkF m 24 #[.val (.ref a0), .val (.ref a1), .val (.int (0 : Int32))] [])) ?_ (fun tX kX => XS.icmpYes X0.here hx rfl (pc0 := 15) (pc' := 24) rfl (hb hby d1_15) rfl (flt (by decide)).2.2.2 (by decide) (by decide) kX)
  refine OGo.go (B := s₁.setTop (mkF m 25 #[.val (.ref a0), .val (.ref a1), .val (.int (0 : Int32))] [(.int (0 : Int32))])) ?_ (fun tX kX => XS.iloadN X0.here hx rfl (hb hby d1_24) rfl kX)
  refine OGo.go (B := s₁.setTop (mkF m 26 #[.val (.ref a0), .val (.ref a1), .val (.int (0 : Int32))] [(.int (2 : Int32)), (.int (0 : Int32))])) ?_ (fun tX kX => XS.iconst X0.here hx rfl (hb hby d1_25) kX)
  refine OGo.go (B := s₁.setTop (mkF m 35 #[.val (.ref a0), .val (.ref a1), .val (.int (0 : Int32))] [])) ?_ (fun tX kX => XS.icmpYes X0.here hx rfl (pc0 := 26) (pc' := 35) rfl (hb hby d1_26) rfl (flt (by decide)).2.2.2 (by decide) (by decide) kX)
  refine OGo.go (B := s₁.setTop (mkF m 36 #[.val (.ref a0), .val (.ref a1), .val (.int (0 : Int32))] [(.int (0 : Int32))])) ?_ (fun tX kX => XS.iloadN X0.here hx rfl (hb hby d1_35) rfl kX)
  refine OGo.go (B := s₁.setTop (mkF m 37 #[.val (.ref a0), .val (.ref a1), .val (.int (0 : Int32))] [(.int (3 : Int32)), (.int (0 : Int32))])) ?_ (fun tX kX => XS.iconst X0.here hx rfl (hb hby d1_36) kX)
  refine OGo.go (B := s₁.setTop (mkF m 46 #[.val (.ref a0), .val (.ref a1), .val (.int (0 : Int32))] [])) ?_ (fun tX kX => XS.icmpYes X0.here hx rfl (pc0 := 37) (pc' := 46) rfl (hb hby d1_37) rfl (flt (by decide)).2.2.2 (by decide) (by decide) kX)
  refine OGo.go (B := s₁.setTop (mkF m 47 #[.val (.ref a0), .val (.ref a1), .val (.int (0 : Int32))] [(.int (0 : Int32))])) ?_ (fun tX kX => XS.iloadN X0.here hx rfl (hb hby d1_46) rfl kX)
  refine OGo.go (B := s₁.setTop (mkF m 48 #[.val (.ref a0), .val (.ref a1), .val (.int (0 : Int32))] [(.int (4 : Int32)), (.int (0 : Int32))])) ?_ (fun tX kX => XS.iconst X0.here hx rfl (hb hby d1_47) kX)
  refine OGo.go (B := s₁.setTop (mkF m 57 #[.val (.ref a0), .val (.ref a1), .val (.int (0 : Int32))] [])) ?_ (fun tX kX => XS.icmpYes X0.here hx rfl (pc0 := 48) (pc' := 57) rfl (hb hby d1_48) rfl (flt (by decide)).2.2.2 (by decide) (by decide) kX)
  refine OGo.go (B := s₁.setTop (mkF m 58 #[.val (.ref a0), .val (.ref a1), .val (.int (0 : Int32))] [(.int (0 : Int32))])) ?_ (fun tX kX => XS.iloadN X0.here hx rfl (hb hby d1_57) rfl kX)
  refine OGo.go (B := s₁.setTop (mkF m 59 #[.val (.ref a0), .val (.ref a1), .val (.int (0 : Int32))] [(.int (5 : Int32)), (.int (0 : Int32))])) ?_ (fun tX kX => XS.iconst X0.here hx rfl (hb hby d1_58) kX)
  refine OGo.go (B := s₁.setTop (mkF m 68 #[.val (.ref a0), .val (.ref a1), .val (.int (0 : Int32))] [])) ?_ (fun tX kX => XS.icmpYes X0.here hx rfl (pc0 := 59) (pc' := 68) rfl (hb hby d1_59) rfl (flt (by decide)).2.2.2 (by decide) (by decide) kX)
  refine OGo.go (B := s₁.setTop (mkF m 69 #[.val (.ref a0), .val (.ref a1), .val (.int (0 : Int32))] [(.int (0 : Int32))])) ?_ (fun tX kX => XS.iloadN X0.here hx rfl (hb hby d1_68) rfl kX)
  refine OGo.go (B := s₁.setTop (mkF m 71 #[.val (.ref a0), .val (.ref a1), .val (.int (0 : Int32))] [(.int (6 : Int32)), (.int (0 : Int32))])) ?_ (fun tX kX => XS.bipush X0.here hx rfl (hb hby d1_69) kX)
  refine OGo.go (B := s₁.setTop (mkF m 82 #[.val (.ref a0), .val (.ref a1), .val (.int (0 : Int32))] [])) ?_ (fun tX kX => XS.icmpYes X0.here hx rfl (pc0 := 71) (pc' := 82) rfl (hb hby d1_71) rfl (flt (by decide)).2.2.2 (by decide) (by decide) kX)
  refine OGo.go (B := s₁.setTop (mkF m 83 #[.val (.ref a0), .val (.ref a1), .val (.int (0 : Int32))] [(.int (0 : Int32))])) ?_ (fun tX kX => XS.iloadN X0.here hx rfl (hb hby d1_82) rfl kX)
  refine OGo.go (B := s₁.setTop (mkF m 85 #[.val (.ref a0), .val (.ref a1), .val (.int (0 : Int32))] [(.int (7 : Int32)), (.int (0 : Int32))])) ?_ (fun tX kX => XS.bipush X0.here hx rfl (hb hby d1_83) kX)
  refine OGo.go (B := s₁.setTop (mkF m 96 #[.val (.ref a0), .val (.ref a1), .val (.int (0 : Int32))] [])) ?_ (fun tX kX => XS.icmpYes X0.here hx rfl (pc0 := 85) (pc' := 96) rfl (hb hby d1_85) rfl (flt (by decide)).2.2.2 (by decide) (by decide) kX)
  refine OGo.go (B := s₁.setTop (mkF m 97 #[.val (.ref a0), .val (.ref a1), .val (.int (0 : Int32))] [(.int (0 : Int32))])) ?_ (fun tX kX => XS.iloadN X0.here hx rfl (hb hby d1_96) rfl kX)
  refine OGo.go (B := s₁.setTop (mkF m 99 #[.val (.ref a0), .val (.ref a1), .val (.int (0 : Int32))] [(.int (8 : Int32)), (.int (0 : Int32))])) ?_ (fun tX kX => XS.bipush X0.here hx rfl (hb hby d1_97) kX)
  refine OGo.go (B := s₁.setTop (mkF m 110 #[.val (.ref a0), .val (.ref a1), .val (.int (0 : Int32))] [])) ?_ (fun tX kX => XS.icmpYes X0.here hx rfl (pc0 := 99) (pc' := 110) rfl (hb hby d1_99) rfl (flt (by decide)).2.2.2 (by decide) (by decide) kX)
  refine OGo.go (B := s₁.setTop (mkF m 111 #[.val (.ref a0), .val (.ref a1), .val (.int (0 : Int32))] [(.int (0 : Int32))])) ?_ (fun tX kX => XS.iloadN X0.here hx rfl (hb hby d1_110) rfl kX)
  refine OGo.go (B := s₁.setTop (mkF m 113 #[.val (.ref a0), .val (.ref a1), .val (.int (0 : Int32))] [(.int (9 : Int32)), (.int (0 : Int32))])) ?_ (fun tX kX => XS.bipush X0.here hx rfl (hb hby d1_111) kX)
  refine OGo.go (B := s₁.setTop (mkF m 124 #[.val (.ref a0), .val (.ref a1), .val (.int (0 : Int32))] [])) ?_ (fun tX kX => XS.icmpYes X0.here hx rfl (pc0 := 113) (pc' := 124) rfl (hb hby d1_113) rfl (flt (by decide)).2.2.2 (by decide) (by decide) kX)
  refine OGo.go (B := s₁.setTop (mkF m 125 #[.val (.ref a0), .val (.ref a1), .val (.int (0 : Int32))] [(.int (0 : Int32))])) ?_ (fun tX kX => XS.iloadN X0.here hx rfl (hb hby d1_124) rfl kX)
  refine OGo.go (B := s₁.setTop (mkF m 127 #[.val (.ref a0), .val (.ref a1), .val (.int (0 : Int32))] [(.int (10 : Int32)), (.int (0 : Int32))])) ?_ (fun tX kX => XS.bipush X0.here hx rfl (hb hby d1_125) kX)
  refine OGo.go (B := s₁.setTop (mkF m 138 #[.val (.ref a0), .val (.ref a1), .val (.int (0 : Int32))] [])) ?_ (fun tX kX => XS.icmpYes X0.here hx rfl (pc0 := 127) (pc' := 138) rfl (hb hby d1_127) rfl (flt (by decide)).2.2.2 (by decide) (by decide) kX)
  refine OGo.go (B := s₁.setTop (mkF m 139 #[.val (.ref a0), .val (.ref a1), .val (.int (0 : Int32))] [(.int (0 : Int32))])) ?_ (fun tX kX => XS.iloadN X0.here hx rfl (hb hby d1_138) rfl kX)
  refine OGo.go (B := s₁.setTop (mkF m 141 #[.val (.ref a0), .val (.ref a1), .val (.int (0 : Int32))] [(.int (11 : Int32)), (.int (0 : Int32))])) ?_ (fun tX kX => XS.bipush X0.here hx rfl (hb hby d1_139) kX)
  refine OGo.go (B := s₁.setTop (mkF m 152 #[.val (.ref a0), .val (.ref a1), .val (.int (0 : Int32))] [])) ?_ (fun tX kX => XS.icmpYes X0.here hx rfl (pc0 := 141) (pc' := 152) rfl (hb hby d1_141) rfl (flt (by decide)).2.2.2 (by decide) (by decide) kX)
  obtain ⟨T2, h2, X2, e2, E2, A2, D2, C2, st2⟩ := newO X0 hx hZ hown (hw _ (List.mem_of_getElem? (i := 6) rfl)) (hw _ (List.mem_of_getElem? (i := 7) rfl)) (hw _ (List.mem_of_getElem? (i := 8) rfl)) e0 (g := (mkF m 152 #[.val (.ref a0), .val (.ref a1), .val (.int (0 : Int32))] [])) rfl (hb hby d1_152) (by decide) (by decide)
  obtain ⟨b2, g2⟩ : ∃ z, z = h0.size := ⟨_, rfl⟩
  rw [← g2] at A2 D2 st2 C2
  have ne_a0_b2 : a0 ≠ b2 := Nat.ne_of_lt (Nat.lt_of_lt_of_le V_a0.lt (Nat.le_of_eq g2.symm))
  have ne_a1_b2 : a1 ≠ b2 := Nat.ne_of_lt (Nat.lt_of_lt_of_le V_a1.lt (Nat.le_of_eq g2.symm))
  have CHo2 := hCH
  have CR2 := CR0.trans (CHr.ext E2 CHo2)
  have hCH := CHv.ext E2 CHo2
  have V_a0 := V_a0.ext E2
  have V_a1 := V_a1.ext E2
  have Sf_b2 : Safe Z own_EL s.vm h2 b2 := Safe.ext E2 CHo2 (Safe.new (Nat.le_of_eq g2.symm))
  have g_b2 : n0 ≤ b2 := Nat.le_trans Z0 (Nat.le_of_eq g2.symm)
  have sz_b2 : h0.size ≤ b2 := Nat.le_trans K0.1 (Nat.le_of_eq g2.symm)
  have zn2 : n0 ≤ h2.size := Nat.le_trans Z0 E2.1
  have hk2 := Nat.le_trans hk0 E2.1
  have K2 := K0.ext E2
  have E_b2 := A2
  have F_coder_b2 : Fld Z h2 b2 "java/lang/String" "coder" "B" (.int (0 : Int32)) := D2 (Or.inr (hw _ (List.mem_of_getElem? (i := 32) rfl))) (ty := .byte) (by decide)
  have F_value_b2 : Fld Z h2 b2 "java/lang/String" "value" "[B" .null := D2 (Or.inr (hw _ (List.mem_of_getElem? (i := 34) rfl))) (ty := (.array .byte)) (by decide)
  refine OGo.go (B := T2.setTop (mkF m 155 #[.val (.ref a0), .val (.ref a1), .val (.int (0 : Int32))] [(.ref b2)])) ?_ st2
  refine OGo.go (B := T2.setTop (mkF m 156 #[.val (.ref a0), .val (.ref a1), .val (.int (0 : Int32))] [(.ref b2), (.ref b2)])) ?_ (fun tX kX => XS.dup X2.here hx rfl (hb hby d1_155) rfl rfl kX)
  refine OGo.go (B := T2.setTop (mkF m 157 #[.val (.ref a0), .val (.ref a1), .val (.int (0 : Int32))] [(.ref a1), (.ref b2), (.ref b2)])) ?_ (fun tX kX => XS.aloadN X2.here hx rfl (hb hby d1_156) rfl rfl kX)
  obtain ⟨_, _, ⟨T3, L3, k3, n3⟩, -, X3, hSq3, hgr3, ⟨Lc3, hQ3, l3, y3, z3, CRq3⟩, st3⟩ := X2.specialBackS hx (y := (⟨"java/lang/String", "<init>", "([C)V"⟩ : MethodName)) rfl hown (mvT hZ (hw _ (List.mem_of_getElem? (i := 9) rfl))) (mvT hZ (hw _ (List.mem_of_getElem? (i := 10) rfl))) (mvT hZ (hw _ (List.mem_of_getElem? (i := 11) rfl))) (by decide) (backOfSH (W := 1) (rm2c0 l Z aV hw [] b2 a1 (.int (0 : Int32)) ko h2 n0 zn2 E_b2 F_value_b2 F_coder_b2 V_a1 g_b2) hZ (hw _ (List.mem_of_getElem? (i := 11) rfl)) (hw _ (List.mem_of_getElem? (i := 8) rfl)) (by decide) (by decide) own_ew hCH) (g := (mkF m 157 #[.val (.ref a0), .val (.ref a1), .val (.int (0 : Int32))] [(.ref a1), (.ref b2), (.ref b2)])) rfl (by rw [hml]; rfl) (Steps.refl _) (a := b2) (argsL := [(.ref a1)]) (rest := [(.ref b2)]) (lenOf pd___C_V rfl) rfl (by show 2 * 0 + _ ≤ _; exact Nat.le_of_eq rfl) (hb hby d1_157) (fun _ _ => ⟨rfl, e2, (by decide : 1 + 2 ≤ _), (by decide : 4 + 4 ≤ _)⟩)
  dsimp only [Pt.U, Pt.locs, Pt.cells, Pt.slots] at X3 l3 y3 z3 st3 hQ3 hSq3 hgr3 CRq3
  subst l3 y3 z3
  obtain ⟨X3, hS3, hZ3, hown3⟩ := rebS hS0 hk2 X3 hSq3 (by rw [← e2]; exact hgr3) hZ hown
  have Sf_b2 := CRq3.safe E_b2.lt Sf_b2
  have CRt3 := CR2.trans CRq3
  have hCH := CRq3.1
  obtain ⟨nb_3, kb_3, rfl, N3q, Kq3, E_b2_p, F_value_b2_p, F_coder_b2_p, V_nb_3_p⟩ := hQ3
  have N3 := Fr.app N0 N3q
  have V_a0 := V_a0.keep Kq3 (ninS ne_a0_b2 nin0)
  have V_a1 := V_a1.keep Kq3 (ninS ne_a1_b2 nin0)
  have E_b2 := E_b2.keep Kq3
  have K3 := K2.trans Kq3 (allS (P := fun x => x ∈ [a1] ∨ h0.size ≤ x) (Or.inr sz_b2) all0)
  have zn3 : n0 ≤ T3.heap.size := Nat.le_trans zn2 Kq3.1
  have hk3 := Nat.le_trans hk2 Kq3.1
  have E_b2 := E_b2_p
  have F_value_b2 := F_value_b2_p
  have F_coder_b2 := F_coder_b2_p
  have V_nb_3 := V_nb_3_p
  refine OGo.go (B := T3.setTop (mkF m 160 #[.val (.ref a0), .val (.ref a1), .val (.int (0 : Int32))] [(.ref b2)])) ?_ (fun tX kX => st3.trans kX)
  have CRe := CRt3.trans (CHv.at X3 hZ3 own_ew hCH)
  refine OGo.retWH X3 hS3 (Nat.le_refl _) (v := (some (.ref b2))) (fun h => by rw [Bd.returns] at h; cases h) (BodyLoose.notSynchronized Bd) (fun fs hr => retOut X3 hx Bd.returns rfl (Or.inr (Or.inr (Or.inr (Or.inr ⟨rfl, rfl, rfl⟩)))) (hb hby d1_160) hr) (Q := Q1p0 Z a0 a1 ks ko ch0 ch1 ch2 ch3 ch4 ch5 ch6 ch7 ch8 ch9 ch10 ch11 h0 n0) ?_ (by rw [hh]; exact CRe) (by decide) (by decide)
  show Q1p0 Z a0 a1 ks ko ch0 ch1 ch2 ch3 ch4 ch5 ch6 ch7 ch8 ch9 ch10 ch11 h0 n0 _ T3.heap _
  exact ⟨b2, nb_3, kb_3, rfl, N3, K3, sz_b2, E_b2, F_value_b2, F_coder_b2, V_nb_3⟩
theorem own_two (vs : List Value) (uS uP : Addr) : own_res vs uS uP = .null ∨ ∃ u, own_res vs uS uP = .ref u := by
  unfold own_res
  split
  · exact Or.inr ⟨_, rfl⟩
  · split
    · exact Or.inr ⟨_, rfl⟩
    · exact Or.inl rfl
theorem own_eqR {args : Array Value} {s : State} {t u : Term} {y : Addr} (hu : u.eval args s none [] s = some (.ref y)) (h : (Cond.eq t u).value args s none s [] = some true) : t.eval args s none [] s = some (.ref y) := by
  obtain ⟨v, w, hv, hw, hk, hk'⟩ := cmp_v (Or.inl h)
  cases hu.symm.trans hw
  cases v with
  | ref z => have e : z = y := by simpa [Cond.value, hv, hu] using h
             rw [hv, e]
  | _ => simp [Cond.value, hv, hu] at h
theorem pd__Ljava_lang_String__Lcom_example_hushlist_hushlist_server_SaslMechanism_ : parseMethodDescriptor "(Ljava/lang/String;)Lcom/example/hushlist/hushlist/server/SaslMechanism;" = some ⟨[(.object "java/lang/String")], some (.object "com/example/hushlist/hushlist/server/SaslMechanism")⟩ := by decide +kernel
theorem pd___C_C_Ljava_lang_String_ : parseMethodDescriptor "([C[C)Ljava/lang/String;" = some ⟨[(.array .char), (.array .char)], some (.object "java/lang/String")⟩ := by decide +kernel
def Q0 (Z : State) (p0 : Int32) (p1 : Int32) (p2 : Int32) (p3 : Int32) (q4 : Int64) (q5 : Int64) (uv : Addr) (kv : ClassId) (m0 : Addr) (m1 : Addr) (w0 : Addr) (w1 : Addr) (v0 : Addr) (v1 : Addr) (kw0 : ClassId) (kw1 : ClassId) (cs : Int32) (h0 : Heap) (n0 : Nat) (v : Option Value) (h : Heap) (L : List Loc) : Prop := v = some (.int (1 : Int32)) ∧ Fr n0 L
def P0 (Z : State) (p0 : Int32) (p1 : Int32) (p2 : Int32) (p3 : Int32) (q4 : Int64) (q5 : Int64) (uv : Addr) (kv : ClassId) (m0 : Addr) (m1 : Addr) (w0 : Addr) (w1 : Addr) (v0 : Addr) (v1 : Addr) (kw0 : ClassId) (kw1 : ClassId) (cs : Int32) (h0 : Heap) (n0 : Nat) (s : State) (o : Outcome) (U' : State) : Prop := ∃ v L, o = .returned v ∧ Q0 Z p0 p1 p2 p3 q4 q5 uv kv m0 m1 w0 w1 v0 v1 kw0 kw1 cs h0 n0 v U'.heap L ∧ ReturnedEndW s o U' L room_1.cells room_1.slots
set_option maxRecDepth 65536 in
set_option maxHeartbeats 40000000 in
theorem rm0 (l : Launch) (Z : State) (aV : Array Value) (hw : ∀ d ∈ tables_1, d.before aV Z = true) (ws : List Jvm.Cond) (p0 : Int32) (p1 : Int32) (p2 : Int32) (p3 : Int32) (q4 : Int64) (q5 : Int64) (uv : Addr) (kv : ClassId) (m0 : Addr) (m1 : Addr) (w0 : Addr) (w1 : Addr) (v0 : Addr) (v1 : Addr) (kw0 : ClassId) (kw1 : ClassId) (cs : Int32) (h0 : Heap) (n0 : Nat) (Z0 : n0 ≤ h0.size) (S_VAL : Sta Z h0 "com/example/hushlist/hushlist/server/SaslMechanism" "$VALUES" "[Lcom/example/hushlist/hushlist/server/SaslMechanism;" (.ref uv)) (E_uv : Exa Z h0 uv "[Lcom/example/hushlist/hushlist/server/SaslMechanism;") (V_uv : Arv Z h0 uv kv (.object "com/example/hushlist/hushlist/server/SaslMechanism") (2 : Int32) [(.ref m0), (.ref m1)] .null) (F_wireName_m0 : Fld Z h0 m0 "com/example/hushlist/hushlist/server/SaslMechanism" "wireName" "Ljava/lang/String;" (.ref w0)) (F_wireName_m1 : Fld Z h0 m1 "com/example/hushlist/hushlist/server/SaslMechanism" "wireName" "Ljava/lang/String;" (.ref w1)) (E_w0 : Exa Z h0 w0 "java/lang/String") (F_value_w0 : Fld Z h0 w0 "java/lang/String" "value" "[B" (.ref v0)) (F_coder_w0 : Fld Z h0 w0 "java/lang/String" "coder" "B" (.int (0 : Int32))) (V_v0 : Arv Z h0 v0 kw0 .byte (11 : Int32) [(.int (83 : Int32)), (.int (67 : Int32)), (.int (82 : Int32)), (.int (65 : Int32)), (.int (77 : Int32)), (.int (45 : Int32)), (.int (83 : Int32)), (.int (72 : Int32)), (.int (65 : Int32)), (.int (45 : Int32)), (.int (49 : Int32))] (.int (0 : Int32))) (E_w1 : Exa Z h0 w1 "java/lang/String") (F_value_w1 : Fld Z h0 w1 "java/lang/String" "value" "[B" (.ref v1)) (F_coder_w1 : Fld Z h0 w1 "java/lang/String" "coder" "B" (.int (0 : Int32))) (V_v1 : Arv Z h0 v1 kw1 .byte (5 : Int32) [(.int (80 : Int32)), (.int (76 : Int32)), (.int (65 : Int32)), (.int (73 : Int32)), (.int (78 : Int32))] (.int (0 : Int32))) (S_SCRAM_SHA_1 : Sta Z h0 "com/example/hushlist/hushlist/server/SaslMechanism" "SCRAM_SHA_1" "Lcom/example/hushlist/hushlist/server/SaslMechanism;" (.ref m0)) (S_PLAIN : Sta Z h0 "com/example/hushlist/hushlist/server/SaslMechanism" "PLAIN" "Lcom/example/hushlist/hushlist/server/SaslMechanism;" (.ref m1)) (S_COMPACT_STRINGS : Sta Z h0 "java/lang/String" "COMPACT_STRINGS" "Z" (.int cs)) (hcs : ¬ cs = 0) :
    MetFree l x (head1 (Jvm.Cond.code x code maxLocals ret :: ws) room_1) (fun a U => a = #[(.int p0), (.int p1), (.int p2), (.int p3), (.long q4), (.long q5)] ∧ Z.Warmed39 U.vm ∧ U.heap = h0 ∧ CHv Z own_EL U.vm h0) (fun _ _ _ _ _ => True) (fun _ U o U' => ∃ v L, o = .returned v ∧ Q0 Z p0 p1 p2 p3 q4 q5 uv kv m0 m1 w0 w1 v0 v1 kw0 kw1 cs h0 n0 v U'.heap L ∧ ReturnedEndW U o U' L room_1.cells room_1.slots) := by
  refine MetFree.of_bodySF (plainFor_of_name pn_com_example_hushlist_hushlist_server_SaslMechanismNamedPinLaw) hisR ?_
  intro p e s m args below meth c s₁ Bd hml0 hP hK
  obtain ⟨rfl, hZ, hh, hCH⟩ := hP
  have hx := Bd.exec
  have hby := Bd.bytes
  have hml : c.maxLocals = 15 := hml0
  have hown : s.vm.findClass "com/example/hushlist/hushlist/server/SaslMechanismNamedPinLaw" = some m.cls := findClass_of_methodNamed Bd.named
  have hnm := (name_of_methodNamed Bd.named Bd.method).1
  have X0 : Stand p l e room_1 s m #[(.int p0), (.int p1), (.int p2), (.int p3), (.long q4), (.long q5)] below meth c s₁ [] 0 0 := Stand.of_body Bd
  have e0 : s₁.heap = h0 := by rw [← hh, Bd.state]; rfl
  have X0 : Stand p l e room_1 (s.setVm s.vm) m #[(.int p0), (.int p1), (.int p2), (.int p3), (.long q4), (.long q5)] below meth c s₁ [] 0 0 := X0
  have hZ : Z.Warmed39 (s.setVm s.vm).vm := hZ
  have hown : (s.setVm s.vm).vm.findClass "com/example/hushlist/hushlist/server/SaslMechanismNamedPinLaw" = some m.cls := hown
  have hS0 : s.Since s.vm 0 := (State.WarmedH.refl s).since 0
  have hk0 : 0 ≤ h0.size := Nat.zero_le _
  have own_ew := own_ewT hw
  have own_wS := own_wST hw
  have efx : entryFrame m #[(.int p0), (.int p1), (.int p2), (.int p3), (.long q4), (.long q5)] maxLocals = mkF m 0 #[.val (.int p0), .val (.int p1), .val (.int p2), .val (.int p3), .val (.long q4), .second, .val (.long q5), .second, .unset, .unset, .unset, .unset, .unset, .unset, .unset] [] := by first | (simp [entryFrame, mkF, argsToLocals, Value.category, maxLocals]; done) | rfl
  have N0 := Fr.nil n0
  have K0 : Keep h0 h0 [] := Keep.refl h0 _
  refine OGo.start (g' := mkF m 0 #[.val (.int p0), .val (.int p1), .val (.int p2), .val (.int p3), .val (.long q4), .second, .val (.long q5), .second, .unset, .unset, .unset, .unset, .unset, .unset, .unset] []) (efx) ?_
  show OGo p.tables e below (P0 Z p0 p1 p2 p3 q4 q5 uv kv m0 m1 w0 w1 v0 v1 kw0 kw1 cs h0 n0 s) (s₁.setTop (mkF m 0 #[.val (.int p0), .val (.int p1), .val (.int p2), .val (.int p3), .val (.long q4), .second, .val (.long q5), .second, .unset, .unset, .unset, .unset, .unset, .unset, .unset] []))
  refine OGo.go (B := s₁.setTop (mkF m 2 #[.val (.int p0), .val (.int p1), .val (.int p2), .val (.int p3), .val (.long q4), .second, .val (.long q5), .second, .unset, .unset, .unset, .unset, .unset, .unset, .unset] [(.int (12 : Int32))])) ?_ (fun tX kX => XS.bipush X0.here hx rfl (hb hby at_0) kX)
  obtain ⟨T1, h1, k1, X1, e1, E1, A1, EA1, st1⟩ := newPE X0 hx hZ (hw _ (List.mem_of_getElem? (i := 0) rfl)) e0 (g := (mkF m 2 #[.val (.int p0), .val (.int p1), .val (.int p2), .val (.int p3), .val (.long q4), .second, .val (.long q5), .second, .unset, .unset, .unset, .unset, .unset, .unset, .unset] [(.int (12 : Int32))])) rfl (hb hby at_2) rfl (by decide) (cap := 12) (by decide) (by decide) (by decide) (by decide) (ad := "[C") (by decide)
  obtain ⟨b1, g1⟩ : ∃ z, z = h0.size := ⟨_, rfl⟩
  rw [← g1] at A1 EA1 st1
  have ne_uv_b1 : uv ≠ b1 := Nat.ne_of_lt (Nat.lt_of_lt_of_le E_uv.lt (Nat.le_of_eq g1.symm))
  have ne_m0_b1 : m0 ≠ b1 := Nat.ne_of_lt (Nat.lt_of_lt_of_le F_wireName_m0.lt (Nat.le_of_eq g1.symm))
  have ne_m1_b1 : m1 ≠ b1 := Nat.ne_of_lt (Nat.lt_of_lt_of_le F_wireName_m1.lt (Nat.le_of_eq g1.symm))
  have ne_w0_b1 : w0 ≠ b1 := Nat.ne_of_lt (Nat.lt_of_lt_of_le E_w0.lt (Nat.le_of_eq g1.symm))
  have ne_v0_b1 : v0 ≠ b1 := Nat.ne_of_lt (Nat.lt_of_lt_of_le V_v0.lt (Nat.le_of_eq g1.symm))
  have ne_w1_b1 : w1 ≠ b1 := Nat.ne_of_lt (Nat.lt_of_lt_of_le E_w1.lt (Nat.le_of_eq g1.symm))
  have ne_v1_b1 : v1 ≠ b1 := Nat.ne_of_lt (Nat.lt_of_lt_of_le V_v1.lt (Nat.le_of_eq g1.symm))
  have CHo1 := hCH
  have hCH := CHv.ext E1 CHo1
  have S_VAL := S_VAL.ext E1
  have E_uv := E_uv.ext E1
  have V_uv := V_uv.ext E1
  have F_wireName_m0 := F_wireName_m0.ext E1
  have F_wireName_m1 := F_wireName_m1.ext E1
  have E_w0 := E_w0.ext E1
  have F_value_w0 := F_value_w0.ext E1
  have F_coder_w0 := F_coder_w0.ext E1
  have V_v0 := V_v0.ext E1
  have E_w1 := E_w1.ext E1
  have F_value_w1 := F_value_w1.ext E1
  have F_coder_w1 := F_coder_w1.ext E1
  have V_v1 := V_v1.ext E1
  have S_SCRAM_SHA_1 := S_SCRAM_SHA_1.ext E1
  have S_PLAIN := S_PLAIN.ext E1
  have S_COMPACT_STRINGS := S_COMPACT_STRINGS.ext E1
  have Sf_b1 : Safe Z own_EL s.vm h1 b1 := Safe.ext E1 CHo1 (Safe.new (Nat.le_of_eq g1.symm))
  have g_b1 : n0 ≤ b1 := Nat.le_trans Z0 (Nat.le_of_eq g1.symm)
  have sz_b1 : h0.size ≤ b1 := Nat.le_trans K0.1 (Nat.le_of_eq g1.symm)
  have zn1 : n0 ≤ h1.size := Nat.le_trans Z0 E1.1
  have hk1 := Nat.le_trans hk0 E1.1
  have K1 := K0.ext E1
  have E_b1 := EA1
  have V_b1 : Arv Z h1 b1 k1 .char (12 : Int32) [(.int (0 : Int32)), (.int (0 : Int32)), (.int (0 : Int32)), (.int (0 : Int32)), (.int (0 : Int32)), (.int (0 : Int32)), (.int (0 : Int32)), (.int (0 : Int32)), (.int (0 : Int32)), (.int (0 : Int32)), (.int (0 : Int32)), (.int (0 : Int32))] (.int (0 : Int32)) := (Arv.new A1 (by decide)).pad (pad_rep [] (.int (0 : Int32)) 12)
  refine OGo.go (B := T1.setTop (mkF m 4 #[.val (.int p0), .val (.int p1), .val (.int p2), .val (.int p3), .val (.long q4), .second, .val (.long q5), .second, .unset, .unset, .unset, .unset, .unset, .unset, .unset] [(.ref b1)])) ?_ st1
  refine OGo.go (B := T1.setTop (mkF m 6 #[.val (.int p0), .val (.int p1), .val (.int p2), .val (.int p3), .val (.long q4), .second, .val (.long q5), .second, .val (.ref b1), .unset, .unset, .unset, .unset, .unset, .unset] [])) ?_ (fun tX kX => XS.astore X1.here hx rfl (hb hby at_4) rfl rfl (l' := #[.val (.int p0), .val (.int p1), .val (.int p2), .val (.int p3), .val (.long q4), .second, .val (.long q5), .second, .val (.ref b1), .unset, .unset, .unset, .unset, .unset, .unset]) rfl kX)
  refine OGo.go (B := T1.setTop (mkF m 8 #[.val (.int p0), .val (.int p1), .val (.int p2), .val (.int p3), .val (.long q4), .second, .val (.long q5), .second, .val (.ref b1), .unset, .unset, .unset, .unset, .unset, .unset] [(.ref b1)])) ?_ (fun tX kX => XS.aload X1.here hx rfl (hb hby at_6) rfl rfl kX)
  refine OGo.go (B := T1.setTop (mkF m 9 #[.val (.int p0), .val (.int p1), .val (.int p2), .val (.int p3), .val (.long q4), .second, .val (.long q5), .second, .val (.ref b1), .unset, .unset, .unset, .unset, .unset, .unset] [(.int (0 : Int32)), (.ref b1)])) ?_ (fun tX kX => XS.iconst X1.here hx rfl (hb hby at_8) kX)
  refine OGo.go (B := T1.setTop (mkF m 11 #[.val (.int p0), .val (.int p1), .val (.int p2), .val (.int p3), .val (.long q4), .second, .val (.long q5), .second, .val (.ref b1), .unset, .unset, .unset, .unset, .unset, .unset] [(.long q4), (.int (0 : Int32)), (.ref b1)])) ?_ (fun tX kX => XS.lload X1.here hx rfl (hb hby at_9) rfl kX)
  refine OGo.go (B := T1.setTop (mkF m 14 #[.val (.int p0), .val (.int p1), .val (.int p2), .val (.int p3), .val (.long q4), .second, .val (.long q5), .second, .val (.ref b1), .unset, .unset, .unset, .unset, .unset, .unset] [(.long (255 : Int64)), (.long q4), (.int (0 : Int32)), (.ref b1)])) ?_ (fun tX kX => X1.ldc2Long hx hown (mvT hZ (hw _ (List.mem_of_getElem? (i := 1) rfl))) (g := (mkF m 11 #[.val (.int p0), .val (.int p1), .val (.int p2), .val (.int p3), .val (.long q4), .second, .val (.long q5), .second, .val (.ref b1), .unset, .unset, .unset, .unset, .unset, .unset] [(.long q4), (.int (0 : Int32)), (.ref b1)])) rfl (hb hby at_11) _ kX)
  refine OGo.go (B := T1.setTop (mkF m 15 #[.val (.int p0), .val (.int p1), .val (.int p2), .val (.int p3), .val (.long q4), .second, .val (.long q5), .second, .val (.ref b1), .unset, .unset, .unset, .unset, .unset, .unset] [(.long (q4 &&& (255 : Int64))), (.int (0 : Int32)), (.ref b1)])) ?_ (fun tX kX => XS.land X1.here hx rfl (hb hby at_14) rfl kX)
  refine OGo.go (B := T1.setTop (mkF m 16 #[.val (.int p0), .val (.int p1), .val (.int p2), .val (.int p3), .val (.long q4), .second, .val (.long q5), .second, .val (.ref b1), .unset, .unset, .unset, .unset, .unset, .unset] [(.int ((q4 &&& (255 : Int64)).toInt32)), (.int (0 : Int32)), (.ref b1)])) ?_ (fun tX kX => XS.l2i X1.here hx rfl (hb hby at_15) rfl kX)
  refine OGo.go (B := T1.setTop (mkF m 17 #[.val (.int p0), .val (.int p1), .val (.int p2), .val (.int p3), .val (.long q4), .second, .val (.long q5), .second, .val (.ref b1), .unset, .unset, .unset, .unset, .unset, .unset] [(.int (((q4 &&& (255 : Int64)).toInt32).toUInt32.toUInt16.toUInt32.toInt32)), (.int (0 : Int32)), (.ref b1)])) ?_ (fun tX kX => XS.i2c X1.here hx rfl (hb hby at_16) rfl kX)
  obtain ⟨cl2, Ar2, qa2, S2, N2', H2, G2⟩ := id V_b1
  have hin2 := inb_of (j := (0 : Int32)) S2 ⟨by decide, by decide⟩
  obtain ⟨T2, h2, X2, e2, W2, st2⟩ := stC X1 hx hZ e1 Ar2 (j := (0 : Int32)) hin2 (g := (mkF m 17 #[.val (.int p0), .val (.int p1), .val (.int p2), .val (.int p3), .val (.long q4), .second, .val (.long q5), .second, .val (.ref b1), .unset, .unset, .unset, .unset, .unset, .unset] [(.int (((q4 &&& (255 : Int64)).toInt32).toUInt32.toUInt16.toUInt32.toInt32)), (.int (0 : Int32)), (.ref b1)])) rfl rfl (hb hby at_17)
  have V_b1_2 := Arv.set Ar2 qa2 S2 N2' H2 G2 (fits_nar_char _) W2 0 rfl (Nat.le_of_ble_eq_true rfl)
  have Sfo2 := (Safe.arr (EL := own_EL) hZ.alike Ar2 (by decide))
  have CHo2 := hCH
  have Sf_b1 := Safe.wr W2 Sfo2 CHo2 Sf_b1
  have hCH := CHv.wr W2 Sfo2 CHo2
  have S_VAL := S_VAL.wr W2
  have E_uv := E_uv.wr W2
  have V_uv := V_uv.other W2 ne_uv_b1
  have F_wireName_m0 := F_wireName_m0.other W2 (Or.inl ne_m0_b1)
  have F_wireName_m1 := F_wireName_m1.other W2 (Or.inl ne_m1_b1)
  have E_w0 := E_w0.wr W2
  have F_value_w0 := F_value_w0.other W2 (Or.inl ne_w0_b1)
  have F_coder_w0 := F_coder_w0.other W2 (Or.inl ne_w0_b1)
  have V_v0 := V_v0.other W2 ne_v0_b1
  have E_w1 := E_w1.wr W2
  have F_value_w1 := F_value_w1.other W2 (Or.inl ne_w1_b1)
  have F_coder_w1 := F_coder_w1.other W2 (Or.inl ne_w1_b1)
  have V_v1 := V_v1.other W2 ne_v1_b1
  have S_SCRAM_SHA_1 := S_SCRAM_SHA_1.wr W2
  have S_PLAIN := S_PLAIN.wr W2
  have S_COMPACT_STRINGS := S_COMPACT_STRINGS.wr W2
  have E_b1 := E_b1.wr W2
  have K2 := K1.wr W2 (Or.inr sz_b1)
  have zn2 : n0 ≤ h2.size := Nat.le_trans zn1 (Keep.of_wr W2).1
  have hk2 := Nat.le_trans hk1 (Keep.of_wr W2).1
  have N2 := Fr.snoc X2 N0 g_b1
  have V_b1 : Arv Z h2 b1 k1 .char (12 : Int32) [(.int ((((q4 &&& (255 : Int64)).toInt32).toUInt32.toUInt16.toUInt32.toInt32).toUInt32.toUInt16.toUInt32.toInt32)), (.int (0 : Int32)), (.int (0 : Int32)), (.int (0 : Int32)), (.int (0 : Int32)), (.int (0 : Int32)), (.int (0 : Int32)), (.int (0 : Int32)), (.int (0 : Int32)), (.int (0 : Int32)), (.int (0 : Int32)), (.int (0 : Int32))] (.int (0 : Int32)) := V_b1_2
  refine OGo.go (B := T2.setTop (mkF m 18 #[.val (.int p0), .val (.int p1), .val (.int p2), .val (.int p3), .val (.long q4), .second, .val (.long q5), .second, .val (.ref b1), .unset, .unset, .unset, .unset, .unset, .unset] [])) ?_ st2
  refine OGo.go (B := T2.setTop (mkF m 20 #[.val (.int p0), .val (.int p1), .val (.int p2), .val (.int p3), .val (.long q4), .second, .val (.long q5), .second, .val (.ref b1), .unset, .unset, .unset, .unset, .unset, .unset] [(.ref b1)])) ?_ (fun tX kX => XS.aload X2.here hx rfl (hb hby at_18) rfl rfl kX)
  refine OGo.go (B := T2.setTop (mkF m 21 #[.val (.int p0), .val (.int p1), .val (.int p2), .val (.int p3), .val (.long q4), .second, .val (.long q5), .second, .val (.ref b1), .unset, .unset, .unset, .unset, .unset, .unset] [(.int (1 : Int32)), (.ref b1)])) ?_ (fun tX kX => XS.iconst X2.here hx rfl (hb hby at_20) kX)
  refine OGo.go (B := T2.setTop (mkF m 23 #[.val (.int p0), .val (.int p1), .val (.int p2), .val (.int p3), .val (.long q4), .second, .val (.long q5), .second, .val (.ref b1), .unset, .unset, .unset, .unset, .unset, .unset] [(.long q4), (.int (1 : Int32)), (.ref b1)])) ?_ (fun tX kX => XS.lload X2.here hx rfl (hb hby at_21) rfl kX)
  refine OGo.go (B := T2.setTop (mkF m 25 #[.val (.int p0), .val (.int p1), .val (.int p2), .val (.int p3), .val (.long q4), .second, .val (.long q5), .second, .val (.ref b1), .unset, .unset, .unset, .unset, .unset, .unset] [(.int (8 : Int32)), (.long q4), (.int (1 : Int32)), (.ref b1)])) ?_ (fun tX kX => XS.bipush X2.here hx rfl (hb hby at_23) kX)
  refine OGo.go (B := T2.setTop (mkF m 26 #[.val (.int p0), .val (.int p1), .val (.int p2), .val (.int p3), .val (.long q4), .second, .val (.long q5), .second, .val (.ref b1), .unset, .unset, .unset, .unset, .unset, .unset] [(.long ((q4.toUInt64 >>> ((8 : Int32) &&& 0x3f).toInt64.toUInt64).toInt64)), (.int (1 : Int32)), (.ref b1)])) ?_ (fun tX kX => XS.lushr X2.here hx rfl (hb hby at_25) rfl kX)
  refine OGo.go (B := T2.setTop (mkF m 29 #[.val (.int p0), .val (.int p1), .val (.int p2), .val (.int p3), .val (.long q4), .second, .val (.long q5), .second, .val (.ref b1), .unset, .unset, .unset, .unset, .unset, .unset] [(.long (255 : Int64)), (.long ((q4.toUInt64 >>> ((8 : Int32) &&& 0x3f).toInt64.toUInt64).toInt64)), (.int (1 : Int32)), (.ref b1)])) ?_ (fun tX kX => X2.ldc2Long hx hown (mvT hZ (hw _ (List.mem_of_getElem? (i := 1) rfl))) (g := (mkF m 26 #[.val (.int p0), .val (.int p1), .val (.int p2), .val (.int p3), .val (.long q4), .second, .val (.long q5), .second, .val (.ref b1), .unset, .unset, .unset, .unset, .unset, .unset] [(.long ((q4.toUInt64 >>> ((8 : Int32) &&& 0x3f).toInt64.toUInt64).toInt64)), (.int (1 : Int32)), (.ref b1)])) rfl (hb hby at_26) _ kX)
  refine OGo.go (B := T2.setTop (mkF m 30 #[.val (.int p0), .val (.int p1), .val (.int p2), .val (.int p3), .val (.long q4), .second, .val (.long q5), .second, .val (.ref b1), .unset, .unset, .unset, .unset, .unset, .unset] [(.long (((q4.toUInt64 >>> ((8 : Int32) &&& 0x3f).toInt64.toUInt64).toInt64) &&& (255 : Int64))), (.int (1 : Int32)), (.ref b1)])) ?_ (fun tX kX => XS.land X2.here hx rfl (hb hby at_29) rfl kX)
  refine OGo.go (B := T2.setTop (mkF m 31 #[.val (.int p0), .val (.int p1), .val (.int p2), .val (.int p3), .val (.long q4), .second, .val (.long q5), .second, .val (.ref b1), .unset, .unset, .unset, .unset, .unset, .unset] [(.int ((((q4.toUInt64 >>> ((8 : Int32) &&& 0x3f).toInt64.toUInt64).toInt64) &&& (255 : Int64)).toInt32)), (.int (1 : Int32)), (.ref b1)])) ?_ (fun tX kX => XS.l2i X2.here hx rfl (hb hby at_30) rfl kX)
  refine OGo.go (B := T2.setTop (mkF m 32 #[.val (.int p0), .val (.int p1), .val (.int p2), .val (.int p3), .val (.long q4), .second, .val (.long q5), .second, .val (.ref b1), .unset, .unset, .unset, .unset, .unset, .unset] [(.int (((((q4.toUInt64 >>> ((8 : Int32) &&& 0x3f).toInt64.toUInt64).toInt64) &&& (255 : Int64)).toInt32).toUInt32.toUInt16.toUInt32.toInt32)), (.int (1 : Int32)), (.ref b1)])) ?_ (fun tX kX => XS.i2c X2.here hx rfl (hb hby at_31) rfl kX)
  obtain ⟨cl3, Ar3, qa3, S3, N3', H3, G3⟩ := id V_b1
  have hin3 := inb_of (j := (1 : Int32)) S3 ⟨by decide, by decide⟩
  obtain ⟨T3, h3, X3, e3, W3, st3⟩ := stC X2 hx hZ e2 Ar3 (j := (1 : Int32)) hin3 (g := (mkF m 32 #[.val (.int p0), .val (.int p1), .val (.int p2), .val (.int p3), .val (.long q4), .second, .val (.long q5), .second, .val (.ref b1), .unset, .unset, .unset, .unset, .unset, .unset] [(.int (((((q4.toUInt64 >>> ((8 : Int32) &&& 0x3f).toInt64.toUInt64).toInt64) &&& (255 : Int64)).toInt32).toUInt32.toUInt16.toUInt32.toInt32)), (.int (1 : Int32)), (.ref b1)])) rfl rfl (hb hby at_32)
  have V_b1_3 := Arv.set Ar3 qa3 S3 N3' H3 G3 (fits_nar_char _) W3 1 rfl (Nat.le_of_ble_eq_true rfl)
  have Sfo3 := (Safe.arr (EL := own_EL) hZ.alike Ar3 (by decide))
  have CHo3 := hCH
  have Sf_b1 := Safe.wr W3 Sfo3 CHo3 Sf_b1
  have hCH := CHv.wr W3 Sfo3 CHo3
  have S_VAL := S_VAL.wr W3
  have E_uv := E_uv.wr W3
  have V_uv := V_uv.other W3 ne_uv_b1
  have F_wireName_m0 := F_wireName_m0.other W3 (Or.inl ne_m0_b1)
  have F_wireName_m1 := F_wireName_m1.other W3 (Or.inl ne_m1_b1)
  have E_w0 := E_w0.wr W3
  have F_value_w0 := F_value_w0.other W3 (Or.inl ne_w0_b1)
  have F_coder_w0 := F_coder_w0.other W3 (Or.inl ne_w0_b1)
  have V_v0 := V_v0.other W3 ne_v0_b1
  have E_w1 := E_w1.wr W3
  have F_value_w1 := F_value_w1.other W3 (Or.inl ne_w1_b1)
  have F_coder_w1 := F_coder_w1.other W3 (Or.inl ne_w1_b1)
  have V_v1 := V_v1.other W3 ne_v1_b1
  have S_SCRAM_SHA_1 := S_SCRAM_SHA_1.wr W3
  have S_PLAIN := S_PLAIN.wr W3
  have S_COMPACT_STRINGS := S_COMPACT_STRINGS.wr W3
  have E_b1 := E_b1.wr W3
  have K3 := K2.wr W3 (Or.inr sz_b1)
  have zn3 : n0 ≤ h3.size := Nat.le_trans zn2 (Keep.of_wr W3).1
  have hk3 := Nat.le_trans hk2 (Keep.of_wr W3).1
  have N3 := Fr.snoc X3 N2 g_b1
  have V_b1 : Arv Z h3 b1 k1 .char (12 : Int32) [(.int ((((q4 &&& (255 : Int64)).toInt32).toUInt32.toUInt16.toUInt32.toInt32).toUInt32.toUInt16.toUInt32.toInt32)), (.int ((((((q4.toUInt64 >>> ((8 : Int32) &&& 0x3f).toInt64.toUInt64).toInt64) &&& (255 : Int64)).toInt32).toUInt32.toUInt16.toUInt32.toInt32).toUInt32.toUInt16.toUInt32.toInt32)), (.int (0 : Int32)), (.int (0 : Int32)), (.int (0 : Int32)), (.int (0 : Int32)), (.int (0 : Int32)), (.int (0 : Int32)), (.int (0 : Int32)), (.int (0 : Int32)), (.int (0 : Int32)), (.int (0 : Int32))] (.int (0 : Int32)) := V_b1_3
  refine OGo.go (B := T3.setTop (mkF m 33 #[.val (.int p0), .val (.int p1), .val (.int p2), .val (.int p3), .val (.long q4), .second, .val (.long q5), .second, .val (.ref b1), .unset, .unset, .unset, .unset, .unset, .unset] [])) ?_ st3
  refine OGo.go (B := T3.setTop (mkF m 35 #[.val (.int p0), .val (.int p1), .val (.int p2), .val (.int p3), .val (.long q4), .second, .val (.long q5), .second, .val (.ref b1), .unset, .unset, .unset, .unset, .unset, .unset] [(.ref b1)])) ?_ (fun tX kX => XS.aload X3.here hx rfl (hb hby at_33) rfl rfl kX)
  refine OGo.go (B := T3.setTop (mkF m 36 #[.val (.int p0), .val (.int p1), .val (.int p2), .val (.int p3), .val (.long q4), .second, .val (.long q5), .second, .val (.ref b1), .unset, .unset, .unset, .unset, .unset, .unset] [(.int (2 : Int32)), (.ref b1)])) ?_ (fun tX kX => XS.iconst X3.here hx rfl (hb hby at_35) kX)
  refine OGo.go (B := T3.setTop (mkF m 38 #[.val (.int p0), .val (.int p1), .val (.int p2), .val (.int p3), .val (.long q4), .second, .val (.long q5), .second, .val (.ref b1), .unset, .unset, .unset, .unset, .unset, .unset] [(.long q4), (.int (2 : Int32)), (.ref b1)])) ?_ (fun tX kX => XS.lload X3.here hx rfl (hb hby at_36) rfl kX)
  refine OGo.go (B := T3.setTop (mkF m 40 #[.val (.int p0), .val (.int p1), .val (.int p2), .val (.int p3), .val (.long q4), .second, .val (.long q5), .second, .val (.ref b1), .unset, .unset, .unset, .unset, .unset, .unset] [(.int (16 : Int32)), (.long q4), (.int (2 : Int32)), (.ref b1)])) ?_ (fun tX kX => XS.bipush X3.here hx rfl (hb hby at_38) kX)
  refine OGo.go (B := T3.setTop (mkF m 41 #[.val (.int p0), .val (.int p1), .val (.int p2), .val (.int p3), .val (.long q4), .second, .val (.long q5), .second, .val (.ref b1), .unset, .unset, .unset, .unset, .unset, .unset] [(.long ((q4.toUInt64 >>> ((16 : Int32) &&& 0x3f).toInt64.toUInt64).toInt64)), (.int (2 : Int32)), (.ref b1)])) ?_ (fun tX kX => XS.lushr X3.here hx rfl (hb hby at_40) rfl kX)
  refine OGo.go (B := T3.setTop (mkF m 44 #[.val (.int p0), .val (.int p1), .val (.int p2), .val (.int p3), .val (.long q4), .second, .val (.long q5), .second, .val (.ref b1), .unset, .unset, .unset, .unset, .unset, .unset] [(.long (255 : Int64)), (.long ((q4.toUInt64 >>> ((16 : Int32) &&& 0x3f).toInt64.toUInt64).toInt64)), (.int (2 : Int32)), (.ref b1)])) ?_ (fun tX kX => X3.ldc2Long hx hown (mvT hZ (hw _ (List.mem_of_getElem? (i := 1) rfl))) (g := (mkF m 41 #[.val (.int p0), .val (.int p1), .val (.int p2), .val (.int p3), .val (.long q4), .second, .val (.long q5), .second, .val (.ref b1), .unset, .unset, .unset, .unset, .unset, .unset] [(.long ((q4.toUInt64 >>> ((16 : Int32) &&& 0x3f).toInt64.toUInt64).toInt64)), (.int (2 : Int32)), (.ref b1)])) rfl (hb hby at_41) _ kX)
  refine OGo.go (B := T3.setTop (mkF m 45 #[.val (.int p0), .val (.int p1), .val (.int p2), .val (.int p3), .val (.long q4), .second, .val (.long q5), .second, .val (.ref b1), .unset, .unset, .unset, .unset, .unset, .unset] [(.long (((q4.toUInt64 >>> ((16 : Int32) &&& 0x3f).toInt64.toUInt64).toInt64) &&& (255 : Int64))), (.int (2 : Int32)), (.ref b1)])) ?_ (fun tX kX => XS.land X3.here hx rfl (hb hby at_44) rfl kX)
  refine OGo.go (B := T3.setTop (mkF m 46 #[.val (.int p0), .val (.int p1), .val (.int p2), .val (.int p3), .val (.long q4), .second, .val (.long q5), .second, .val (.ref b1), .unset, .unset, .unset, .unset, .unset, .unset] [(.int ((((q4.toUInt64 >>> ((16 : Int32) &&& 0x3f).toInt64.toUInt64).toInt64) &&& (255 : Int64)).toInt32)), (.int (2 : Int32)), (.ref b1)])) ?_ (fun tX kX => XS.l2i X3.here hx rfl (hb hby at_45) rfl kX)
  refine OGo.go (B := T3.setTop (mkF m 47 #[.val (.int p0), .val (.int p1), .val (.int p2), .val (.int p3), .val (.long q4), .second, .val (.long q5), .second, .val (.ref b1), .unset, .unset, .unset, .unset, .unset, .unset] [(.int (((((q4.toUInt64 >>> ((16 : Int32) &&& 0x3f).toInt64.toUInt64).toInt64) &&& (255 : Int64)).toInt32).toUInt32.toUInt16.toUInt32.toInt32)), (.int (2 : Int32)), (.ref b1)])) ?_ (fun tX kX => XS.i2c X3.here hx rfl (hb hby at_46) rfl kX)
  obtain ⟨cl4, Ar4, qa4, S4, N4', H4, G4⟩ := id V_b1
  have hin4 := inb_of (j := (2 : Int32)) S4 ⟨by decide, by decide⟩
  obtain ⟨T4, h4, X4, e4, W4, st4⟩ := stC X3 hx hZ e3 Ar4 (j := (2 : Int32)) hin4 (g := (mkF m 47 #[.val (.int p0), .val (.int p1), .val (.int p2), .val (.int p3), .val (.long q4), .second, .val (.long q5), .second, .val (.ref b1), .unset, .unset, .unset, .unset, .unset, .unset] [(.int (((((q4.toUInt64 >>> ((16 : Int32) &&& 0x3f).toInt64.toUInt64).toInt64) &&& (255 : Int64)).toInt32).toUInt32.toUInt16.toUInt32.toInt32)), (.int (2 : Int32)), (.ref b1)])) rfl rfl (hb hby at_47)
  have V_b1_4 := Arv.set Ar4 qa4 S4 N4' H4 G4 (fits_nar_char _) W4 2 rfl (Nat.le_of_ble_eq_true rfl)
  have Sfo4 := (Safe.arr (EL := own_EL) hZ.alike Ar4 (by decide))
  have CHo4 := hCH
  have Sf_b1 := Safe.wr W4 Sfo4 CHo4 Sf_b1
  have hCH := CHv.wr W4 Sfo4 CHo4
  have S_VAL := S_VAL.wr W4
  have E_uv := E_uv.wr W4
  have V_uv := V_uv.other W4 ne_uv_b1
  have F_wireName_m0 := F_wireName_m0.other W4 (Or.inl ne_m0_b1)
  have F_wireName_m1 := F_wireName_m1.other W4 (Or.inl ne_m1_b1)
  have E_w0 := E_w0.wr W4
  have F_value_w0 := F_value_w0.other W4 (Or.inl ne_w0_b1)
  have F_coder_w0 := F_coder_w0.other W4 (Or.inl ne_w0_b1)
  have V_v0 := V_v0.other W4 ne_v0_b1
  have E_w1 := E_w1.wr W4
  have F_value_w1 := F_value_w1.other W4 (Or.inl ne_w1_b1)
  have F_coder_w1 := F_coder_w1.other W4 (Or.inl ne_w1_b1)
  have V_v1 := V_v1.other W4 ne_v1_b1
  have S_SCRAM_SHA_1 := S_SCRAM_SHA_1.wr W4
  have S_PLAIN := S_PLAIN.wr W4
  have S_COMPACT_STRINGS := S_COMPACT_STRINGS.wr W4
  have E_b1 := E_b1.wr W4
  have K4 := K3.wr W4 (Or.inr sz_b1)
  have zn4 : n0 ≤ h4.size := Nat.le_trans zn3 (Keep.of_wr W4).1
  have hk4 := Nat.le_trans hk3 (Keep.of_wr W4).1
  have N4 := Fr.snoc X4 N3 g_b1
  have V_b1 : Arv Z h4 b1 k1 .char (12 : Int32) [(.int ((((q4 &&& (255 : Int64)).toInt32).toUInt32.toUInt16.toUInt32.toInt32).toUInt32.toUInt16.toUInt32.toInt32)), (.int ((((((q4.toUInt64 >>> ((8 : Int32) &&& 0x3f).toInt64.toUInt64).toInt64) &&& (255 : Int64)).toInt32).toUInt32.toUInt16.toUInt32.toInt32).toUInt32.toUInt16.toUInt32.toInt32)), (.int ((((((q4.toUInt64 >>> ((16 : Int32) &&& 0x3f).toInt64.toUInt64).toInt64) &&& (255 : Int64)).toInt32).toUInt32.toUInt16.toUInt32.toInt32).toUInt32.toUInt16.toUInt32.toInt32)), (.int (0 : Int32)), (.int (0 : Int32)), (.int (0 : Int32)), (.int (0 : Int32)), (.int (0 : Int32)), (.int (0 : Int32)), (.int (0 : Int32)), (.int (0 : Int32)), (.int (0 : Int32))] (.int (0 : Int32)) := V_b1_4
  refine OGo.go (B := T4.setTop (mkF m 48 #[.val (.int p0), .val (.int p1), .val (.int p2), .val (.int p3), .val (.long q4), .second, .val (.long q5), .second, .val (.ref b1), .unset, .unset, .unset, .unset, .unset, .unset] [])) ?_ st4
  refine OGo.go (B := T4.setTop (mkF m 50 #[.val (.int p0), .val (.int p1), .val (.int p2), .val (.int p3), .val (.long q4), .second, .val (.long q5), .second, .val (.ref b1), .unset, .unset, .unset, .unset, .unset, .unset] [(.ref b1)])) ?_ (fun tX kX => XS.aload X4.here hx rfl (hb hby at_48) rfl rfl kX)
  refine OGo.go (B := T4.setTop (mkF m 51 #[.val (.int p0), .val (.int p1), .val (.int p2), .val (.int p3), .val (.long q4), .second, .val (.long q5), .second, .val (.ref b1), .unset, .unset, .unset, .unset, .unset, .unset] [(.int (3 : Int32)), (.ref b1)])) ?_ (fun tX kX => XS.iconst X4.here hx rfl (hb hby at_50) kX)
  refine OGo.go (B := T4.setTop (mkF m 53 #[.val (.int p0), .val (.int p1), .val (.int p2), .val (.int p3), .val (.long q4), .second, .val (.long q5), .second, .val (.ref b1), .unset, .unset, .unset, .unset, .unset, .unset] [(.long q4), (.int (3 : Int32)), (.ref b1)])) ?_ (fun tX kX => XS.lload X4.here hx rfl (hb hby at_51) rfl kX)
  refine OGo.go (B := T4.setTop (mkF m 55 #[.val (.int p0), .val (.int p1), .val (.int p2), .val (.int p3), .val (.long q4), .second, .val (.long q5), .second, .val (.ref b1), .unset, .unset, .unset, .unset, .unset, .unset] [(.int (24 : Int32)), (.long q4), (.int (3 : Int32)), (.ref b1)])) ?_ (fun tX kX => XS.bipush X4.here hx rfl (hb hby at_53) kX)
  refine OGo.go (B := T4.setTop (mkF m 56 #[.val (.int p0), .val (.int p1), .val (.int p2), .val (.int p3), .val (.long q4), .second, .val (.long q5), .second, .val (.ref b1), .unset, .unset, .unset, .unset, .unset, .unset] [(.long ((q4.toUInt64 >>> ((24 : Int32) &&& 0x3f).toInt64.toUInt64).toInt64)), (.int (3 : Int32)), (.ref b1)])) ?_ (fun tX kX => XS.lushr X4.here hx rfl (hb hby at_55) rfl kX)
  refine OGo.go (B := T4.setTop (mkF m 59 #[.val (.int p0), .val (.int p1), .val (.int p2), .val (.int p3), .val (.long q4), .second, .val (.long q5), .second, .val (.ref b1), .unset, .unset, .unset, .unset, .unset, .unset] [(.long (255 : Int64)), (.long ((q4.toUInt64 >>> ((24 : Int32) &&& 0x3f).toInt64.toUInt64).toInt64)), (.int (3 : Int32)), (.ref b1)])) ?_ (fun tX kX => X4.ldc2Long hx hown (mvT hZ (hw _ (List.mem_of_getElem? (i := 1) rfl))) (g := (mkF m 56 #[.val (.int p0), .val (.int p1), .val (.int p2), .val (.int p3), .val (.long q4), .second, .val (.long q5), .second, .val (.ref b1), .unset, .unset, .unset, .unset, .unset, .unset] [(.long ((q4.toUInt64 >>> ((24 : Int32) &&& 0x3f).toInt64.toUInt64).toInt64)), (.int (3 : Int32)), (.ref b1)])) rfl (hb hby at_56) _ kX)
  refine OGo.go (B := T4.setTop (mkF m 60 #[.val (.int p0), .val (.int p1), .val (.int p2), .val (.int p3), .val (.long q4), .second, .val (.long q5), .second, .val (.ref b1), .unset, .unset, .unset, .unset, .unset, .unset] [(.long (((q4.toUInt64 >>> ((24 : Int32) &&& 0x3f).toInt64.toUInt64).toInt64) &&& (255 : Int64))), (.int (3 : Int32)), (.ref b1)])) ?_ (fun tX kX => XS.land X4.here hx rfl (hb hby at_59) rfl kX)
  refine OGo.go (B := T4.setTop (mkF m 61 #[.val (.int p0), .val (.int p1), .val (.int p2), .val (.int p3), .val (.long q4), .second, .val (.long q5), .second, .val (.ref b1), .unset, .unset, .unset, .unset, .unset, .unset] [(.int ((((q4.toUInt64 >>> ((24 : Int32) &&& 0x3f).toInt64.toUInt64).toInt64) &&& (255 : Int64)).toInt32)), (.int (3 : Int32)), (.ref b1)])) ?_ (fun tX kX => XS.l2i X4.here hx rfl (hb hby at_60) rfl kX)
  refine OGo.go (B := T4.setTop (mkF m 62 #[.val (.int p0), .val (.int p1), .val (.int p2), .val (.int p3), .val (.long q4), .second, .val (.long q5), .second, .val (.ref b1), .unset, .unset, .unset, .unset, .unset, .unset] [(.int (((((q4.toUInt64 >>> ((24 : Int32) &&& 0x3f).toInt64.toUInt64).toInt64) &&& (255 : Int64)).toInt32).toUInt32.toUInt16.toUInt32.toInt32)), (.int (3 : Int32)), (.ref b1)])) ?_ (fun tX kX => XS.i2c X4.here hx rfl (hb hby at_61) rfl kX)
  obtain ⟨cl5, Ar5, qa5, S5, N5', H5, G5⟩ := id V_b1
  have hin5 := inb_of (j := (3 : Int32)) S5 ⟨by decide, by decide⟩
  obtain ⟨T5, h5, X5, e5, W5, st5⟩ := stC X4 hx hZ e4 Ar5 (j := (3 : Int32)) hin5 (g := (mkF m 62 #[.val (.int p0), .val (.int p1), .val (.int p2), .val (.int p3), .val (.long q4), .second, .val (.long q5), .second, .val (.ref b1), .unset, .unset, .unset, .unset, .unset, .unset] [(.int (((((q4.toUInt64 >>> ((24 : Int32) &&& 0x3f).toInt64.toUInt64).toInt64) &&& (255 : Int64)).toInt32).toUInt32.toUInt16.toUInt32.toInt32)), (.int (3 : Int32)), (.ref b1)])) rfl rfl (hb hby at_62)
  have V_b1_5 := Arv.set Ar5 qa5 S5 N5' H5 G5 (fits_nar_char _) W5 3 rfl (Nat.le_of_ble_eq_true rfl)
  have Sfo5 := (Safe.arr (EL := own_EL) hZ.alike Ar5 (by decide))
  have CHo5 := hCH
  have Sf_b1 := Safe.wr W5 Sfo5 CHo5 Sf_b1
  have hCH := CHv.wr W5 Sfo5 CHo5
  have S_VAL := S_VAL.wr W5
  have E_uv := E_uv.wr W5
  have V_uv := V_uv.other W5 ne_uv_b1
  have F_wireName_m0 := F_wireName_m0.other W5 (Or.inl ne_m0_b1)
  have F_wireName_m1 := F_wireName_m1.other W5 (Or.inl ne_m1_b1)
  have E_w0 := E_w0.wr W5
  have F_value_w0 := F_value_w0.other W5 (Or.inl ne_w0_b1)
  have F_coder_w0 := F_coder_w0.other W5 (Or.inl ne_w0_b1)
  have V_v0 := V_v0.other W5 ne_v0_b1
  have E_w1 := E_w1.wr W5
  have F_value_w1 := F_value_w1.other W5 (Or.inl ne_w1_b1)
  have F_coder_w1 := F_coder_w1.other W5 (Or.inl ne_w1_b1)
  have V_v1 := V_v1.other W5 ne_v1_b1
  have S_SCRAM_SHA_1 := S_SCRAM_SHA_1.wr W5
  have S_PLAIN := S_PLAIN.wr W5
  have S_COMPACT_STRINGS := S_COMPACT_STRINGS.wr W5
  have E_b1 := E_b1.wr W5
  have K5 := K4.wr W5 (Or.inr sz_b1)
  have zn5 : n0 ≤ h5.size := Nat.le_trans zn4 (Keep.of_wr W5).1
  have hk5 := Nat.le_trans hk4 (Keep.of_wr W5).1
  have N5 := Fr.snoc X5 N4 g_b1
  have V_b1 : Arv Z h5 b1 k1 .char (12 : Int32) [(.int ((((q4 &&& (255 : Int64)).toInt32).toUInt32.toUInt16.toUInt32.toInt32).toUInt32.toUInt16.toUInt32.toInt32)), (.int ((((((q4.toUInt64 >>> ((8 : Int32) &&& 0x3f).toInt64.toUInt64).toInt64) &&& (255 : Int64)).toInt32).toUInt32.toUInt16.toUInt32.toInt32).toUInt32.toUInt16.toUInt32.toInt32)), (.int ((((((q4.toUInt64 >>> ((16 : Int32) &&& 0x3f).toInt64.toUInt64).toInt64) &&& (255 : Int64)).toInt32).toUInt32.toUInt16.toUInt32.toInt32).toUInt32.toUInt16.toUInt32.toInt32)), (.int ((((((q4.toUInt64 >>> ((24 : Int32) &&& 0x3f).toInt64.toUInt64).toInt64) &&& (255 : Int64)).toInt32).toUInt32.toUInt16.toUInt32.toInt32).toUInt32.toUInt16.toUInt32.toInt32)), (.int (0 : Int32)), (.int (0 : Int32)), (.int (0 : Int32)), (.int (0 : Int32)), (.int (0 : Int32)), (.int (0 : Int32)), (.int (0 : Int32)), (.int (0 : Int32))] (.int (0 : Int32)) := V_b1_5
  refine OGo.go (B := T5.setTop (mkF m 63 #[.val (.int p0), .val (.int p1), .val (.int p2), .val (.int p3), .val (.long q4), .second, .val (.long q5), .second, .val (.ref b1), .unset, .unset, .unset, .unset, .unset, .unset] [])) ?_ st5
  refine OGo.go (B := T5.setTop (mkF m 65 #[.val (.int p0), .val (.int p1), .val (.int p2), .val (.int p3), .val (.long q4), .second, .val (.long q5), .second, .val (.ref b1), .unset, .unset, .unset, .unset, .unset, .unset] [(.ref b1)])) ?_ (fun tX kX => XS.aload X5.here hx rfl (hb hby at_63) rfl rfl kX)
  refine OGo.go (B := T5.setTop (mkF m 66 #[.val (.int p0), .val (.int p1), .val (.int p2), .val (.int p3), .val (.long q4), .second, .val (.long q5), .second, .val (.ref b1), .unset, .unset, .unset, .unset, .unset, .unset] [(.int (4 : Int32)), (.ref b1)])) ?_ (fun tX kX => XS.iconst X5.here hx rfl (hb hby at_65) kX)
  refine OGo.go (B := T5.setTop (mkF m 68 #[.val (.int p0), .val (.int p1), .val (.int p2), .val (.int p3), .val (.long q4), .second, .val (.long q5), .second, .val (.ref b1), .unset, .unset, .unset, .unset, .unset, .unset] [(.long q4), (.int (4 : Int32)), (.ref b1)])) ?_ (fun tX kX => XS.lload X5.here hx rfl (hb hby at_66) rfl kX)
  refine OGo.go (B := T5.setTop (mkF m 70 #[.val (.int p0), .val (.int p1), .val (.int p2), .val (.int p3), .val (.long q4), .second, .val (.long q5), .second, .val (.ref b1), .unset, .unset, .unset, .unset, .unset, .unset] [(.int (32 : Int32)), (.long q4), (.int (4 : Int32)), (.ref b1)])) ?_ (fun tX kX => XS.bipush X5.here hx rfl (hb hby at_68) kX)
  refine OGo.go (B := T5.setTop (mkF m 71 #[.val (.int p0), .val (.int p1), .val (.int p2), .val (.int p3), .val (.long q4), .second, .val (.long q5), .second, .val (.ref b1), .unset, .unset, .unset, .unset, .unset, .unset] [(.long ((q4.toUInt64 >>> ((32 : Int32) &&& 0x3f).toInt64.toUInt64).toInt64)), (.int (4 : Int32)), (.ref b1)])) ?_ (fun tX kX => XS.lushr X5.here hx rfl (hb hby at_70) rfl kX)
  refine OGo.go (B := T5.setTop (mkF m 74 #[.val (.int p0), .val (.int p1), .val (.int p2), .val (.int p3), .val (.long q4), .second, .val (.long q5), .second, .val (.ref b1), .unset, .unset, .unset, .unset, .unset, .unset] [(.long (255 : Int64)), (.long ((q4.toUInt64 >>> ((32 : Int32) &&& 0x3f).toInt64.toUInt64).toInt64)), (.int (4 : Int32)), (.ref b1)])) ?_ (fun tX kX => X5.ldc2Long hx hown (mvT hZ (hw _ (List.mem_of_getElem? (i := 1) rfl))) (g := (mkF m 71 #[.val (.int p0), .val (.int p1), .val (.int p2), .val (.int p3), .val (.long q4), .second, .val (.long q5), .second, .val (.ref b1), .unset, .unset, .unset, .unset, .unset, .unset] [(.long ((q4.toUInt64 >>> ((32 : Int32) &&& 0x3f).toInt64.toUInt64).toInt64)), (.int (4 : Int32)), (.ref b1)])) rfl (hb hby at_71) _ kX)
  refine OGo.go (B := T5.setTop (mkF m 75 #[.val (.int p0), .val (.int p1), .val (.int p2), .val (.int p3), .val (.long q4), .second, .val (.long q5), .second, .val (.ref b1), .unset, .unset, .unset, .unset, .unset, .unset] [(.long (((q4.toUInt64 >>> ((32 : Int32) &&& 0x3f).toInt64.toUInt64).toInt64) &&& (255 : Int64))), (.int (4 : Int32)), (.ref b1)])) ?_ (fun tX kX => XS.land X5.here hx rfl (hb hby at_74) rfl kX)
  refine OGo.go (B := T5.setTop (mkF m 76 #[.val (.int p0), .val (.int p1), .val (.int p2), .val (.int p3), .val (.long q4), .second, .val (.long q5), .second, .val (.ref b1), .unset, .unset, .unset, .unset, .unset, .unset] [(.int ((((q4.toUInt64 >>> ((32 : Int32) &&& 0x3f).toInt64.toUInt64).toInt64) &&& (255 : Int64)).toInt32)), (.int (4 : Int32)), (.ref b1)])) ?_ (fun tX kX => XS.l2i X5.here hx rfl (hb hby at_75) rfl kX)
  refine OGo.go (B := T5.setTop (mkF m 77 #[.val (.int p0), .val (.int p1), .val (.int p2), .val (.int p3), .val (.long q4), .second, .val (.long q5), .second, .val (.ref b1), .unset, .unset, .unset, .unset, .unset, .unset] [(.int (((((q4.toUInt64 >>> ((32 : Int32) &&& 0x3f).toInt64.toUInt64).toInt64) &&& (255 : Int64)).toInt32).toUInt32.toUInt16.toUInt32.toInt32)), (.int (4 : Int32)), (.ref b1)])) ?_ (fun tX kX => XS.i2c X5.here hx rfl (hb hby at_76) rfl kX)
  obtain ⟨cl6, Ar6, qa6, S6, N6', H6, G6⟩ := id V_b1
  have hin6 := inb_of (j := (4 : Int32)) S6 ⟨by decide, by decide⟩
  obtain ⟨T6, h6, X6, e6, W6, st6⟩ := stC X5 hx hZ e5 Ar6 (j := (4 : Int32)) hin6 (g := (mkF m 77 #[.val (.int p0), .val (.int p1), .val (.int p2), .val (.int p3), .val (.long q4), .second, .val (.long q5), .second, .val (.ref b1), .unset, .unset, .unset, .unset, .unset, .unset] [(.int (((((q4.toUInt64 >>> ((32 : Int32) &&& 0x3f).toInt64.toUInt64).toInt64) &&& (255 : Int64)).toInt32).toUInt32.toUInt16.toUInt32.toInt32)), (.int (4 : Int32)), (.ref b1)])) rfl rfl (hb hby at_77)
  have V_b1_6 := Arv.set Ar6 qa6 S6 N6' H6 G6 (fits_nar_char _) W6 4 rfl (Nat.le_of_ble_eq_true rfl)
  have Sfo6 := (Safe.arr (EL := own_EL) hZ.alike Ar6 (by decide))
  have CHo6 := hCH
  have Sf_b1 := Safe.wr W6 Sfo6 CHo6 Sf_b1
  have hCH := CHv.wr W6 Sfo6 CHo6
  have S_VAL := S_VAL.wr W6
  have E_uv := E_uv.wr W6
  have V_uv := V_uv.other W6 ne_uv_b1
  have F_wireName_m0 := F_wireName_m0.other W6 (Or.inl ne_m0_b1)
  have F_wireName_m1 := F_wireName_m1.other W6 (Or.inl ne_m1_b1)
  have E_w0 := E_w0.wr W6
  have F_value_w0 := F_value_w0.other W6 (Or.inl ne_w0_b1)
  have F_coder_w0 := F_coder_w0.other W6 (Or.inl ne_w0_b1)
  have V_v0 := V_v0.other W6 ne_v0_b1
  have E_w1 := E_w1.wr W6
  have F_value_w1 := F_value_w1.other W6 (Or.inl ne_w1_b1)
  have F_coder_w1 := F_coder_w1.other W6 (Or.inl ne_w1_b1)
  have V_v1 := V_v1.other W6 ne_v1_b1
  have S_SCRAM_SHA_1 := S_SCRAM_SHA_1.wr W6
  have S_PLAIN := S_PLAIN.wr W6
  have S_COMPACT_STRINGS := S_COMPACT_STRINGS.wr W6
  have E_b1 := E_b1.wr W6
  have K6 := K5.wr W6 (Or.inr sz_b1)
  have zn6 : n0 ≤ h6.size := Nat.le_trans zn5 (Keep.of_wr W6).1
  have hk6 := Nat.le_trans hk5 (Keep.of_wr W6).1
  have N6 := Fr.snoc X6 N5 g_b1
  have V_b1 : Arv Z h6 b1 k1 .char (12 : Int32) [(.int ((((q4 &&& (255 : Int64)).toInt32).toUInt32.toUInt16.toUInt32.toInt32).toUInt32.toUInt16.toUInt32.toInt32)), (.int ((((((q4.toUInt64 >>> ((8 : Int32) &&& 0x3f).toInt64.toUInt64).toInt64) &&& (255 : Int64)).toInt32).toUInt32.toUInt16.toUInt32.toInt32).toUInt32.toUInt16.toUInt32.toInt32)), (.int ((((((q4.toUInt64 >>> ((16 : Int32) &&& 0x3f).toInt64.toUInt64).toInt64) &&& (255 : Int64)).toInt32).toUInt32.toUInt16.toUInt32.toInt32).toUInt32.toUInt16.toUInt32.toInt32)), (.int ((((((q4.toUInt64 >>> ((24 : Int32) &&& 0x3f).toInt64.toUInt64).toInt64) &&& (255 : Int64)).toInt32).toUInt32.toUInt16.toUInt32.toInt32).toUInt32.toUInt16.toUInt32.toInt32)), (.int ((((((q4.toUInt64 >>> ((32 : Int32) &&& 0x3f).toInt64.toUInt64).toInt64) &&& (255 : Int64)).toInt32).toUInt32.toUInt16.toUInt32.toInt32).toUInt32.toUInt16.toUInt32.toInt32)), (.int (0 : Int32)), (.int (0 : Int32)), (.int (0 : Int32)), (.int (0 : Int32)), (.int (0 : Int32)), (.int (0 : Int32)), (.int (0 : Int32))] (.int (0 : Int32)) := V_b1_6
  refine OGo.go (B := T6.setTop (mkF m 78 #[.val (.int p0), .val (.int p1), .val (.int p2), .val (.int p3), .val (.long q4), .second, .val (.long q5), .second, .val (.ref b1), .unset, .unset, .unset, .unset, .unset, .unset] [])) ?_ st6
  refine OGo.go (B := T6.setTop (mkF m 80 #[.val (.int p0), .val (.int p1), .val (.int p2), .val (.int p3), .val (.long q4), .second, .val (.long q5), .second, .val (.ref b1), .unset, .unset, .unset, .unset, .unset, .unset] [(.ref b1)])) ?_ (fun tX kX => XS.aload X6.here hx rfl (hb hby at_78) rfl rfl kX)
  refine OGo.go (B := T6.setTop (mkF m 81 #[.val (.int p0), .val (.int p1), .val (.int p2), .val (.int p3), .val (.long q4), .second, .val (.long q5), .second, .val (.ref b1), .unset, .unset, .unset, .unset, .unset, .unset] [(.int (5 : Int32)), (.ref b1)])) ?_ (fun tX kX => XS.iconst X6.here hx rfl (hb hby at_80) kX)
  refine OGo.go (B := T6.setTop (mkF m 83 #[.val (.int p0), .val (.int p1), .val (.int p2), .val (.int p3), .val (.long q4), .second, .val (.long q5), .second, .val (.ref b1), .unset, .unset, .unset, .unset, .unset, .unset] [(.long q4), (.int (5 : Int32)), (.ref b1)])) ?_ (fun tX kX => XS.lload X6.here hx rfl (hb hby at_81) rfl kX)
  refine OGo.go (B := T6.setTop (mkF m 85 #[.val (.int p0), .val (.int p1), .val (.int p2), .val (.int p3), .val (.long q4), .second, .val (.long q5), .second, .val (.ref b1), .unset, .unset, .unset, .unset, .unset, .unset] [(.int (40 : Int32)), (.long q4), (.int (5 : Int32)), (.ref b1)])) ?_ (fun tX kX => XS.bipush X6.here hx rfl (hb hby at_83) kX)
  refine OGo.go (B := T6.setTop (mkF m 86 #[.val (.int p0), .val (.int p1), .val (.int p2), .val (.int p3), .val (.long q4), .second, .val (.long q5), .second, .val (.ref b1), .unset, .unset, .unset, .unset, .unset, .unset] [(.long ((q4.toUInt64 >>> ((40 : Int32) &&& 0x3f).toInt64.toUInt64).toInt64)), (.int (5 : Int32)), (.ref b1)])) ?_ (fun tX kX => XS.lushr X6.here hx rfl (hb hby at_85) rfl kX)
  refine OGo.go (B := T6.setTop (mkF m 89 #[.val (.int p0), .val (.int p1), .val (.int p2), .val (.int p3), .val (.long q4), .second, .val (.long q5), .second, .val (.ref b1), .unset, .unset, .unset, .unset, .unset, .unset] [(.long (255 : Int64)), (.long ((q4.toUInt64 >>> ((40 : Int32) &&& 0x3f).toInt64.toUInt64).toInt64)), (.int (5 : Int32)), (.ref b1)])) ?_ (fun tX kX => X6.ldc2Long hx hown (mvT hZ (hw _ (List.mem_of_getElem? (i := 1) rfl))) (g := (mkF m 86 #[.val (.int p0), .val (.int p1), .val (.int p2), .val (.int p3), .val (.long q4), .second, .val (.long q5), .second, .val (.ref b1), .unset, .unset, .unset, .unset, .unset, .unset] [(.long ((q4.toUInt64 >>> ((40 : Int32) &&& 0x3f).toInt64.toUInt64).toInt64)), (.int (5 : Int32)), (.ref b1)])) rfl (hb hby at_86) _ kX)
  refine OGo.go (B := T6.setTop (mkF m 90 #[.val (.int p0), .val (.int p1), .val (.int p2), .val (.int p3), .val (.long q4), .second, .val (.long q5), .second, .val (.ref b1), .unset, .unset, .unset, .unset, .unset, .unset] [(.long (((q4.toUInt64 >>> ((40 : Int32) &&& 0x3f).toInt64.toUInt64).toInt64) &&& (255 : Int64))), (.int (5 : Int32)), (.ref b1)])) ?_ (fun tX kX => XS.land X6.here hx rfl (hb hby at_89) rfl kX)
  refine OGo.go (B := T6.setTop (mkF m 91 #[.val (.int p0), .val (.int p1), .val (.int p2), .val (.int p3), .val (.long q4), .second, .val (.long q5), .second, .val (.ref b1), .unset, .unset, .unset, .unset, .unset, .unset] [(.int ((((q4.toUInt64 >>> ((40 : Int32) &&& 0x3f).toInt64.toUInt64).toInt64) &&& (255 : Int64)).toInt32)), (.int (5 : Int32)), (.ref b1)])) ?_ (fun tX kX => XS.l2i X6.here hx rfl (hb hby at_90) rfl kX)
  refine OGo.go (B := T6.setTop (mkF m 92 #[.val (.int p0), .val (.int p1), .val (.int p2), .val (.int p3), .val (.long q4), .second, .val (.long q5), .second, .val (.ref b1), .unset, .unset, .unset, .unset, .unset, .unset] [(.int (((((q4.toUInt64 >>> ((40 : Int32) &&& 0x3f).toInt64.toUInt64).toInt64) &&& (255 : Int64)).toInt32).toUInt32.toUInt16.toUInt32.toInt32)), (.int (5 : Int32)), (.ref b1)])) ?_ (fun tX kX => XS.i2c X6.here hx rfl (hb hby at_91) rfl kX)
  obtain ⟨cl7, Ar7, qa7, S7, N7', H7, G7⟩ := id V_b1
  have hin7 := inb_of (j := (5 : Int32)) S7 ⟨by decide, by decide⟩
  obtain ⟨T7, h7, X7, e7, W7, st7⟩ := stC X6 hx hZ e6 Ar7 (j := (5 : Int32)) hin7 (g := (mkF m 92 #[.val (.int p0), .val (.int p1), .val (.int p2), .val (.int p3), .val (.long q4), .second, .val (.long q5), .second, .val (.ref b1), .unset, .unset, .unset, .unset, .unset, .unset] [(.int (((((q4.toUInt64 >>> ((40 : Int32) &&& 0x3f).toInt64.toUInt64).toInt64) &&& (255 : Int64)).toInt32).toUInt32.toUInt16.toUInt32.toInt32)), (.int (5 : Int32)), (.ref b1)])) rfl rfl (hb hby at_92)
  have V_b1_7 := Arv.set Ar7 qa7 S7 N7' H7 G7 (fits_nar_char _) W7 5 rfl (Nat.le_of_ble_eq_true rfl)
  have Sfo7 := (Safe.arr (EL := own_EL) hZ.alike Ar7 (by decide))
  have CHo7 := hCH
  have Sf_b1 := Safe.wr W7 Sfo7 CHo7 Sf_b1
  have hCH := CHv.wr W7 Sfo7 CHo7
  have S_VAL := S_VAL.wr W7
  have E_uv := E_uv.wr W7
  have V_uv := V_uv.other W7 ne_uv_b1
  have F_wireName_m0 := F_wireName_m0.other W7 (Or.inl ne_m0_b1)
  have F_wireName_m1 := F_wireName_m1.other W7 (Or.inl ne_m1_b1)
  have E_w0 := E_w0.wr W7
  have F_value_w0 := F_value_w0.other W7 (Or.inl ne_w0_b1)
  have F_coder_w0 := F_coder_w0.other W7 (Or.inl ne_w0_b1)
  have V_v0 := V_v0.other W7 ne_v0_b1
  have E_w1 := E_w1.wr W7
  have F_value_w1 := F_value_w1.other W7 (Or.inl ne_w1_b1)
  have F_coder_w1 := F_coder_w1.other W7 (Or.inl ne_w1_b1)
  have V_v1 := V_v1.other W7 ne_v1_b1
  have S_SCRAM_SHA_1 := S_SCRAM_SHA_1.wr W7
  have S_PLAIN := S_PLAIN.wr W7
  have S_COMPACT_STRINGS := S_COMPACT_STRINGS.wr W7
  have E_b1 := E_b1.wr W7
  have K7 := K6.wr W7 (Or.inr sz_b1)
  have zn7 : n0 ≤ h7.size := Nat.le_trans zn6 (Keep.of_wr W7).1
  have hk7 := Nat.le_trans hk6 (Keep.of_wr W7).1
  have N7 := Fr.snoc X7 N6 g_b1
  have V_b1 : Arv Z h7 b1 k1 .char (12 : Int32) [(.int ((((q4 &&& (255 : Int64)).toInt32).toUInt32.toUInt16.toUInt32.toInt32).toUInt32.toUInt16.toUInt32.toInt32)), (.int ((((((q4.toUInt64 >>> ((8 : Int32) &&& 0x3f).toInt64.toUInt64).toInt64) &&& (255 : Int64)).toInt32).toUInt32.toUInt16.toUInt32.toInt32).toUInt32.toUInt16.toUInt32.toInt32)), (.int ((((((q4.toUInt64 >>> ((16 : Int32) &&& 0x3f).toInt64.toUInt64).toInt64) &&& (255 : Int64)).toInt32).toUInt32.toUInt16.toUInt32.toInt32).toUInt32.toUInt16.toUInt32.toInt32)), (.int ((((((q4.toUInt64 >>> ((24 : Int32) &&& 0x3f).toInt64.toUInt64).toInt64) &&& (255 : Int64)).toInt32).toUInt32.toUInt16.toUInt32.toInt32).toUInt32.toUInt16.toUInt32.toInt32)), (.int ((((((q4.toUInt64 >>> ((32 : Int32) &&& 0x3f).toInt64.toUInt64).toInt64) &&& (255 : Int64)).toInt32).toUInt32.toUInt16.toUInt32.toInt32).toUInt32.toUInt16.toUInt32.toInt32)), (.int ((((((q4.toUInt64 >>> ((40 : Int32) &&& 0x3f).toInt64.toUInt64).toInt64) &&& (255 : Int64)).toInt32).toUInt32.toUInt16.toUInt32.toInt32).toUInt32.toUInt16.toUInt32.toInt32)), (.int (0 : Int32)), (.int (0 : Int32)), (.int (0 : Int32)), (.int (0 : Int32)), (.int (0 : Int32)), (.int (0 : Int32))] (.int (0 : Int32)) := V_b1_7
  refine OGo.go (B := T7.setTop (mkF m 93 #[.val (.int p0), .val (.int p1), .val (.int p2), .val (.int p3), .val (.long q4), .second, .val (.long q5), .second, .val (.ref b1), .unset, .unset, .unset, .unset, .unset, .unset] [])) ?_ st7
  refine OGo.go (B := T7.setTop (mkF m 95 #[.val (.int p0), .val (.int p1), .val (.int p2), .val (.int p3), .val (.long q4), .second, .val (.long q5), .second, .val (.ref b1), .unset, .unset, .unset, .unset, .unset, .unset] [(.ref b1)])) ?_ (fun tX kX => XS.aload X7.here hx rfl (hb hby at_93) rfl rfl kX)
  refine OGo.go (B := T7.setTop (mkF m 97 #[.val (.int p0), .val (.int p1), .val (.int p2), .val (.int p3), .val (.long q4), .second, .val (.long q5), .second, .val (.ref b1), .unset, .unset, .unset, .unset, .unset, .unset] [(.int (6 : Int32)), (.ref b1)])) ?_ (fun tX kX => XS.bipush X7.here hx rfl (hb hby at_95) kX)
  refine OGo.go (B := T7.setTop (mkF m 99 #[.val (.int p0), .val (.int p1), .val (.int p2), .val (.int p3), .val (.long q4), .second, .val (.long q5), .second, .val (.ref b1), .unset, .unset, .unset, .unset, .unset, .unset] [(.long q4), (.int (6 : Int32)), (.ref b1)])) ?_ (fun tX kX => XS.lload X7.here hx rfl (hb hby at_97) rfl kX)
  refine OGo.go (B := T7.setTop (mkF m 101 #[.val (.int p0), .val (.int p1), .val (.int p2), .val (.int p3), .val (.long q4), .second, .val (.long q5), .second, .val (.ref b1), .unset, .unset, .unset, .unset, .unset, .unset] [(.int (48 : Int32)), (.long q4), (.int (6 : Int32)), (.ref b1)])) ?_ (fun tX kX => XS.bipush X7.here hx rfl (hb hby at_99) kX)
  refine OGo.go (B := T7.setTop (mkF m 102 #[.val (.int p0), .val (.int p1), .val (.int p2), .val (.int p3), .val (.long q4), .second, .val (.long q5), .second, .val (.ref b1), .unset, .unset, .unset, .unset, .unset, .unset] [(.long ((q4.toUInt64 >>> ((48 : Int32) &&& 0x3f).toInt64.toUInt64).toInt64)), (.int (6 : Int32)), (.ref b1)])) ?_ (fun tX kX => XS.lushr X7.here hx rfl (hb hby at_101) rfl kX)
  refine OGo.go (B := T7.setTop (mkF m 105 #[.val (.int p0), .val (.int p1), .val (.int p2), .val (.int p3), .val (.long q4), .second, .val (.long q5), .second, .val (.ref b1), .unset, .unset, .unset, .unset, .unset, .unset] [(.long (255 : Int64)), (.long ((q4.toUInt64 >>> ((48 : Int32) &&& 0x3f).toInt64.toUInt64).toInt64)), (.int (6 : Int32)), (.ref b1)])) ?_ (fun tX kX => X7.ldc2Long hx hown (mvT hZ (hw _ (List.mem_of_getElem? (i := 1) rfl))) (g := (mkF m 102 #[.val (.int p0), .val (.int p1), .val (.int p2), .val (.int p3), .val (.long q4), .second, .val (.long q5), .second, .val (.ref b1), .unset, .unset, .unset, .unset, .unset, .unset] [(.long ((q4.toUInt64 >>> ((48 : Int32) &&& 0x3f).toInt64.toUInt64).toInt64)), (.int (6 : Int32)), (.ref b1)])) rfl (hb hby at_102) _ kX)
  refine OGo.go (B := T7.setTop (mkF m 106 #[.val (.int p0), .val (.int p1), .val (.int p2), .val (.int p3), .val (.long q4), .second, .val (.long q5), .second, .val (.ref b1), .unset, .unset, .unset, .unset, .unset, .unset] [(.long (((q4.toUInt64 >>> ((48 : Int32) &&& 0x3f).toInt64.toUInt64).toInt64) &&& (255 : Int64))), (.int (6 : Int32)), (.ref b1)])) ?_ (fun tX kX => XS.land X7.here hx rfl (hb hby at_105) rfl kX)
  refine OGo.go (B := T7.setTop (mkF m 107 #[.val (.int p0), .val (.int p1), .val (.int p2), .val (.int p3), .val (.long q4), .second, .val (.long q5), .second, .val (.ref b1), .unset, .unset, .unset, .unset, .unset, .unset] [(.int ((((q4.toUInt64 >>> ((48 : Int32) &&& 0x3f).toInt64.toUInt64).toInt64) &&& (255 : Int64)).toInt32)), (.int (6 : Int32)), (.ref b1)])) ?_ (fun tX kX => XS.l2i X7.here hx rfl (hb hby at_106) rfl kX)
  refine OGo.go (B := T7.setTop (mkF m 108 #[.val (.int p0), .val (.int p1), .val (.int p2), .val (.int p3), .val (.long q4), .second, .val (.long q5), .second, .val (.ref b1), .unset, .unset, .unset, .unset, .unset, .unset] [(.int (((((q4.toUInt64 >>> ((48 : Int32) &&& 0x3f).toInt64.toUInt64).toInt64) &&& (255 : Int64)).toInt32).toUInt32.toUInt16.toUInt32.toInt32)), (.int (6 : Int32)), (.ref b1)])) ?_ (fun tX kX => XS.i2c X7.here hx rfl (hb hby at_107) rfl kX)
  obtain ⟨cl8, Ar8, qa8, S8, N8', H8, G8⟩ := id V_b1
  have hin8 := inb_of (j := (6 : Int32)) S8 ⟨by decide, by decide⟩
  obtain ⟨T8, h8, X8, e8, W8, st8⟩ := stC X7 hx hZ e7 Ar8 (j := (6 : Int32)) hin8 (g := (mkF m 108 #[.val (.int p0), .val (.int p1), .val (.int p2), .val (.int p3), .val (.long q4), .second, .val (.long q5), .second, .val (.ref b1), .unset, .unset, .unset, .unset, .unset, .unset] [(.int (((((q4.toUInt64 >>> ((48 : Int32) &&& 0x3f).toInt64.toUInt64).toInt64) &&& (255 : Int64)).toInt32).toUInt32.toUInt16.toUInt32.toInt32)), (.int (6 : Int32)), (.ref b1)])) rfl rfl (hb hby at_108)
  have V_b1_8 := Arv.set Ar8 qa8 S8 N8' H8 G8 (fits_nar_char _) W8 6 rfl (Nat.le_of_ble_eq_true rfl)
  have Sfo8 := (Safe.arr (EL := own_EL) hZ.alike Ar8 (by decide))
  have CHo8 := hCH
  have Sf_b1 := Safe.wr W8 Sfo8 CHo8 Sf_b1
  have hCH := CHv.wr W8 Sfo8 CHo8
  have S_VAL := S_VAL.wr W8
  have E_uv := E_uv.wr W8
  have V_uv := V_uv.other W8 ne_uv_b1
  have F_wireName_m0 := F_wireName_m0.other W8 (Or.inl ne_m0_b1)
  have F_wireName_m1 := F_wireName_m1.other W8 (Or.inl ne_m1_b1)
  have E_w0 := E_w0.wr W8
  have F_value_w0 := F_value_w0.other W8 (Or.inl ne_w0_b1)
  have F_coder_w0 := F_coder_w0.other W8 (Or.inl ne_w0_b1)
  have V_v0 := V_v0.other W8 ne_v0_b1
  have E_w1 := E_w1.wr W8
  have F_value_w1 := F_value_w1.other W8 (Or.inl ne_w1_b1)
  have F_coder_w1 := F_coder_w1.other W8 (Or.inl ne_w1_b1)
  have V_v1 := V_v1.other W8 ne_v1_b1
  have S_SCRAM_SHA_1 := S_SCRAM_SHA_1.wr W8
  have S_PLAIN := S_PLAIN.wr W8
  have S_COMPACT_STRINGS := S_COMPACT_STRINGS.wr W8
  have E_b1 := E_b1.wr W8
  have K8 := K7.wr W8 (Or.inr sz_b1)
  have zn8 : n0 ≤ h8.size := Nat.le_trans zn7 (Keep.of_wr W8).1
  have hk8 := Nat.le_trans hk7 (Keep.of_wr W8).1
  have N8 := Fr.snoc X8 N7 g_b1
  have V_b1 : Arv Z h8 b1 k1 .char (12 : Int32) [(.int ((((q4 &&& (255 : Int64)).toInt32).toUInt32.toUInt16.toUInt32.toInt32).toUInt32.toUInt16.toUInt32.toInt32)), (.int ((((((q4.toUInt64 >>> ((8 : Int32) &&& 0x3f).toInt64.toUInt64).toInt64) &&& (255 : Int64)).toInt32).toUInt32.toUInt16.toUInt32.toInt32).toUInt32.toUInt16.toUInt32.toInt32)), (.int ((((((q4.toUInt64 >>> ((16 : Int32) &&& 0x3f).toInt64.toUInt64).toInt64) &&& (255 : Int64)).toInt32).toUInt32.toUInt16.toUInt32.toInt32).toUInt32.toUInt16.toUInt32.toInt32)), (.int ((((((q4.toUInt64 >>> ((24 : Int32) &&& 0x3f).toInt64.toUInt64).toInt64) &&& (255 : Int64)).toInt32).toUInt32.toUInt16.toUInt32.toInt32).toUInt32.toUInt16.toUInt32.toInt32)), (.int ((((((q4.toUInt64 >>> ((32 : Int32) &&& 0x3f).toInt64.toUInt64).toInt64) &&& (255 : Int64)).toInt32).toUInt32.toUInt16.toUInt32.toInt32).toUInt32.toUInt16.toUInt32.toInt32)), (.int ((((((q4.toUInt64 >>> ((40 : Int32) &&& 0x3f).toInt64.toUInt64).toInt64) &&& (255 : Int64)).toInt32).toUInt32.toUInt16.toUInt32.toInt32).toUInt32.toUInt16.toUInt32.toInt32)), (.int ((((((q4.toUInt64 >>> ((48 : Int32) &&& 0x3f).toInt64.toUInt64).toInt64) &&& (255 : Int64)).toInt32).toUInt32.toUInt16.toUInt32.toInt32).toUInt32.toUInt16.toUInt32.toInt32)), (.int (0 : Int32)), (.int (0 : Int32)), (.int (0 : Int32)), (.int (0 : Int32)), (.int (0 : Int32))] (.int (0 : Int32)) := V_b1_8
  refine OGo.go (B := T8.setTop (mkF m 109 #[.val (.int p0), .val (.int p1), .val (.int p2), .val (.int p3), .val (.long q4), .second, .val (.long q5), .second, .val (.ref b1), .unset, .unset, .unset, .unset, .unset, .unset] [])) ?_ st8
  refine OGo.go (B := T8.setTop (mkF m 111 #[.val (.int p0), .val (.int p1), .val (.int p2), .val (.int p3), .val (.long q4), .second, .val (.long q5), .second, .val (.ref b1), .unset, .unset, .unset, .unset, .unset, .unset] [(.ref b1)])) ?_ (fun tX kX => XS.aload X8.here hx rfl (hb hby at_109) rfl rfl kX)
  refine OGo.go (B := T8.setTop (mkF m 113 #[.val (.int p0), .val (.int p1), .val (.int p2), .val (.int p3), .val (.long q4), .second, .val (.long q5), .second, .val (.ref b1), .unset, .unset, .unset, .unset, .unset, .unset] [(.int (7 : Int32)), (.ref b1)])) ?_ (fun tX kX => XS.bipush X8.here hx rfl (hb hby at_111) kX)
  refine OGo.go (B := T8.setTop (mkF m 115 #[.val (.int p0), .val (.int p1), .val (.int p2), .val (.int p3), .val (.long q4), .second, .val (.long q5), .second, .val (.ref b1), .unset, .unset, .unset, .unset, .unset, .unset] [(.long q4), (.int (7 : Int32)), (.ref b1)])) ?_ (fun tX kX => XS.lload X8.here hx rfl (hb hby at_113) rfl kX)
  refine OGo.go (B := T8.setTop (mkF m 117 #[.val (.int p0), .val (.int p1), .val (.int p2), .val (.int p3), .val (.long q4), .second, .val (.long q5), .second, .val (.ref b1), .unset, .unset, .unset, .unset, .unset, .unset] [(.int (56 : Int32)), (.long q4), (.int (7 : Int32)), (.ref b1)])) ?_ (fun tX kX => XS.bipush X8.here hx rfl (hb hby at_115) kX)
  refine OGo.go (B := T8.setTop (mkF m 118 #[.val (.int p0), .val (.int p1), .val (.int p2), .val (.int p3), .val (.long q4), .second, .val (.long q5), .second, .val (.ref b1), .unset, .unset, .unset, .unset, .unset, .unset] [(.long ((q4.toUInt64 >>> ((56 : Int32) &&& 0x3f).toInt64.toUInt64).toInt64)), (.int (7 : Int32)), (.ref b1)])) ?_ (fun tX kX => XS.lushr X8.here hx rfl (hb hby at_117) rfl kX)
  refine OGo.go (B := T8.setTop (mkF m 121 #[.val (.int p0), .val (.int p1), .val (.int p2), .val (.int p3), .val (.long q4), .second, .val (.long q5), .second, .val (.ref b1), .unset, .unset, .unset, .unset, .unset, .unset] [(.long (255 : Int64)), (.long ((q4.toUInt64 >>> ((56 : Int32) &&& 0x3f).toInt64.toUInt64).toInt64)), (.int (7 : Int32)), (.ref b1)])) ?_ (fun tX kX => X8.ldc2Long hx hown (mvT hZ (hw _ (List.mem_of_getElem? (i := 1) rfl))) (g := (mkF m 118 #[.val (.int p0), .val (.int p1), .val (.int p2), .val (.int p3), .val (.long q4), .second, .val (.long q5), .second, .val (.ref b1), .unset, .unset, .unset, .unset, .unset, .unset] [(.long ((q4.toUInt64 >>> ((56 : Int32) &&& 0x3f).toInt64.toUInt64).toInt64)), (.int (7 : Int32)), (.ref b1)])) rfl (hb hby at_118) _ kX)
  refine OGo.go (B := T8.setTop (mkF m 122 #[.val (.int p0), .val (.int p1), .val (.int p2), .val (.int p3), .val (.long q4), .second, .val (.long q5), .second, .val (.ref b1), .unset, .unset, .unset, .unset, .unset, .unset] [(.long (((q4.toUInt64 >>> ((56 : Int32) &&& 0x3f).toInt64.toUInt64).toInt64) &&& (255 : Int64))), (.int (7 : Int32)), (.ref b1)])) ?_ (fun tX kX => XS.land X8.here hx rfl (hb hby at_121) rfl kX)
  refine OGo.go (B := T8.setTop (mkF m 123 #[.val (.int p0), .val (.int p1), .val (.int p2), .val (.int p3), .val (.long q4), .second, .val (.long q5), .second, .val (.ref b1), .unset, .unset, .unset, .unset, .unset, .unset] [(.int ((((q4.toUInt64 >>> ((56 : Int32) &&& 0x3f).toInt64.toUInt64).toInt64) &&& (255 : Int64)).toInt32)), (.int (7 : Int32)), (.ref b1)])) ?_ (fun tX kX => XS.l2i X8.here hx rfl (hb hby at_122) rfl kX)
  refine OGo.go (B := T8.setTop (mkF m 124 #[.val (.int p0), .val (.int p1), .val (.int p2), .val (.int p3), .val (.long q4), .second, .val (.long q5), .second, .val (.ref b1), .unset, .unset, .unset, .unset, .unset, .unset] [(.int (((((q4.toUInt64 >>> ((56 : Int32) &&& 0x3f).toInt64.toUInt64).toInt64) &&& (255 : Int64)).toInt32).toUInt32.toUInt16.toUInt32.toInt32)), (.int (7 : Int32)), (.ref b1)])) ?_ (fun tX kX => XS.i2c X8.here hx rfl (hb hby at_123) rfl kX)
  obtain ⟨cl9, Ar9, qa9, S9, N9', H9, G9⟩ := id V_b1
  have hin9 := inb_of (j := (7 : Int32)) S9 ⟨by decide, by decide⟩
  obtain ⟨T9, h9, X9, e9, W9, st9⟩ := stC X8 hx hZ e8 Ar9 (j := (7 : Int32)) hin9 (g := (mkF m 124 #[.val (.int p0), .val (.int p1), .val (.int p2), .val (.int p3), .val (.long q4), .second, .val (.long q5), .second, .val (.ref b1), .unset, .unset, .unset, .unset, .unset, .unset] [(.int (((((q4.toUInt64 >>> ((56 : Int32) &&& 0x3f).toInt64.toUInt64).toInt64) &&& (255 : Int64)).toInt32).toUInt32.toUInt16.toUInt32.toInt32)), (.int (7 : Int32)), (.ref b1)])) rfl rfl (hb hby at_124)
  have V_b1_9 := Arv.set Ar9 qa9 S9 N9' H9 G9 (fits_nar_char _) W9 7 rfl (Nat.le_of_ble_eq_true rfl)
  have Sfo9 := (Safe.arr (EL := own_EL) hZ.alike Ar9 (by decide))
  have CHo9 := hCH
  have Sf_b1 := Safe.wr W9 Sfo9 CHo9 Sf_b1
  have hCH := CHv.wr W9 Sfo9 CHo9
  have S_VAL := S_VAL.wr W9
  have E_uv := E_uv.wr W9
  have V_uv := V_uv.other W9 ne_uv_b1
  have F_wireName_m0 := F_wireName_m0.other W9 (Or.inl ne_m0_b1)
  have F_wireName_m1 := F_wireName_m1.other W9 (Or.inl ne_m1_b1)
  have E_w0 := E_w0.wr W9
  have F_value_w0 := F_value_w0.other W9 (Or.inl ne_w0_b1)
  have F_coder_w0 := F_coder_w0.other W9 (Or.inl ne_w0_b1)
  have V_v0 := V_v0.other W9 ne_v0_b1
  have E_w1 := E_w1.wr W9
  have F_value_w1 := F_value_w1.other W9 (Or.inl ne_w1_b1)
  have F_coder_w1 := F_coder_w1.other W9 (Or.inl ne_w1_b1)
  have V_v1 := V_v1.other W9 ne_v1_b1
  have S_SCRAM_SHA_1 := S_SCRAM_SHA_1.wr W9
  have S_PLAIN := S_PLAIN.wr W9
  have S_COMPACT_STRINGS := S_COMPACT_STRINGS.wr W9
  have E_b1 := E_b1.wr W9
  have K9 := K8.wr W9 (Or.inr sz_b1)
  have zn9 : n0 ≤ h9.size := Nat.le_trans zn8 (Keep.of_wr W9).1
  have hk9 := Nat.le_trans hk8 (Keep.of_wr W9).1
  have N9 := Fr.snoc X9 N8 g_b1
  have V_b1 : Arv Z h9 b1 k1 .char (12 : Int32) [(.int ((((q4 &&& (255 : Int64)).toInt32).toUInt32.toUInt16.toUInt32.toInt32).toUInt32.toUInt16.toUInt32.toInt32)), (.int ((((((q4.toUInt64 >>> ((8 : Int32) &&& 0x3f).toInt64.toUInt64).toInt64) &&& (255 : Int64)).toInt32).toUInt32.toUInt16.toUInt32.toInt32).toUInt32.toUInt16.toUInt32.toInt32)), (.int ((((((q4.toUInt64 >>> ((16 : Int32) &&& 0x3f).toInt64.toUInt64).toInt64) &&& (255 : Int64)).toInt32).toUInt32.toUInt16.toUInt32.toInt32).toUInt32.toUInt16.toUInt32.toInt32)), (.int ((((((q4.toUInt64 >>> ((24 : Int32) &&& 0x3f).toInt64.toUInt64).toInt64) &&& (255 : Int64)).toInt32).toUInt32.toUInt16.toUInt32.toInt32).toUInt32.toUInt16.toUInt32.toInt32)), (.int ((((((q4.toUInt64 >>> ((32 : Int32) &&& 0x3f).toInt64.toUInt64).toInt64) &&& (255 : Int64)).toInt32).toUInt32.toUInt16.toUInt32.toInt32).toUInt32.toUInt16.toUInt32.toInt32)), (.int ((((((q4.toUInt64 >>> ((40 : Int32) &&& 0x3f).toInt64.toUInt64).toInt64) &&& (255 : Int64)).toInt32).toUInt32.toUInt16.toUInt32.toInt32).toUInt32.toUInt16.toUInt32.toInt32)), (.int ((((((q4.toUInt64 >>> ((48 : Int32) &&& 0x3f).toInt64.toUInt64).toInt64) &&& (255 : Int64)).toInt32).toUInt32.toUInt16.toUInt32.toInt32).toUInt32.toUInt16.toUInt32.toInt32)), (.int ((((((q4.toUInt64 >>> ((56 : Int32) &&& 0x3f).toInt64.toUInt64).toInt64) &&& (255 : Int64)).toInt32).toUInt32.toUInt16.toUInt32.toInt32).toUInt32.toUInt16.toUInt32.toInt32)), (.int (0 : Int32)), (.int (0 : Int32)), (.int (0 : Int32)), (.int (0 : Int32))] (.int (0 : Int32)) := V_b1_9
  refine OGo.go (B := T9.setTop (mkF m 125 #[.val (.int p0), .val (.int p1), .val (.int p2), .val (.int p3), .val (.long q4), .second, .val (.long q5), .second, .val (.ref b1), .unset, .unset, .unset, .unset, .unset, .unset] [])) ?_ st9
  refine OGo.go (B := T9.setTop (mkF m 127 #[.val (.int p0), .val (.int p1), .val (.int p2), .val (.int p3), .val (.long q4), .second, .val (.long q5), .second, .val (.ref b1), .unset, .unset, .unset, .unset, .unset, .unset] [(.ref b1)])) ?_ (fun tX kX => XS.aload X9.here hx rfl (hb hby at_125) rfl rfl kX)
  refine OGo.go (B := T9.setTop (mkF m 129 #[.val (.int p0), .val (.int p1), .val (.int p2), .val (.int p3), .val (.long q4), .second, .val (.long q5), .second, .val (.ref b1), .unset, .unset, .unset, .unset, .unset, .unset] [(.int (8 : Int32)), (.ref b1)])) ?_ (fun tX kX => XS.bipush X9.here hx rfl (hb hby at_127) kX)
  refine OGo.go (B := T9.setTop (mkF m 131 #[.val (.int p0), .val (.int p1), .val (.int p2), .val (.int p3), .val (.long q4), .second, .val (.long q5), .second, .val (.ref b1), .unset, .unset, .unset, .unset, .unset, .unset] [(.long q5), (.int (8 : Int32)), (.ref b1)])) ?_ (fun tX kX => XS.lload X9.here hx rfl (hb hby at_129) rfl kX)
  refine OGo.go (B := T9.setTop (mkF m 134 #[.val (.int p0), .val (.int p1), .val (.int p2), .val (.int p3), .val (.long q4), .second, .val (.long q5), .second, .val (.ref b1), .unset, .unset, .unset, .unset, .unset, .unset] [(.long (255 : Int64)), (.long q5), (.int (8 : Int32)), (.ref b1)])) ?_ (fun tX kX => X9.ldc2Long hx hown (mvT hZ (hw _ (List.mem_of_getElem? (i := 1) rfl))) (g := (mkF m 131 #[.val (.int p0), .val (.int p1), .val (.int p2), .val (.int p3), .val (.long q4), .second, .val (.long q5), .second, .val (.ref b1), .unset, .unset, .unset, .unset, .unset, .unset] [(.long q5), (.int (8 : Int32)), (.ref b1)])) rfl (hb hby at_131) _ kX)
  refine OGo.go (B := T9.setTop (mkF m 135 #[.val (.int p0), .val (.int p1), .val (.int p2), .val (.int p3), .val (.long q4), .second, .val (.long q5), .second, .val (.ref b1), .unset, .unset, .unset, .unset, .unset, .unset] [(.long (q5 &&& (255 : Int64))), (.int (8 : Int32)), (.ref b1)])) ?_ (fun tX kX => XS.land X9.here hx rfl (hb hby at_134) rfl kX)
  refine OGo.go (B := T9.setTop (mkF m 136 #[.val (.int p0), .val (.int p1), .val (.int p2), .val (.int p3), .val (.long q4), .second, .val (.long q5), .second, .val (.ref b1), .unset, .unset, .unset, .unset, .unset, .unset] [(.int ((q5 &&& (255 : Int64)).toInt32)), (.int (8 : Int32)), (.ref b1)])) ?_ (fun tX kX => XS.l2i X9.here hx rfl (hb hby at_135) rfl kX)
  refine OGo.go (B := T9.setTop (mkF m 137 #[.val (.int p0), .val (.int p1), .val (.int p2), .val (.int p3), .val (.long q4), .second, .val (.long q5), .second, .val (.ref b1), .unset, .unset, .unset, .unset, .unset, .unset] [(.int (((q5 &&& (255 : Int64)).toInt32).toUInt32.toUInt16.toUInt32.toInt32)), (.int (8 : Int32)), (.ref b1)])) ?_ (fun tX kX => XS.i2c X9.here hx rfl (hb hby at_136) rfl kX)
  obtain ⟨cl10, Ar10, qa10, S10, N10', H10, G10⟩ := id V_b1
  have hin10 := inb_of (j := (8 : Int32)) S10 ⟨by decide, by decide⟩
  obtain ⟨T10, h10, X10, e10, W10, st10⟩ := stC X9 hx hZ e9 Ar10 (j := (8 : Int32)) hin10 (g := (mkF m 137 #[.val (.int p0), .val (.int p1), .val (.int p2), .val (.int p3), .val (.long q4), .second, .val (.long q5), .second, .val (.ref b1), .unset, .unset, .unset, .unset, .unset, .unset] [(.int (((q5 &&& (255 : Int64)).toInt32).toUInt32.toUInt16.toUInt32.toInt32)), (.int (8 : Int32)), (.ref b1)])) rfl rfl (hb hby at_137)
  have V_b1_10 := Arv.set Ar10 qa10 S10 N10' H10 G10 (fits_nar_char _) W10 8 rfl (Nat.le_of_ble_eq_true rfl)
  have Sfo10 := (Safe.arr (EL := own_EL) hZ.alike Ar10 (by decide))
  have CHo10 := hCH
  have Sf_b1 := Safe.wr W10 Sfo10 CHo10 Sf_b1
  have hCH := CHv.wr W10 Sfo10 CHo10
  have S_VAL := S_VAL.wr W10
  have E_uv := E_uv.wr W10
  have V_uv := V_uv.other W10 ne_uv_b1
  have F_wireName_m0 := F_wireName_m0.other W10 (Or.inl ne_m0_b1)
  have F_wireName_m1 := F_wireName_m1.other W10 (Or.inl ne_m1_b1)
  have E_w0 := E_w0.wr W10
  have F_value_w0 := F_value_w0.other W10 (Or.inl ne_w0_b1)
  have F_coder_w0 := F_coder_w0.other W10 (Or.inl ne_w0_b1)
  have V_v0 := V_v0.other W10 ne_v0_b1
  have E_w1 := E_w1.wr W10
  have F_value_w1 := F_value_w1.other W10 (Or.inl ne_w1_b1)
  have F_coder_w1 := F_coder_w1.other W10 (Or.inl ne_w1_b1)
  have V_v1 := V_v1.other W10 ne_v1_b1
  have S_SCRAM_SHA_1 := S_SCRAM_SHA_1.wr W10
  have S_PLAIN := S_PLAIN.wr W10
  have S_COMPACT_STRINGS := S_COMPACT_STRINGS.wr W10
  have E_b1 := E_b1.wr W10
  have K10 := K9.wr W10 (Or.inr sz_b1)
  have zn10 : n0 ≤ h10.size := Nat.le_trans zn9 (Keep.of_wr W10).1
  have hk10 := Nat.le_trans hk9 (Keep.of_wr W10).1
  have N10 := Fr.snoc X10 N9 g_b1
  have V_b1 : Arv Z h10 b1 k1 .char (12 : Int32) [(.int ((((q4 &&& (255 : Int64)).toInt32).toUInt32.toUInt16.toUInt32.toInt32).toUInt32.toUInt16.toUInt32.toInt32)), (.int ((((((q4.toUInt64 >>> ((8 : Int32) &&& 0x3f).toInt64.toUInt64).toInt64) &&& (255 : Int64)).toInt32).toUInt32.toUInt16.toUInt32.toInt32).toUInt32.toUInt16.toUInt32.toInt32)), (.int ((((((q4.toUInt64 >>> ((16 : Int32) &&& 0x3f).toInt64.toUInt64).toInt64) &&& (255 : Int64)).toInt32).toUInt32.toUInt16.toUInt32.toInt32).toUInt32.toUInt16.toUInt32.toInt32)), (.int ((((((q4.toUInt64 >>> ((24 : Int32) &&& 0x3f).toInt64.toUInt64).toInt64) &&& (255 : Int64)).toInt32).toUInt32.toUInt16.toUInt32.toInt32).toUInt32.toUInt16.toUInt32.toInt32)), (.int ((((((q4.toUInt64 >>> ((32 : Int32) &&& 0x3f).toInt64.toUInt64).toInt64) &&& (255 : Int64)).toInt32).toUInt32.toUInt16.toUInt32.toInt32).toUInt32.toUInt16.toUInt32.toInt32)), (.int ((((((q4.toUInt64 >>> ((40 : Int32) &&& 0x3f).toInt64.toUInt64).toInt64) &&& (255 : Int64)).toInt32).toUInt32.toUInt16.toUInt32.toInt32).toUInt32.toUInt16.toUInt32.toInt32)), (.int ((((((q4.toUInt64 >>> ((48 : Int32) &&& 0x3f).toInt64.toUInt64).toInt64) &&& (255 : Int64)).toInt32).toUInt32.toUInt16.toUInt32.toInt32).toUInt32.toUInt16.toUInt32.toInt32)), (.int ((((((q4.toUInt64 >>> ((56 : Int32) &&& 0x3f).toInt64.toUInt64).toInt64) &&& (255 : Int64)).toInt32).toUInt32.toUInt16.toUInt32.toInt32).toUInt32.toUInt16.toUInt32.toInt32)), (.int ((((q5 &&& (255 : Int64)).toInt32).toUInt32.toUInt16.toUInt32.toInt32).toUInt32.toUInt16.toUInt32.toInt32)), (.int (0 : Int32)), (.int (0 : Int32)), (.int (0 : Int32))] (.int (0 : Int32)) := V_b1_10
  refine OGo.go (B := T10.setTop (mkF m 138 #[.val (.int p0), .val (.int p1), .val (.int p2), .val (.int p3), .val (.long q4), .second, .val (.long q5), .second, .val (.ref b1), .unset, .unset, .unset, .unset, .unset, .unset] [])) ?_ st10
  refine OGo.go (B := T10.setTop (mkF m 140 #[.val (.int p0), .val (.int p1), .val (.int p2), .val (.int p3), .val (.long q4), .second, .val (.long q5), .second, .val (.ref b1), .unset, .unset, .unset, .unset, .unset, .unset] [(.ref b1)])) ?_ (fun tX kX => XS.aload X10.here hx rfl (hb hby at_138) rfl rfl kX)
  refine OGo.go (B := T10.setTop (mkF m 142 #[.val (.int p0), .val (.int p1), .val (.int p2), .val (.int p3), .val (.long q4), .second, .val (.long q5), .second, .val (.ref b1), .unset, .unset, .unset, .unset, .unset, .unset] [(.int (9 : Int32)), (.ref b1)])) ?_ (fun tX kX => XS.bipush X10.here hx rfl (hb hby at_140) kX)
  refine OGo.go (B := T10.setTop (mkF m 144 #[.val (.int p0), .val (.int p1), .val (.int p2), .val (.int p3), .val (.long q4), .second, .val (.long q5), .second, .val (.ref b1), .unset, .unset, .unset, .unset, .unset, .unset] [(.long q5), (.int (9 : Int32)), (.ref b1)])) ?_ (fun tX kX => XS.lload X10.here hx rfl (hb hby at_142) rfl kX)
  refine OGo.go (B := T10.setTop (mkF m 146 #[.val (.int p0), .val (.int p1), .val (.int p2), .val (.int p3), .val (.long q4), .second, .val (.long q5), .second, .val (.ref b1), .unset, .unset, .unset, .unset, .unset, .unset] [(.int (8 : Int32)), (.long q5), (.int (9 : Int32)), (.ref b1)])) ?_ (fun tX kX => XS.bipush X10.here hx rfl (hb hby at_144) kX)
  refine OGo.go (B := T10.setTop (mkF m 147 #[.val (.int p0), .val (.int p1), .val (.int p2), .val (.int p3), .val (.long q4), .second, .val (.long q5), .second, .val (.ref b1), .unset, .unset, .unset, .unset, .unset, .unset] [(.long ((q5.toUInt64 >>> ((8 : Int32) &&& 0x3f).toInt64.toUInt64).toInt64)), (.int (9 : Int32)), (.ref b1)])) ?_ (fun tX kX => XS.lushr X10.here hx rfl (hb hby at_146) rfl kX)
  refine OGo.go (B := T10.setTop (mkF m 150 #[.val (.int p0), .val (.int p1), .val (.int p2), .val (.int p3), .val (.long q4), .second, .val (.long q5), .second, .val (.ref b1), .unset, .unset, .unset, .unset, .unset, .unset] [(.long (255 : Int64)), (.long ((q5.toUInt64 >>> ((8 : Int32) &&& 0x3f).toInt64.toUInt64).toInt64)), (.int (9 : Int32)), (.ref b1)])) ?_ (fun tX kX => X10.ldc2Long hx hown (mvT hZ (hw _ (List.mem_of_getElem? (i := 1) rfl))) (g := (mkF m 147 #[.val (.int p0), .val (.int p1), .val (.int p2), .val (.int p3), .val (.long q4), .second, .val (.long q5), .second, .val (.ref b1), .unset, .unset, .unset, .unset, .unset, .unset] [(.long ((q5.toUInt64 >>> ((8 : Int32) &&& 0x3f).toInt64.toUInt64).toInt64)), (.int (9 : Int32)), (.ref b1)])) rfl (hb hby at_147) _ kX)
  refine OGo.go (B := T10.setTop (mkF m 151 #[.val (.int p0), .val (.int p1), .val (.int p2), .val (.int p3), .val (.long q4), .second, .val (.long q5), .second, .val (.ref b1), .unset, .unset, .unset, .unset, .unset, .unset] [(.long (((q5.toUInt64 >>> ((8 : Int32) &&& 0x3f).toInt64.toUInt64).toInt64) &&& (255 : Int64))), (.int (9 : Int32)), (.ref b1)])) ?_ (fun tX kX => XS.land X10.here hx rfl (hb hby at_150) rfl kX)
  refine OGo.go (B := T10.setTop (mkF m 152 #[.val (.int p0), .val (.int p1), .val (.int p2), .val (.int p3), .val (.long q4), .second, .val (.long q5), .second, .val (.ref b1), .unset, .unset, .unset, .unset, .unset, .unset] [(.int ((((q5.toUInt64 >>> ((8 : Int32) &&& 0x3f).toInt64.toUInt64).toInt64) &&& (255 : Int64)).toInt32)), (.int (9 : Int32)), (.ref b1)])) ?_ (fun tX kX => XS.l2i X10.here hx rfl (hb hby at_151) rfl kX)
  refine OGo.go (B := T10.setTop (mkF m 153 #[.val (.int p0), .val (.int p1), .val (.int p2), .val (.int p3), .val (.long q4), .second, .val (.long q5), .second, .val (.ref b1), .unset, .unset, .unset, .unset, .unset, .unset] [(.int (((((q5.toUInt64 >>> ((8 : Int32) &&& 0x3f).toInt64.toUInt64).toInt64) &&& (255 : Int64)).toInt32).toUInt32.toUInt16.toUInt32.toInt32)), (.int (9 : Int32)), (.ref b1)])) ?_ (fun tX kX => XS.i2c X10.here hx rfl (hb hby at_152) rfl kX)
  obtain ⟨cl11, Ar11, qa11, S11, N11', H11, G11⟩ := id V_b1
  have hin11 := inb_of (j := (9 : Int32)) S11 ⟨by decide, by decide⟩
  obtain ⟨T11, h11, X11, e11, W11, st11⟩ := stC X10 hx hZ e10 Ar11 (j := (9 : Int32)) hin11 (g := (mkF m 153 #[.val (.int p0), .val (.int p1), .val (.int p2), .val (.int p3), .val (.long q4), .second, .val (.long q5), .second, .val (.ref b1), .unset, .unset, .unset, .unset, .unset, .unset] [(.int (((((q5.toUInt64 >>> ((8 : Int32) &&& 0x3f).toInt64.toUInt64).toInt64) &&& (255 : Int64)).toInt32).toUInt32.toUInt16.toUInt32.toInt32)), (.int (9 : Int32)), (.ref b1)])) rfl rfl (hb hby at_153)
  have V_b1_11 := Arv.set Ar11 qa11 S11 N11' H11 G11 (fits_nar_char _) W11 9 rfl (Nat.le_of_ble_eq_true rfl)
  have Sfo11 := (Safe.arr (EL := own_EL) hZ.alike Ar11 (by decide))
  have CHo11 := hCH
  have Sf_b1 := Safe.wr W11 Sfo11 CHo11 Sf_b1
  have hCH := CHv.wr W11 Sfo11 CHo11
  have S_VAL := S_VAL.wr W11
  have E_uv := E_uv.wr W11
  have V_uv := V_uv.other W11 ne_uv_b1
  have F_wireName_m0 := F_wireName_m0.other W11 (Or.inl ne_m0_b1)
  have F_wireName_m1 := F_wireName_m1.other W11 (Or.inl ne_m1_b1)
  have E_w0 := E_w0.wr W11
  have F_value_w0 := F_value_w0.other W11 (Or.inl ne_w0_b1)
  have F_coder_w0 := F_coder_w0.other W11 (Or.inl ne_w0_b1)
  have V_v0 := V_v0.other W11 ne_v0_b1
  have E_w1 := E_w1.wr W11
  have F_value_w1 := F_value_w1.other W11 (Or.inl ne_w1_b1)
  have F_coder_w1 := F_coder_w1.other W11 (Or.inl ne_w1_b1)
  have V_v1 := V_v1.other W11 ne_v1_b1
  have S_SCRAM_SHA_1 := S_SCRAM_SHA_1.wr W11
  have S_PLAIN := S_PLAIN.wr W11
  have S_COMPACT_STRINGS := S_COMPACT_STRINGS.wr W11
  have E_b1 := E_b1.wr W11
  have K11 := K10.wr W11 (Or.inr sz_b1)
  have zn11 : n0 ≤ h11.size := Nat.le_trans zn10 (Keep.of_wr W11).1
  have hk11 := Nat.le_trans hk10 (Keep.of_wr W11).1
  have N11 := Fr.snoc X11 N10 g_b1
  have V_b1 : Arv Z h11 b1 k1 .char (12 : Int32) [(.int ((((q4 &&& (255 : Int64)).toInt32).toUInt32.toUInt16.toUInt32.toInt32).toUInt32.toUInt16.toUInt32.toInt32)), (.int ((((((q4.toUInt64 >>> ((8 : Int32) &&& 0x3f).toInt64.toUInt64).toInt64) &&& (255 : Int64)).toInt32).toUInt32.toUInt16.toUInt32.toInt32).toUInt32.toUInt16.toUInt32.toInt32)), (.int ((((((q4.toUInt64 >>> ((16 : Int32) &&& 0x3f).toInt64.toUInt64).toInt64) &&& (255 : Int64)).toInt32).toUInt32.toUInt16.toUInt32.toInt32).toUInt32.toUInt16.toUInt32.toInt32)), (.int ((((((q4.toUInt64 >>> ((24 : Int32) &&& 0x3f).toInt64.toUInt64).toInt64) &&& (255 : Int64)).toInt32).toUInt32.toUInt16.toUInt32.toInt32).toUInt32.toUInt16.toUInt32.toInt32)), (.int ((((((q4.toUInt64 >>> ((32 : Int32) &&& 0x3f).toInt64.toUInt64).toInt64) &&& (255 : Int64)).toInt32).toUInt32.toUInt16.toUInt32.toInt32).toUInt32.toUInt16.toUInt32.toInt32)), (.int ((((((q4.toUInt64 >>> ((40 : Int32) &&& 0x3f).toInt64.toUInt64).toInt64) &&& (255 : Int64)).toInt32).toUInt32.toUInt16.toUInt32.toInt32).toUInt32.toUInt16.toUInt32.toInt32)), (.int ((((((q4.toUInt64 >>> ((48 : Int32) &&& 0x3f).toInt64.toUInt64).toInt64) &&& (255 : Int64)).toInt32).toUInt32.toUInt16.toUInt32.toInt32).toUInt32.toUInt16.toUInt32.toInt32)), (.int ((((((q4.toUInt64 >>> ((56 : Int32) &&& 0x3f).toInt64.toUInt64).toInt64) &&& (255 : Int64)).toInt32).toUInt32.toUInt16.toUInt32.toInt32).toUInt32.toUInt16.toUInt32.toInt32)), (.int ((((q5 &&& (255 : Int64)).toInt32).toUInt32.toUInt16.toUInt32.toInt32).toUInt32.toUInt16.toUInt32.toInt32)), (.int ((((((q5.toUInt64 >>> ((8 : Int32) &&& 0x3f).toInt64.toUInt64).toInt64) &&& (255 : Int64)).toInt32).toUInt32.toUInt16.toUInt32.toInt32).toUInt32.toUInt16.toUInt32.toInt32)), (.int (0 : Int32)), (.int (0 : Int32))] (.int (0 : Int32)) := V_b1_11
  refine OGo.go (B := T11.setTop (mkF m 154 #[.val (.int p0), .val (.int p1), .val (.int p2), .val (.int p3), .val (.long q4), .second, .val (.long q5), .second, .val (.ref b1), .unset, .unset, .unset, .unset, .unset, .unset] [])) ?_ st11
  refine OGo.go (B := T11.setTop (mkF m 156 #[.val (.int p0), .val (.int p1), .val (.int p2), .val (.int p3), .val (.long q4), .second, .val (.long q5), .second, .val (.ref b1), .unset, .unset, .unset, .unset, .unset, .unset] [(.ref b1)])) ?_ (fun tX kX => XS.aload X11.here hx rfl (hb hby at_154) rfl rfl kX)
  refine OGo.go (B := T11.setTop (mkF m 158 #[.val (.int p0), .val (.int p1), .val (.int p2), .val (.int p3), .val (.long q4), .second, .val (.long q5), .second, .val (.ref b1), .unset, .unset, .unset, .unset, .unset, .unset] [(.int (10 : Int32)), (.ref b1)])) ?_ (fun tX kX => XS.bipush X11.here hx rfl (hb hby at_156) kX)
  refine OGo.go (B := T11.setTop (mkF m 160 #[.val (.int p0), .val (.int p1), .val (.int p2), .val (.int p3), .val (.long q4), .second, .val (.long q5), .second, .val (.ref b1), .unset, .unset, .unset, .unset, .unset, .unset] [(.long q5), (.int (10 : Int32)), (.ref b1)])) ?_ (fun tX kX => XS.lload X11.here hx rfl (hb hby at_158) rfl kX)
  refine OGo.go (B := T11.setTop (mkF m 162 #[.val (.int p0), .val (.int p1), .val (.int p2), .val (.int p3), .val (.long q4), .second, .val (.long q5), .second, .val (.ref b1), .unset, .unset, .unset, .unset, .unset, .unset] [(.int (16 : Int32)), (.long q5), (.int (10 : Int32)), (.ref b1)])) ?_ (fun tX kX => XS.bipush X11.here hx rfl (hb hby at_160) kX)
  refine OGo.go (B := T11.setTop (mkF m 163 #[.val (.int p0), .val (.int p1), .val (.int p2), .val (.int p3), .val (.long q4), .second, .val (.long q5), .second, .val (.ref b1), .unset, .unset, .unset, .unset, .unset, .unset] [(.long ((q5.toUInt64 >>> ((16 : Int32) &&& 0x3f).toInt64.toUInt64).toInt64)), (.int (10 : Int32)), (.ref b1)])) ?_ (fun tX kX => XS.lushr X11.here hx rfl (hb hby at_162) rfl kX)
  refine OGo.go (B := T11.setTop (mkF m 166 #[.val (.int p0), .val (.int p1), .val (.int p2), .val (.int p3), .val (.long q4), .second, .val (.long q5), .second, .val (.ref b1), .unset, .unset, .unset, .unset, .unset, .unset] [(.long (255 : Int64)), (.long ((q5.toUInt64 >>> ((16 : Int32) &&& 0x3f).toInt64.toUInt64).toInt64)), (.int (10 : Int32)), (.ref b1)])) ?_ (fun tX kX => X11.ldc2Long hx hown (mvT hZ (hw _ (List.mem_of_getElem? (i := 1) rfl))) (g := (mkF m 163 #[.val (.int p0), .val (.int p1), .val (.int p2), .val (.int p3), .val (.long q4), .second, .val (.long q5), .second, .val (.ref b1), .unset, .unset, .unset, .unset, .unset, .unset] [(.long ((q5.toUInt64 >>> ((16 : Int32) &&& 0x3f).toInt64.toUInt64).toInt64)), (.int (10 : Int32)), (.ref b1)])) rfl (hb hby at_163) _ kX)
  refine OGo.go (B := T11.setTop (mkF m 167 #[.val (.int p0), .val (.int p1), .val (.int p2), .val (.int p3), .val (.long q4), .second, .val (.long q5), .second, .val (.ref b1), .unset, .unset, .unset, .unset, .unset, .unset] [(.long (((q5.toUInt64 >>> ((16 : Int32) &&& 0x3f).toInt64.toUInt64).toInt64) &&& (255 : Int64))), (.int (10 : Int32)), (.ref b1)])) ?_ (fun tX kX => XS.land X11.here hx rfl (hb hby at_166) rfl kX)
  refine OGo.go (B := T11.setTop (mkF m 168 #[.val (.int p0), .val (.int p1), .val (.int p2), .val (.int p3), .val (.long q4), .second, .val (.long q5), .second, .val (.ref b1), .unset, .unset, .unset, .unset, .unset, .unset] [(.int ((((q5.toUInt64 >>> ((16 : Int32) &&& 0x3f).toInt64.toUInt64).toInt64) &&& (255 : Int64)).toInt32)), (.int (10 : Int32)), (.ref b1)])) ?_ (fun tX kX => XS.l2i X11.here hx rfl (hb hby at_167) rfl kX)
  refine OGo.go (B := T11.setTop (mkF m 169 #[.val (.int p0), .val (.int p1), .val (.int p2), .val (.int p3), .val (.long q4), .second, .val (.long q5), .second, .val (.ref b1), .unset, .unset, .unset, .unset, .unset, .unset] [(.int (((((q5.toUInt64 >>> ((16 : Int32) &&& 0x3f).toInt64.toUInt64).toInt64) &&& (255 : Int64)).toInt32).toUInt32.toUInt16.toUInt32.toInt32)), (.int (10 : Int32)), (.ref b1)])) ?_ (fun tX kX => XS.i2c X11.here hx rfl (hb hby at_168) rfl kX)
  obtain ⟨cl12, Ar12, qa12, S12, N12', H12, G12⟩ := id V_b1
  have hin12 := inb_of (j := (10 : Int32)) S12 ⟨by decide, by decide⟩
  obtain ⟨T12, h12, X12, e12, W12, st12⟩ := stC X11 hx hZ e11 Ar12 (j := (10 : Int32)) hin12 (g := (mkF m 169 #[.val (.int p0), .val (.int p1), .val (.int p2), .val (.int p3), .val (.long q4), .second, .val (.long q5), .second, .val (.ref b1), .unset, .unset, .unset, .unset, .unset, .unset] [(.int (((((q5.toUInt64 >>> ((16 : Int32) &&& 0x3f).toInt64.toUInt64).toInt64) &&& (255 : Int64)).toInt32).toUInt32.toUInt16.toUInt32.toInt32)), (.int (10 : Int32)), (.ref b1)])) rfl rfl (hb hby at_169)
  have V_b1_12 := Arv.set Ar12 qa12 S12 N12' H12 G12 (fits_nar_char _) W12 10 rfl (Nat.le_of_ble_eq_true rfl)
  have Sfo12 := (Safe.arr (EL := own_EL) hZ.alike Ar12 (by decide))
  have CHo12 := hCH
  have Sf_b1 := Safe.wr W12 Sfo12 CHo12 Sf_b1
  have hCH := CHv.wr W12 Sfo12 CHo12
  have S_VAL := S_VAL.wr W12
  have E_uv := E_uv.wr W12
  have V_uv := V_uv.other W12 ne_uv_b1
  have F_wireName_m0 := F_wireName_m0.other W12 (Or.inl ne_m0_b1)
  have F_wireName_m1 := F_wireName_m1.other W12 (Or.inl ne_m1_b1)
  have E_w0 := E_w0.wr W12
  have F_value_w0 := F_value_w0.other W12 (Or.inl ne_w0_b1)
  have F_coder_w0 := F_coder_w0.other W12 (Or.inl ne_w0_b1)
  have V_v0 := V_v0.other W12 ne_v0_b1
  have E_w1 := E_w1.wr W12
  have F_value_w1 := F_value_w1.other W12 (Or.inl ne_w1_b1)
  have F_coder_w1 := F_coder_w1.other W12 (Or.inl ne_w1_b1)
  have V_v1 := V_v1.other W12 ne_v1_b1
  have S_SCRAM_SHA_1 := S_SCRAM_SHA_1.wr W12
  have S_PLAIN := S_PLAIN.wr W12
  have S_COMPACT_STRINGS := S_COMPACT_STRINGS.wr W12
  have E_b1 := E_b1.wr W12
  have K12 := K11.wr W12 (Or.inr sz_b1)
  have zn12 : n0 ≤ h12.size := Nat.le_trans zn11 (Keep.of_wr W12).1
  have hk12 := Nat.le_trans hk11 (Keep.of_wr W12).1
  have N12 := Fr.snoc X12 N11 g_b1
  have V_b1 : Arv Z h12 b1 k1 .char (12 : Int32) [(.int ((((q4 &&& (255 : Int64)).toInt32).toUInt32.toUInt16.toUInt32.toInt32).toUInt32.toUInt16.toUInt32.toInt32)), (.int ((((((q4.toUInt64 >>> ((8 : Int32) &&& 0x3f).toInt64.toUInt64).toInt64) &&& (255 : Int64)).toInt32).toUInt32.toUInt16.toUInt32.toInt32).toUInt32.toUInt16.toUInt32.toInt32)), (.int ((((((q4.toUInt64 >>> ((16 : Int32) &&& 0x3f).toInt64.toUInt64).toInt64) &&& (255 : Int64)).toInt32).toUInt32.toUInt16.toUInt32.toInt32).toUInt32.toUInt16.toUInt32.toInt32)), (.int ((((((q4.toUInt64 >>> ((24 : Int32) &&& 0x3f).toInt64.toUInt64).toInt64) &&& (255 : Int64)).toInt32).toUInt32.toUInt16.toUInt32.toInt32).toUInt32.toUInt16.toUInt32.toInt32)), (.int ((((((q4.toUInt64 >>> ((32 : Int32) &&& 0x3f).toInt64.toUInt64).toInt64) &&& (255 : Int64)).toInt32).toUInt32.toUInt16.toUInt32.toInt32).toUInt32.toUInt16.toUInt32.toInt32)), (.int ((((((q4.toUInt64 >>> ((40 : Int32) &&& 0x3f).toInt64.toUInt64).toInt64) &&& (255 : Int64)).toInt32).toUInt32.toUInt16.toUInt32.toInt32).toUInt32.toUInt16.toUInt32.toInt32)), (.int ((((((q4.toUInt64 >>> ((48 : Int32) &&& 0x3f).toInt64.toUInt64).toInt64) &&& (255 : Int64)).toInt32).toUInt32.toUInt16.toUInt32.toInt32).toUInt32.toUInt16.toUInt32.toInt32)), (.int ((((((q4.toUInt64 >>> ((56 : Int32) &&& 0x3f).toInt64.toUInt64).toInt64) &&& (255 : Int64)).toInt32).toUInt32.toUInt16.toUInt32.toInt32).toUInt32.toUInt16.toUInt32.toInt32)), (.int ((((q5 &&& (255 : Int64)).toInt32).toUInt32.toUInt16.toUInt32.toInt32).toUInt32.toUInt16.toUInt32.toInt32)), (.int ((((((q5.toUInt64 >>> ((8 : Int32) &&& 0x3f).toInt64.toUInt64).toInt64) &&& (255 : Int64)).toInt32).toUInt32.toUInt16.toUInt32.toInt32).toUInt32.toUInt16.toUInt32.toInt32)), (.int ((((((q5.toUInt64 >>> ((16 : Int32) &&& 0x3f).toInt64.toUInt64).toInt64) &&& (255 : Int64)).toInt32).toUInt32.toUInt16.toUInt32.toInt32).toUInt32.toUInt16.toUInt32.toInt32)), (.int (0 : Int32))] (.int (0 : Int32)) := V_b1_12
  refine OGo.go (B := T12.setTop (mkF m 170 #[.val (.int p0), .val (.int p1), .val (.int p2), .val (.int p3), .val (.long q4), .second, .val (.long q5), .second, .val (.ref b1), .unset, .unset, .unset, .unset, .unset, .unset] [])) ?_ st12
  refine OGo.go (B := T12.setTop (mkF m 172 #[.val (.int p0), .val (.int p1), .val (.int p2), .val (.int p3), .val (.long q4), .second, .val (.long q5), .second, .val (.ref b1), .unset, .unset, .unset, .unset, .unset, .unset] [(.ref b1)])) ?_ (fun tX kX => XS.aload X12.here hx rfl (hb hby at_170) rfl rfl kX)
  refine OGo.go (B := T12.setTop (mkF m 174 #[.val (.int p0), .val (.int p1), .val (.int p2), .val (.int p3), .val (.long q4), .second, .val (.long q5), .second, .val (.ref b1), .unset, .unset, .unset, .unset, .unset, .unset] [(.int (11 : Int32)), (.ref b1)])) ?_ (fun tX kX => XS.bipush X12.here hx rfl (hb hby at_172) kX)
  refine OGo.go (B := T12.setTop (mkF m 176 #[.val (.int p0), .val (.int p1), .val (.int p2), .val (.int p3), .val (.long q4), .second, .val (.long q5), .second, .val (.ref b1), .unset, .unset, .unset, .unset, .unset, .unset] [(.long q5), (.int (11 : Int32)), (.ref b1)])) ?_ (fun tX kX => XS.lload X12.here hx rfl (hb hby at_174) rfl kX)
  refine OGo.go (B := T12.setTop (mkF m 178 #[.val (.int p0), .val (.int p1), .val (.int p2), .val (.int p3), .val (.long q4), .second, .val (.long q5), .second, .val (.ref b1), .unset, .unset, .unset, .unset, .unset, .unset] [(.int (24 : Int32)), (.long q5), (.int (11 : Int32)), (.ref b1)])) ?_ (fun tX kX => XS.bipush X12.here hx rfl (hb hby at_176) kX)
  refine OGo.go (B := T12.setTop (mkF m 179 #[.val (.int p0), .val (.int p1), .val (.int p2), .val (.int p3), .val (.long q4), .second, .val (.long q5), .second, .val (.ref b1), .unset, .unset, .unset, .unset, .unset, .unset] [(.long ((q5.toUInt64 >>> ((24 : Int32) &&& 0x3f).toInt64.toUInt64).toInt64)), (.int (11 : Int32)), (.ref b1)])) ?_ (fun tX kX => XS.lushr X12.here hx rfl (hb hby at_178) rfl kX)
  refine OGo.go (B := T12.setTop (mkF m 182 #[.val (.int p0), .val (.int p1), .val (.int p2), .val (.int p3), .val (.long q4), .second, .val (.long q5), .second, .val (.ref b1), .unset, .unset, .unset, .unset, .unset, .unset] [(.long (255 : Int64)), (.long ((q5.toUInt64 >>> ((24 : Int32) &&& 0x3f).toInt64.toUInt64).toInt64)), (.int (11 : Int32)), (.ref b1)])) ?_ (fun tX kX => X12.ldc2Long hx hown (mvT hZ (hw _ (List.mem_of_getElem? (i := 1) rfl))) (g := (mkF m 179 #[.val (.int p0), .val (.int p1), .val (.int p2), .val (.int p3), .val (.long q4), .second, .val (.long q5), .second, .val (.ref b1), .unset, .unset, .unset, .unset, .unset, .unset] [(.long ((q5.toUInt64 >>> ((24 : Int32) &&& 0x3f).toInt64.toUInt64).toInt64)), (.int (11 : Int32)), (.ref b1)])) rfl (hb hby at_179) _ kX)
  refine OGo.go (B := T12.setTop (mkF m 183 #[.val (.int p0), .val (.int p1), .val (.int p2), .val (.int p3), .val (.long q4), .second, .val (.long q5), .second, .val (.ref b1), .unset, .unset, .unset, .unset, .unset, .unset] [(.long (((q5.toUInt64 >>> ((24 : Int32) &&& 0x3f).toInt64.toUInt64).toInt64) &&& (255 : Int64))), (.int (11 : Int32)), (.ref b1)])) ?_ (fun tX kX => XS.land X12.here hx rfl (hb hby at_182) rfl kX)
  refine OGo.go (B := T12.setTop (mkF m 184 #[.val (.int p0), .val (.int p1), .val (.int p2), .val (.int p3), .val (.long q4), .second, .val (.long q5), .second, .val (.ref b1), .unset, .unset, .unset, .unset, .unset, .unset] [(.int ((((q5.toUInt64 >>> ((24 : Int32) &&& 0x3f).toInt64.toUInt64).toInt64) &&& (255 : Int64)).toInt32)), (.int (11 : Int32)), (.ref b1)])) ?_ (fun tX kX => XS.l2i X12.here hx rfl (hb hby at_183) rfl kX)
  refine OGo.go (B := T12.setTop (mkF m 185 #[.val (.int p0), .val (.int p1), .val (.int p2), .val (.int p3), .val (.long q4), .second, .val (.long q5), .second, .val (.ref b1), .unset, .unset, .unset, .unset, .unset, .unset] [(.int (((((q5.toUInt64 >>> ((24 : Int32) &&& 0x3f).toInt64.toUInt64).toInt64) &&& (255 : Int64)).toInt32).toUInt32.toUInt16.toUInt32.toInt32)), (.int (11 : Int32)), (.ref b1)])) ?_ (fun tX kX => XS.i2c X12.here hx rfl (hb hby at_184) rfl kX)
  obtain ⟨cl13, Ar13, qa13, S13, N13', H13, G13⟩ := id V_b1
  have hin13 := inb_of (j := (11 : Int32)) S13 ⟨by decide, by decide⟩
  obtain ⟨T13, h13, X13, e13, W13, st13⟩ := stC X12 hx hZ e12 Ar13 (j := (11 : Int32)) hin13 (g := (mkF m 185 #[.val (.int p0), .val (.int p1), .val (.int p2), .val (.int p3), .val (.long q4), .second, .val (.long q5), .second, .val (.ref b1), .unset, .unset, .unset, .unset, .unset, .unset] [(.int (((((q5.toUInt64 >>> ((24 : Int32) &&& 0x3f).toInt64.toUInt64).toInt64) &&& (255 : Int64)).toInt32).toUInt32.toUInt16.toUInt32.toInt32)), (.int (11 : Int32)), (.ref b1)])) rfl rfl (hb hby at_185)
  have V_b1_13 := Arv.set Ar13 qa13 S13 N13' H13 G13 (fits_nar_char _) W13 11 rfl (Nat.le_of_ble_eq_true rfl)
  have Sfo13 := (Safe.arr (EL := own_EL) hZ.alike Ar13 (by decide))
  have CHo13 := hCH
  have Sf_b1 := Safe.wr W13 Sfo13 CHo13 Sf_b1
  have hCH := CHv.wr W13 Sfo13 CHo13
  have S_VAL := S_VAL.wr W13
  have E_uv := E_uv.wr W13
  have V_uv := V_uv.other W13 ne_uv_b1
  have F_wireName_m0 := F_wireName_m0.other W13 (Or.inl ne_m0_b1)
  have F_wireName_m1 := F_wireName_m1.other W13 (Or.inl ne_m1_b1)
  have E_w0 := E_w0.wr W13
  have F_value_w0 := F_value_w0.other W13 (Or.inl ne_w0_b1)
  have F_coder_w0 := F_coder_w0.other W13 (Or.inl ne_w0_b1)
  have V_v0 := V_v0.other W13 ne_v0_b1
  have E_w1 := E_w1.wr W13
  have F_value_w1 := F_value_w1.other W13 (Or.inl ne_w1_b1)
  have F_coder_w1 := F_coder_w1.other W13 (Or.inl ne_w1_b1)
  have V_v1 := V_v1.other W13 ne_v1_b1
  have S_SCRAM_SHA_1 := S_SCRAM_SHA_1.wr W13
  have S_PLAIN := S_PLAIN.wr W13
  have S_COMPACT_STRINGS := S_COMPACT_STRINGS.wr W13
  have E_b1 := E_b1.wr W13
  have K13 := K12.wr W13 (Or.inr sz_b1)
  have zn13 : n0 ≤ h13.size := Nat.le_trans zn12 (Keep.of_wr W13).1
  have hk13 := Nat.le_trans hk12 (Keep.of_wr W13).1
  have N13 := Fr.snoc X13 N12 g_b1
  have V_b1 : Arv Z h13 b1 k1 .char (12 : Int32) [(.int ((((q4 &&& (255 : Int64)).toInt32).toUInt32.toUInt16.toUInt32.toInt32).toUInt32.toUInt16.toUInt32.toInt32)), (.int ((((((q4.toUInt64 >>> ((8 : Int32) &&& 0x3f).toInt64.toUInt64).toInt64) &&& (255 : Int64)).toInt32).toUInt32.toUInt16.toUInt32.toInt32).toUInt32.toUInt16.toUInt32.toInt32)), (.int ((((((q4.toUInt64 >>> ((16 : Int32) &&& 0x3f).toInt64.toUInt64).toInt64) &&& (255 : Int64)).toInt32).toUInt32.toUInt16.toUInt32.toInt32).toUInt32.toUInt16.toUInt32.toInt32)), (.int ((((((q4.toUInt64 >>> ((24 : Int32) &&& 0x3f).toInt64.toUInt64).toInt64) &&& (255 : Int64)).toInt32).toUInt32.toUInt16.toUInt32.toInt32).toUInt32.toUInt16.toUInt32.toInt32)), (.int ((((((q4.toUInt64 >>> ((32 : Int32) &&& 0x3f).toInt64.toUInt64).toInt64) &&& (255 : Int64)).toInt32).toUInt32.toUInt16.toUInt32.toInt32).toUInt32.toUInt16.toUInt32.toInt32)), (.int ((((((q4.toUInt64 >>> ((40 : Int32) &&& 0x3f).toInt64.toUInt64).toInt64) &&& (255 : Int64)).toInt32).toUInt32.toUInt16.toUInt32.toInt32).toUInt32.toUInt16.toUInt32.toInt32)), (.int ((((((q4.toUInt64 >>> ((48 : Int32) &&& 0x3f).toInt64.toUInt64).toInt64) &&& (255 : Int64)).toInt32).toUInt32.toUInt16.toUInt32.toInt32).toUInt32.toUInt16.toUInt32.toInt32)), (.int ((((((q4.toUInt64 >>> ((56 : Int32) &&& 0x3f).toInt64.toUInt64).toInt64) &&& (255 : Int64)).toInt32).toUInt32.toUInt16.toUInt32.toInt32).toUInt32.toUInt16.toUInt32.toInt32)), (.int ((((q5 &&& (255 : Int64)).toInt32).toUInt32.toUInt16.toUInt32.toInt32).toUInt32.toUInt16.toUInt32.toInt32)), (.int ((((((q5.toUInt64 >>> ((8 : Int32) &&& 0x3f).toInt64.toUInt64).toInt64) &&& (255 : Int64)).toInt32).toUInt32.toUInt16.toUInt32.toInt32).toUInt32.toUInt16.toUInt32.toInt32)), (.int ((((((q5.toUInt64 >>> ((16 : Int32) &&& 0x3f).toInt64.toUInt64).toInt64) &&& (255 : Int64)).toInt32).toUInt32.toUInt16.toUInt32.toInt32).toUInt32.toUInt16.toUInt32.toInt32)), (.int ((((((q5.toUInt64 >>> ((24 : Int32) &&& 0x3f).toInt64.toUInt64).toInt64) &&& (255 : Int64)).toInt32).toUInt32.toUInt16.toUInt32.toInt32).toUInt32.toUInt16.toUInt32.toInt32))] (.int (0 : Int32)) := V_b1_13
  refine OGo.go (B := T13.setTop (mkF m 186 #[.val (.int p0), .val (.int p1), .val (.int p2), .val (.int p3), .val (.long q4), .second, .val (.long q5), .second, .val (.ref b1), .unset, .unset, .unset, .unset, .unset, .unset] [])) ?_ st13
  refine OGo.go (B := T13.setTop (mkF m 187 #[.val (.int p0), .val (.int p1), .val (.int p2), .val (.int p3), .val (.long q4), .second, .val (.long q5), .second, .val (.ref b1), .unset, .unset, .unset, .unset, .unset, .unset] [(.int p0)])) ?_ (fun tX kX => XS.iloadN X13.here hx rfl (hb hby at_186) rfl kX)
  refine OGo.go (B := T13.setTop (mkF m 188 #[.val (.int p0), .val (.int p1), .val (.int p2), .val (.int p3), .val (.long q4), .second, .val (.long q5), .second, .val (.ref b1), .unset, .unset, .unset, .unset, .unset, .unset] [(.int (3 : Int32)), (.int p0)])) ?_ (fun tX kX => XS.iconst X13.here hx rfl (hb hby at_187) kX)
  refine OGo.go (B := T13.setTop (mkF m 189 #[.val (.int p0), .val (.int p1), .val (.int p2), .val (.int p3), .val (.long q4), .second, .val (.long q5), .second, .val (.ref b1), .unset, .unset, .unset, .unset, .unset, .unset] [(.int (p0 &&& (3 : Int32)))])) ?_ (fun tX kX => XS.iand X13.here hx rfl (hb hby at_188) rfl kX)
  refine OGo.go (B := T13.setTop (mkF m 191 #[.val (.int p0), .val (.int p1), .val (.int p2), .val (.int p3), .val (.long q4), .second, .val (.long q5), .second, .val (.ref b1), .val (.int (p0 &&& (3 : Int32))), .unset, .unset, .unset, .unset, .unset] [])) ?_ (fun tX kX => XS.istore X13.here hx rfl (hb hby at_189) rfl (l' := #[.val (.int p0), .val (.int p1), .val (.int p2), .val (.int p3), .val (.long q4), .second, .val (.long q5), .second, .val (.ref b1), .val (.int (p0 &&& (3 : Int32))), .unset, .unset, .unset, .unset, .unset]) rfl kX)
  have J328 : ∀ (TJ328 : State) (LJ328 : List Loc) (hJ328 : Heap) (vs : List Value), (Stand p l e room_1 (s.setVm s.vm) m #[(.int p0), (.int p1), (.int p2), (.int p3), (.long q4), (.long q5)] below meth c TJ328 LJ328 1 12) → (TJ328.heap = hJ328) → (Fr n0 LJ328) → (n0 ≤ hJ328.size) → (Keep h0 hJ328 []) → (CHv Z own_EL s.vm hJ328) → (Sta Z hJ328 "com/example/hushlist/hushlist/server/SaslMechanism" "$VALUES" "[Lcom/example/hushlist/hushlist/server/SaslMechanism;" (.ref uv)) → (Exa Z hJ328 uv "[Lcom/example/hushlist/hushlist/server/SaslMechanism;") → (Arv Z hJ328 uv kv (.object "com/example/hushlist/hushlist/server/SaslMechanism") (2 : Int32) [(.ref m0), (.ref m1)] .null) → (Fld Z hJ328 m0 "com/example/hushlist/hushlist/server/SaslMechanism" "wireName" "Ljava/lang/String;" (.ref w0)) → (Fld Z hJ328 m1 "com/example/hushlist/hushlist/server/SaslMechanism" "wireName" "Ljava/lang/String;" (.ref w1)) → (Exa Z hJ328 w0 "java/lang/String") → (Fld Z hJ328 w0 "java/lang/String" "value" "[B" (.ref v0)) → (Fld Z hJ328 w0 "java/lang/String" "coder" "B" (.int (0 : Int32))) → (Arv Z hJ328 v0 kw0 .byte (11 : Int32) [(.int (83 : Int32)), (.int (67 : Int32)), (.int (82 : Int32)), (.int (65 : Int32)), (.int (77 : Int32)), (.int (45 : Int32)), (.int (83 : Int32)), (.int (72 : Int32)), (.int (65 : Int32)), (.int (45 : Int32)), (.int (49 : Int32))] (.int (0 : Int32))) → (Exa Z hJ328 w1 "java/lang/String") → (Fld Z hJ328 w1 "java/lang/String" "value" "[B" (.ref v1)) → (Fld Z hJ328 w1 "java/lang/String" "coder" "B" (.int (0 : Int32))) → (Arv Z hJ328 v1 kw1 .byte (5 : Int32) [(.int (80 : Int32)), (.int (76 : Int32)), (.int (65 : Int32)), (.int (73 : Int32)), (.int (78 : Int32))] (.int (0 : Int32))) → (Sta Z hJ328 "com/example/hushlist/hushlist/server/SaslMechanism" "SCRAM_SHA_1" "Lcom/example/hushlist/hushlist/server/SaslMechanism;" (.ref m0)) → (Sta Z hJ328 "com/example/hushlist/hushlist/server/SaslMechanism" "PLAIN" "Lcom/example/hushlist/hushlist/server/SaslMechanism;" (.ref m1)) → (Sta Z hJ328 "java/lang/String" "COMPACT_STRINGS" "Z" (.int cs)) → (Safe Z own_EL s.vm hJ328 b1) → (Exa Z hJ328 b1 "[C") → (Arv Z hJ328 b1 k1 .char (12 : Int32) vs (.int (0 : Int32))) → (own_OK vs) → OGo p.tables e below (P0 Z p0 p1 p2 p3 q4 q5 uv kv m0 m1 w0 w1 v0 v1 kw0 kw1 cs h0 n0 s) (TJ328.setTop (mkF m 328 #[.val (.int p0), .val (.int p1), .val (.int p2), .val (.int p3), .val (.long q4), .second, .val (.long q5), .second, .val (.ref b1), .val (.int (p0 &&& (3 : Int32))), .unset, .unset, .unset, .unset, .unset] [])) := by
    intro TJ328 LJ328 hJ328 vs XJ328 eJ328 NJ328 znJ328 KJ328 hCH S_VAL E_uv V_uv F_wireName_m0 F_wireName_m1 E_w0 F_value_w0 F_coder_w0 V_v0 E_w1 F_value_w1 F_coder_w1 V_v1 S_SCRAM_SHA_1 S_PLAIN S_COMPACT_STRINGS Sf_b1 E_b1 V_b1 hOK
    obtain ⟨ch0, ch1, ch2, ch3, ch4, ch5, ch6, ch7, ch8, ch9, ch10, ch11, le0, le1, le2, le3, le4, le5, le6, le7, le8, le9, le10, le11, rfl⟩ := own_12 hOK
    have J458n : ∀ (TJ458n : State) (LJ458n : List Loc) (hJ458n : Heap) (bo : Addr), (Stand p l e room_1 (s.setVm s.vm) m #[(.int p0), (.int p1), (.int p2), (.int p3), (.long q4), (.long q5)] below meth c TJ458n LJ458n 2 24) → (TJ458n.heap = hJ458n) → (Fr n0 LJ458n) → (n0 ≤ hJ458n.size) → (Keep h0 hJ458n []) → (CHv Z own_EL s.vm hJ458n) → (Sta Z hJ458n "com/example/hushlist/hushlist/server/SaslMechanism" "$VALUES" "[Lcom/example/hushlist/hushlist/server/SaslMechanism;" (.ref uv)) → (Exa Z hJ458n uv "[Lcom/example/hushlist/hushlist/server/SaslMechanism;") → (Arv Z hJ458n uv kv (.object "com/example/hushlist/hushlist/server/SaslMechanism") (2 : Int32) [(.ref m0), (.ref m1)] .null) → (Fld Z hJ458n m0 "com/example/hushlist/hushlist/server/SaslMechanism" "wireName" "Ljava/lang/String;" (.ref w0)) → (Fld Z hJ458n m1 "com/example/hushlist/hushlist/server/SaslMechanism" "wireName" "Ljava/lang/String;" (.ref w1)) → (Exa Z hJ458n w0 "java/lang/String") → (Fld Z hJ458n w0 "java/lang/String" "value" "[B" (.ref v0)) → (Fld Z hJ458n w0 "java/lang/String" "coder" "B" (.int (0 : Int32))) → (Arv Z hJ458n v0 kw0 .byte (11 : Int32) [(.int (83 : Int32)), (.int (67 : Int32)), (.int (82 : Int32)), (.int (65 : Int32)), (.int (77 : Int32)), (.int (45 : Int32)), (.int (83 : Int32)), (.int (72 : Int32)), (.int (65 : Int32)), (.int (45 : Int32)), (.int (49 : Int32))] (.int (0 : Int32))) → (Exa Z hJ458n w1 "java/lang/String") → (Fld Z hJ458n w1 "java/lang/String" "value" "[B" (.ref v1)) → (Fld Z hJ458n w1 "java/lang/String" "coder" "B" (.int (0 : Int32))) → (Arv Z hJ458n v1 kw1 .byte (5 : Int32) [(.int (80 : Int32)), (.int (76 : Int32)), (.int (65 : Int32)), (.int (73 : Int32)), (.int (78 : Int32))] (.int (0 : Int32))) → (Sta Z hJ458n "com/example/hushlist/hushlist/server/SaslMechanism" "SCRAM_SHA_1" "Lcom/example/hushlist/hushlist/server/SaslMechanism;" (.ref m0)) → (Sta Z hJ458n "com/example/hushlist/hushlist/server/SaslMechanism" "PLAIN" "Lcom/example/hushlist/hushlist/server/SaslMechanism;" (.ref m1)) → (Sta Z hJ458n "java/lang/String" "COMPACT_STRINGS" "Z" (.int cs)) → (Safe Z own_EL s.vm hJ458n b1) → (Exa Z hJ458n b1 "[C") → (Arv Z hJ458n b1 k1 .char (12 : Int32) [(.int ch0), (.int ch1), (.int ch2), (.int ch3), (.int ch4), (.int ch5), (.int ch6), (.int ch7), (.int ch8), (.int ch9), (.int ch10), (.int ch11)] (.int (0 : Int32))) → OGo p.tables e below (P0 Z p0 p1 p2 p3 q4 q5 uv kv m0 m1 w0 w1 v0 v1 kw0 kw1 cs h0 n0 s) (TJ458n.setTop (mkF m 458 #[.val (.int p0), .val (.int p1), .val (.int p2), .val (.int p3), .val (.long q4), .second, .val (.long q5), .second, .val (.ref b1), .val (.int (p0 &&& (3 : Int32))), .val (.int (p1 &&& (7 : Int32))), .val (.ref bo), .unset, .unset, .unset] [.null])) := by
      intro TJ458n LJ458n hJ458n bo XJ458n eJ458n NJ458n znJ458n KJ458n hCH S_VAL E_uv V_uv F_wireName_m0 F_wireName_m1 E_w0 F_value_w0 F_coder_w0 V_v0 E_w1 F_value_w1 F_coder_w1 V_v1 S_SCRAM_SHA_1 S_PLAIN S_COMPACT_STRINGS Sf_b1 E_b1 V_b1
      refine OGo.go (B := TJ458n.setTop (mkF m 460 #[.val (.int p0), .val (.int p1), .val (.int p2), .val (.int p3), .val (.long q4), .second, .val (.long q5), .second, .val (.ref b1), .val (.int (p0 &&& (3 : Int32))), .val (.int (p1 &&& (7 : Int32))), .val (.ref bo), .val .null, .unset, .unset] [])) ?_ (fun tX kX => XS.astore XJ458n.here hx rfl (hb hby at_458) rfl rfl (l' := #[.val (.int p0), .val (.int p1), .val (.int p2), .val (.int p3), .val (.long q4), .second, .val (.long q5), .second, .val (.ref b1), .val (.int (p0 &&& (3 : Int32))), .val (.int (p1 &&& (7 : Int32))), .val (.ref bo), .val .null, .unset, .unset]) rfl kX)
      refine OGo.go (B := TJ458n.setTop (mkF m 462 #[.val (.int p0), .val (.int p1), .val (.int p2), .val (.int p3), .val (.long q4), .second, .val (.long q5), .second, .val (.ref b1), .val (.int (p0 &&& (3 : Int32))), .val (.int (p1 &&& (7 : Int32))), .val (.ref bo), .val .null, .unset, .unset] [.null])) ?_ (fun tX kX => XS.aload XJ458n.here hx rfl (hb hby at_460) rfl rfl kX)
      obtain ⟨_, _, ⟨T14, L14, k14, n14⟩, -, X14, ⟨Lc14, hQ14, l14, y14, z14⟩, st14⟩ := Jvm.LawKit.callS XJ458n hx (y := (⟨"com/example/hushlist/hushlist/server/SaslMechanism", "named", "(Ljava/lang/String;)Lcom/example/hushlist/hushlist/server/SaslMechanism;"⟩ : MethodName)) hown (mvT hZ (hw _ (List.mem_of_getElem? (i := 35) rfl))) (mvT hZ (hw _ (List.mem_of_getElem? (i := 36) rfl))) (mvT hZ (hw _ (List.mem_of_getElem? (i := 37) rfl))) (mvT hZ (hw _ (List.mem_of_getElem? (i := 38) rfl))) (by decide) (backOf (W := 0) (rm8null l Z aV hw [] uv kv m0 m1 w0 w1 v0 v1 kw0 kw1 hJ458n n0 znJ458n S_VAL E_uv V_uv F_wireName_m0 F_wireName_m1 E_w0 F_value_w0 F_coder_w0 V_v0 E_w1 F_value_w1 F_coder_w1 V_v1) hZ (hw _ (List.mem_of_getElem? (i := 38) rfl)) (hw _ (List.mem_of_getElem? (i := 37) rfl)) (by decide) (by decide)) (g := (mkF m 462 #[.val (.int p0), .val (.int p1), .val (.int p2), .val (.int p3), .val (.long q4), .second, .val (.long q5), .second, .val (.ref b1), .val (.int (p0 &&& (3 : Int32))), .val (.int (p1 &&& (7 : Int32))), .val (.ref bo), .val .null, .unset, .unset] [.null])) rfl (by rw [hml]; rfl) (argsL := [.null]) (rest := []) (lenOf pd__Ljava_lang_String__Lcom_example_hushlist_hushlist_server_SaslMechanism_ rfl) rfl (by show 2 * 0 + _ ≤ _; exact Nat.le_of_eq rfl) (hb hby at_462) (fun _ _ => ⟨rfl, eJ458n, (by decide : 2 + 1 ≤ _), (by decide : 24 + 2 ≤ _)⟩)
      dsimp only [Pt.U, Pt.locs, Pt.cells, Pt.slots] at X14 l14 y14 z14 st14 hQ14
      subst l14 y14 z14
      obtain ⟨rfl, N14q, Kq14⟩ := hQ14
      have N14 := Fr.app NJ458n N14q
      have sfs14 : ∀ x ∈ ([] : List Addr), Safe Z own_EL s.vm hJ458n x := sf0
      have CHo14 := hCH
      have Sf_b1 := Safe.keep Kq14 sfs14 CHo14 Sf_b1
      have hCH := CHv.keep Kq14 sfs14 CHo14
      have S_VAL := Sta.keep0 S_VAL Kq14
      have S_SCRAM_SHA_1 := Sta.keep0 S_SCRAM_SHA_1 Kq14
      have S_PLAIN := Sta.keep0 S_PLAIN Kq14
      have S_COMPACT_STRINGS := Sta.keep0 S_COMPACT_STRINGS Kq14
      have E_uv := E_uv.keep Kq14
      have V_uv := V_uv.keep Kq14 nin0
      have F_wireName_m0 := F_wireName_m0.keep Kq14 nin0
      have F_wireName_m1 := F_wireName_m1.keep Kq14 nin0
      have E_w0 := E_w0.keep Kq14
      have F_value_w0 := F_value_w0.keep Kq14 nin0
      have F_coder_w0 := F_coder_w0.keep Kq14 nin0
      have V_v0 := V_v0.keep Kq14 nin0
      have E_w1 := E_w1.keep Kq14
      have F_value_w1 := F_value_w1.keep Kq14 nin0
      have F_coder_w1 := F_coder_w1.keep Kq14 nin0
      have V_v1 := V_v1.keep Kq14 nin0
      have E_b1 := E_b1.keep Kq14
      have V_b1 := V_b1.keep Kq14 nin0
      have K14 := KJ458n.trans Kq14 all0
      have zn14 : n0 ≤ T14.heap.size := Nat.le_trans znJ458n Kq14.1
      have hk14 := Nat.le_trans (Nat.zero_le _) Kq14.1
      refine OGo.go (B := T14.setTop (mkF m 465 #[.val (.int p0), .val (.int p1), .val (.int p2), .val (.int p3), .val (.long q4), .second, .val (.long q5), .second, .val (.ref b1), .val (.int (p0 &&& (3 : Int32))), .val (.int (p1 &&& (7 : Int32))), .val (.ref bo), .val .null, .unset, .unset] [.null])) ?_ st14
      refine OGo.go (B := T14.setTop (mkF m 467 #[.val (.int p0), .val (.int p1), .val (.int p2), .val (.int p3), .val (.long q4), .second, .val (.long q5), .second, .val (.ref b1), .val (.int (p0 &&& (3 : Int32))), .val (.int (p1 &&& (7 : Int32))), .val (.ref bo), .val .null, .val .null, .unset] [])) ?_ (fun tX kX => XS.astore X14.here hx rfl (hb hby at_465) rfl rfl (l' := #[.val (.int p0), .val (.int p1), .val (.int p2), .val (.int p3), .val (.long q4), .second, .val (.long q5), .second, .val (.ref b1), .val (.int (p0 &&& (3 : Int32))), .val (.int (p1 &&& (7 : Int32))), .val (.ref bo), .val .null, .val .null, .unset]) rfl kX)
      refine OGo.go (B := T14.setTop (mkF m 469 #[.val (.int p0), .val (.int p1), .val (.int p2), .val (.int p3), .val (.long q4), .second, .val (.long q5), .second, .val (.ref b1), .val (.int (p0 &&& (3 : Int32))), .val (.int (p1 &&& (7 : Int32))), .val (.ref bo), .val .null, .val .null, .unset] [.null])) ?_ (fun tX kX => XS.aload X14.here hx rfl (hb hby at_467) rfl rfl kX)
      obtain ⟨_, _, ⟨T15, L15, k15, n15⟩, -, X15, ⟨Lc15, hQ15, l15, y15, z15⟩, st15⟩ := Jvm.LawKit.callS X14 hx (y := (⟨"com/example/hushlist/hushlist/server/SaslMechanismNamedPinLaw", "expected", "(Ljava/lang/String;)Lcom/example/hushlist/hushlist/server/SaslMechanism;"⟩ : MethodName)) hown (mvT hZ (hw _ (List.mem_of_getElem? (i := 67) rfl))) (mvT hZ (hw _ (List.mem_of_getElem? (i := 68) rfl))) (mvT hZ (hw _ (List.mem_of_getElem? (i := 4) rfl))) (mvT hZ (hw _ (List.mem_of_getElem? (i := 69) rfl))) (by decide) (backOf (W := 0) (rm12null l Z aV hw []  T14.heap n0 zn14) hZ (hw _ (List.mem_of_getElem? (i := 69) rfl)) (hw _ (List.mem_of_getElem? (i := 4) rfl)) (by decide) (by decide)) (g := (mkF m 469 #[.val (.int p0), .val (.int p1), .val (.int p2), .val (.int p3), .val (.long q4), .second, .val (.long q5), .second, .val (.ref b1), .val (.int (p0 &&& (3 : Int32))), .val (.int (p1 &&& (7 : Int32))), .val (.ref bo), .val .null, .val .null, .unset] [.null])) rfl (by rw [hml]; rfl) (argsL := [.null]) (rest := []) (lenOf pd__Ljava_lang_String__Lcom_example_hushlist_hushlist_server_SaslMechanism_ rfl) rfl (by show 2 * 0 + _ ≤ _; exact Nat.le_of_eq rfl) (hb hby at_469) (fun _ _ => ⟨rfl, rfl, (by decide : 3 + 0 ≤ _), (by decide : 26 + 0 ≤ _)⟩)
      dsimp only [Pt.U, Pt.locs, Pt.cells, Pt.slots] at X15 l15 y15 z15 st15 hQ15
      subst l15 y15 z15
      obtain ⟨rfl, N15q, e15⟩ := hQ15
      have N15 := Fr.app N14 N15q
      refine OGo.go (B := T15.setTop (mkF m 472 #[.val (.int p0), .val (.int p1), .val (.int p2), .val (.int p3), .val (.long q4), .second, .val (.long q5), .second, .val (.ref b1), .val (.int (p0 &&& (3 : Int32))), .val (.int (p1 &&& (7 : Int32))), .val (.ref bo), .val .null, .val .null, .unset] [.null])) ?_ st15
      refine OGo.go (B := T15.setTop (mkF m 474 #[.val (.int p0), .val (.int p1), .val (.int p2), .val (.int p3), .val (.long q4), .second, .val (.long q5), .second, .val (.ref b1), .val (.int (p0 &&& (3 : Int32))), .val (.int (p1 &&& (7 : Int32))), .val (.ref bo), .val .null, .val .null, .val .null] [])) ?_ (fun tX kX => XS.astore X15.here hx rfl (hb hby at_472) rfl rfl (l' := #[.val (.int p0), .val (.int p1), .val (.int p2), .val (.int p3), .val (.long q4), .second, .val (.long q5), .second, .val (.ref b1), .val (.int (p0 &&& (3 : Int32))), .val (.int (p1 &&& (7 : Int32))), .val (.ref bo), .val .null, .val .null, .val .null]) rfl kX)
      refine OGo.go (B := T15.setTop (mkF m 476 #[.val (.int p0), .val (.int p1), .val (.int p2), .val (.int p3), .val (.long q4), .second, .val (.long q5), .second, .val (.ref b1), .val (.int (p0 &&& (3 : Int32))), .val (.int (p1 &&& (7 : Int32))), .val (.ref bo), .val .null, .val .null, .val .null] [.null])) ?_ (fun tX kX => XS.aload X15.here hx rfl (hb hby at_474) rfl rfl kX)
      refine OGo.go (B := T15.setTop (mkF m 478 #[.val (.int p0), .val (.int p1), .val (.int p2), .val (.int p3), .val (.long q4), .second, .val (.long q5), .second, .val (.ref b1), .val (.int (p0 &&& (3 : Int32))), .val (.int (p1 &&& (7 : Int32))), .val (.ref bo), .val .null, .val .null, .val .null] [.null, .null])) ?_ (fun tX kX => XS.aload X15.here hx rfl (hb hby at_476) rfl rfl kX)
      refine OGo.go (B := T15.setTop (mkF m 481 #[.val (.int p0), .val (.int p1), .val (.int p2), .val (.int p3), .val (.long q4), .second, .val (.long q5), .second, .val (.ref b1), .val (.int (p0 &&& (3 : Int32))), .val (.int (p1 &&& (7 : Int32))), .val (.ref bo), .val .null, .val .null, .val .null] [])) ?_ (fun tX kX => Jvm.RoadKit.acmp (g := (mkF m 478 #[.val (.int p0), .val (.int p1), .val (.int p2), .val (.int p3), .val (.long q4), .second, .val (.long q5), .second, .val (.ref b1), .val (.int (p0 &&& (3 : Int32))), .val (.int (p1 &&& (7 : Int32))), .val (.ref bo), .val .null, .val .null, .val .null] [.null, .null])) X15 hx rfl rfl rfl (pc0 := 478) (pc' := 481) (same := true) rfl (hb hby at_478) rfl (decide_eq_true rfl) (by decide) (by decide) kX)
      refine OGo.go (B := T15.setTop (mkF m 482 #[.val (.int p0), .val (.int p1), .val (.int p2), .val (.int p3), .val (.long q4), .second, .val (.long q5), .second, .val (.ref b1), .val (.int (p0 &&& (3 : Int32))), .val (.int (p1 &&& (7 : Int32))), .val (.ref bo), .val .null, .val .null, .val .null] [(.int (1 : Int32))])) ?_ (fun tX kX => XS.iconst X15.here hx rfl (hb hby at_481) kX)
      refine OGo.go (B := T15.setTop (mkF m 486 #[.val (.int p0), .val (.int p1), .val (.int p2), .val (.int p3), .val (.long q4), .second, .val (.long q5), .second, .val (.ref b1), .val (.int (p0 &&& (3 : Int32))), .val (.int (p1 &&& (7 : Int32))), .val (.ref bo), .val .null, .val .null, .val .null] [(.int (1 : Int32))])) ?_ (fun tX kX => XS.goto X15.here hx rfl (pc0 := 482) (pc' := 486) rfl (hb hby at_482) (by decide) (by decide) kX)
      refine OGo.retW X15 hS0 (by rw [e15]; exact hk14) (v := (some (.int (1 : Int32)))) (fun h => by rw [Bd.returns] at h; cases h) (BodyLoose.notSynchronized Bd) (fun fs hr => retN X15 hx (t := .boolean) (z := (1 : Int32)) Bd.returns (by simp) (hb hby at_486) hr) (Q := Q0 Z p0 p1 p2 p3 q4 q5 uv kv m0 m1 w0 w1 v0 v1 kw0 kw1 cs h0 n0) ?_ (by decide) (by decide)
      show Q0 Z p0 p1 p2 p3 q4 q5 uv kv m0 m1 w0 w1 v0 v1 kw0 kw1 cs h0 n0 _ T15.heap _
      rw [e15]
      exact ⟨rfl, N15⟩
    have J458s : ∀ (TJ458s : State) (LJ458s : List Loc) (hJ458s : Heap) (bo : Addr) (nm : Addr) (nb : Addr) (kb : ClassId) (nn : Int32) (ys : List Value), (Stand p l e room_1 (s.setVm s.vm) m #[(.int p0), (.int p1), (.int p2), (.int p3), (.long q4), (.long q5)] below meth c TJ458s LJ458s 4 40) → (TJ458s.heap = hJ458s) → (Fr n0 LJ458s) → (n0 ≤ hJ458s.size) → (Keep h0 hJ458s []) → (CHv Z own_EL s.vm hJ458s) → (Sta Z hJ458s "com/example/hushlist/hushlist/server/SaslMechanism" "$VALUES" "[Lcom/example/hushlist/hushlist/server/SaslMechanism;" (.ref uv)) → (Exa Z hJ458s uv "[Lcom/example/hushlist/hushlist/server/SaslMechanism;") → (Arv Z hJ458s uv kv (.object "com/example/hushlist/hushlist/server/SaslMechanism") (2 : Int32) [(.ref m0), (.ref m1)] .null) → (Fld Z hJ458s m0 "com/example/hushlist/hushlist/server/SaslMechanism" "wireName" "Ljava/lang/String;" (.ref w0)) → (Fld Z hJ458s m1 "com/example/hushlist/hushlist/server/SaslMechanism" "wireName" "Ljava/lang/String;" (.ref w1)) → (Exa Z hJ458s w0 "java/lang/String") → (Fld Z hJ458s w0 "java/lang/String" "value" "[B" (.ref v0)) → (Fld Z hJ458s w0 "java/lang/String" "coder" "B" (.int (0 : Int32))) → (Arv Z hJ458s v0 kw0 .byte (11 : Int32) [(.int (83 : Int32)), (.int (67 : Int32)), (.int (82 : Int32)), (.int (65 : Int32)), (.int (77 : Int32)), (.int (45 : Int32)), (.int (83 : Int32)), (.int (72 : Int32)), (.int (65 : Int32)), (.int (45 : Int32)), (.int (49 : Int32))] (.int (0 : Int32))) → (Exa Z hJ458s w1 "java/lang/String") → (Fld Z hJ458s w1 "java/lang/String" "value" "[B" (.ref v1)) → (Fld Z hJ458s w1 "java/lang/String" "coder" "B" (.int (0 : Int32))) → (Arv Z hJ458s v1 kw1 .byte (5 : Int32) [(.int (80 : Int32)), (.int (76 : Int32)), (.int (65 : Int32)), (.int (73 : Int32)), (.int (78 : Int32))] (.int (0 : Int32))) → (Sta Z hJ458s "com/example/hushlist/hushlist/server/SaslMechanism" "SCRAM_SHA_1" "Lcom/example/hushlist/hushlist/server/SaslMechanism;" (.ref m0)) → (Sta Z hJ458s "com/example/hushlist/hushlist/server/SaslMechanism" "PLAIN" "Lcom/example/hushlist/hushlist/server/SaslMechanism;" (.ref m1)) → (Sta Z hJ458s "java/lang/String" "COMPACT_STRINGS" "Z" (.int cs)) → (Safe Z own_EL s.vm hJ458s b1) → (Exa Z hJ458s b1 "[C") → (Arv Z hJ458s b1 k1 .char (12 : Int32) [(.int ch0), (.int ch1), (.int ch2), (.int ch3), (.int ch4), (.int ch5), (.int ch6), (.int ch7), (.int ch8), (.int ch9), (.int ch10), (.int ch11)] (.int (0 : Int32))) → (Exa Z hJ458s nm "java/lang/String") → (Fld Z hJ458s nm "java/lang/String" "value" "[B" (.ref nb)) → (Fld Z hJ458s nm "java/lang/String" "coder" "B" (.int (0 : Int32))) → (Arv Z hJ458s nb kb .byte nn ys (.int (0 : Int32))) → (ys.length = nn.toNatClampNeg) → OGo p.tables e below (P0 Z p0 p1 p2 p3 q4 q5 uv kv m0 m1 w0 w1 v0 v1 kw0 kw1 cs h0 n0 s) (TJ458s.setTop (mkF m 458 #[.val (.int p0), .val (.int p1), .val (.int p2), .val (.int p3), .val (.long q4), .second, .val (.long q5), .second, .val (.ref b1), .val (.int (p0 &&& (3 : Int32))), .val (.int (p1 &&& (7 : Int32))), .val (.ref bo), .unset, .unset, .unset] [(.ref nm)])) := by
      intro TJ458s LJ458s hJ458s bo nm nb kb nn ys XJ458s eJ458s NJ458s znJ458s KJ458s hCH S_VAL E_uv V_uv F_wireName_m0 F_wireName_m1 E_w0 F_value_w0 F_coder_w0 V_v0 E_w1 F_value_w1 F_coder_w1 V_v1 S_SCRAM_SHA_1 S_PLAIN S_COMPACT_STRINGS Sf_b1 E_b1 V_b1 E_nm F_value_nm F_coder_nm V_nb hvl
      refine OGo.go (B := TJ458s.setTop (mkF m 460 #[.val (.int p0), .val (.int p1), .val (.int p2), .val (.int p3), .val (.long q4), .second, .val (.long q5), .second, .val (.ref b1), .val (.int (p0 &&& (3 : Int32))), .val (.int (p1 &&& (7 : Int32))), .val (.ref bo), .val (.ref nm), .unset, .unset] [])) ?_ (fun tX kX => XS.astore XJ458s.here hx rfl (hb hby at_458) rfl rfl (l' := #[.val (.int p0), .val (.int p1), .val (.int p2), .val (.int p3), .val (.long q4), .second, .val (.long q5), .second, .val (.ref b1), .val (.int (p0 &&& (3 : Int32))), .val (.int (p1 &&& (7 : Int32))), .val (.ref bo), .val (.ref nm), .unset, .unset]) rfl kX)
      refine OGo.go (B := TJ458s.setTop (mkF m 462 #[.val (.int p0), .val (.int p1), .val (.int p2), .val (.int p3), .val (.long q4), .second, .val (.long q5), .second, .val (.ref b1), .val (.int (p0 &&& (3 : Int32))), .val (.int (p1 &&& (7 : Int32))), .val (.ref bo), .val (.ref nm), .unset, .unset] [(.ref nm)])) ?_ (fun tX kX => XS.aload XJ458s.here hx rfl (hb hby at_460) rfl rfl kX)
      obtain ⟨_, _, ⟨T16, L16, k16, n16⟩, -, X16, ⟨Lc16, hQ16, l16, y16, z16⟩, st16⟩ := Jvm.LawKit.callS XJ458s hx (y := (⟨"com/example/hushlist/hushlist/server/SaslMechanism", "named", "(Ljava/lang/String;)Lcom/example/hushlist/hushlist/server/SaslMechanism;"⟩ : MethodName)) hown (mvT hZ (hw _ (List.mem_of_getElem? (i := 35) rfl))) (mvT hZ (hw _ (List.mem_of_getElem? (i := 36) rfl))) (mvT hZ (hw _ (List.mem_of_getElem? (i := 37) rfl))) (mvT hZ (hw _ (List.mem_of_getElem? (i := 38) rfl))) (by decide) (backOf (W := 0) (rm8s l Z aV hw [] nm uv kv m0 m1 w0 w1 v0 v1 kw0 kw1 nb kb nn ys cs hJ458s n0 znJ458s S_VAL E_uv V_uv F_wireName_m0 F_wireName_m1 E_w0 F_value_w0 F_coder_w0 V_v0 E_w1 F_value_w1 F_coder_w1 V_v1 E_nm F_value_nm F_coder_nm V_nb S_COMPACT_STRINGS hcs hvl) hZ (hw _ (List.mem_of_getElem? (i := 38) rfl)) (hw _ (List.mem_of_getElem? (i := 37) rfl)) (by decide) (by decide)) (g := (mkF m 462 #[.val (.int p0), .val (.int p1), .val (.int p2), .val (.int p3), .val (.long q4), .second, .val (.long q5), .second, .val (.ref b1), .val (.int (p0 &&& (3 : Int32))), .val (.int (p1 &&& (7 : Int32))), .val (.ref bo), .val (.ref nm), .unset, .unset] [(.ref nm)])) rfl (by rw [hml]; rfl) (argsL := [(.ref nm)]) (rest := []) (lenOf pd__Ljava_lang_String__Lcom_example_hushlist_hushlist_server_SaslMechanism_ rfl) rfl (by show 2 * 0 + _ ≤ _; exact Nat.le_of_eq rfl) (hb hby at_462) (fun _ _ => ⟨rfl, eJ458s, (by decide : 4 + 1 ≤ _), (by decide : 40 + 2 ≤ _)⟩)
      dsimp only [Pt.U, Pt.locs, Pt.cells, Pt.slots] at X16 l16 y16 z16 st16 hQ16
      subst l16 y16 z16
      obtain ⟨rfl, N16q, Kq16⟩ := hQ16
      have N16 := Fr.app NJ458s N16q
      have sfs16 : ∀ x ∈ ([] : List Addr), Safe Z own_EL s.vm hJ458s x := sf0
      have CHo16 := hCH
      have Sf_b1 := Safe.keep Kq16 sfs16 CHo16 Sf_b1
      have hCH := CHv.keep Kq16 sfs16 CHo16
      have S_VAL := Sta.keep0 S_VAL Kq16
      have S_SCRAM_SHA_1 := Sta.keep0 S_SCRAM_SHA_1 Kq16
      have S_PLAIN := Sta.keep0 S_PLAIN Kq16
      have S_COMPACT_STRINGS := Sta.keep0 S_COMPACT_STRINGS Kq16
      have E_uv := E_uv.keep Kq16
      have V_uv := V_uv.keep Kq16 nin0
      have F_wireName_m0 := F_wireName_m0.keep Kq16 nin0
      have F_wireName_m1 := F_wireName_m1.keep Kq16 nin0
      have E_w0 := E_w0.keep Kq16
      have F_value_w0 := F_value_w0.keep Kq16 nin0
      have F_coder_w0 := F_coder_w0.keep Kq16 nin0
      have V_v0 := V_v0.keep Kq16 nin0
      have E_w1 := E_w1.keep Kq16
      have F_value_w1 := F_value_w1.keep Kq16 nin0
      have F_coder_w1 := F_coder_w1.keep Kq16 nin0
      have V_v1 := V_v1.keep Kq16 nin0
      have E_b1 := E_b1.keep Kq16
      have V_b1 := V_b1.keep Kq16 nin0
      have E_nm := E_nm.keep Kq16
      have F_value_nm := F_value_nm.keep Kq16 nin0
      have F_coder_nm := F_coder_nm.keep Kq16 nin0
      have V_nb := V_nb.keep Kq16 nin0
      have K16 := KJ458s.trans Kq16 all0
      have zn16 : n0 ≤ T16.heap.size := Nat.le_trans znJ458s Kq16.1
      have hk16 := Nat.le_trans (Nat.zero_le _) Kq16.1
      refine OGo.go (B := T16.setTop (mkF m 465 #[.val (.int p0), .val (.int p1), .val (.int p2), .val (.int p3), .val (.long q4), .second, .val (.long q5), .second, .val (.ref b1), .val (.int (p0 &&& (3 : Int32))), .val (.int (p1 &&& (7 : Int32))), .val (.ref bo), .val (.ref nm), .unset, .unset] [(own_res ys m0 m1)])) ?_ st16
      rcases own_two ys m0 m1 with ew | ⟨ur, ew⟩
      ·
        rw [ew]
        refine OGo.go (B := T16.setTop (mkF m 467 #[.val (.int p0), .val (.int p1), .val (.int p2), .val (.int p3), .val (.long q4), .second, .val (.long q5), .second, .val (.ref b1), .val (.int (p0 &&& (3 : Int32))), .val (.int (p1 &&& (7 : Int32))), .val (.ref bo), .val (.ref nm), .val .null, .unset] [])) ?_ (fun tX kX => XS.astore X16.here hx rfl (hb hby at_465) rfl rfl (l' := #[.val (.int p0), .val (.int p1), .val (.int p2), .val (.int p3), .val (.long q4), .second, .val (.long q5), .second, .val (.ref b1), .val (.int (p0 &&& (3 : Int32))), .val (.int (p1 &&& (7 : Int32))), .val (.ref bo), .val (.ref nm), .val .null, .unset]) rfl kX)
        refine OGo.go (B := T16.setTop (mkF m 469 #[.val (.int p0), .val (.int p1), .val (.int p2), .val (.int p3), .val (.long q4), .second, .val (.long q5), .second, .val (.ref b1), .val (.int (p0 &&& (3 : Int32))), .val (.int (p1 &&& (7 : Int32))), .val (.ref bo), .val (.ref nm), .val .null, .unset] [(.ref nm)])) ?_ (fun tX kX => XS.aload X16.here hx rfl (hb hby at_467) rfl rfl kX)
        obtain ⟨_, _, ⟨T17, L17, k17, n17⟩, -, X17, hSq17, hgr17, ⟨Lc17, hQ17, l17, y17, z17, CRq17⟩, st17⟩ := callSS X16 hx (y := (⟨"com/example/hushlist/hushlist/server/SaslMechanismNamedPinLaw", "expected", "(Ljava/lang/String;)Lcom/example/hushlist/hushlist/server/SaslMechanism;"⟩ : MethodName)) hown (mvT hZ (hw _ (List.mem_of_getElem? (i := 67) rfl))) (mvT hZ (hw _ (List.mem_of_getElem? (i := 68) rfl))) (mvT hZ (hw _ (List.mem_of_getElem? (i := 4) rfl))) (mvT hZ (hw _ (List.mem_of_getElem? (i := 69) rfl))) (by decide) (backOfSH (W := 0) (rm12s l Z aV hw [] nm m0 m1 nb kb nn ys cs T16.heap n0 zn16 S_SCRAM_SHA_1 S_PLAIN E_nm F_value_nm F_coder_nm V_nb S_COMPACT_STRINGS hcs hvl) hZ (hw _ (List.mem_of_getElem? (i := 69) rfl)) (hw _ (List.mem_of_getElem? (i := 4) rfl)) (by decide) (by decide) own_ew hCH) (g := (mkF m 469 #[.val (.int p0), .val (.int p1), .val (.int p2), .val (.int p3), .val (.long q4), .second, .val (.long q5), .second, .val (.ref b1), .val (.int (p0 &&& (3 : Int32))), .val (.int (p1 &&& (7 : Int32))), .val (.ref bo), .val (.ref nm), .val .null, .unset] [(.ref nm)])) rfl (by rw [hml]; rfl) (argsL := [(.ref nm)]) (rest := []) (lenOf pd__Ljava_lang_String__Lcom_example_hushlist_hushlist_server_SaslMechanism_ rfl) rfl (by show 2 * 0 + _ ≤ _; exact Nat.le_of_eq rfl) (hb hby at_469) (fun _ _ => ⟨rfl, rfl, (by decide : 5 + 4 ≤ _), (by decide : 42 + 72 ≤ _)⟩)
        dsimp only [Pt.U, Pt.locs, Pt.cells, Pt.slots] at X17 l17 y17 z17 st17 hQ17 hSq17 hgr17 CRq17
        subst l17 y17 z17
        obtain ⟨X17, hS17, hZ17, hown17⟩ := rebS hS0 hk16 X17 hSq17 (by rw [← (rfl : T16.heap = T16.heap)]; exact hgr17) hZ hown
        have Sf_b1 := CRq17.safe E_b1.lt Sf_b1
        have hCH := CRq17.1
        obtain ⟨rfl, N17q, Kq17⟩ := hQ17
        have N17 := Fr.app N16 N17q
        have S_VAL := Sta.keep0 S_VAL Kq17
        have S_SCRAM_SHA_1 := Sta.keep0 S_SCRAM_SHA_1 Kq17
        have S_PLAIN := Sta.keep0 S_PLAIN Kq17
        have S_COMPACT_STRINGS := Sta.keep0 S_COMPACT_STRINGS Kq17
        have E_uv := E_uv.keep Kq17
        have V_uv := V_uv.keep Kq17 nin0
        have F_wireName_m0 := F_wireName_m0.keep Kq17 nin0
        have F_wireName_m1 := F_wireName_m1.keep Kq17 nin0
        have E_w0 := E_w0.keep Kq17
        have F_value_w0 := F_value_w0.keep Kq17 nin0
        have F_coder_w0 := F_coder_w0.keep Kq17 nin0
        have V_v0 := V_v0.keep Kq17 nin0
        have E_w1 := E_w1.keep Kq17
        have F_value_w1 := F_value_w1.keep Kq17 nin0
        have F_coder_w1 := F_coder_w1.keep Kq17 nin0
        have V_v1 := V_v1.keep Kq17 nin0
        have E_b1 := E_b1.keep Kq17
        have V_b1 := V_b1.keep Kq17 nin0
        have E_nm := E_nm.keep Kq17
        have F_value_nm := F_value_nm.keep Kq17 nin0
        have F_coder_nm := F_coder_nm.keep Kq17 nin0
        have V_nb := V_nb.keep Kq17 nin0
        have K17 := K16.trans Kq17 all0
        have zn17 : n0 ≤ T17.heap.size := Nat.le_trans zn16 Kq17.1
        have hk17 := Nat.le_trans hk16 Kq17.1
        refine OGo.go (B := T17.setTop (mkF m 472 #[.val (.int p0), .val (.int p1), .val (.int p2), .val (.int p3), .val (.long q4), .second, .val (.long q5), .second, .val (.ref b1), .val (.int (p0 &&& (3 : Int32))), .val (.int (p1 &&& (7 : Int32))), .val (.ref bo), .val (.ref nm), .val .null, .unset] [(own_res ys m0 m1)])) ?_ (fun tX kX => st17.trans kX)
        rw [ew]
        refine OGo.go (B := T17.setTop (mkF m 474 #[.val (.int p0), .val (.int p1), .val (.int p2), .val (.int p3), .val (.long q4), .second, .val (.long q5), .second, .val (.ref b1), .val (.int (p0 &&& (3 : Int32))), .val (.int (p1 &&& (7 : Int32))), .val (.ref bo), .val (.ref nm), .val .null, .val .null] [])) ?_ (fun tX kX => XS.astore X17.here hx rfl (hb hby at_472) rfl rfl (l' := #[.val (.int p0), .val (.int p1), .val (.int p2), .val (.int p3), .val (.long q4), .second, .val (.long q5), .second, .val (.ref b1), .val (.int (p0 &&& (3 : Int32))), .val (.int (p1 &&& (7 : Int32))), .val (.ref bo), .val (.ref nm), .val .null, .val .null]) rfl kX)
        refine OGo.go (B := T17.setTop (mkF m 476 #[.val (.int p0), .val (.int p1), .val (.int p2), .val (.int p3), .val (.long q4), .second, .val (.long q5), .second, .val (.ref b1), .val (.int (p0 &&& (3 : Int32))), .val (.int (p1 &&& (7 : Int32))), .val (.ref bo), .val (.ref nm), .val .null, .val .null] [.null])) ?_ (fun tX kX => XS.aload X17.here hx rfl (hb hby at_474) rfl rfl kX)
        refine OGo.go (B := T17.setTop (mkF m 478 #[.val (.int p0), .val (.int p1), .val (.int p2), .val (.int p3), .val (.long q4), .second, .val (.long q5), .second, .val (.ref b1), .val (.int (p0 &&& (3 : Int32))), .val (.int (p1 &&& (7 : Int32))), .val (.ref bo), .val (.ref nm), .val .null, .val .null] [.null, .null])) ?_ (fun tX kX => XS.aload X17.here hx rfl (hb hby at_476) rfl rfl kX)
        refine OGo.go (B := T17.setTop (mkF m 481 #[.val (.int p0), .val (.int p1), .val (.int p2), .val (.int p3), .val (.long q4), .second, .val (.long q5), .second, .val (.ref b1), .val (.int (p0 &&& (3 : Int32))), .val (.int (p1 &&& (7 : Int32))), .val (.ref bo), .val (.ref nm), .val .null, .val .null] [])) ?_ (fun tX kX => Jvm.RoadKit.acmp (g := (mkF m 478 #[.val (.int p0), .val (.int p1), .val (.int p2), .val (.int p3), .val (.long q4), .second, .val (.long q5), .second, .val (.ref b1), .val (.int (p0 &&& (3 : Int32))), .val (.int (p1 &&& (7 : Int32))), .val (.ref bo), .val (.ref nm), .val .null, .val .null] [.null, .null])) X17 hx rfl rfl rfl (pc0 := 478) (pc' := 481) (same := true) rfl (hb hby at_478) rfl (decide_eq_true rfl) (by decide) (by decide) kX)
        refine OGo.go (B := T17.setTop (mkF m 482 #[.val (.int p0), .val (.int p1), .val (.int p2), .val (.int p3), .val (.long q4), .second, .val (.long q5), .second, .val (.ref b1), .val (.int (p0 &&& (3 : Int32))), .val (.int (p1 &&& (7 : Int32))), .val (.ref bo), .val (.ref nm), .val .null, .val .null] [(.int (1 : Int32))])) ?_ (fun tX kX => XS.iconst X17.here hx rfl (hb hby at_481) kX)
        refine OGo.go (B := T17.setTop (mkF m 486 #[.val (.int p0), .val (.int p1), .val (.int p2), .val (.int p3), .val (.long q4), .second, .val (.long q5), .second, .val (.ref b1), .val (.int (p0 &&& (3 : Int32))), .val (.int (p1 &&& (7 : Int32))), .val (.ref bo), .val (.ref nm), .val .null, .val .null] [(.int (1 : Int32))])) ?_ (fun tX kX => XS.goto X17.here hx rfl (pc0 := 482) (pc' := 486) rfl (hb hby at_482) (by decide) (by decide) kX)
        refine OGo.retW X17 hS17 (Nat.le_refl _) (v := (some (.int (1 : Int32)))) (fun h => by rw [Bd.returns] at h; cases h) (BodyLoose.notSynchronized Bd) (fun fs hr => retN X17 hx (t := .boolean) (z := (1 : Int32)) Bd.returns (by simp) (hb hby at_486) hr) (Q := Q0 Z p0 p1 p2 p3 q4 q5 uv kv m0 m1 w0 w1 v0 v1 kw0 kw1 cs h0 n0) ?_ (by decide) (by decide)
        show Q0 Z p0 p1 p2 p3 q4 q5 uv kv m0 m1 w0 w1 v0 v1 kw0 kw1 cs h0 n0 _ T17.heap _
        exact ⟨rfl, N17⟩
      ·
        rw [ew]
        refine OGo.go (B := T16.setTop (mkF m 467 #[.val (.int p0), .val (.int p1), .val (.int p2), .val (.int p3), .val (.long q4), .second, .val (.long q5), .second, .val (.ref b1), .val (.int (p0 &&& (3 : Int32))), .val (.int (p1 &&& (7 : Int32))), .val (.ref bo), .val (.ref nm), .val (.ref ur), .unset] [])) ?_ (fun tX kX => XS.astore X16.here hx rfl (hb hby at_465) rfl rfl (l' := #[.val (.int p0), .val (.int p1), .val (.int p2), .val (.int p3), .val (.long q4), .second, .val (.long q5), .second, .val (.ref b1), .val (.int (p0 &&& (3 : Int32))), .val (.int (p1 &&& (7 : Int32))), .val (.ref bo), .val (.ref nm), .val (.ref ur), .unset]) rfl kX)
        refine OGo.go (B := T16.setTop (mkF m 469 #[.val (.int p0), .val (.int p1), .val (.int p2), .val (.int p3), .val (.long q4), .second, .val (.long q5), .second, .val (.ref b1), .val (.int (p0 &&& (3 : Int32))), .val (.int (p1 &&& (7 : Int32))), .val (.ref bo), .val (.ref nm), .val (.ref ur), .unset] [(.ref nm)])) ?_ (fun tX kX => XS.aload X16.here hx rfl (hb hby at_467) rfl rfl kX)
        obtain ⟨_, _, ⟨T18, L18, k18, n18⟩, -, X18, hSq18, hgr18, ⟨Lc18, hQ18, l18, y18, z18, CRq18⟩, st18⟩ := callSS X16 hx (y := (⟨"com/example/hushlist/hushlist/server/SaslMechanismNamedPinLaw", "expected", "(Ljava/lang/String;)Lcom/example/hushlist/hushlist/server/SaslMechanism;"⟩ : MethodName)) hown (mvT hZ (hw _ (List.mem_of_getElem? (i := 67) rfl))) (mvT hZ (hw _ (List.mem_of_getElem? (i := 68) rfl))) (mvT hZ (hw _ (List.mem_of_getElem? (i := 4) rfl))) (mvT hZ (hw _ (List.mem_of_getElem? (i := 69) rfl))) (by decide) (backOfSH (W := 0) (rm12s l Z aV hw [] nm m0 m1 nb kb nn ys cs T16.heap n0 zn16 S_SCRAM_SHA_1 S_PLAIN E_nm F_value_nm F_coder_nm V_nb S_COMPACT_STRINGS hcs hvl) hZ (hw _ (List.mem_of_getElem? (i := 69) rfl)) (hw _ (List.mem_of_getElem? (i := 4) rfl)) (by decide) (by decide) own_ew hCH) (g := (mkF m 469 #[.val (.int p0), .val (.int p1), .val (.int p2), .val (.int p3), .val (.long q4), .second, .val (.long q5), .second, .val (.ref b1), .val (.int (p0 &&& (3 : Int32))), .val (.int (p1 &&& (7 : Int32))), .val (.ref bo), .val (.ref nm), .val (.ref ur), .unset] [(.ref nm)])) rfl (by rw [hml]; rfl) (argsL := [(.ref nm)]) (rest := []) (lenOf pd__Ljava_lang_String__Lcom_example_hushlist_hushlist_server_SaslMechanism_ rfl) rfl (by show 2 * 0 + _ ≤ _; exact Nat.le_of_eq rfl) (hb hby at_469) (fun _ _ => ⟨rfl, rfl, (by decide : 5 + 4 ≤ _), (by decide : 42 + 72 ≤ _)⟩)
        dsimp only [Pt.U, Pt.locs, Pt.cells, Pt.slots] at X18 l18 y18 z18 st18 hQ18 hSq18 hgr18 CRq18
        subst l18 y18 z18
        obtain ⟨X18, hS18, hZ18, hown18⟩ := rebS hS0 hk16 X18 hSq18 (by rw [← (rfl : T16.heap = T16.heap)]; exact hgr18) hZ hown
        have Sf_b1 := CRq18.safe E_b1.lt Sf_b1
        have hCH := CRq18.1
        obtain ⟨rfl, N18q, Kq18⟩ := hQ18
        have N18 := Fr.app N16 N18q
        have S_VAL := Sta.keep0 S_VAL Kq18
        have S_SCRAM_SHA_1 := Sta.keep0 S_SCRAM_SHA_1 Kq18
        have S_PLAIN := Sta.keep0 S_PLAIN Kq18
        have S_COMPACT_STRINGS := Sta.keep0 S_COMPACT_STRINGS Kq18
        have E_uv := E_uv.keep Kq18
        have V_uv := V_uv.keep Kq18 nin0
        have F_wireName_m0 := F_wireName_m0.keep Kq18 nin0
        have F_wireName_m1 := F_wireName_m1.keep Kq18 nin0
        have E_w0 := E_w0.keep Kq18
        have F_value_w0 := F_value_w0.keep Kq18 nin0
        have F_coder_w0 := F_coder_w0.keep Kq18 nin0
        have V_v0 := V_v0.keep Kq18 nin0
        have E_w1 := E_w1.keep Kq18
        have F_value_w1 := F_value_w1.keep Kq18 nin0
        have F_coder_w1 := F_coder_w1.keep Kq18 nin0
        have V_v1 := V_v1.keep Kq18 nin0
        have E_b1 := E_b1.keep Kq18
        have V_b1 := V_b1.keep Kq18 nin0
        have E_nm := E_nm.keep Kq18
        have F_value_nm := F_value_nm.keep Kq18 nin0
        have F_coder_nm := F_coder_nm.keep Kq18 nin0
        have V_nb := V_nb.keep Kq18 nin0
        have K18 := K16.trans Kq18 all0
        have zn18 : n0 ≤ T18.heap.size := Nat.le_trans zn16 Kq18.1
        have hk18 := Nat.le_trans hk16 Kq18.1
        refine OGo.go (B := T18.setTop (mkF m 472 #[.val (.int p0), .val (.int p1), .val (.int p2), .val (.int p3), .val (.long q4), .second, .val (.long q5), .second, .val (.ref b1), .val (.int (p0 &&& (3 : Int32))), .val (.int (p1 &&& (7 : Int32))), .val (.ref bo), .val (.ref nm), .val (.ref ur), .unset] [(own_res ys m0 m1)])) ?_ (fun tX kX => st18.trans kX)
        rw [ew]
        refine OGo.go (B := T18.setTop (mkF m 474 #[.val (.int p0), .val (.int p1), .val (.int p2), .val (.int p3), .val (.long q4), .second, .val (.long q5), .second, .val (.ref b1), .val (.int (p0 &&& (3 : Int32))), .val (.int (p1 &&& (7 : Int32))), .val (.ref bo), .val (.ref nm), .val (.ref ur), .val (.ref ur)] [])) ?_ (fun tX kX => XS.astore X18.here hx rfl (hb hby at_472) rfl rfl (l' := #[.val (.int p0), .val (.int p1), .val (.int p2), .val (.int p3), .val (.long q4), .second, .val (.long q5), .second, .val (.ref b1), .val (.int (p0 &&& (3 : Int32))), .val (.int (p1 &&& (7 : Int32))), .val (.ref bo), .val (.ref nm), .val (.ref ur), .val (.ref ur)]) rfl kX)
        refine OGo.go (B := T18.setTop (mkF m 476 #[.val (.int p0), .val (.int p1), .val (.int p2), .val (.int p3), .val (.long q4), .second, .val (.long q5), .second, .val (.ref b1), .val (.int (p0 &&& (3 : Int32))), .val (.int (p1 &&& (7 : Int32))), .val (.ref bo), .val (.ref nm), .val (.ref ur), .val (.ref ur)] [(.ref ur)])) ?_ (fun tX kX => XS.aload X18.here hx rfl (hb hby at_474) rfl rfl kX)
        refine OGo.go (B := T18.setTop (mkF m 478 #[.val (.int p0), .val (.int p1), .val (.int p2), .val (.int p3), .val (.long q4), .second, .val (.long q5), .second, .val (.ref b1), .val (.int (p0 &&& (3 : Int32))), .val (.int (p1 &&& (7 : Int32))), .val (.ref bo), .val (.ref nm), .val (.ref ur), .val (.ref ur)] [(.ref ur), (.ref ur)])) ?_ (fun tX kX => XS.aload X18.here hx rfl (hb hby at_476) rfl rfl kX)
        refine OGo.go (B := T18.setTop (mkF m 481 #[.val (.int p0), .val (.int p1), .val (.int p2), .val (.int p3), .val (.long q4), .second, .val (.long q5), .second, .val (.ref b1), .val (.int (p0 &&& (3 : Int32))), .val (.int (p1 &&& (7 : Int32))), .val (.ref bo), .val (.ref nm), .val (.ref ur), .val (.ref ur)] [])) ?_ (fun tX kX => Jvm.RoadKit.acmp (g := (mkF m 478 #[.val (.int p0), .val (.int p1), .val (.int p2), .val (.int p3), .val (.long q4), .second, .val (.long q5), .second, .val (.ref b1), .val (.int (p0 &&& (3 : Int32))), .val (.int (p1 &&& (7 : Int32))), .val (.ref bo), .val (.ref nm), .val (.ref ur), .val (.ref ur)] [(.ref ur), (.ref ur)])) X18 hx rfl rfl rfl (pc0 := 478) (pc' := 481) (same := true) rfl (hb hby at_478) rfl (decide_eq_true rfl) (by decide) (by decide) kX)
        refine OGo.go (B := T18.setTop (mkF m 482 #[.val (.int p0), .val (.int p1), .val (.int p2), .val (.int p3), .val (.long q4), .second, .val (.long q5), .second, .val (.ref b1), .val (.int (p0 &&& (3 : Int32))), .val (.int (p1 &&& (7 : Int32))), .val (.ref bo), .val (.ref nm), .val (.ref ur), .val (.ref ur)] [(.int (1 : Int32))])) ?_ (fun tX kX => XS.iconst X18.here hx rfl (hb hby at_481) kX)
        refine OGo.go (B := T18.setTop (mkF m 486 #[.val (.int p0), .val (.int p1), .val (.int p2), .val (.int p3), .val (.long q4), .second, .val (.long q5), .second, .val (.ref b1), .val (.int (p0 &&& (3 : Int32))), .val (.int (p1 &&& (7 : Int32))), .val (.ref bo), .val (.ref nm), .val (.ref ur), .val (.ref ur)] [(.int (1 : Int32))])) ?_ (fun tX kX => XS.goto X18.here hx rfl (pc0 := 482) (pc' := 486) rfl (hb hby at_482) (by decide) (by decide) kX)
        refine OGo.retW X18 hS18 (Nat.le_refl _) (v := (some (.int (1 : Int32)))) (fun h => by rw [Bd.returns] at h; cases h) (BodyLoose.notSynchronized Bd) (fun fs hr => retN X18 hx (t := .boolean) (z := (1 : Int32)) Bd.returns (by simp) (hb hby at_486) hr) (Q := Q0 Z p0 p1 p2 p3 q4 q5 uv kv m0 m1 w0 w1 v0 v1 kw0 kw1 cs h0 n0) ?_ (by decide) (by decide)
        show Q0 Z p0 p1 p2 p3 q4 q5 uv kv m0 m1 w0 w1 v0 v1 kw0 kw1 cs h0 n0 _ T18.heap _
        exact ⟨rfl, N18⟩
    refine OGo.go (B := TJ328.setTop (mkF m 329 #[.val (.int p0), .val (.int p1), .val (.int p2), .val (.int p3), .val (.long q4), .second, .val (.long q5), .second, .val (.ref b1), .val (.int (p0 &&& (3 : Int32))), .unset, .unset, .unset, .unset, .unset] [(.int p1)])) ?_ (fun tX kX => XS.iloadN XJ328.here hx rfl (hb hby at_328) rfl kX)
    refine OGo.go (B := TJ328.setTop (mkF m 331 #[.val (.int p0), .val (.int p1), .val (.int p2), .val (.int p3), .val (.long q4), .second, .val (.long q5), .second, .val (.ref b1), .val (.int (p0 &&& (3 : Int32))), .unset, .unset, .unset, .unset, .unset] [(.int (7 : Int32)), (.int p1)])) ?_ (fun tX kX => XS.bipush XJ328.here hx rfl (hb hby at_329) kX)
    refine OGo.go (B := TJ328.setTop (mkF m 332 #[.val (.int p0), .val (.int p1), .val (.int p2), .val (.int p3), .val (.long q4), .second, .val (.long q5), .second, .val (.ref b1), .val (.int (p0 &&& (3 : Int32))), .unset, .unset, .unset, .unset, .unset] [(.int (p1 &&& (7 : Int32)))])) ?_ (fun tX kX => XS.iand XJ328.here hx rfl (hb hby at_331) rfl kX)
    refine OGo.go (B := TJ328.setTop (mkF m 334 #[.val (.int p0), .val (.int p1), .val (.int p2), .val (.int p3), .val (.long q4), .second, .val (.long q5), .second, .val (.ref b1), .val (.int (p0 &&& (3 : Int32))), .val (.int (p1 &&& (7 : Int32))), .unset, .unset, .unset, .unset] [])) ?_ (fun tX kX => XS.istore XJ328.here hx rfl (hb hby at_332) rfl (l' := #[.val (.int p0), .val (.int p1), .val (.int p2), .val (.int p3), .val (.long q4), .second, .val (.long q5), .second, .val (.ref b1), .val (.int (p0 &&& (3 : Int32))), .val (.int (p1 &&& (7 : Int32))), .unset, .unset, .unset, .unset]) rfl kX)
    refine OGo.go (B := TJ328.setTop (mkF m 336 #[.val (.int p0), .val (.int p1), .val (.int p2), .val (.int p3), .val (.long q4), .second, .val (.long q5), .second, .val (.ref b1), .val (.int (p0 &&& (3 : Int32))), .val (.int (p1 &&& (7 : Int32))), .unset, .unset, .unset, .unset] [(.int (p1 &&& (7 : Int32)))])) ?_ (fun tX kX => XS.iload XJ328.here hx rfl (hb hby at_334) rfl kX)
    by_cases hc336 : (p1 &&& (7 : Int32)) = (0 : Int32)
    ·
      refine OGo.go (B := TJ328.setTop (mkF m 339 #[.val (.int p0), .val (.int p1), .val (.int p2), .val (.int p3), .val (.long q4), .second, .val (.long q5), .second, .val (.ref b1), .val (.int (p0 &&& (3 : Int32))), .val (.int (p1 &&& (7 : Int32))), .unset, .unset, .unset, .unset] [])) ?_ (fun tX kX => XS.ifNo XJ328.here hx rfl (hb hby at_336) rfl ((if0 _ _).trans (teq hc336).2) kX)
      refine OGo.go (B := TJ328.setTop (mkF m 340 #[.val (.int p0), .val (.int p1), .val (.int p2), .val (.int p3), .val (.long q4), .second, .val (.long q5), .second, .val (.ref b1), .val (.int (p0 &&& (3 : Int32))), .val (.int (p1 &&& (7 : Int32))), .unset, .unset, .unset, .unset] [(.int (0 : Int32))])) ?_ (fun tX kX => XS.iconst XJ328.here hx rfl (hb hby at_339) kX)
      obtain ⟨T19, h19, k19, X19, e19, E19, A19, EA19, st19⟩ := newPE XJ328 hx hZ (hw _ (List.mem_of_getElem? (i := 0) rfl)) eJ328 (g := (mkF m 340 #[.val (.int p0), .val (.int p1), .val (.int p2), .val (.int p3), .val (.long q4), .second, .val (.long q5), .second, .val (.ref b1), .val (.int (p0 &&& (3 : Int32))), .val (.int (p1 &&& (7 : Int32))), .unset, .unset, .unset, .unset] [(.int (0 : Int32))])) rfl (hb hby at_340) rfl (by decide) (cap := 0) (by decide) (by decide) (by decide) (by decide) (ad := "[C") (by decide)
      obtain ⟨b19, g19⟩ : ∃ z, z = hJ328.size := ⟨_, rfl⟩
      rw [← g19] at A19 EA19 st19
      have ne_uv_b19 : uv ≠ b19 := Nat.ne_of_lt (Nat.lt_of_lt_of_le E_uv.lt (Nat.le_of_eq g19.symm))
      have ne_m0_b19 : m0 ≠ b19 := Nat.ne_of_lt (Nat.lt_of_lt_of_le F_wireName_m0.lt (Nat.le_of_eq g19.symm))
      have ne_m1_b19 : m1 ≠ b19 := Nat.ne_of_lt (Nat.lt_of_lt_of_le F_wireName_m1.lt (Nat.le_of_eq g19.symm))
      have ne_w0_b19 : w0 ≠ b19 := Nat.ne_of_lt (Nat.lt_of_lt_of_le E_w0.lt (Nat.le_of_eq g19.symm))
      have ne_v0_b19 : v0 ≠ b19 := Nat.ne_of_lt (Nat.lt_of_lt_of_le V_v0.lt (Nat.le_of_eq g19.symm))
      have ne_w1_b19 : w1 ≠ b19 := Nat.ne_of_lt (Nat.lt_of_lt_of_le E_w1.lt (Nat.le_of_eq g19.symm))
      have ne_v1_b19 : v1 ≠ b19 := Nat.ne_of_lt (Nat.lt_of_lt_of_le V_v1.lt (Nat.le_of_eq g19.symm))
      have ne_b1_b19 : b1 ≠ b19 := Nat.ne_of_lt (Nat.lt_of_lt_of_le E_b1.lt (Nat.le_of_eq g19.symm))
      have CHo19 := hCH
      have Sf_b1 := Safe.ext E19 CHo19 Sf_b1
      have hCH := CHv.ext E19 CHo19
      have S_VAL := S_VAL.ext E19
      have E_uv := E_uv.ext E19
      have V_uv := V_uv.ext E19
      have F_wireName_m0 := F_wireName_m0.ext E19
      have F_wireName_m1 := F_wireName_m1.ext E19
      have E_w0 := E_w0.ext E19
      have F_value_w0 := F_value_w0.ext E19
      have F_coder_w0 := F_coder_w0.ext E19
      have V_v0 := V_v0.ext E19
      have E_w1 := E_w1.ext E19
      have F_value_w1 := F_value_w1.ext E19
      have F_coder_w1 := F_coder_w1.ext E19
      have V_v1 := V_v1.ext E19
      have S_SCRAM_SHA_1 := S_SCRAM_SHA_1.ext E19
      have S_PLAIN := S_PLAIN.ext E19
      have S_COMPACT_STRINGS := S_COMPACT_STRINGS.ext E19
      have E_b1 := E_b1.ext E19
      have V_b1 := V_b1.ext E19
      have Sf_b19 : Safe Z own_EL s.vm h19 b19 := Safe.ext E19 CHo19 (Safe.new (Nat.le_of_eq g19.symm))
      have g_b19 : n0 ≤ b19 := Nat.le_trans znJ328 (Nat.le_of_eq g19.symm)
      have sz_b19 : h0.size ≤ b19 := Nat.le_trans KJ328.1 (Nat.le_of_eq g19.symm)
      have zn19 : n0 ≤ h19.size := Nat.le_trans znJ328 E19.1
      have hk19 := Nat.le_trans (Nat.zero_le _) E19.1
      have K19 := KJ328.ext E19
      have E_b19 := EA19
      have V_b19 : Arv Z h19 b19 k19 .char (0 : Int32) [] (.int (0 : Int32)) := Arv.new A19 (by decide)
      refine OGo.go (B := T19.setTop (mkF m 342 #[.val (.int p0), .val (.int p1), .val (.int p2), .val (.int p3), .val (.long q4), .second, .val (.long q5), .second, .val (.ref b1), .val (.int (p0 &&& (3 : Int32))), .val (.int (p1 &&& (7 : Int32))), .unset, .unset, .unset, .unset] [(.ref b19)])) ?_ st19
      refine OGo.go (B := T19.setTop (mkF m 344 #[.val (.int p0), .val (.int p1), .val (.int p2), .val (.int p3), .val (.long q4), .second, .val (.long q5), .second, .val (.ref b1), .val (.int (p0 &&& (3 : Int32))), .val (.int (p1 &&& (7 : Int32))), .val (.ref b19), .unset, .unset, .unset] [])) ?_ (fun tX kX => XS.astore X19.here hx rfl (hb hby at_342) rfl rfl (l' := #[.val (.int p0), .val (.int p1), .val (.int p2), .val (.int p3), .val (.long q4), .second, .val (.long q5), .second, .val (.ref b1), .val (.int (p0 &&& (3 : Int32))), .val (.int (p1 &&& (7 : Int32))), .val (.ref b19), .unset, .unset, .unset]) rfl kX)
      refine OGo.go (B := T19.setTop (mkF m 441 #[.val (.int p0), .val (.int p1), .val (.int p2), .val (.int p3), .val (.long q4), .second, .val (.long q5), .second, .val (.ref b1), .val (.int (p0 &&& (3 : Int32))), .val (.int (p1 &&& (7 : Int32))), .val (.ref b19), .unset, .unset, .unset] [])) ?_ (fun tX kX => XS.goto X19.here hx rfl (pc0 := 344) (pc' := 441) rfl (hb hby at_344) (by decide) (by decide) kX)
      refine OGo.go (B := T19.setTop (mkF m 443 #[.val (.int p0), .val (.int p1), .val (.int p2), .val (.int p3), .val (.long q4), .second, .val (.long q5), .second, .val (.ref b1), .val (.int (p0 &&& (3 : Int32))), .val (.int (p1 &&& (7 : Int32))), .val (.ref b19), .unset, .unset, .unset] [(.int (p0 &&& (3 : Int32)))])) ?_ (fun tX kX => XS.iload X19.here hx rfl (hb hby at_441) rfl kX)
      refine OGo.go (B := T19.setTop (mkF m 444 #[.val (.int p0), .val (.int p1), .val (.int p2), .val (.int p3), .val (.long q4), .second, .val (.long q5), .second, .val (.ref b1), .val (.int (p0 &&& (3 : Int32))), .val (.int (p1 &&& (7 : Int32))), .val (.ref b19), .unset, .unset, .unset] [(.int (3 : Int32)), (.int (p0 &&& (3 : Int32)))])) ?_ (fun tX kX => XS.iconst X19.here hx rfl (hb hby at_443) kX)
      by_cases hc444 : (p0 &&& (3 : Int32)) = (3 : Int32)
      ·
        refine OGo.go (B := T19.setTop (mkF m 447 #[.val (.int p0), .val (.int p1), .val (.int p2), .val (.int p3), .val (.long q4), .second, .val (.long q5), .second, .val (.ref b1), .val (.int (p0 &&& (3 : Int32))), .val (.int (p1 &&& (7 : Int32))), .val (.ref b19), .unset, .unset, .unset] [])) ?_ (fun tX kX => XS.icmpNo X19.here hx rfl (hb hby at_444) rfl (teq hc444).2 kX)
        refine OGo.go (B := T19.setTop (mkF m 448 #[.val (.int p0), .val (.int p1), .val (.int p2), .val (.int p3), .val (.long q4), .second, .val (.long q5), .second, .val (.ref b1), .val (.int (p0 &&& (3 : Int32))), .val (.int (p1 &&& (7 : Int32))), .val (.ref b19), .unset, .unset, .unset] [.null])) ?_ (fun tX kX => XS.aconstNull X19.here hx rfl (hb hby at_447) kX)
        refine OGo.go (B := T19.setTop (mkF m 458 #[.val (.int p0), .val (.int p1), .val (.int p2), .val (.int p3), .val (.long q4), .second, .val (.long q5), .second, .val (.ref b1), .val (.int (p0 &&& (3 : Int32))), .val (.int (p1 &&& (7 : Int32))), .val (.ref b19), .unset, .unset, .unset] [.null])) ?_ (fun tX kX => XS.goto X19.here hx rfl (pc0 := 448) (pc' := 458) rfl (hb hby at_448) (by decide) (by decide) kX)
        exact J458n T19 _ h19 b19 (X19.mono (by decide) (by decide)) e19 NJ328 zn19 K19 hCH S_VAL E_uv V_uv F_wireName_m0 F_wireName_m1 E_w0 F_value_w0 F_coder_w0 V_v0 E_w1 F_value_w1 F_coder_w1 V_v1 S_SCRAM_SHA_1 S_PLAIN S_COMPACT_STRINGS Sf_b1 E_b1 V_b1
      ·
        refine OGo.go (B := T19.setTop (mkF m 451 #[.val (.int p0), .val (.int p1), .val (.int p2), .val (.int p3), .val (.long q4), .second, .val (.long q5), .second, .val (.ref b1), .val (.int (p0 &&& (3 : Int32))), .val (.int (p1 &&& (7 : Int32))), .val (.ref b19), .unset, .unset, .unset] [])) ?_ (fun tX kX => XS.icmpYes X19.here hx rfl (pc0 := 444) (pc' := 451) rfl (hb hby at_444) rfl (feq hc444).2 (by decide) (by decide) kX)
        refine OGo.go (B := T19.setTop (mkF m 453 #[.val (.int p0), .val (.int p1), .val (.int p2), .val (.int p3), .val (.long q4), .second, .val (.long q5), .second, .val (.ref b1), .val (.int (p0 &&& (3 : Int32))), .val (.int (p1 &&& (7 : Int32))), .val (.ref b19), .unset, .unset, .unset] [(.ref b1)])) ?_ (fun tX kX => XS.aload X19.here hx rfl (hb hby at_451) rfl rfl kX)
        refine OGo.go (B := T19.setTop (mkF m 455 #[.val (.int p0), .val (.int p1), .val (.int p2), .val (.int p3), .val (.long q4), .second, .val (.long q5), .second, .val (.ref b1), .val (.int (p0 &&& (3 : Int32))), .val (.int (p1 &&& (7 : Int32))), .val (.ref b19), .unset, .unset, .unset] [(.ref b19), (.ref b1)])) ?_ (fun tX kX => XS.aload X19.here hx rfl (hb hby at_453) rfl rfl kX)
        obtain ⟨_, _, ⟨T20, L20, k20, n20⟩, -, X20, hSq20, hgr20, ⟨Lc20, hQ20, l20, y20, z20, CRq20⟩, st20⟩ := callSS X19 hx (y := (⟨"com/example/hushlist/hushlist/server/SaslMechanismNamedPinLaw", "prefix", "([C[C)Ljava/lang/String;"⟩ : MethodName)) hown (mvT hZ (hw _ (List.mem_of_getElem? (i := 2) rfl))) (mvT hZ (hw _ (List.mem_of_getElem? (i := 3) rfl))) (mvT hZ (hw _ (List.mem_of_getElem? (i := 4) rfl))) (mvT hZ (hw _ (List.mem_of_getElem? (i := 5) rfl))) (by decide) (backOfSH (W := 0) (rm1p0 l Z aV hw [] b1 b19 k1 k19 ch0 ch1 ch2 ch3 ch4 ch5 ch6 ch7 ch8 ch9 ch10 ch11 h19 n0 zn19 V_b1 V_b19 g_b19) hZ (hw _ (List.mem_of_getElem? (i := 5) rfl)) (hw _ (List.mem_of_getElem? (i := 4) rfl)) (by decide) (by decide) own_ew hCH) (g := (mkF m 455 #[.val (.int p0), .val (.int p1), .val (.int p2), .val (.int p3), .val (.long q4), .second, .val (.long q5), .second, .val (.ref b1), .val (.int (p0 &&& (3 : Int32))), .val (.int (p1 &&& (7 : Int32))), .val (.ref b19), .unset, .unset, .unset] [(.ref b19), (.ref b1)])) rfl (by rw [hml]; rfl) (argsL := [(.ref b1), (.ref b19)]) (rest := []) (lenOf pd___C_C_Ljava_lang_String_ rfl) rfl (by show 2 * 0 + _ ≤ _; exact Nat.le_of_eq rfl) (hb hby at_455) (fun _ _ => ⟨rfl, e19, (by decide : 2 + 3 ≤ _), (by decide : 12 + 8 ≤ _)⟩)
        dsimp only [Pt.U, Pt.locs, Pt.cells, Pt.slots] at X20 l20 y20 z20 st20 hQ20 hSq20 hgr20 CRq20
        subst l20 y20 z20
        obtain ⟨X20, hS20, hZ20, hown20⟩ := rebS hS0 hk19 X20 hSq20 (by rw [← e19]; exact hgr20) hZ hown
        have Sf_b1 := CRq20.safe E_b1.lt Sf_b1
        have Sf_b19 := CRq20.safe E_b19.lt Sf_b19
        have hCH := CRq20.1
        obtain ⟨b_20, nb_20, kb_20, rfl, N20q, Kq20, sz20_b, E_b_20_p, F_value_b_20_p, F_coder_b_20_p, V_nb_20_p⟩ := hQ20
        have N20 := Fr.app NJ328 N20q
        have ne_uv_b_20 : uv ≠ b_20 := Nat.ne_of_lt (Nat.lt_of_lt_of_le E_uv.lt sz20_b)
        have ne_m0_b_20 : m0 ≠ b_20 := Nat.ne_of_lt (Nat.lt_of_lt_of_le F_wireName_m0.lt sz20_b)
        have ne_m1_b_20 : m1 ≠ b_20 := Nat.ne_of_lt (Nat.lt_of_lt_of_le F_wireName_m1.lt sz20_b)
        have ne_w0_b_20 : w0 ≠ b_20 := Nat.ne_of_lt (Nat.lt_of_lt_of_le E_w0.lt sz20_b)
        have ne_v0_b_20 : v0 ≠ b_20 := Nat.ne_of_lt (Nat.lt_of_lt_of_le V_v0.lt sz20_b)
        have ne_w1_b_20 : w1 ≠ b_20 := Nat.ne_of_lt (Nat.lt_of_lt_of_le E_w1.lt sz20_b)
        have ne_v1_b_20 : v1 ≠ b_20 := Nat.ne_of_lt (Nat.lt_of_lt_of_le V_v1.lt sz20_b)
        have ne_b1_b_20 : b1 ≠ b_20 := Nat.ne_of_lt (Nat.lt_of_lt_of_le E_b1.lt sz20_b)
        have ne_b19_b_20 : b19 ≠ b_20 := Nat.ne_of_lt (Nat.lt_of_lt_of_le E_b19.lt sz20_b)
        have S_VAL := Sta.keepE S_VAL Kq20 (staS E_b19.cell (fun x hx' => nomatch hx'))
        have S_SCRAM_SHA_1 := Sta.keepE S_SCRAM_SHA_1 Kq20 (staS E_b19.cell (fun x hx' => nomatch hx'))
        have S_PLAIN := Sta.keepE S_PLAIN Kq20 (staS E_b19.cell (fun x hx' => nomatch hx'))
        have S_COMPACT_STRINGS := Sta.keepE S_COMPACT_STRINGS Kq20 (staS E_b19.cell (fun x hx' => nomatch hx'))
        have E_uv := E_uv.keep Kq20
        have V_uv := V_uv.keep Kq20 (ninS ne_uv_b19 nin0)
        have F_wireName_m0 := F_wireName_m0.keep Kq20 (ninS ne_m0_b19 nin0)
        have F_wireName_m1 := F_wireName_m1.keep Kq20 (ninS ne_m1_b19 nin0)
        have E_w0 := E_w0.keep Kq20
        have F_value_w0 := F_value_w0.keep Kq20 (ninS ne_w0_b19 nin0)
        have F_coder_w0 := F_coder_w0.keep Kq20 (ninS ne_w0_b19 nin0)
        have V_v0 := V_v0.keep Kq20 (ninS ne_v0_b19 nin0)
        have E_w1 := E_w1.keep Kq20
        have F_value_w1 := F_value_w1.keep Kq20 (ninS ne_w1_b19 nin0)
        have F_coder_w1 := F_coder_w1.keep Kq20 (ninS ne_w1_b19 nin0)
        have V_v1 := V_v1.keep Kq20 (ninS ne_v1_b19 nin0)
        have E_b1 := E_b1.keep Kq20
        have V_b1 := V_b1.keep Kq20 (ninS ne_b1_b19 nin0)
        have E_b19 := E_b19.keep Kq20
        have g_b_20 : n0 ≤ b_20 := Nat.le_trans zn19 sz20_b
        have sz_b_20 : h0.size ≤ b_20 := Nat.le_trans K19.1 sz20_b
        have K20 := K19.trans Kq20 (allS (P := fun x => x ∈ ([] : List Addr) ∨ h0.size ≤ x) (Or.inr sz_b19) all0)
        have zn20 : n0 ≤ T20.heap.size := Nat.le_trans zn19 Kq20.1
        have hk20 := Nat.le_trans hk19 Kq20.1
        have E_b_20 := E_b_20_p
        have F_value_b_20 := F_value_b_20_p
        have F_coder_b_20 := F_coder_b_20_p
        have V_nb_20 := V_nb_20_p
        refine OGo.go (B := T20.setTop (mkF m 458 #[.val (.int p0), .val (.int p1), .val (.int p2), .val (.int p3), .val (.long q4), .second, .val (.long q5), .second, .val (.ref b1), .val (.int (p0 &&& (3 : Int32))), .val (.int (p1 &&& (7 : Int32))), .val (.ref b19), .unset, .unset, .unset] [(.ref b_20)])) ?_ (fun tX kX => st20.trans kX)
        refine OGo.go (B := T20.setTop (mkF m 460 #[.val (.int p0), .val (.int p1), .val (.int p2), .val (.int p3), .val (.long q4), .second, .val (.long q5), .second, .val (.ref b1), .val (.int (p0 &&& (3 : Int32))), .val (.int (p1 &&& (7 : Int32))), .val (.ref b19), .val (.ref b_20), .unset, .unset] [])) ?_ (fun tX kX => XS.astore X20.here hx rfl (hb hby at_458) rfl rfl (l' := #[.val (.int p0), .val (.int p1), .val (.int p2), .val (.int p3), .val (.long q4), .second, .val (.long q5), .second, .val (.ref b1), .val (.int (p0 &&& (3 : Int32))), .val (.int (p1 &&& (7 : Int32))), .val (.ref b19), .val (.ref b_20), .unset, .unset]) rfl kX)
        refine OGo.go (B := T20.setTop (mkF m 462 #[.val (.int p0), .val (.int p1), .val (.int p2), .val (.int p3), .val (.long q4), .second, .val (.long q5), .second, .val (.ref b1), .val (.int (p0 &&& (3 : Int32))), .val (.int (p1 &&& (7 : Int32))), .val (.ref b19), .val (.ref b_20), .unset, .unset] [(.ref b_20)])) ?_ (fun tX kX => XS.aload X20.here hx rfl (hb hby at_460) rfl rfl kX)
        obtain ⟨_, _, ⟨T21, L21, k21, n21⟩, -, X21, ⟨Lc21, hQ21, l21, y21, z21⟩, st21⟩ := Jvm.LawKit.callS X20 hx (y := (⟨"com/example/hushlist/hushlist/server/SaslMechanism", "named", "(Ljava/lang/String;)Lcom/example/hushlist/hushlist/server/SaslMechanism;"⟩ : MethodName)) hown20 (mvT hZ20 (hw _ (List.mem_of_getElem? (i := 35) rfl))) (mvT hZ20 (hw _ (List.mem_of_getElem? (i := 36) rfl))) (mvT hZ20 (hw _ (List.mem_of_getElem? (i := 37) rfl))) (mvT hZ20 (hw _ (List.mem_of_getElem? (i := 38) rfl))) (by decide) (backOf (W := 0) (rm8s l Z aV hw [] b_20 uv kv m0 m1 w0 w1 v0 v1 kw0 kw1 nb_20 kb_20 (0 : Int32) [] cs T20.heap n0 zn20 S_VAL E_uv V_uv F_wireName_m0 F_wireName_m1 E_w0 F_value_w0 F_coder_w0 V_v0 E_w1 F_value_w1 F_coder_w1 V_v1 E_b_20 F_value_b_20 F_coder_b_20 V_nb_20 S_COMPACT_STRINGS hcs rfl) hZ20 (hw _ (List.mem_of_getElem? (i := 38) rfl)) (hw _ (List.mem_of_getElem? (i := 37) rfl)) (by decide) (by decide)) (g := (mkF m 462 #[.val (.int p0), .val (.int p1), .val (.int p2), .val (.int p3), .val (.long q4), .second, .val (.long q5), .second, .val (.ref b1), .val (.int (p0 &&& (3 : Int32))), .val (.int (p1 &&& (7 : Int32))), .val (.ref b19), .val (.ref b_20), .unset, .unset] [(.ref b_20)])) rfl (by rw [hml]; rfl) (argsL := [(.ref b_20)]) (rest := []) (lenOf pd__Ljava_lang_String__Lcom_example_hushlist_hushlist_server_SaslMechanism_ rfl) rfl (by show 2 * 0 + _ ≤ _; exact Nat.le_of_eq rfl) (hb hby at_462) (fun _ _ => ⟨rfl, rfl, (by decide : 5 + 1 ≤ _), (by decide : 20 + 2 ≤ _)⟩)
        dsimp only [Pt.U, Pt.locs, Pt.cells, Pt.slots] at X21 l21 y21 z21 st21 hQ21
        subst l21 y21 z21
        obtain ⟨rfl, N21q, Kq21⟩ := hQ21
        have N21 := Fr.app N20 N21q
        have sfs21 : ∀ x ∈ ([] : List Addr), Safe Z own_EL T20.vm T20.heap x := sf0
        have CHo21 := hCH
        have Sf_b1 := Safe.keep Kq21 sfs21 CHo21 Sf_b1
        have Sf_b19 := Safe.keep Kq21 sfs21 CHo21 Sf_b19
        have hCH := CHv.keep Kq21 sfs21 CHo21
        have S_VAL := Sta.keep0 S_VAL Kq21
        have S_SCRAM_SHA_1 := Sta.keep0 S_SCRAM_SHA_1 Kq21
        have S_PLAIN := Sta.keep0 S_PLAIN Kq21
        have S_COMPACT_STRINGS := Sta.keep0 S_COMPACT_STRINGS Kq21
        have E_uv := E_uv.keep Kq21
        have V_uv := V_uv.keep Kq21 nin0
        have F_wireName_m0 := F_wireName_m0.keep Kq21 nin0
        have F_wireName_m1 := F_wireName_m1.keep Kq21 nin0
        have E_w0 := E_w0.keep Kq21
        have F_value_w0 := F_value_w0.keep Kq21 nin0
        have F_coder_w0 := F_coder_w0.keep Kq21 nin0
        have V_v0 := V_v0.keep Kq21 nin0
        have E_w1 := E_w1.keep Kq21
        have F_value_w1 := F_value_w1.keep Kq21 nin0
        have F_coder_w1 := F_coder_w1.keep Kq21 nin0
        have V_v1 := V_v1.keep Kq21 nin0
        have E_b1 := E_b1.keep Kq21
        have V_b1 := V_b1.keep Kq21 nin0
        have E_b19 := E_b19.keep Kq21
        have E_b_20 := E_b_20.keep Kq21
        have F_value_b_20 := F_value_b_20.keep Kq21 nin0
        have F_coder_b_20 := F_coder_b_20.keep Kq21 nin0
        have V_nb_20 := V_nb_20.keep Kq21 nin0
        have K21 := K20.trans Kq21 all0
        have zn21 : n0 ≤ T21.heap.size := Nat.le_trans zn20 Kq21.1
        have hk21 := Nat.le_trans (Nat.le_refl _) Kq21.1
        refine OGo.go (B := T21.setTop (mkF m 465 #[.val (.int p0), .val (.int p1), .val (.int p2), .val (.int p3), .val (.long q4), .second, .val (.long q5), .second, .val (.ref b1), .val (.int (p0 &&& (3 : Int32))), .val (.int (p1 &&& (7 : Int32))), .val (.ref b19), .val (.ref b_20), .unset, .unset] [(own_res [] m0 m1)])) ?_ st21
        rcases own_two [] m0 m1 with ew | ⟨ur, ew⟩
        ·
          rw [ew]
          refine OGo.go (B := T21.setTop (mkF m 467 #[.val (.int p0), .val (.int p1), .val (.int p2), .val (.int p3), .val (.long q4), .second, .val (.long q5), .second, .val (.ref b1), .val (.int (p0 &&& (3 : Int32))), .val (.int (p1 &&& (7 : Int32))), .val (.ref b19), .val (.ref b_20), .val .null, .unset] [])) ?_ (fun tX kX => XS.astore X21.here hx rfl (hb hby at_465) rfl rfl (l' := #[.val (.int p0), .val (.int p1), .val (.int p2), .val (.int p3), .val (.long q4), .second, .val (.long q5), .second, .val (.ref b1), .val (.int (p0 &&& (3 : Int32))), .val (.int (p1 &&& (7 : Int32))), .val (.ref b19), .val (.ref b_20), .val .null, .unset]) rfl kX)
          refine OGo.go (B := T21.setTop (mkF m 469 #[.val (.int p0), .val (.int p1), .val (.int p2), .val (.int p3), .val (.long q4), .second, .val (.long q5), .second, .val (.ref b1), .val (.int (p0 &&& (3 : Int32))), .val (.int (p1 &&& (7 : Int32))), .val (.ref b19), .val (.ref b_20), .val .null, .unset] [(.ref b_20)])) ?_ (fun tX kX => XS.aload X21.here hx rfl (hb hby at_467) rfl rfl kX)
          obtain ⟨_, _, ⟨T22, L22, k22, n22⟩, -, X22, hSq22, hgr22, ⟨Lc22, hQ22, l22, y22, z22, CRq22⟩, st22⟩ := callSS X21 hx (y := (⟨"com/example/hushlist/hushlist/server/SaslMechanismNamedPinLaw", "expected", "(Ljava/lang/String;)Lcom/example/hushlist/hushlist/server/SaslMechanism;"⟩ : MethodName)) hown20 (mvT hZ20 (hw _ (List.mem_of_getElem? (i := 67) rfl))) (mvT hZ20 (hw _ (List.mem_of_getElem? (i := 68) rfl))) (mvT hZ20 (hw _ (List.mem_of_getElem? (i := 4) rfl))) (mvT hZ20 (hw _ (List.mem_of_getElem? (i := 69) rfl))) (by decide) (backOfSH (W := 0) (rm12s l Z aV hw [] b_20 m0 m1 nb_20 kb_20 (0 : Int32) [] cs T21.heap n0 zn21 S_SCRAM_SHA_1 S_PLAIN E_b_20 F_value_b_20 F_coder_b_20 V_nb_20 S_COMPACT_STRINGS hcs rfl) hZ20 (hw _ (List.mem_of_getElem? (i := 69) rfl)) (hw _ (List.mem_of_getElem? (i := 4) rfl)) (by decide) (by decide) own_ew hCH) (g := (mkF m 469 #[.val (.int p0), .val (.int p1), .val (.int p2), .val (.int p3), .val (.long q4), .second, .val (.long q5), .second, .val (.ref b1), .val (.int (p0 &&& (3 : Int32))), .val (.int (p1 &&& (7 : Int32))), .val (.ref b19), .val (.ref b_20), .val .null, .unset] [(.ref b_20)])) rfl (by rw [hml]; rfl) (argsL := [(.ref b_20)]) (rest := []) (lenOf pd__Ljava_lang_String__Lcom_example_hushlist_hushlist_server_SaslMechanism_ rfl) rfl (by show 2 * 0 + _ ≤ _; exact Nat.le_of_eq rfl) (hb hby at_469) (fun _ _ => ⟨rfl, rfl, (by decide : 6 + 4 ≤ _), (by decide : 22 + 72 ≤ _)⟩)
          dsimp only [Pt.U, Pt.locs, Pt.cells, Pt.slots] at X22 l22 y22 z22 st22 hQ22 hSq22 hgr22 CRq22
          subst l22 y22 z22
          obtain ⟨X22, hS22, hZ22, hown22⟩ := rebS hS20 hk21 X22 hSq22 (by rw [← (rfl : T21.heap = T21.heap)]; exact hgr22) hZ20 hown20
          have Sf_b1 := CRq22.safe E_b1.lt Sf_b1
          have Sf_b19 := CRq22.safe E_b19.lt Sf_b19
          have hCH := CRq22.1
          obtain ⟨rfl, N22q, Kq22⟩ := hQ22
          have N22 := Fr.app N21 N22q
          have S_VAL := Sta.keep0 S_VAL Kq22
          have S_SCRAM_SHA_1 := Sta.keep0 S_SCRAM_SHA_1 Kq22
          have S_PLAIN := Sta.keep0 S_PLAIN Kq22
          have S_COMPACT_STRINGS := Sta.keep0 S_COMPACT_STRINGS Kq22
          have E_uv := E_uv.keep Kq22
          have V_uv := V_uv.keep Kq22 nin0
          have F_wireName_m0 := F_wireName_m0.keep Kq22 nin0
          have F_wireName_m1 := F_wireName_m1.keep Kq22 nin0
          have E_w0 := E_w0.keep Kq22
          have F_value_w0 := F_value_w0.keep Kq22 nin0
          have F_coder_w0 := F_coder_w0.keep Kq22 nin0
          have V_v0 := V_v0.keep Kq22 nin0
          have E_w1 := E_w1.keep Kq22
          have F_value_w1 := F_value_w1.keep Kq22 nin0
          have F_coder_w1 := F_coder_w1.keep Kq22 nin0
          have V_v1 := V_v1.keep Kq22 nin0
          have E_b1 := E_b1.keep Kq22
          have V_b1 := V_b1.keep Kq22 nin0
          have E_b19 := E_b19.keep Kq22
          have E_b_20 := E_b_20.keep Kq22
          have F_value_b_20 := F_value_b_20.keep Kq22 nin0
          have F_coder_b_20 := F_coder_b_20.keep Kq22 nin0
          have V_nb_20 := V_nb_20.keep Kq22 nin0
          have K22 := K21.trans Kq22 all0
          have zn22 : n0 ≤ T22.heap.size := Nat.le_trans zn21 Kq22.1
          have hk22 := Nat.le_trans hk21 Kq22.1
          refine OGo.go (B := T22.setTop (mkF m 472 #[.val (.int p0), .val (.int p1), .val (.int p2), .val (.int p3), .val (.long q4), .second, .val (.long q5), .second, .val (.ref b1), .val (.int (p0 &&& (3 : Int32))), .val (.int (p1 &&& (7 : Int32))), .val (.ref b19), .val (.ref b_20), .val .null, .unset] [(own_res [] m0 m1)])) ?_ (fun tX kX => st22.trans kX)
          rw [ew]
          refine OGo.go (B := T22.setTop (mkF m 474 #[.val (.int p0), .val (.int p1), .val (.int p2), .val (.int p3), .val (.long q4), .second, .val (.long q5), .second, .val (.ref b1), .val (.int (p0 &&& (3 : Int32))), .val (.int (p1 &&& (7 : Int32))), .val (.ref b19), .val (.ref b_20), .val .null, .val .null] [])) ?_ (fun tX kX => XS.astore X22.here hx rfl (hb hby at_472) rfl rfl (l' := #[.val (.int p0), .val (.int p1), .val (.int p2), .val (.int p3), .val (.long q4), .second, .val (.long q5), .second, .val (.ref b1), .val (.int (p0 &&& (3 : Int32))), .val (.int (p1 &&& (7 : Int32))), .val (.ref b19), .val (.ref b_20), .val .null, .val .null]) rfl kX)
          refine OGo.go (B := T22.setTop (mkF m 476 #[.val (.int p0), .val (.int p1), .val (.int p2), .val (.int p3), .val (.long q4), .second, .val (.long q5), .second, .val (.ref b1), .val (.int (p0 &&& (3 : Int32))), .val (.int (p1 &&& (7 : Int32))), .val (.ref b19), .val (.ref b_20), .val .null, .val .null] [.null])) ?_ (fun tX kX => XS.aload X22.here hx rfl (hb hby at_474) rfl rfl kX)
          refine OGo.go (B := T22.setTop (mkF m 478 #[.val (.int p0), .val (.int p1), .val (.int p2), .val (.int p3), .val (.long q4), .second, .val (.long q5), .second, .val (.ref b1), .val (.int (p0 &&& (3 : Int32))), .val (.int (p1 &&& (7 : Int32))), .val (.ref b19), .val (.ref b_20), .val .null, .val .null] [.null, .null])) ?_ (fun tX kX => XS.aload X22.here hx rfl (hb hby at_476) rfl rfl kX)
          refine OGo.go (B := T22.setTop (mkF m 481 #[.val (.int p0), .val (.int p1), .val (.int p2), .val (.int p3), .val (.long q4), .second, .val (.long q5), .second, .val (.ref b1), .val (.int (p0 &&& (3 : Int32))), .val (.int (p1 &&& (7 : Int32))), .val (.ref b19), .val (.ref b_20), .val .null, .val .null] [])) ?_ (fun tX kX => Jvm.RoadKit.acmp (g := (mkF m 478 #[.val (.int p0), .val (.int p1), .val (.int p2), .val (.int p3), .val (.long q4), .second, .val (.long q5), .second, .val (.ref b1), .val (.int (p0 &&& (3 : Int32))), .val (.int (p1 &&& (7 : Int32))), .val (.ref b19), .val (.ref b_20), .val .null, .val .null] [.null, .null])) X22 hx rfl rfl rfl (pc0 := 478) (pc' := 481) (same := true) rfl (hb hby at_478) rfl (decide_eq_true rfl) (by decide) (by decide) kX)
          refine OGo.go (B := T22.setTop (mkF m 482 #[.val (.int p0), .val (.int p1), .val (.int p2), .val (.int p3), .val (.long q4), .second, .val (.long q5), .second, .val (.ref b1), .val (.int (p0 &&& (3 : Int32))), .val (.int (p1 &&& (7 : Int32))), .val (.ref b19), .val (.ref b_20), .val .null, .val .null] [(.int (1 : Int32))])) ?_ (fun tX kX => XS.iconst X22.here hx rfl (hb hby at_481) kX)
          refine OGo.go (B := T22.setTop (mkF m 486 #[.val (.int p0), .val (.int p1), .val (.int p2), .val (.int p3), .val (.long q4), .second, .val (.long q5), .second, .val (.ref b1), .val (.int (p0 &&& (3 : Int32))), .val (.int (p1 &&& (7 : Int32))), .val (.ref b19), .val (.ref b_20), .val .null, .val .null] [(.int (1 : Int32))])) ?_ (fun tX kX => XS.goto X22.here hx rfl (pc0 := 482) (pc' := 486) rfl (hb hby at_482) (by decide) (by decide) kX)
          refine OGo.retW X22 hS22 (Nat.le_refl _) (v := (some (.int (1 : Int32)))) (fun h => by rw [Bd.returns] at h; cases h) (BodyLoose.notSynchronized Bd) (fun fs hr => retN X22 hx (t := .boolean) (z := (1 : Int32)) Bd.returns (by simp) (hb hby at_486) hr) (Q := Q0 Z p0 p1 p2 p3 q4 q5 uv kv m0 m1 w0 w1 v0 v1 kw0 kw1 cs h0 n0) ?_ (by decide) (by decide)
          show Q0 Z p0 p1 p2 p3 q4 q5 uv kv m0 m1 w0 w1 v0 v1 kw0 kw1 cs h0 n0 _ T22.heap _
          exact ⟨rfl, N22⟩
        ·
          rw [ew]
          refine OGo.go (B := T21.setTop (mkF m 467 #[.val (.int p0), .val (.int p1), .val (.int p2), .val (.int p3), .val (.long q4), .second, .val (.long q5), .second, .val (.ref b1), .val (.int (p0 &&& (3 : Int32))), .val (.int (p1 &&& (7 : Int32))), .val (.ref b19), .val (.ref b_20), .val (.ref ur), .unset] [])) ?_ (fun tX kX => XS.astore X21.here hx rfl (hb hby at_465) rfl rfl (l' := #[.val (.int p0), .val (.int p1), .val (.int p2), .val (.int p3), .val (.long q4), .second, .val (.long q5), .second, .val (.ref b1), .val (.int (p0 &&& (3 : Int32))), .val (.int (p1 &&& (7 : Int32))), .val (.ref b19), .val (.ref b_20), .val (.ref ur), .unset]) rfl kX)
          refine OGo.go (B := T21.setTop (mkF m 469 #[.val (.int p0), .val (.int p1), .val (.int p2), .val (.int p3), .val (.long q4), .second, .val (.long q5), .second, .val (.ref b1), .val (.int (p0 &&& (3 : Int32))), .val (.int (p1 &&& (7 : Int32))), .val (.ref b19), .val (.ref b_20), .val (.ref ur), .unset] [(.ref b_20)])) ?_ (fun tX kX => XS.aload X21.here hx rfl (hb hby at_467) rfl rfl kX)
          obtain ⟨_, _, ⟨T23, L23, k23, n23⟩, -, X23, hSq23, hgr23, ⟨Lc23, hQ23, l23, y23, z23, CRq23⟩, st23⟩ := callSS X21 hx (y := (⟨"com/example/hushlist/hushlist/server/SaslMechanismNamedPinLaw", "expected", "(Ljava/lang/String;)Lcom/example/hushlist/hushlist/server/SaslMechanism;"⟩ : MethodName)) hown20 (mvT hZ20 (hw _ (List.mem_of_getElem? (i := 67) rfl))) (mvT hZ20 (hw _ (List.mem_of_getElem? (i := 68) rfl))) (mvT hZ20 (hw _ (List.mem_of_getElem? (i := 4) rfl))) (mvT hZ20 (hw _ (List.mem_of_getElem? (i := 69) rfl))) (by decide) (backOfSH (W := 0) (rm12s l Z aV hw [] b_20 m0 m1 nb_20 kb_20 (0 : Int32) [] cs T21.heap n0 zn21 S_SCRAM_SHA_1 S_PLAIN E_b_20 F_value_b_20 F_coder_b_20 V_nb_20 S_COMPACT_STRINGS hcs rfl) hZ20 (hw _ (List.mem_of_getElem? (i := 69) rfl)) (hw _ (List.mem_of_getElem? (i := 4) rfl)) (by decide) (by decide) own_ew hCH) (g := (mkF m 469 #[.val (.int p0), .val (.int p1), .val (.int p2), .val (.int p3), .val (.long q4), .second, .val (.long q5), .second, .val (.ref b1), .val (.int (p0 &&& (3 : Int32))), .val (.int (p1 &&& (7 : Int32))), .val (.ref b19), .val (.ref b_20), .val (.ref ur), .unset] [(.ref b_20)])) rfl (by rw [hml]; rfl) (argsL := [(.ref b_20)]) (rest := []) (lenOf pd__Ljava_lang_String__Lcom_example_hushlist_hushlist_server_SaslMechanism_ rfl) rfl (by show 2 * 0 + _ ≤ _; exact Nat.le_of_eq rfl) (hb hby at_469) (fun _ _ => ⟨rfl, rfl, (by decide : 6 + 4 ≤ _), (by decide : 22 + 72 ≤ _)⟩)
          dsimp only [Pt.U, Pt.locs, Pt.cells, Pt.slots] at X23 l23 y23 z23 st23 hQ23 hSq23 hgr23 CRq23
          subst l23 y23 z23
          obtain ⟨X23, hS23, hZ23, hown23⟩ := rebS hS20 hk21 X23 hSq23 (by rw [← (rfl : T21.heap = T21.heap)]; exact hgr23) hZ20 hown20
          have Sf_b1 := CRq23.safe E_b1.lt Sf_b1
          have Sf_b19 := CRq23.safe E_b19.lt Sf_b19
          have hCH := CRq23.1
          obtain ⟨rfl, N23q, Kq23⟩ := hQ23
          have N23 := Fr.app N21 N23q
          have S_VAL := Sta.keep0 S_VAL Kq23
          have S_SCRAM_SHA_1 := Sta.keep0 S_SCRAM_SHA_1 Kq23
          have S_PLAIN := Sta.keep0 S_PLAIN Kq23
          have S_COMPACT_STRINGS := Sta.keep0 S_COMPACT_STRINGS Kq23
          have E_uv := E_uv.keep Kq23
          have V_uv := V_uv.keep Kq23 nin0
          have F_wireName_m0 := F_wireName_m0.keep Kq23 nin0
          have F_wireName_m1 := F_wireName_m1.keep Kq23 nin0
          have E_w0 := E_w0.keep Kq23
          have F_value_w0 := F_value_w0.keep Kq23 nin0
          have F_coder_w0 := F_coder_w0.keep Kq23 nin0
          have V_v0 := V_v0.keep Kq23 nin0
          have E_w1 := E_w1.keep Kq23
          have F_value_w1 := F_value_w1.keep Kq23 nin0
          have F_coder_w1 := F_coder_w1.keep Kq23 nin0
          have V_v1 := V_v1.keep Kq23 nin0
          have E_b1 := E_b1.keep Kq23
          have V_b1 := V_b1.keep Kq23 nin0
          have E_b19 := E_b19.keep Kq23
          have E_b_20 := E_b_20.keep Kq23
          have F_value_b_20 := F_value_b_20.keep Kq23 nin0
          have F_coder_b_20 := F_coder_b_20.keep Kq23 nin0
          have V_nb_20 := V_nb_20.keep Kq23 nin0
          have K23 := K21.trans Kq23 all0
          have zn23 : n0 ≤ T23.heap.size := Nat.le_trans zn21 Kq23.1
          have hk23 := Nat.le_trans hk21 Kq23.1
          refine OGo.go (B := T23.setTop (mkF m 472 #[.val (.int p0), .val (.int p1), .val (.int p2), .val (.int p3), .val (.long q4), .second, .val (.long q5), .second, .val (.ref b1), .val (.int (p0 &&& (3 : Int32))), .val (.int (p1 &&& (7 : Int32))), .val (.ref b19), .val (.ref b_20), .val (.ref ur), .unset] [(own_res [] m0 m1)])) ?_ (fun tX kX => st23.trans kX)
          rw [ew]
          refine OGo.go (B := T23.setTop (mkF m 474 #[.val (.int p0), .val (.int p1), .val (.int p2), .val (.int p3), .val (.long q4), .second, .val (.long q5), .second, .val (.ref b1), .val (.int (p0 &&& (3 : Int32))), .val (.int (p1 &&& (7 : Int32))), .val (.ref b19), .val (.ref b_20), .val (.ref ur), .val (.ref ur)] [])) ?_ (fun tX kX => XS.astore X23.here hx rfl (hb hby at_472) rfl rfl (l' := #[.val (.int p0), .val (.int p1), .val (.int p2), .val (.int p3), .val (.long q4), .second, .val (.long q5), .second, .val (.ref b1), .val (.int (p0 &&& (3 : Int32))), .val (.int (p1 &&& (7 : Int32))), .val (.ref b19), .val (.ref b_20), .val (.ref ur), .val (.ref ur)]) rfl kX)
          refine OGo.go (B := T23.setTop (mkF m 476 #[.val (.int p0), .val (.int p1), .val (.int p2), .val (.int p3), .val (.long q4), .second, .val (.long q5), .second, .val (.ref b1), .val (.int (p0 &&& (3 : Int32))), .val (.int (p1 &&& (7 : Int32))), .val (.ref b19), .val (.ref b_20), .val (.ref ur), .val (.ref ur)] [(.ref ur)])) ?_ (fun tX kX => XS.aload X23.here hx rfl (hb hby at_474) rfl rfl kX)
          refine OGo.go (B := T23.setTop (mkF m 478 #[.val (.int p0), .val (.int p1), .val (.int p2), .val (.int p3), .val (.long q4), .second, .val (.long q5), .second, .val (.ref b1), .val (.int (p0 &&& (3 : Int32))), .val (.int (p1 &&& (7 : Int32))), .val (.ref b19), .val (.ref b_20), .val (.ref ur), .val (.ref ur)] [(.ref ur), (.ref ur)])) ?_ (fun tX kX => XS.aload X23.here hx rfl (hb hby at_476) rfl rfl kX)
          refine OGo.go (B := T23.setTop (mkF m 481 #[.val (.int p0), .val (.int p1), .val (.int p2), .val (.int p3), .val (.long q4), .second, .val (.long q5), .second, .val (.ref b1), .val (.int (p0 &&& (3 : Int32))), .val (.int (p1 &&& (7 : Int32))), .val (.ref b19), .val (.ref b_20), .val (.ref ur), .val (.ref ur)] [])) ?_ (fun tX kX => Jvm.RoadKit.acmp (g := (mkF m 478 #[.val (.int p0), .val (.int p1), .val (.int p2), .val (.int p3), .val (.long q4), .second, .val (.long q5), .second, .val (.ref b1), .val (.int (p0 &&& (3 : Int32))), .val (.int (p1 &&& (7 : Int32))), .val (.ref b19), .val (.ref b_20), .val (.ref ur), .val (.ref ur)] [(.ref ur), (.ref ur)])) X23 hx rfl rfl rfl (pc0 := 478) (pc' := 481) (same := true) rfl (hb hby at_478) rfl (decide_eq_true rfl) (by decide) (by decide) kX)
          refine OGo.go (B := T23.setTop (mkF m 482 #[.val (.int p0), .val (.int p1), .val (.int p2), .val (.int p3), .val (.long q4), .second, .val (.long q5), .second, .val (.ref b1), .val (.int (p0 &&& (3 : Int32))), .val (.int (p1 &&& (7 : Int32))), .val (.ref b19), .val (.ref b_20), .val (.ref ur), .val (.ref ur)] [(.int (1 : Int32))])) ?_ (fun tX kX => XS.iconst X23.here hx rfl (hb hby at_481) kX)
          refine OGo.go (B := T23.setTop (mkF m 486 #[.val (.int p0), .val (.int p1), .val (.int p2), .val (.int p3), .val (.long q4), .second, .val (.long q5), .second, .val (.ref b1), .val (.int (p0 &&& (3 : Int32))), .val (.int (p1 &&& (7 : Int32))), .val (.ref b19), .val (.ref b_20), .val (.ref ur), .val (.ref ur)] [(.int (1 : Int32))])) ?_ (fun tX kX => XS.goto X23.here hx rfl (pc0 := 482) (pc' := 486) rfl (hb hby at_482) (by decide) (by decide) kX)
          refine OGo.retW X23 hS23 (Nat.le_refl _) (v := (some (.int (1 : Int32)))) (fun h => by rw [Bd.returns] at h; cases h) (BodyLoose.notSynchronized Bd) (fun fs hr => retN X23 hx (t := .boolean) (z := (1 : Int32)) Bd.returns (by simp) (hb hby at_486) hr) (Q := Q0 Z p0 p1 p2 p3 q4 q5 uv kv m0 m1 w0 w1 v0 v1 kw0 kw1 cs h0 n0) ?_ (by decide) (by decide)
          show Q0 Z p0 p1 p2 p3 q4 q5 uv kv m0 m1 w0 w1 v0 v1 kw0 kw1 cs h0 n0 _ T23.heap _
          exact ⟨rfl, N23⟩
    ·
      refine OGo.go (B := TJ328.setTop (mkF m 347 #[.val (.int p0), .val (.int p1), .val (.int p2), .val (.int p3), .val (.long q4), .second, .val (.long q5), .second, .val (.ref b1), .val (.int (p0 &&& (3 : Int32))), .val (.int (p1 &&& (7 : Int32))), .unset, .unset, .unset, .unset] [])) ?_ (fun tX kX => XS.ifYes XJ328.here hx rfl (pc0 := 336) (pc' := 347) rfl (hb hby at_336) rfl ((if0 _ _).trans (feq hc336).2) (by decide) (by decide) kX)
      refine OGo.go (B := TJ328.setTop (mkF m 349 #[.val (.int p0), .val (.int p1), .val (.int p2), .val (.int p3), .val (.long q4), .second, .val (.long q5), .second, .val (.ref b1), .val (.int (p0 &&& (3 : Int32))), .val (.int (p1 &&& (7 : Int32))), .unset, .unset, .unset, .unset] [(.int (p1 &&& (7 : Int32)))])) ?_ (fun tX kX => XS.iload XJ328.here hx rfl (hb hby at_347) rfl kX)
      refine OGo.go (B := TJ328.setTop (mkF m 350 #[.val (.int p0), .val (.int p1), .val (.int p2), .val (.int p3), .val (.long q4), .second, .val (.long q5), .second, .val (.ref b1), .val (.int (p0 &&& (3 : Int32))), .val (.int (p1 &&& (7 : Int32))), .unset, .unset, .unset, .unset] [(.int (1 : Int32)), (.int (p1 &&& (7 : Int32)))])) ?_ (fun tX kX => XS.iconst XJ328.here hx rfl (hb hby at_349) kX)
      by_cases hc350 : (p1 &&& (7 : Int32)) = (1 : Int32)
      ·
        refine OGo.go (B := TJ328.setTop (mkF m 353 #[.val (.int p0), .val (.int p1), .val (.int p2), .val (.int p3), .val (.long q4), .second, .val (.long q5), .second, .val (.ref b1), .val (.int (p0 &&& (3 : Int32))), .val (.int (p1 &&& (7 : Int32))), .unset, .unset, .unset, .unset] [])) ?_ (fun tX kX => XS.icmpNo XJ328.here hx rfl (hb hby at_350) rfl (teq hc350).2 kX)
        refine OGo.go (B := TJ328.setTop (mkF m 354 #[.val (.int p0), .val (.int p1), .val (.int p2), .val (.int p3), .val (.long q4), .second, .val (.long q5), .second, .val (.ref b1), .val (.int (p0 &&& (3 : Int32))), .val (.int (p1 &&& (7 : Int32))), .unset, .unset, .unset, .unset] [(.int (1 : Int32))])) ?_ (fun tX kX => XS.iconst XJ328.here hx rfl (hb hby at_353) kX)
        obtain ⟨T24, h24, k24, X24, e24, E24, A24, EA24, st24⟩ := newPE XJ328 hx hZ (hw _ (List.mem_of_getElem? (i := 0) rfl)) eJ328 (g := (mkF m 354 #[.val (.int p0), .val (.int p1), .val (.int p2), .val (.int p3), .val (.long q4), .second, .val (.long q5), .second, .val (.ref b1), .val (.int (p0 &&& (3 : Int32))), .val (.int (p1 &&& (7 : Int32))), .unset, .unset, .unset, .unset] [(.int (1 : Int32))])) rfl (hb hby at_354) rfl (by decide) (cap := 1) (by decide) (by decide) (by decide) (by decide) (ad := "[C") (by decide)
        obtain ⟨b24, g24⟩ : ∃ z, z = hJ328.size := ⟨_, rfl⟩
        rw [← g24] at A24 EA24 st24
        have ne_uv_b24 : uv ≠ b24 := Nat.ne_of_lt (Nat.lt_of_lt_of_le E_uv.lt (Nat.le_of_eq g24.symm))
        have ne_m0_b24 : m0 ≠ b24 := Nat.ne_of_lt (Nat.lt_of_lt_of_le F_wireName_m0.lt (Nat.le_of_eq g24.symm))
        have ne_m1_b24 : m1 ≠ b24 := Nat.ne_of_lt (Nat.lt_of_lt_of_le F_wireName_m1.lt (Nat.le_of_eq g24.symm))
        have ne_w0_b24 : w0 ≠ b24 := Nat.ne_of_lt (Nat.lt_of_lt_of_le E_w0.lt (Nat.le_of_eq g24.symm))
        have ne_v0_b24 : v0 ≠ b24 := Nat.ne_of_lt (Nat.lt_of_lt_of_le V_v0.lt (Nat.le_of_eq g24.symm))
        have ne_w1_b24 : w1 ≠ b24 := Nat.ne_of_lt (Nat.lt_of_lt_of_le E_w1.lt (Nat.le_of_eq g24.symm))
        have ne_v1_b24 : v1 ≠ b24 := Nat.ne_of_lt (Nat.lt_of_lt_of_le V_v1.lt (Nat.le_of_eq g24.symm))
        have ne_b1_b24 : b1 ≠ b24 := Nat.ne_of_lt (Nat.lt_of_lt_of_le E_b1.lt (Nat.le_of_eq g24.symm))
        have CHo24 := hCH
        have Sf_b1 := Safe.ext E24 CHo24 Sf_b1
        have hCH := CHv.ext E24 CHo24
        have S_VAL := S_VAL.ext E24
        have E_uv := E_uv.ext E24
        have V_uv := V_uv.ext E24
        have F_wireName_m0 := F_wireName_m0.ext E24
        have F_wireName_m1 := F_wireName_m1.ext E24
        have E_w0 := E_w0.ext E24
        have F_value_w0 := F_value_w0.ext E24
        have F_coder_w0 := F_coder_w0.ext E24
        have V_v0 := V_v0.ext E24
        have E_w1 := E_w1.ext E24
        have F_value_w1 := F_value_w1.ext E24
        have F_coder_w1 := F_coder_w1.ext E24
        have V_v1 := V_v1.ext E24
        have S_SCRAM_SHA_1 := S_SCRAM_SHA_1.ext E24
        have S_PLAIN := S_PLAIN.ext E24
        have S_COMPACT_STRINGS := S_COMPACT_STRINGS.ext E24
        have E_b1 := E_b1.ext E24
        have V_b1 := V_b1.ext E24
        have Sf_b24 : Safe Z own_EL s.vm h24 b24 := Safe.ext E24 CHo24 (Safe.new (Nat.le_of_eq g24.symm))
        have g_b24 : n0 ≤ b24 := Nat.le_trans znJ328 (Nat.le_of_eq g24.symm)
        have sz_b24 : h0.size ≤ b24 := Nat.le_trans KJ328.1 (Nat.le_of_eq g24.symm)
        have zn24 : n0 ≤ h24.size := Nat.le_trans znJ328 E24.1
        have hk24 := Nat.le_trans (Nat.zero_le _) E24.1
        have K24 := KJ328.ext E24
        have E_b24 := EA24
        have V_b24 : Arv Z h24 b24 k24 .char (1 : Int32) [(.int (0 : Int32))] (.int (0 : Int32)) := (Arv.new A24 (by decide)).pad (pad_rep [] (.int (0 : Int32)) 1)
        refine OGo.go (B := T24.setTop (mkF m 356 #[.val (.int p0), .val (.int p1), .val (.int p2), .val (.int p3), .val (.long q4), .second, .val (.long q5), .second, .val (.ref b1), .val (.int (p0 &&& (3 : Int32))), .val (.int (p1 &&& (7 : Int32))), .unset, .unset, .unset, .unset] [(.ref b24)])) ?_ st24
        refine OGo.go (B := T24.setTop (mkF m 358 #[.val (.int p0), .val (.int p1), .val (.int p2), .val (.int p3), .val (.long q4), .second, .val (.long q5), .second, .val (.ref b1), .val (.int (p0 &&& (3 : Int32))), .val (.int (p1 &&& (7 : Int32))), .val (.ref b24), .unset, .unset, .unset] [])) ?_ (fun tX kX => XS.astore X24.here hx rfl (hb hby at_356) rfl rfl (l' := #[.val (.int p0), .val (.int p1), .val (.int p2), .val (.int p3), .val (.long q4), .second, .val (.long q5), .second, .val (.ref b1), .val (.int (p0 &&& (3 : Int32))), .val (.int (p1 &&& (7 : Int32))), .val (.ref b24), .unset, .unset, .unset]) rfl kX)
        refine OGo.go (B := T24.setTop (mkF m 441 #[.val (.int p0), .val (.int p1), .val (.int p2), .val (.int p3), .val (.long q4), .second, .val (.long q5), .second, .val (.ref b1), .val (.int (p0 &&& (3 : Int32))), .val (.int (p1 &&& (7 : Int32))), .val (.ref b24), .unset, .unset, .unset] [])) ?_ (fun tX kX => XS.goto X24.here hx rfl (pc0 := 358) (pc' := 441) rfl (hb hby at_358) (by decide) (by decide) kX)
        refine OGo.go (B := T24.setTop (mkF m 443 #[.val (.int p0), .val (.int p1), .val (.int p2), .val (.int p3), .val (.long q4), .second, .val (.long q5), .second, .val (.ref b1), .val (.int (p0 &&& (3 : Int32))), .val (.int (p1 &&& (7 : Int32))), .val (.ref b24), .unset, .unset, .unset] [(.int (p0 &&& (3 : Int32)))])) ?_ (fun tX kX => XS.iload X24.here hx rfl (hb hby at_441) rfl kX)
        refine OGo.go (B := T24.setTop (mkF m 444 #[.val (.int p0), .val (.int p1), .val (.int p2), .val (.int p3), .val (.long q4), .second, .val (.long q5), .second, .val (.ref b1), .val (.int (p0 &&& (3 : Int32))), .val (.int (p1 &&& (7 : Int32))), .val (.ref b24), .unset, .unset, .unset] [(.int (3 : Int32)), (.int (p0 &&& (3 : Int32)))])) ?_ (fun tX kX => XS.iconst X24.here hx rfl (hb hby at_443) kX)
        by_cases hc444_1 : (p0 &&& (3 : Int32)) = (3 : Int32)
        ·
          refine OGo.go (B := T24.setTop (mkF m 447 #[.val (.int p0), .val (.int p1), .val (.int p2), .val (.int p3), .val (.long q4), .second, .val (.long q5), .second, .val (.ref b1), .val (.int (p0 &&& (3 : Int32))), .val (.int (p1 &&& (7 : Int32))), .val (.ref b24), .unset, .unset, .unset] [])) ?_ (fun tX kX => XS.icmpNo X24.here hx rfl (hb hby at_444) rfl (teq hc444_1).2 kX)
          refine OGo.go (B := T24.setTop (mkF m 448 #[.val (.int p0), .val (.int p1), .val (.int p2), .val (.int p3), .val (.long q4), .second, .val (.long q5), .second, .val (.ref b1), .val (.int (p0 &&& (3 : Int32))), .val (.int (p1 &&& (7 : Int32))), .val (.ref b24), .unset, .unset, .unset] [.null])) ?_ (fun tX kX => XS.aconstNull X24.here hx rfl (hb hby at_447) kX)
          refine OGo.go (B := T24.setTop (mkF m 458 #[.val (.int p0), .val (.int p1), .val (.int p2), .val (.int p3), .val (.long q4), .second, .val (.long q5), .second, .val (.ref b1), .val (.int (p0 &&& (3 : Int32))), .val (.int (p1 &&& (7 : Int32))), .val (.ref b24), .unset, .unset, .unset] [.null])) ?_ (fun tX kX => XS.goto X24.here hx rfl (pc0 := 448) (pc' := 458) rfl (hb hby at_448) (by decide) (by decide) kX)
          exact J458n T24 _ h24 b24 (X24.mono (by decide) (by decide)) e24 NJ328 zn24 K24 hCH S_VAL E_uv V_uv F_wireName_m0 F_wireName_m1 E_w0 F_value_w0 F_coder_w0 V_v0 E_w1 F_value_w1 F_coder_w1 V_v1 S_SCRAM_SHA_1 S_PLAIN S_COMPACT_STRINGS Sf_b1 E_b1 V_b1
        ·
          refine OGo.go (B := T24.setTop (mkF m 451 #[.val (.int p0), .val (.int p1), .val (.int p2), .val (.int p3), .val (.long q4), .second, .val (.long q5), .second, .val (.ref b1), .val (.int (p0 &&& (3 : Int32))), .val (.int (p1 &&& (7 : Int32))), .val (.ref b24), .unset, .unset, .unset] [])) ?_ (fun tX kX => XS.icmpYes X24.here hx rfl (pc0 := 444) (pc' := 451) rfl (hb hby at_444) rfl (feq hc444_1).2 (by decide) (by decide) kX)
          refine OGo.go (B := T24.setTop (mkF m 453 #[.val (.int p0), .val (.int p1), .val (.int p2), .val (.int p3), .val (.long q4), .second, .val (.long q5), .second, .val (.ref b1), .val (.int (p0 &&& (3 : Int32))), .val (.int (p1 &&& (7 : Int32))), .val (.ref b24), .unset, .unset, .unset] [(.ref b1)])) ?_ (fun tX kX => XS.aload X24.here hx rfl (hb hby at_451) rfl rfl kX)
          refine OGo.go (B := T24.setTop (mkF m 455 #[.val (.int p0), .val (.int p1), .val (.int p2), .val (.int p3), .val (.long q4), .second, .val (.long q5), .second, .val (.ref b1), .val (.int (p0 &&& (3 : Int32))), .val (.int (p1 &&& (7 : Int32))), .val (.ref b24), .unset, .unset, .unset] [(.ref b24), (.ref b1)])) ?_ (fun tX kX => XS.aload X24.here hx rfl (hb hby at_453) rfl rfl kX)
          obtain ⟨_, _, ⟨T25, L25, k25, n25⟩, -, X25, ⟨Lc25, hQ25, l25, y25, z25⟩, st25⟩ := Jvm.LawKit.callS X24 hx (y := (⟨"com/example/hushlist/hushlist/server/SaslMechanismNamedPinLaw", "prefix", "([C[C)Ljava/lang/String;"⟩ : MethodName)) hown (mvT hZ (hw _ (List.mem_of_getElem? (i := 2) rfl))) (mvT hZ (hw _ (List.mem_of_getElem? (i := 3) rfl))) (mvT hZ (hw _ (List.mem_of_getElem? (i := 4) rfl))) (mvT hZ (hw _ (List.mem_of_getElem? (i := 5) rfl))) (by decide) (backOf (W := 0) (rm1g l Z aV hw [] b1 b24 k1 k24 cs (1 : Int32) [(.int (0 : Int32))] ch0 ch1 ch2 ch3 ch4 ch5 ch6 ch7 ch8 ch9 ch10 ch11 h24 n0 zn24 V_b1 V_b24 S_COMPACT_STRINGS g_b24 ne_b1_b24 hcs (own_Bc (by decide) own_Bn) rfl (by decide) (by decide) le0 le1 le2 le3 le4 le5 le6 le7 le8 le9 le10 le11) hZ (hw _ (List.mem_of_getElem? (i := 5) rfl)) (hw _ (List.mem_of_getElem? (i := 4) rfl)) (by decide) (by decide)) (g := (mkF m 455 #[.val (.int p0), .val (.int p1), .val (.int p2), .val (.int p3), .val (.long q4), .second, .val (.long q5), .second, .val (.ref b1), .val (.int (p0 &&& (3 : Int32))), .val (.int (p1 &&& (7 : Int32))), .val (.ref b24), .unset, .unset, .unset] [(.ref b24), (.ref b1)])) rfl (by rw [hml]; rfl) (argsL := [(.ref b1), (.ref b24)]) (rest := []) (lenOf pd___C_C_Ljava_lang_String_ rfl) rfl (by show 2 * 0 + _ ≤ _; exact Nat.le_of_eq rfl) (hb hby at_455) (fun _ _ => ⟨rfl, e24, (by decide : 2 + 2 ≤ _), (by decide : 13 + 16 ≤ _)⟩)
          dsimp only [Pt.U, Pt.locs, Pt.cells, Pt.slots] at X25 l25 y25 z25 st25 hQ25
          subst l25 y25 z25
          obtain ⟨b_25, nb_25, kb_25, ys_25, rfl, N25q, Kq25, sz25_b, E_b_25_p, F_value_b_25_p, F_coder_b_25_p, V_nb_25_p, hr25_0⟩ := hQ25
          have N25 := Fr.app NJ328 N25q
          have ne_uv_b_25 : uv ≠ b_25 := Nat.ne_of_lt (Nat.lt_of_lt_of_le E_uv.lt sz25_b)
          have ne_m0_b_25 : m0 ≠ b_25 := Nat.ne_of_lt (Nat.lt_of_lt_of_le F_wireName_m0.lt sz25_b)
          have ne_m1_b_25 : m1 ≠ b_25 := Nat.ne_of_lt (Nat.lt_of_lt_of_le F_wireName_m1.lt sz25_b)
          have ne_w0_b_25 : w0 ≠ b_25 := Nat.ne_of_lt (Nat.lt_of_lt_of_le E_w0.lt sz25_b)
          have ne_v0_b_25 : v0 ≠ b_25 := Nat.ne_of_lt (Nat.lt_of_lt_of_le V_v0.lt sz25_b)
          have ne_w1_b_25 : w1 ≠ b_25 := Nat.ne_of_lt (Nat.lt_of_lt_of_le E_w1.lt sz25_b)
          have ne_v1_b_25 : v1 ≠ b_25 := Nat.ne_of_lt (Nat.lt_of_lt_of_le V_v1.lt sz25_b)
          have ne_b1_b_25 : b1 ≠ b_25 := Nat.ne_of_lt (Nat.lt_of_lt_of_le E_b1.lt sz25_b)
          have ne_b24_b_25 : b24 ≠ b_25 := Nat.ne_of_lt (Nat.lt_of_lt_of_le E_b24.lt sz25_b)
          have sfs25 : ∀ x ∈ [b24], Safe Z own_EL s.vm h24 x := (sfS Sf_b24 sf0)
          have CHo25 := hCH
          have Sf_b1 := Safe.keep Kq25 sfs25 CHo25 Sf_b1
          have Sf_b24 := Safe.keep Kq25 sfs25 CHo25 Sf_b24
          have hCH := CHv.keep Kq25 sfs25 CHo25
          have Sf_b_25 := Safe.keep Kq25 sfs25 CHo25 (Safe.new sz25_b)
          have S_VAL := Sta.keepE S_VAL Kq25 (staS E_b24.cell (fun x hx' => nomatch hx'))
          have S_SCRAM_SHA_1 := Sta.keepE S_SCRAM_SHA_1 Kq25 (staS E_b24.cell (fun x hx' => nomatch hx'))
          have S_PLAIN := Sta.keepE S_PLAIN Kq25 (staS E_b24.cell (fun x hx' => nomatch hx'))
          have S_COMPACT_STRINGS := Sta.keepE S_COMPACT_STRINGS Kq25 (staS E_b24.cell (fun x hx' => nomatch hx'))
          have E_uv := E_uv.keep Kq25
          have V_uv := V_uv.keep Kq25 (ninS ne_uv_b24 nin0)
          have F_wireName_m0 := F_wireName_m0.keep Kq25 (ninS ne_m0_b24 nin0)
          have F_wireName_m1 := F_wireName_m1.keep Kq25 (ninS ne_m1_b24 nin0)
          have E_w0 := E_w0.keep Kq25
          have F_value_w0 := F_value_w0.keep Kq25 (ninS ne_w0_b24 nin0)
          have F_coder_w0 := F_coder_w0.keep Kq25 (ninS ne_w0_b24 nin0)
          have V_v0 := V_v0.keep Kq25 (ninS ne_v0_b24 nin0)
          have E_w1 := E_w1.keep Kq25
          have F_value_w1 := F_value_w1.keep Kq25 (ninS ne_w1_b24 nin0)
          have F_coder_w1 := F_coder_w1.keep Kq25 (ninS ne_w1_b24 nin0)
          have V_v1 := V_v1.keep Kq25 (ninS ne_v1_b24 nin0)
          have E_b1 := E_b1.keep Kq25
          have V_b1 := V_b1.keep Kq25 (ninS ne_b1_b24 nin0)
          have E_b24 := E_b24.keep Kq25
          have g_b_25 : n0 ≤ b_25 := Nat.le_trans zn24 sz25_b
          have sz_b_25 : h0.size ≤ b_25 := Nat.le_trans K24.1 sz25_b
          have K25 := K24.trans Kq25 (allS (P := fun x => x ∈ ([] : List Addr) ∨ h0.size ≤ x) (Or.inr sz_b24) all0)
          have zn25 : n0 ≤ T25.heap.size := Nat.le_trans zn24 Kq25.1
          have hk25 := Nat.le_trans hk24 Kq25.1
          have E_b_25 := E_b_25_p
          have F_value_b_25 := F_value_b_25_p
          have F_coder_b_25 := F_coder_b_25_p
          have V_nb_25 := V_nb_25_p
          refine OGo.go (B := T25.setTop (mkF m 458 #[.val (.int p0), .val (.int p1), .val (.int p2), .val (.int p3), .val (.long q4), .second, .val (.long q5), .second, .val (.ref b1), .val (.int (p0 &&& (3 : Int32))), .val (.int (p1 &&& (7 : Int32))), .val (.ref b24), .unset, .unset, .unset] [(.ref b_25)])) ?_ st25
          exact J458s T25 _ T25.heap b24 b_25 nb_25 kb_25 (1 : Int32) ys_25 (X25.mono (by decide) (by decide)) rfl N25 zn25 K25 hCH S_VAL E_uv V_uv F_wireName_m0 F_wireName_m1 E_w0 F_value_w0 F_coder_w0 V_v0 E_w1 F_value_w1 F_coder_w1 V_v1 S_SCRAM_SHA_1 S_PLAIN S_COMPACT_STRINGS Sf_b1 E_b1 V_b1 E_b_25 F_value_b_25 F_coder_b_25 V_nb_25 hr25_0
      ·
        refine OGo.go (B := TJ328.setTop (mkF m 361 #[.val (.int p0), .val (.int p1), .val (.int p2), .val (.int p3), .val (.long q4), .second, .val (.long q5), .second, .val (.ref b1), .val (.int (p0 &&& (3 : Int32))), .val (.int (p1 &&& (7 : Int32))), .unset, .unset, .unset, .unset] [])) ?_ (fun tX kX => XS.icmpYes XJ328.here hx rfl (pc0 := 350) (pc' := 361) rfl (hb hby at_350) rfl (feq hc350).2 (by decide) (by decide) kX)
        refine OGo.go (B := TJ328.setTop (mkF m 363 #[.val (.int p0), .val (.int p1), .val (.int p2), .val (.int p3), .val (.long q4), .second, .val (.long q5), .second, .val (.ref b1), .val (.int (p0 &&& (3 : Int32))), .val (.int (p1 &&& (7 : Int32))), .unset, .unset, .unset, .unset] [(.int (p1 &&& (7 : Int32)))])) ?_ (fun tX kX => XS.iload XJ328.here hx rfl (hb hby at_361) rfl kX)
        refine OGo.go (B := TJ328.setTop (mkF m 364 #[.val (.int p0), .val (.int p1), .val (.int p2), .val (.int p3), .val (.long q4), .second, .val (.long q5), .second, .val (.ref b1), .val (.int (p0 &&& (3 : Int32))), .val (.int (p1 &&& (7 : Int32))), .unset, .unset, .unset, .unset] [(.int (2 : Int32)), (.int (p1 &&& (7 : Int32)))])) ?_ (fun tX kX => XS.iconst XJ328.here hx rfl (hb hby at_363) kX)
        by_cases hc364 : (p1 &&& (7 : Int32)) = (2 : Int32)
        ·
          refine OGo.go (B := TJ328.setTop (mkF m 367 #[.val (.int p0), .val (.int p1), .val (.int p2), .val (.int p3), .val (.long q4), .second, .val (.long q5), .second, .val (.ref b1), .val (.int (p0 &&& (3 : Int32))), .val (.int (p1 &&& (7 : Int32))), .unset, .unset, .unset, .unset] [])) ?_ (fun tX kX => XS.icmpNo XJ328.here hx rfl (hb hby at_364) rfl (teq hc364).2 kX)
          refine OGo.go (B := TJ328.setTop (mkF m 368 #[.val (.int p0), .val (.int p1), .val (.int p2), .val (.int p3), .val (.long q4), .second, .val (.long q5), .second, .val (.ref b1), .val (.int (p0 &&& (3 : Int32))), .val (.int (p1 &&& (7 : Int32))), .unset, .unset, .unset, .unset] [(.int (4 : Int32))])) ?_ (fun tX kX => XS.iconst XJ328.here hx rfl (hb hby at_367) kX)
          obtain ⟨T26, h26, k26, X26, e26, E26, A26, EA26, st26⟩ := newPE XJ328 hx hZ (hw _ (List.mem_of_getElem? (i := 0) rfl)) eJ328 (g := (mkF m 368 #[.val (.int p0), .val (.int p1), .val (.int p2), .val (.int p3), .val (.long q4), .second, .val (.long q5), .second, .val (.ref b1), .val (.int (p0 &&& (3 : Int32))), .val (.int (p1 &&& (7 : Int32))), .unset, .unset, .unset, .unset] [(.int (4 : Int32))])) rfl (hb hby at_368) rfl (by decide) (cap := 4) (by decide) (by decide) (by decide) (by decide) (ad := "[C") (by decide)
          obtain ⟨b26, g26⟩ : ∃ z, z = hJ328.size := ⟨_, rfl⟩
          rw [← g26] at A26 EA26 st26
          have ne_uv_b26 : uv ≠ b26 := Nat.ne_of_lt (Nat.lt_of_lt_of_le E_uv.lt (Nat.le_of_eq g26.symm))
          have ne_m0_b26 : m0 ≠ b26 := Nat.ne_of_lt (Nat.lt_of_lt_of_le F_wireName_m0.lt (Nat.le_of_eq g26.symm))
          have ne_m1_b26 : m1 ≠ b26 := Nat.ne_of_lt (Nat.lt_of_lt_of_le F_wireName_m1.lt (Nat.le_of_eq g26.symm))
          have ne_w0_b26 : w0 ≠ b26 := Nat.ne_of_lt (Nat.lt_of_lt_of_le E_w0.lt (Nat.le_of_eq g26.symm))
          have ne_v0_b26 : v0 ≠ b26 := Nat.ne_of_lt (Nat.lt_of_lt_of_le V_v0.lt (Nat.le_of_eq g26.symm))
          have ne_w1_b26 : w1 ≠ b26 := Nat.ne_of_lt (Nat.lt_of_lt_of_le E_w1.lt (Nat.le_of_eq g26.symm))
          have ne_v1_b26 : v1 ≠ b26 := Nat.ne_of_lt (Nat.lt_of_lt_of_le V_v1.lt (Nat.le_of_eq g26.symm))
          have ne_b1_b26 : b1 ≠ b26 := Nat.ne_of_lt (Nat.lt_of_lt_of_le E_b1.lt (Nat.le_of_eq g26.symm))
          have CHo26 := hCH
          have Sf_b1 := Safe.ext E26 CHo26 Sf_b1
          have hCH := CHv.ext E26 CHo26
          have S_VAL := S_VAL.ext E26
          have E_uv := E_uv.ext E26
          have V_uv := V_uv.ext E26
          have F_wireName_m0 := F_wireName_m0.ext E26
          have F_wireName_m1 := F_wireName_m1.ext E26
          have E_w0 := E_w0.ext E26
          have F_value_w0 := F_value_w0.ext E26
          have F_coder_w0 := F_coder_w0.ext E26
          have V_v0 := V_v0.ext E26
          have E_w1 := E_w1.ext E26
          have F_value_w1 := F_value_w1.ext E26
          have F_coder_w1 := F_coder_w1.ext E26
          have V_v1 := V_v1.ext E26
          have S_SCRAM_SHA_1 := S_SCRAM_SHA_1.ext E26
          have S_PLAIN := S_PLAIN.ext E26
          have S_COMPACT_STRINGS := S_COMPACT_STRINGS.ext E26
          have E_b1 := E_b1.ext E26
          have V_b1 := V_b1.ext E26
          have Sf_b26 : Safe Z own_EL s.vm h26 b26 := Safe.ext E26 CHo26 (Safe.new (Nat.le_of_eq g26.symm))
          have g_b26 : n0 ≤ b26 := Nat.le_trans znJ328 (Nat.le_of_eq g26.symm)
          have sz_b26 : h0.size ≤ b26 := Nat.le_trans KJ328.1 (Nat.le_of_eq g26.symm)
          have zn26 : n0 ≤ h26.size := Nat.le_trans znJ328 E26.1
          have hk26 := Nat.le_trans (Nat.zero_le _) E26.1
          have K26 := KJ328.ext E26
          have E_b26 := EA26
          have V_b26 : Arv Z h26 b26 k26 .char (4 : Int32) [(.int (0 : Int32)), (.int (0 : Int32)), (.int (0 : Int32)), (.int (0 : Int32))] (.int (0 : Int32)) := (Arv.new A26 (by decide)).pad (pad_rep [] (.int (0 : Int32)) 4)
          refine OGo.go (B := T26.setTop (mkF m 370 #[.val (.int p0), .val (.int p1), .val (.int p2), .val (.int p3), .val (.long q4), .second, .val (.long q5), .second, .val (.ref b1), .val (.int (p0 &&& (3 : Int32))), .val (.int (p1 &&& (7 : Int32))), .unset, .unset, .unset, .unset] [(.ref b26)])) ?_ st26
          refine OGo.go (B := T26.setTop (mkF m 372 #[.val (.int p0), .val (.int p1), .val (.int p2), .val (.int p3), .val (.long q4), .second, .val (.long q5), .second, .val (.ref b1), .val (.int (p0 &&& (3 : Int32))), .val (.int (p1 &&& (7 : Int32))), .val (.ref b26), .unset, .unset, .unset] [])) ?_ (fun tX kX => XS.astore X26.here hx rfl (hb hby at_370) rfl rfl (l' := #[.val (.int p0), .val (.int p1), .val (.int p2), .val (.int p3), .val (.long q4), .second, .val (.long q5), .second, .val (.ref b1), .val (.int (p0 &&& (3 : Int32))), .val (.int (p1 &&& (7 : Int32))), .val (.ref b26), .unset, .unset, .unset]) rfl kX)
          refine OGo.go (B := T26.setTop (mkF m 441 #[.val (.int p0), .val (.int p1), .val (.int p2), .val (.int p3), .val (.long q4), .second, .val (.long q5), .second, .val (.ref b1), .val (.int (p0 &&& (3 : Int32))), .val (.int (p1 &&& (7 : Int32))), .val (.ref b26), .unset, .unset, .unset] [])) ?_ (fun tX kX => XS.goto X26.here hx rfl (pc0 := 372) (pc' := 441) rfl (hb hby at_372) (by decide) (by decide) kX)
          refine OGo.go (B := T26.setTop (mkF m 443 #[.val (.int p0), .val (.int p1), .val (.int p2), .val (.int p3), .val (.long q4), .second, .val (.long q5), .second, .val (.ref b1), .val (.int (p0 &&& (3 : Int32))), .val (.int (p1 &&& (7 : Int32))), .val (.ref b26), .unset, .unset, .unset] [(.int (p0 &&& (3 : Int32)))])) ?_ (fun tX kX => XS.iload X26.here hx rfl (hb hby at_441) rfl kX)
          refine OGo.go (B := T26.setTop (mkF m 444 #[.val (.int p0), .val (.int p1), .val (.int p2), .val (.int p3), .val (.long q4), .second, .val (.long q5), .second, .val (.ref b1), .val (.int (p0 &&& (3 : Int32))), .val (.int (p1 &&& (7 : Int32))), .val (.ref b26), .unset, .unset, .unset] [(.int (3 : Int32)), (.int (p0 &&& (3 : Int32)))])) ?_ (fun tX kX => XS.iconst X26.here hx rfl (hb hby at_443) kX)
          by_cases hc444_2 : (p0 &&& (3 : Int32)) = (3 : Int32)
          ·
            refine OGo.go (B := T26.setTop (mkF m 447 #[.val (.int p0), .val (.int p1), .val (.int p2), .val (.int p3), .val (.long q4), .second, .val (.long q5), .second, .val (.ref b1), .val (.int (p0 &&& (3 : Int32))), .val (.int (p1 &&& (7 : Int32))), .val (.ref b26), .unset, .unset, .unset] [])) ?_ (fun tX kX => XS.icmpNo X26.here hx rfl (hb hby at_444) rfl (teq hc444_2).2 kX)
            refine OGo.go (B := T26.setTop (mkF m 448 #[.val (.int p0), .val (.int p1), .val (.int p2), .val (.int p3), .val (.long q4), .second, .val (.long q5), .second, .val (.ref b1), .val (.int (p0 &&& (3 : Int32))), .val (.int (p1 &&& (7 : Int32))), .val (.ref b26), .unset, .unset, .unset] [.null])) ?_ (fun tX kX => XS.aconstNull X26.here hx rfl (hb hby at_447) kX)
            refine OGo.go (B := T26.setTop (mkF m 458 #[.val (.int p0), .val (.int p1), .val (.int p2), .val (.int p3), .val (.long q4), .second, .val (.long q5), .second, .val (.ref b1), .val (.int (p0 &&& (3 : Int32))), .val (.int (p1 &&& (7 : Int32))), .val (.ref b26), .unset, .unset, .unset] [.null])) ?_ (fun tX kX => XS.goto X26.here hx rfl (pc0 := 448) (pc' := 458) rfl (hb hby at_448) (by decide) (by decide) kX)
            exact J458n T26 _ h26 b26 (X26.mono (by decide) (by decide)) e26 NJ328 zn26 K26 hCH S_VAL E_uv V_uv F_wireName_m0 F_wireName_m1 E_w0 F_value_w0 F_coder_w0 V_v0 E_w1 F_value_w1 F_coder_w1 V_v1 S_SCRAM_SHA_1 S_PLAIN S_COMPACT_STRINGS Sf_b1 E_b1 V_b1
          ·
            refine OGo.go (B := T26.setTop (mkF m 451 #[.val (.int p0), .val (.int p1), .val (.int p2), .val (.int p3), .val (.long q4), .second, .val (.long q5), .second, .val (.ref b1), .val (.int (p0 &&& (3 : Int32))), .val (.int (p1 &&& (7 : Int32))), .val (.ref b26), .unset, .unset, .unset] [])) ?_ (fun tX kX => XS.icmpYes X26.here hx rfl (pc0 := 444) (pc' := 451) rfl (hb hby at_444) rfl (feq hc444_2).2 (by decide) (by decide) kX)
            refine OGo.go (B := T26.setTop (mkF m 453 #[.val (.int p0), .val (.int p1), .val (.int p2), .val (.int p3), .val (.long q4), .second, .val (.long q5), .second, .val (.ref b1), .val (.int (p0 &&& (3 : Int32))), .val (.int (p1 &&& (7 : Int32))), .val (.ref b26), .unset, .unset, .unset] [(.ref b1)])) ?_ (fun tX kX => XS.aload X26.here hx rfl (hb hby at_451) rfl rfl kX)
            refine OGo.go (B := T26.setTop (mkF m 455 #[.val (.int p0), .val (.int p1), .val (.int p2), .val (.int p3), .val (.long q4), .second, .val (.long q5), .second, .val (.ref b1), .val (.int (p0 &&& (3 : Int32))), .val (.int (p1 &&& (7 : Int32))), .val (.ref b26), .unset, .unset, .unset] [(.ref b26), (.ref b1)])) ?_ (fun tX kX => XS.aload X26.here hx rfl (hb hby at_453) rfl rfl kX)
            obtain ⟨_, _, ⟨T27, L27, k27, n27⟩, -, X27, ⟨Lc27, hQ27, l27, y27, z27⟩, st27⟩ := Jvm.LawKit.callS X26 hx (y := (⟨"com/example/hushlist/hushlist/server/SaslMechanismNamedPinLaw", "prefix", "([C[C)Ljava/lang/String;"⟩ : MethodName)) hown (mvT hZ (hw _ (List.mem_of_getElem? (i := 2) rfl))) (mvT hZ (hw _ (List.mem_of_getElem? (i := 3) rfl))) (mvT hZ (hw _ (List.mem_of_getElem? (i := 4) rfl))) (mvT hZ (hw _ (List.mem_of_getElem? (i := 5) rfl))) (by decide) (backOf (W := 0) (rm1g l Z aV hw [] b1 b26 k1 k26 cs (4 : Int32) [(.int (0 : Int32)), (.int (0 : Int32)), (.int (0 : Int32)), (.int (0 : Int32))] ch0 ch1 ch2 ch3 ch4 ch5 ch6 ch7 ch8 ch9 ch10 ch11 h26 n0 zn26 V_b1 V_b26 S_COMPACT_STRINGS g_b26 ne_b1_b26 hcs (own_Bc (by decide) (own_Bc (by decide) (own_Bc (by decide) (own_Bc (by decide) own_Bn)))) rfl (by decide) (by decide) le0 le1 le2 le3 le4 le5 le6 le7 le8 le9 le10 le11) hZ (hw _ (List.mem_of_getElem? (i := 5) rfl)) (hw _ (List.mem_of_getElem? (i := 4) rfl)) (by decide) (by decide)) (g := (mkF m 455 #[.val (.int p0), .val (.int p1), .val (.int p2), .val (.int p3), .val (.long q4), .second, .val (.long q5), .second, .val (.ref b1), .val (.int (p0 &&& (3 : Int32))), .val (.int (p1 &&& (7 : Int32))), .val (.ref b26), .unset, .unset, .unset] [(.ref b26), (.ref b1)])) rfl (by rw [hml]; rfl) (argsL := [(.ref b1), (.ref b26)]) (rest := []) (lenOf pd___C_C_Ljava_lang_String_ rfl) rfl (by show 2 * 0 + _ ≤ _; exact Nat.le_of_eq rfl) (hb hby at_455) (fun _ _ => ⟨rfl, e26, (by decide : 2 + 2 ≤ _), (by decide : 16 + 16 ≤ _)⟩)
            dsimp only [Pt.U, Pt.locs, Pt.cells, Pt.slots] at X27 l27 y27 z27 st27 hQ27
            subst l27 y27 z27
            obtain ⟨b_27, nb_27, kb_27, ys_27, rfl, N27q, Kq27, sz27_b, E_b_27_p, F_value_b_27_p, F_coder_b_27_p, V_nb_27_p, hr27_0⟩ := hQ27
            have N27 := Fr.app NJ328 N27q
            have ne_uv_b_27 : uv ≠ b_27 := Nat.ne_of_lt (Nat.lt_of_lt_of_le E_uv.lt sz27_b)
            have ne_m0_b_27 : m0 ≠ b_27 := Nat.ne_of_lt (Nat.lt_of_lt_of_le F_wireName_m0.lt sz27_b)
            have ne_m1_b_27 : m1 ≠ b_27 := Nat.ne_of_lt (Nat.lt_of_lt_of_le F_wireName_m1.lt sz27_b)
            have ne_w0_b_27 : w0 ≠ b_27 := Nat.ne_of_lt (Nat.lt_of_lt_of_le E_w0.lt sz27_b)
            have ne_v0_b_27 : v0 ≠ b_27 := Nat.ne_of_lt (Nat.lt_of_lt_of_le V_v0.lt sz27_b)
            have ne_w1_b_27 : w1 ≠ b_27 := Nat.ne_of_lt (Nat.lt_of_lt_of_le E_w1.lt sz27_b)
            have ne_v1_b_27 : v1 ≠ b_27 := Nat.ne_of_lt (Nat.lt_of_lt_of_le V_v1.lt sz27_b)
            have ne_b1_b_27 : b1 ≠ b_27 := Nat.ne_of_lt (Nat.lt_of_lt_of_le E_b1.lt sz27_b)
            have ne_b26_b_27 : b26 ≠ b_27 := Nat.ne_of_lt (Nat.lt_of_lt_of_le E_b26.lt sz27_b)
            have sfs27 : ∀ x ∈ [b26], Safe Z own_EL s.vm h26 x := (sfS Sf_b26 sf0)
            have CHo27 := hCH
            have Sf_b1 := Safe.keep Kq27 sfs27 CHo27 Sf_b1
            have Sf_b26 := Safe.keep Kq27 sfs27 CHo27 Sf_b26
            have hCH := CHv.keep Kq27 sfs27 CHo27
            have Sf_b_27 := Safe.keep Kq27 sfs27 CHo27 (Safe.new sz27_b)
            have S_VAL := Sta.keepE S_VAL Kq27 (staS E_b26.cell (fun x hx' => nomatch hx'))
            have S_SCRAM_SHA_1 := Sta.keepE S_SCRAM_SHA_1 Kq27 (staS E_b26.cell (fun x hx' => nomatch hx'))
            have S_PLAIN := Sta.keepE S_PLAIN Kq27 (staS E_b26.cell (fun x hx' => nomatch hx'))
            have S_COMPACT_STRINGS := Sta.keepE S_COMPACT_STRINGS Kq27 (staS E_b26.cell (fun x hx' => nomatch hx'))
            have E_uv := E_uv.keep Kq27
            have V_uv := V_uv.keep Kq27 (ninS ne_uv_b26 nin0)
            have F_wireName_m0 := F_wireName_m0.keep Kq27 (ninS ne_m0_b26 nin0)
            have F_wireName_m1 := F_wireName_m1.keep Kq27 (ninS ne_m1_b26 nin0)
            have E_w0 := E_w0.keep Kq27
            have F_value_w0 := F_value_w0.keep Kq27 (ninS ne_w0_b26 nin0)
            have F_coder_w0 := F_coder_w0.keep Kq27 (ninS ne_w0_b26 nin0)
            have V_v0 := V_v0.keep Kq27 (ninS ne_v0_b26 nin0)
            have E_w1 := E_w1.keep Kq27
            have F_value_w1 := F_value_w1.keep Kq27 (ninS ne_w1_b26 nin0)
            have F_coder_w1 := F_coder_w1.keep Kq27 (ninS ne_w1_b26 nin0)
            have V_v1 := V_v1.keep Kq27 (ninS ne_v1_b26 nin0)
            have E_b1 := E_b1.keep Kq27
            have V_b1 := V_b1.keep Kq27 (ninS ne_b1_b26 nin0)
            have E_b26 := E_b26.keep Kq27
            have g_b_27 : n0 ≤ b_27 := Nat.le_trans zn26 sz27_b
            have sz_b_27 : h0.size ≤ b_27 := Nat.le_trans K26.1 sz27_b
            have K27 := K26.trans Kq27 (allS (P := fun x => x ∈ ([] : List Addr) ∨ h0.size ≤ x) (Or.inr sz_b26) all0)
            have zn27 : n0 ≤ T27.heap.size := Nat.le_trans zn26 Kq27.1
            have hk27 := Nat.le_trans hk26 Kq27.1
            have E_b_27 := E_b_27_p
            have F_value_b_27 := F_value_b_27_p
            have F_coder_b_27 := F_coder_b_27_p
            have V_nb_27 := V_nb_27_p
            refine OGo.go (B := T27.setTop (mkF m 458 #[.val (.int p0), .val (.int p1), .val (.int p2), .val (.int p3), .val (.long q4), .second, .val (.long q5), .second, .val (.ref b1), .val (.int (p0 &&& (3 : Int32))), .val (.int (p1 &&& (7 : Int32))), .val (.ref b26), .unset, .unset, .unset] [(.ref b_27)])) ?_ st27
            exact J458s T27 _ T27.heap b26 b_27 nb_27 kb_27 (4 : Int32) ys_27 (X27.mono (by decide) (by decide)) rfl N27 zn27 K27 hCH S_VAL E_uv V_uv F_wireName_m0 F_wireName_m1 E_w0 F_value_w0 F_coder_w0 V_v0 E_w1 F_value_w1 F_coder_w1 V_v1 S_SCRAM_SHA_1 S_PLAIN S_COMPACT_STRINGS Sf_b1 E_b1 V_b1 E_b_27 F_value_b_27 F_coder_b_27 V_nb_27 hr27_0
        ·
          refine OGo.go (B := TJ328.setTop (mkF m 375 #[.val (.int p0), .val (.int p1), .val (.int p2), .val (.int p3), .val (.long q4), .second, .val (.long q5), .second, .val (.ref b1), .val (.int (p0 &&& (3 : Int32))), .val (.int (p1 &&& (7 : Int32))), .unset, .unset, .unset, .unset] [])) ?_ (fun tX kX => XS.icmpYes XJ328.here hx rfl (pc0 := 364) (pc' := 375) rfl (hb hby at_364) rfl (feq hc364).2 (by decide) (by decide) kX)
          refine OGo.go (B := TJ328.setTop (mkF m 377 #[.val (.int p0), .val (.int p1), .val (.int p2), .val (.int p3), .val (.long q4), .second, .val (.long q5), .second, .val (.ref b1), .val (.int (p0 &&& (3 : Int32))), .val (.int (p1 &&& (7 : Int32))), .unset, .unset, .unset, .unset] [(.int (p1 &&& (7 : Int32)))])) ?_ (fun tX kX => XS.iload XJ328.here hx rfl (hb hby at_375) rfl kX)
          refine OGo.go (B := TJ328.setTop (mkF m 378 #[.val (.int p0), .val (.int p1), .val (.int p2), .val (.int p3), .val (.long q4), .second, .val (.long q5), .second, .val (.ref b1), .val (.int (p0 &&& (3 : Int32))), .val (.int (p1 &&& (7 : Int32))), .unset, .unset, .unset, .unset] [(.int (3 : Int32)), (.int (p1 &&& (7 : Int32)))])) ?_ (fun tX kX => XS.iconst XJ328.here hx rfl (hb hby at_377) kX)
          by_cases hc378 : (p1 &&& (7 : Int32)) = (3 : Int32)
          ·
            refine OGo.go (B := TJ328.setTop (mkF m 381 #[.val (.int p0), .val (.int p1), .val (.int p2), .val (.int p3), .val (.long q4), .second, .val (.long q5), .second, .val (.ref b1), .val (.int (p0 &&& (3 : Int32))), .val (.int (p1 &&& (7 : Int32))), .unset, .unset, .unset, .unset] [])) ?_ (fun tX kX => XS.icmpNo XJ328.here hx rfl (hb hby at_378) rfl (teq hc378).2 kX)
            refine OGo.go (B := TJ328.setTop (mkF m 382 #[.val (.int p0), .val (.int p1), .val (.int p2), .val (.int p3), .val (.long q4), .second, .val (.long q5), .second, .val (.ref b1), .val (.int (p0 &&& (3 : Int32))), .val (.int (p1 &&& (7 : Int32))), .unset, .unset, .unset, .unset] [(.int (5 : Int32))])) ?_ (fun tX kX => XS.iconst XJ328.here hx rfl (hb hby at_381) kX)
            obtain ⟨T28, h28, k28, X28, e28, E28, A28, EA28, st28⟩ := newPE XJ328 hx hZ (hw _ (List.mem_of_getElem? (i := 0) rfl)) eJ328 (g := (mkF m 382 #[.val (.int p0), .val (.int p1), .val (.int p2), .val (.int p3), .val (.long q4), .second, .val (.long q5), .second, .val (.ref b1), .val (.int (p0 &&& (3 : Int32))), .val (.int (p1 &&& (7 : Int32))), .unset, .unset, .unset, .unset] [(.int (5 : Int32))])) rfl (hb hby at_382) rfl (by decide) (cap := 5) (by decide) (by decide) (by decide) (by decide) (ad := "[C") (by decide)
            obtain ⟨b28, g28⟩ : ∃ z, z = hJ328.size := ⟨_, rfl⟩
            rw [← g28] at A28 EA28 st28
            have ne_uv_b28 : uv ≠ b28 := Nat.ne_of_lt (Nat.lt_of_lt_of_le E_uv.lt (Nat.le_of_eq g28.symm))
            have ne_m0_b28 : m0 ≠ b28 := Nat.ne_of_lt (Nat.lt_of_lt_of_le F_wireName_m0.lt (Nat.le_of_eq g28.symm))
            have ne_m1_b28 : m1 ≠ b28 := Nat.ne_of_lt (Nat.lt_of_lt_of_le F_wireName_m1.lt (Nat.le_of_eq g28.symm))
            have ne_w0_b28 : w0 ≠ b28 := Nat.ne_of_lt (Nat.lt_of_lt_of_le E_w0.lt (Nat.le_of_eq g28.symm))
            have ne_v0_b28 : v0 ≠ b28 := Nat.ne_of_lt (Nat.lt_of_lt_of_le V_v0.lt (Nat.le_of_eq g28.symm))
            have ne_w1_b28 : w1 ≠ b28 := Nat.ne_of_lt (Nat.lt_of_lt_of_le E_w1.lt (Nat.le_of_eq g28.symm))
            have ne_v1_b28 : v1 ≠ b28 := Nat.ne_of_lt (Nat.lt_of_lt_of_le V_v1.lt (Nat.le_of_eq g28.symm))
            have ne_b1_b28 : b1 ≠ b28 := Nat.ne_of_lt (Nat.lt_of_lt_of_le E_b1.lt (Nat.le_of_eq g28.symm))
            have CHo28 := hCH
            have Sf_b1 := Safe.ext E28 CHo28 Sf_b1
            have hCH := CHv.ext E28 CHo28
            have S_VAL := S_VAL.ext E28
            have E_uv := E_uv.ext E28
            have V_uv := V_uv.ext E28
            have F_wireName_m0 := F_wireName_m0.ext E28
            have F_wireName_m1 := F_wireName_m1.ext E28
            have E_w0 := E_w0.ext E28
            have F_value_w0 := F_value_w0.ext E28
            have F_coder_w0 := F_coder_w0.ext E28
            have V_v0 := V_v0.ext E28
            have E_w1 := E_w1.ext E28
            have F_value_w1 := F_value_w1.ext E28
            have F_coder_w1 := F_coder_w1.ext E28
            have V_v1 := V_v1.ext E28
            have S_SCRAM_SHA_1 := S_SCRAM_SHA_1.ext E28
            have S_PLAIN := S_PLAIN.ext E28
            have S_COMPACT_STRINGS := S_COMPACT_STRINGS.ext E28
            have E_b1 := E_b1.ext E28
            have V_b1 := V_b1.ext E28
            have Sf_b28 : Safe Z own_EL s.vm h28 b28 := Safe.ext E28 CHo28 (Safe.new (Nat.le_of_eq g28.symm))
            have g_b28 : n0 ≤ b28 := Nat.le_trans znJ328 (Nat.le_of_eq g28.symm)
            have sz_b28 : h0.size ≤ b28 := Nat.le_trans KJ328.1 (Nat.le_of_eq g28.symm)
            have zn28 : n0 ≤ h28.size := Nat.le_trans znJ328 E28.1
            have hk28 := Nat.le_trans (Nat.zero_le _) E28.1
            have K28 := KJ328.ext E28
            have E_b28 := EA28
            have V_b28 : Arv Z h28 b28 k28 .char (5 : Int32) [(.int (0 : Int32)), (.int (0 : Int32)), (.int (0 : Int32)), (.int (0 : Int32)), (.int (0 : Int32))] (.int (0 : Int32)) := (Arv.new A28 (by decide)).pad (pad_rep [] (.int (0 : Int32)) 5)
            refine OGo.go (B := T28.setTop (mkF m 384 #[.val (.int p0), .val (.int p1), .val (.int p2), .val (.int p3), .val (.long q4), .second, .val (.long q5), .second, .val (.ref b1), .val (.int (p0 &&& (3 : Int32))), .val (.int (p1 &&& (7 : Int32))), .unset, .unset, .unset, .unset] [(.ref b28)])) ?_ st28
            refine OGo.go (B := T28.setTop (mkF m 386 #[.val (.int p0), .val (.int p1), .val (.int p2), .val (.int p3), .val (.long q4), .second, .val (.long q5), .second, .val (.ref b1), .val (.int (p0 &&& (3 : Int32))), .val (.int (p1 &&& (7 : Int32))), .val (.ref b28), .unset, .unset, .unset] [])) ?_ (fun tX kX => XS.astore X28.here hx rfl (hb hby at_384) rfl rfl (l' := #[.val (.int p0), .val (.int p1), .val (.int p2), .val (.int p3), .val (.long q4), .second, .val (.long q5), .second, .val (.ref b1), .val (.int (p0 &&& (3 : Int32))), .val (.int (p1 &&& (7 : Int32))), .val (.ref b28), .unset, .unset, .unset]) rfl kX)
            refine OGo.go (B := T28.setTop (mkF m 441 #[.val (.int p0), .val (.int p1), .val (.int p2), .val (.int p3), .val (.long q4), .second, .val (.long q5), .second, .val (.ref b1), .val (.int (p0 &&& (3 : Int32))), .val (.int (p1 &&& (7 : Int32))), .val (.ref b28), .unset, .unset, .unset] [])) ?_ (fun tX kX => XS.goto X28.here hx rfl (pc0 := 386) (pc' := 441) rfl (hb hby at_386) (by decide) (by decide) kX)
            refine OGo.go (B := T28.setTop (mkF m 443 #[.val (.int p0), .val (.int p1), .val (.int p2), .val (.int p3), .val (.long q4), .second, .val (.long q5), .second, .val (.ref b1), .val (.int (p0 &&& (3 : Int32))), .val (.int (p1 &&& (7 : Int32))), .val (.ref b28), .unset, .unset, .unset] [(.int (p0 &&& (3 : Int32)))])) ?_ (fun tX kX => XS.iload X28.here hx rfl (hb hby at_441) rfl kX)
            refine OGo.go (B := T28.setTop (mkF m 444 #[.val (.int p0), .val (.int p1), .val (.int p2), .val (.int p3), .val (.long q4), .second, .val (.long q5), .second, .val (.ref b1), .val (.int (p0 &&& (3 : Int32))), .val (.int (p1 &&& (7 : Int32))), .val (.ref b28), .unset, .unset, .unset] [(.int (3 : Int32)), (.int (p0 &&& (3 : Int32)))])) ?_ (fun tX kX => XS.iconst X28.here hx rfl (hb hby at_443) kX)
            by_cases hc444_3 : (p0 &&& (3 : Int32)) = (3 : Int32)
            ·
              refine OGo.go (B := T28.setTop (mkF m 447 #[.val (.int p0), .val (.int p1), .val (.int p2), .val (.int p3), .val (.long q4), .second, .val (.long q5), .second, .val (.ref b1), .val (.int (p0 &&& (3 : Int32))), .val (.int (p1 &&& (7 : Int32))), .val (.ref b28), .unset, .unset, .unset] [])) ?_ (fun tX kX => XS.icmpNo X28.here hx rfl (hb hby at_444) rfl (teq hc444_3).2 kX)
              refine OGo.go (B := T28.setTop (mkF m 448 #[.val (.int p0), .val (.int p1), .val (.int p2), .val (.int p3), .val (.long q4), .second, .val (.long q5), .second, .val (.ref b1), .val (.int (p0 &&& (3 : Int32))), .val (.int (p1 &&& (7 : Int32))), .val (.ref b28), .unset, .unset, .unset] [.null])) ?_ (fun tX kX => XS.aconstNull X28.here hx rfl (hb hby at_447) kX)
              refine OGo.go (B := T28.setTop (mkF m 458 #[.val (.int p0), .val (.int p1), .val (.int p2), .val (.int p3), .val (.long q4), .second, .val (.long q5), .second, .val (.ref b1), .val (.int (p0 &&& (3 : Int32))), .val (.int (p1 &&& (7 : Int32))), .val (.ref b28), .unset, .unset, .unset] [.null])) ?_ (fun tX kX => XS.goto X28.here hx rfl (pc0 := 448) (pc' := 458) rfl (hb hby at_448) (by decide) (by decide) kX)
              exact J458n T28 _ h28 b28 (X28.mono (by decide) (by decide)) e28 NJ328 zn28 K28 hCH S_VAL E_uv V_uv F_wireName_m0 F_wireName_m1 E_w0 F_value_w0 F_coder_w0 V_v0 E_w1 F_value_w1 F_coder_w1 V_v1 S_SCRAM_SHA_1 S_PLAIN S_COMPACT_STRINGS Sf_b1 E_b1 V_b1
            ·
              refine OGo.go (B := T28.setTop (mkF m 451 #[.val (.int p0), .val (.int p1), .val (.int p2), .val (.int p3), .val (.long q4), .second, .val (.long q5), .second, .val (.ref b1), .val (.int (p0 &&& (3 : Int32))), .val (.int (p1 &&& (7 : Int32))), .val (.ref b28), .unset, .unset, .unset] [])) ?_ (fun tX kX => XS.icmpYes X28.here hx rfl (pc0 := 444) (pc' := 451) rfl (hb hby at_444) rfl (feq hc444_3).2 (by decide) (by decide) kX)
              refine OGo.go (B := T28.setTop (mkF m 453 #[.val (.int p0), .val (.int p1), .val (.int p2), .val (.int p3), .val (.long q4), .second, .val (.long q5), .second, .val (.ref b1), .val (.int (p0 &&& (3 : Int32))), .val (.int (p1 &&& (7 : Int32))), .val (.ref b28), .unset, .unset, .unset] [(.ref b1)])) ?_ (fun tX kX => XS.aload X28.here hx rfl (hb hby at_451) rfl rfl kX)
              refine OGo.go (B := T28.setTop (mkF m 455 #[.val (.int p0), .val (.int p1), .val (.int p2), .val (.int p3), .val (.long q4), .second, .val (.long q5), .second, .val (.ref b1), .val (.int (p0 &&& (3 : Int32))), .val (.int (p1 &&& (7 : Int32))), .val (.ref b28), .unset, .unset, .unset] [(.ref b28), (.ref b1)])) ?_ (fun tX kX => XS.aload X28.here hx rfl (hb hby at_453) rfl rfl kX)
              obtain ⟨_, _, ⟨T29, L29, k29, n29⟩, -, X29, ⟨Lc29, hQ29, l29, y29, z29⟩, st29⟩ := Jvm.LawKit.callS X28 hx (y := (⟨"com/example/hushlist/hushlist/server/SaslMechanismNamedPinLaw", "prefix", "([C[C)Ljava/lang/String;"⟩ : MethodName)) hown (mvT hZ (hw _ (List.mem_of_getElem? (i := 2) rfl))) (mvT hZ (hw _ (List.mem_of_getElem? (i := 3) rfl))) (mvT hZ (hw _ (List.mem_of_getElem? (i := 4) rfl))) (mvT hZ (hw _ (List.mem_of_getElem? (i := 5) rfl))) (by decide) (backOf (W := 0) (rm1g l Z aV hw [] b1 b28 k1 k28 cs (5 : Int32) [(.int (0 : Int32)), (.int (0 : Int32)), (.int (0 : Int32)), (.int (0 : Int32)), (.int (0 : Int32))] ch0 ch1 ch2 ch3 ch4 ch5 ch6 ch7 ch8 ch9 ch10 ch11 h28 n0 zn28 V_b1 V_b28 S_COMPACT_STRINGS g_b28 ne_b1_b28 hcs (own_Bc (by decide) (own_Bc (by decide) (own_Bc (by decide) (own_Bc (by decide) (own_Bc (by decide) own_Bn))))) rfl (by decide) (by decide) le0 le1 le2 le3 le4 le5 le6 le7 le8 le9 le10 le11) hZ (hw _ (List.mem_of_getElem? (i := 5) rfl)) (hw _ (List.mem_of_getElem? (i := 4) rfl)) (by decide) (by decide)) (g := (mkF m 455 #[.val (.int p0), .val (.int p1), .val (.int p2), .val (.int p3), .val (.long q4), .second, .val (.long q5), .second, .val (.ref b1), .val (.int (p0 &&& (3 : Int32))), .val (.int (p1 &&& (7 : Int32))), .val (.ref b28), .unset, .unset, .unset] [(.ref b28), (.ref b1)])) rfl (by rw [hml]; rfl) (argsL := [(.ref b1), (.ref b28)]) (rest := []) (lenOf pd___C_C_Ljava_lang_String_ rfl) rfl (by show 2 * 0 + _ ≤ _; exact Nat.le_of_eq rfl) (hb hby at_455) (fun _ _ => ⟨rfl, e28, (by decide : 2 + 2 ≤ _), (by decide : 17 + 16 ≤ _)⟩)
              dsimp only [Pt.U, Pt.locs, Pt.cells, Pt.slots] at X29 l29 y29 z29 st29 hQ29
              subst l29 y29 z29
              obtain ⟨b_29, nb_29, kb_29, ys_29, rfl, N29q, Kq29, sz29_b, E_b_29_p, F_value_b_29_p, F_coder_b_29_p, V_nb_29_p, hr29_0⟩ := hQ29
              have N29 := Fr.app NJ328 N29q
              have ne_uv_b_29 : uv ≠ b_29 := Nat.ne_of_lt (Nat.lt_of_lt_of_le E_uv.lt sz29_b)
              have ne_m0_b_29 : m0 ≠ b_29 := Nat.ne_of_lt (Nat.lt_of_lt_of_le F_wireName_m0.lt sz29_b)
              have ne_m1_b_29 : m1 ≠ b_29 := Nat.ne_of_lt (Nat.lt_of_lt_of_le F_wireName_m1.lt sz29_b)
              have ne_w0_b_29 : w0 ≠ b_29 := Nat.ne_of_lt (Nat.lt_of_lt_of_le E_w0.lt sz29_b)
              have ne_v0_b_29 : v0 ≠ b_29 := Nat.ne_of_lt (Nat.lt_of_lt_of_le V_v0.lt sz29_b)
              have ne_w1_b_29 : w1 ≠ b_29 := Nat.ne_of_lt (Nat.lt_of_lt_of_le E_w1.lt sz29_b)
              have ne_v1_b_29 : v1 ≠ b_29 := Nat.ne_of_lt (Nat.lt_of_lt_of_le V_v1.lt sz29_b)
              have ne_b1_b_29 : b1 ≠ b_29 := Nat.ne_of_lt (Nat.lt_of_lt_of_le E_b1.lt sz29_b)
              have ne_b28_b_29 : b28 ≠ b_29 := Nat.ne_of_lt (Nat.lt_of_lt_of_le E_b28.lt sz29_b)
              have sfs29 : ∀ x ∈ [b28], Safe Z own_EL s.vm h28 x := (sfS Sf_b28 sf0)
              have CHo29 := hCH
              have Sf_b1 := Safe.keep Kq29 sfs29 CHo29 Sf_b1
              have Sf_b28 := Safe.keep Kq29 sfs29 CHo29 Sf_b28
              have hCH := CHv.keep Kq29 sfs29 CHo29
              have Sf_b_29 := Safe.keep Kq29 sfs29 CHo29 (Safe.new sz29_b)
              have S_VAL := Sta.keepE S_VAL Kq29 (staS E_b28.cell (fun x hx' => nomatch hx'))
              have S_SCRAM_SHA_1 := Sta.keepE S_SCRAM_SHA_1 Kq29 (staS E_b28.cell (fun x hx' => nomatch hx'))
              have S_PLAIN := Sta.keepE S_PLAIN Kq29 (staS E_b28.cell (fun x hx' => nomatch hx'))
              have S_COMPACT_STRINGS := Sta.keepE S_COMPACT_STRINGS Kq29 (staS E_b28.cell (fun x hx' => nomatch hx'))
              have E_uv := E_uv.keep Kq29
              have V_uv := V_uv.keep Kq29 (ninS ne_uv_b28 nin0)
              have F_wireName_m0 := F_wireName_m0.keep Kq29 (ninS ne_m0_b28 nin0)
              have F_wireName_m1 := F_wireName_m1.keep Kq29 (ninS ne_m1_b28 nin0)
              have E_w0 := E_w0.keep Kq29
              have F_value_w0 := F_value_w0.keep Kq29 (ninS ne_w0_b28 nin0)
              have F_coder_w0 := F_coder_w0.keep Kq29 (ninS ne_w0_b28 nin0)
              have V_v0 := V_v0.keep Kq29 (ninS ne_v0_b28 nin0)
              have E_w1 := E_w1.keep Kq29
              have F_value_w1 := F_value_w1.keep Kq29 (ninS ne_w1_b28 nin0)
              have F_coder_w1 := F_coder_w1.keep Kq29 (ninS ne_w1_b28 nin0)
              have V_v1 := V_v1.keep Kq29 (ninS ne_v1_b28 nin0)
              have E_b1 := E_b1.keep Kq29
              have V_b1 := V_b1.keep Kq29 (ninS ne_b1_b28 nin0)
              have E_b28 := E_b28.keep Kq29
              have g_b_29 : n0 ≤ b_29 := Nat.le_trans zn28 sz29_b
              have sz_b_29 : h0.size ≤ b_29 := Nat.le_trans K28.1 sz29_b
              have K29 := K28.trans Kq29 (allS (P := fun x => x ∈ ([] : List Addr) ∨ h0.size ≤ x) (Or.inr sz_b28) all0)
              have zn29 : n0 ≤ T29.heap.size := Nat.le_trans zn28 Kq29.1
              have hk29 := Nat.le_trans hk28 Kq29.1
              have E_b_29 := E_b_29_p
              have F_value_b_29 := F_value_b_29_p
              have F_coder_b_29 := F_coder_b_29_p
              have V_nb_29 := V_nb_29_p
              refine OGo.go (B := T29.setTop (mkF m 458 #[.val (.int p0), .val (.int p1), .val (.int p2), .val (.int p3), .val (.long q4), .second, .val (.long q5), .second, .val (.ref b1), .val (.int (p0 &&& (3 : Int32))), .val (.int (p1 &&& (7 : Int32))), .val (.ref b28), .unset, .unset, .unset] [(.ref b_29)])) ?_ st29
              exact J458s T29 _ T29.heap b28 b_29 nb_29 kb_29 (5 : Int32) ys_29 (X29.mono (by decide) (by decide)) rfl N29 zn29 K29 hCH S_VAL E_uv V_uv F_wireName_m0 F_wireName_m1 E_w0 F_value_w0 F_coder_w0 V_v0 E_w1 F_value_w1 F_coder_w1 V_v1 S_SCRAM_SHA_1 S_PLAIN S_COMPACT_STRINGS Sf_b1 E_b1 V_b1 E_b_29 F_value_b_29 F_coder_b_29 V_nb_29 hr29_0
          ·
            refine OGo.go (B := TJ328.setTop (mkF m 389 #[.val (.int p0), .val (.int p1), .val (.int p2), .val (.int p3), .val (.long q4), .second, .val (.long q5), .second, .val (.ref b1), .val (.int (p0 &&& (3 : Int32))), .val (.int (p1 &&& (7 : Int32))), .unset, .unset, .unset, .unset] [])) ?_ (fun tX kX => XS.icmpYes XJ328.here hx rfl (pc0 := 378) (pc' := 389) rfl (hb hby at_378) rfl (feq hc378).2 (by decide) (by decide) kX)
            refine OGo.go (B := TJ328.setTop (mkF m 391 #[.val (.int p0), .val (.int p1), .val (.int p2), .val (.int p3), .val (.long q4), .second, .val (.long q5), .second, .val (.ref b1), .val (.int (p0 &&& (3 : Int32))), .val (.int (p1 &&& (7 : Int32))), .unset, .unset, .unset, .unset] [(.int (p1 &&& (7 : Int32)))])) ?_ (fun tX kX => XS.iload XJ328.here hx rfl (hb hby at_389) rfl kX)
            refine OGo.go (B := TJ328.setTop (mkF m 392 #[.val (.int p0), .val (.int p1), .val (.int p2), .val (.int p3), .val (.long q4), .second, .val (.long q5), .second, .val (.ref b1), .val (.int (p0 &&& (3 : Int32))), .val (.int (p1 &&& (7 : Int32))), .unset, .unset, .unset, .unset] [(.int (4 : Int32)), (.int (p1 &&& (7 : Int32)))])) ?_ (fun tX kX => XS.iconst XJ328.here hx rfl (hb hby at_391) kX)
            by_cases hc392 : (p1 &&& (7 : Int32)) = (4 : Int32)
            ·
              refine OGo.go (B := TJ328.setTop (mkF m 395 #[.val (.int p0), .val (.int p1), .val (.int p2), .val (.int p3), .val (.long q4), .second, .val (.long q5), .second, .val (.ref b1), .val (.int (p0 &&& (3 : Int32))), .val (.int (p1 &&& (7 : Int32))), .unset, .unset, .unset, .unset] [])) ?_ (fun tX kX => XS.icmpNo XJ328.here hx rfl (hb hby at_392) rfl (teq hc392).2 kX)
              refine OGo.go (B := TJ328.setTop (mkF m 397 #[.val (.int p0), .val (.int p1), .val (.int p2), .val (.int p3), .val (.long q4), .second, .val (.long q5), .second, .val (.ref b1), .val (.int (p0 &&& (3 : Int32))), .val (.int (p1 &&& (7 : Int32))), .unset, .unset, .unset, .unset] [(.int (6 : Int32))])) ?_ (fun tX kX => XS.bipush XJ328.here hx rfl (hb hby at_395) kX)
              obtain ⟨T30, h30, k30, X30, e30, E30, A30, EA30, st30⟩ := newPE XJ328 hx hZ (hw _ (List.mem_of_getElem? (i := 0) rfl)) eJ328 (g := (mkF m 397 #[.val (.int p0), .val (.int p1), .val (.int p2), .val (.int p3), .val (.long q4), .second, .val (.long q5), .second, .val (.ref b1), .val (.int (p0 &&& (3 : Int32))), .val (.int (p1 &&& (7 : Int32))), .unset, .unset, .unset, .unset] [(.int (6 : Int32))])) rfl (hb hby at_397) rfl (by decide) (cap := 6) (by decide) (by decide) (by decide) (by decide) (ad := "[C") (by decide)
              obtain ⟨b30, g30⟩ : ∃ z, z = hJ328.size := ⟨_, rfl⟩
              rw [← g30] at A30 EA30 st30
              have ne_uv_b30 : uv ≠ b30 := Nat.ne_of_lt (Nat.lt_of_lt_of_le E_uv.lt (Nat.le_of_eq g30.symm))
              have ne_m0_b30 : m0 ≠ b30 := Nat.ne_of_lt (Nat.lt_of_lt_of_le F_wireName_m0.lt (Nat.le_of_eq g30.symm))
              have ne_m1_b30 : m1 ≠ b30 := Nat.ne_of_lt (Nat.lt_of_lt_of_le F_wireName_m1.lt (Nat.le_of_eq g30.symm))
              have ne_w0_b30 : w0 ≠ b30 := Nat.ne_of_lt (Nat.lt_of_lt_of_le E_w0.lt (Nat.le_of_eq g30.symm))
              have ne_v0_b30 : v0 ≠ b30 := Nat.ne_of_lt (Nat.lt_of_lt_of_le V_v0.lt (Nat.le_of_eq g30.symm))
              have ne_w1_b30 : w1 ≠ b30 := Nat.ne_of_lt (Nat.lt_of_lt_of_le E_w1.lt (Nat.le_of_eq g30.symm))
              have ne_v1_b30 : v1 ≠ b30 := Nat.ne_of_lt (Nat.lt_of_lt_of_le V_v1.lt (Nat.le_of_eq g30.symm))
              have ne_b1_b30 : b1 ≠ b30 := Nat.ne_of_lt (Nat.lt_of_lt_of_le E_b1.lt (Nat.le_of_eq g30.symm))
              have CHo30 := hCH
              have Sf_b1 := Safe.ext E30 CHo30 Sf_b1
              have hCH := CHv.ext E30 CHo30
              have S_VAL := S_VAL.ext E30
              have E_uv := E_uv.ext E30
              have V_uv := V_uv.ext E30
              have F_wireName_m0 := F_wireName_m0.ext E30
              have F_wireName_m1 := F_wireName_m1.ext E30
              have E_w0 := E_w0.ext E30
              have F_value_w0 := F_value_w0.ext E30
              have F_coder_w0 := F_coder_w0.ext E30
              have V_v0 := V_v0.ext E30
              have E_w1 := E_w1.ext E30
              have F_value_w1 := F_value_w1.ext E30
              have F_coder_w1 := F_coder_w1.ext E30
              have V_v1 := V_v1.ext E30
              have S_SCRAM_SHA_1 := S_SCRAM_SHA_1.ext E30
              have S_PLAIN := S_PLAIN.ext E30
              have S_COMPACT_STRINGS := S_COMPACT_STRINGS.ext E30
              have E_b1 := E_b1.ext E30
              have V_b1 := V_b1.ext E30
              have Sf_b30 : Safe Z own_EL s.vm h30 b30 := Safe.ext E30 CHo30 (Safe.new (Nat.le_of_eq g30.symm))
              have g_b30 : n0 ≤ b30 := Nat.le_trans znJ328 (Nat.le_of_eq g30.symm)
              have sz_b30 : h0.size ≤ b30 := Nat.le_trans KJ328.1 (Nat.le_of_eq g30.symm)
              have zn30 : n0 ≤ h30.size := Nat.le_trans znJ328 E30.1
              have hk30 := Nat.le_trans (Nat.zero_le _) E30.1
              have K30 := KJ328.ext E30
              have E_b30 := EA30
              have V_b30 : Arv Z h30 b30 k30 .char (6 : Int32) [(.int (0 : Int32)), (.int (0 : Int32)), (.int (0 : Int32)), (.int (0 : Int32)), (.int (0 : Int32)), (.int (0 : Int32))] (.int (0 : Int32)) := (Arv.new A30 (by decide)).pad (pad_rep [] (.int (0 : Int32)) 6)
              refine OGo.go (B := T30.setTop (mkF m 399 #[.val (.int p0), .val (.int p1), .val (.int p2), .val (.int p3), .val (.long q4), .second, .val (.long q5), .second, .val (.ref b1), .val (.int (p0 &&& (3 : Int32))), .val (.int (p1 &&& (7 : Int32))), .unset, .unset, .unset, .unset] [(.ref b30)])) ?_ st30
              refine OGo.go (B := T30.setTop (mkF m 401 #[.val (.int p0), .val (.int p1), .val (.int p2), .val (.int p3), .val (.long q4), .second, .val (.long q5), .second, .val (.ref b1), .val (.int (p0 &&& (3 : Int32))), .val (.int (p1 &&& (7 : Int32))), .val (.ref b30), .unset, .unset, .unset] [])) ?_ (fun tX kX => XS.astore X30.here hx rfl (hb hby at_399) rfl rfl (l' := #[.val (.int p0), .val (.int p1), .val (.int p2), .val (.int p3), .val (.long q4), .second, .val (.long q5), .second, .val (.ref b1), .val (.int (p0 &&& (3 : Int32))), .val (.int (p1 &&& (7 : Int32))), .val (.ref b30), .unset, .unset, .unset]) rfl kX)
              refine OGo.go (B := T30.setTop (mkF m 441 #[.val (.int p0), .val (.int p1), .val (.int p2), .val (.int p3), .val (.long q4), .second, .val (.long q5), .second, .val (.ref b1), .val (.int (p0 &&& (3 : Int32))), .val (.int (p1 &&& (7 : Int32))), .val (.ref b30), .unset, .unset, .unset] [])) ?_ (fun tX kX => XS.goto X30.here hx rfl (pc0 := 401) (pc' := 441) rfl (hb hby at_401) (by decide) (by decide) kX)
              refine OGo.go (B := T30.setTop (mkF m 443 #[.val (.int p0), .val (.int p1), .val (.int p2), .val (.int p3), .val (.long q4), .second, .val (.long q5), .second, .val (.ref b1), .val (.int (p0 &&& (3 : Int32))), .val (.int (p1 &&& (7 : Int32))), .val (.ref b30), .unset, .unset, .unset] [(.int (p0 &&& (3 : Int32)))])) ?_ (fun tX kX => XS.iload X30.here hx rfl (hb hby at_441) rfl kX)
              refine OGo.go (B := T30.setTop (mkF m 444 #[.val (.int p0), .val (.int p1), .val (.int p2), .val (.int p3), .val (.long q4), .second, .val (.long q5), .second, .val (.ref b1), .val (.int (p0 &&& (3 : Int32))), .val (.int (p1 &&& (7 : Int32))), .val (.ref b30), .unset, .unset, .unset] [(.int (3 : Int32)), (.int (p0 &&& (3 : Int32)))])) ?_ (fun tX kX => XS.iconst X30.here hx rfl (hb hby at_443) kX)
              by_cases hc444_4 : (p0 &&& (3 : Int32)) = (3 : Int32)
              ·
                refine OGo.go (B := T30.setTop (mkF m 447 #[.val (.int p0), .val (.int p1), .val (.int p2), .val (.int p3), .val (.long q4), .second, .val (.long q5), .second, .val (.ref b1), .val (.int (p0 &&& (3 : Int32))), .val (.int (p1 &&& (7 : Int32))), .val (.ref b30), .unset, .unset, .unset] [])) ?_ (fun tX kX => XS.icmpNo X30.here hx rfl (hb hby at_444) rfl (teq hc444_4).2 kX)
                refine OGo.go (B := T30.setTop (mkF m 448 #[.val (.int p0), .val (.int p1), .val (.int p2), .val (.int p3), .val (.long q4), .second, .val (.long q5), .second, .val (.ref b1), .val (.int (p0 &&& (3 : Int32))), .val (.int (p1 &&& (7 : Int32))), .val (.ref b30), .unset, .unset, .unset] [.null])) ?_ (fun tX kX => XS.aconstNull X30.here hx rfl (hb hby at_447) kX)
                refine OGo.go (B := T30.setTop (mkF m 458 #[.val (.int p0), .val (.int p1), .val (.int p2), .val (.int p3), .val (.long q4), .second, .val (.long q5), .second, .val (.ref b1), .val (.int (p0 &&& (3 : Int32))), .val (.int (p1 &&& (7 : Int32))), .val (.ref b30), .unset, .unset, .unset] [.null])) ?_ (fun tX kX => XS.goto X30.here hx rfl (pc0 := 448) (pc' := 458) rfl (hb hby at_448) (by decide) (by decide) kX)
                exact J458n T30 _ h30 b30 (X30.mono (by decide) (by decide)) e30 NJ328 zn30 K30 hCH S_VAL E_uv V_uv F_wireName_m0 F_wireName_m1 E_w0 F_value_w0 F_coder_w0 V_v0 E_w1 F_value_w1 F_coder_w1 V_v1 S_SCRAM_SHA_1 S_PLAIN S_COMPACT_STRINGS Sf_b1 E_b1 V_b1
              ·
                refine OGo.go (B := T30.setTop (mkF m 451 #[.val (.int p0), .val (.int p1), .val (.int p2), .val (.int p3), .val (.long q4), .second, .val (.long q5), .second, .val (.ref b1), .val (.int (p0 &&& (3 : Int32))), .val (.int (p1 &&& (7 : Int32))), .val (.ref b30), .unset, .unset, .unset] [])) ?_ (fun tX kX => XS.icmpYes X30.here hx rfl (pc0 := 444) (pc' := 451) rfl (hb hby at_444) rfl (feq hc444_4).2 (by decide) (by decide) kX)
                refine OGo.go (B := T30.setTop (mkF m 453 #[.val (.int p0), .val (.int p1), .val (.int p2), .val (.int p3), .val (.long q4), .second, .val (.long q5), .second, .val (.ref b1), .val (.int (p0 &&& (3 : Int32))), .val (.int (p1 &&& (7 : Int32))), .val (.ref b30), .unset, .unset, .unset] [(.ref b1)])) ?_ (fun tX kX => XS.aload X30.here hx rfl (hb hby at_451) rfl rfl kX)
                refine OGo.go (B := T30.setTop (mkF m 455 #[.val (.int p0), .val (.int p1), .val (.int p2), .val (.int p3), .val (.long q4), .second, .val (.long q5), .second, .val (.ref b1), .val (.int (p0 &&& (3 : Int32))), .val (.int (p1 &&& (7 : Int32))), .val (.ref b30), .unset, .unset, .unset] [(.ref b30), (.ref b1)])) ?_ (fun tX kX => XS.aload X30.here hx rfl (hb hby at_453) rfl rfl kX)
                obtain ⟨_, _, ⟨T31, L31, k31, n31⟩, -, X31, ⟨Lc31, hQ31, l31, y31, z31⟩, st31⟩ := Jvm.LawKit.callS X30 hx (y := (⟨"com/example/hushlist/hushlist/server/SaslMechanismNamedPinLaw", "prefix", "([C[C)Ljava/lang/String;"⟩ : MethodName)) hown (mvT hZ (hw _ (List.mem_of_getElem? (i := 2) rfl))) (mvT hZ (hw _ (List.mem_of_getElem? (i := 3) rfl))) (mvT hZ (hw _ (List.mem_of_getElem? (i := 4) rfl))) (mvT hZ (hw _ (List.mem_of_getElem? (i := 5) rfl))) (by decide) (backOf (W := 0) (rm1g l Z aV hw [] b1 b30 k1 k30 cs (6 : Int32) [(.int (0 : Int32)), (.int (0 : Int32)), (.int (0 : Int32)), (.int (0 : Int32)), (.int (0 : Int32)), (.int (0 : Int32))] ch0 ch1 ch2 ch3 ch4 ch5 ch6 ch7 ch8 ch9 ch10 ch11 h30 n0 zn30 V_b1 V_b30 S_COMPACT_STRINGS g_b30 ne_b1_b30 hcs (own_Bc (by decide) (own_Bc (by decide) (own_Bc (by decide) (own_Bc (by decide) (own_Bc (by decide) (own_Bc (by decide) own_Bn)))))) rfl (by decide) (by decide) le0 le1 le2 le3 le4 le5 le6 le7 le8 le9 le10 le11) hZ (hw _ (List.mem_of_getElem? (i := 5) rfl)) (hw _ (List.mem_of_getElem? (i := 4) rfl)) (by decide) (by decide)) (g := (mkF m 455 #[.val (.int p0), .val (.int p1), .val (.int p2), .val (.int p3), .val (.long q4), .second, .val (.long q5), .second, .val (.ref b1), .val (.int (p0 &&& (3 : Int32))), .val (.int (p1 &&& (7 : Int32))), .val (.ref b30), .unset, .unset, .unset] [(.ref b30), (.ref b1)])) rfl (by rw [hml]; rfl) (argsL := [(.ref b1), (.ref b30)]) (rest := []) (lenOf pd___C_C_Ljava_lang_String_ rfl) rfl (by show 2 * 0 + _ ≤ _; exact Nat.le_of_eq rfl) (hb hby at_455) (fun _ _ => ⟨rfl, e30, (by decide : 2 + 2 ≤ _), (by decide : 18 + 16 ≤ _)⟩)
                dsimp only [Pt.U, Pt.locs, Pt.cells, Pt.slots] at X31 l31 y31 z31 st31 hQ31
                subst l31 y31 z31
                obtain ⟨b_31, nb_31, kb_31, ys_31, rfl, N31q, Kq31, sz31_b, E_b_31_p, F_value_b_31_p, F_coder_b_31_p, V_nb_31_p, hr31_0⟩ := hQ31
                have N31 := Fr.app NJ328 N31q
                have ne_uv_b_31 : uv ≠ b_31 := Nat.ne_of_lt (Nat.lt_of_lt_of_le E_uv.lt sz31_b)
                have ne_m0_b_31 : m0 ≠ b_31 := Nat.ne_of_lt (Nat.lt_of_lt_of_le F_wireName_m0.lt sz31_b)
                have ne_m1_b_31 : m1 ≠ b_31 := Nat.ne_of_lt (Nat.lt_of_lt_of_le F_wireName_m1.lt sz31_b)
                have ne_w0_b_31 : w0 ≠ b_31 := Nat.ne_of_lt (Nat.lt_of_lt_of_le E_w0.lt sz31_b)
                have ne_v0_b_31 : v0 ≠ b_31 := Nat.ne_of_lt (Nat.lt_of_lt_of_le V_v0.lt sz31_b)
                have ne_w1_b_31 : w1 ≠ b_31 := Nat.ne_of_lt (Nat.lt_of_lt_of_le E_w1.lt sz31_b)
                have ne_v1_b_31 : v1 ≠ b_31 := Nat.ne_of_lt (Nat.lt_of_lt_of_le V_v1.lt sz31_b)
                have ne_b1_b_31 : b1 ≠ b_31 := Nat.ne_of_lt (Nat.lt_of_lt_of_le E_b1.lt sz31_b)
                have ne_b30_b_31 : b30 ≠ b_31 := Nat.ne_of_lt (Nat.lt_of_lt_of_le E_b30.lt sz31_b)
                have sfs31 : ∀ x ∈ [b30], Safe Z own_EL s.vm h30 x := (sfS Sf_b30 sf0)
                have CHo31 := hCH
                have Sf_b1 := Safe.keep Kq31 sfs31 CHo31 Sf_b1
                have Sf_b30 := Safe.keep Kq31 sfs31 CHo31 Sf_b30
                have hCH := CHv.keep Kq31 sfs31 CHo31
                have Sf_b_31 := Safe.keep Kq31 sfs31 CHo31 (Safe.new sz31_b)
                have S_VAL := Sta.keepE S_VAL Kq31 (staS E_b30.cell (fun x hx' => nomatch hx'))
                have S_SCRAM_SHA_1 := Sta.keepE S_SCRAM_SHA_1 Kq31 (staS E_b30.cell (fun x hx' => nomatch hx'))
                have S_PLAIN := Sta.keepE S_PLAIN Kq31 (staS E_b30.cell (fun x hx' => nomatch hx'))
                have S_COMPACT_STRINGS := Sta.keepE S_COMPACT_STRINGS Kq31 (staS E_b30.cell (fun x hx' => nomatch hx'))
                have E_uv := E_uv.keep Kq31
                have V_uv := V_uv.keep Kq31 (ninS ne_uv_b30 nin0)
                have F_wireName_m0 := F_wireName_m0.keep Kq31 (ninS ne_m0_b30 nin0)
                have F_wireName_m1 := F_wireName_m1.keep Kq31 (ninS ne_m1_b30 nin0)
                have E_w0 := E_w0.keep Kq31
                have F_value_w0 := F_value_w0.keep Kq31 (ninS ne_w0_b30 nin0)
                have F_coder_w0 := F_coder_w0.keep Kq31 (ninS ne_w0_b30 nin0)
                have V_v0 := V_v0.keep Kq31 (ninS ne_v0_b30 nin0)
                have E_w1 := E_w1.keep Kq31
                have F_value_w1 := F_value_w1.keep Kq31 (ninS ne_w1_b30 nin0)
                have F_coder_w1 := F_coder_w1.keep Kq31 (ninS ne_w1_b30 nin0)
                have V_v1 := V_v1.keep Kq31 (ninS ne_v1_b30 nin0)
                have E_b1 := E_b1.keep Kq31
                have V_b1 := V_b1.keep Kq31 (ninS ne_b1_b30 nin0)
                have E_b30 := E_b30.keep Kq31
                have g_b_31 : n0 ≤ b_31 := Nat.le_trans zn30 sz31_b
                have sz_b_31 : h0.size ≤ b_31 := Nat.le_trans K30.1 sz31_b
                have K31 := K30.trans Kq31 (allS (P := fun x => x ∈ ([] : List Addr) ∨ h0.size ≤ x) (Or.inr sz_b30) all0)
                have zn31 : n0 ≤ T31.heap.size := Nat.le_trans zn30 Kq31.1
                have hk31 := Nat.le_trans hk30 Kq31.1
                have E_b_31 := E_b_31_p
                have F_value_b_31 := F_value_b_31_p
                have F_coder_b_31 := F_coder_b_31_p
                have V_nb_31 := V_nb_31_p
                refine OGo.go (B := T31.setTop (mkF m 458 #[.val (.int p0), .val (.int p1), .val (.int p2), .val (.int p3), .val (.long q4), .second, .val (.long q5), .second, .val (.ref b1), .val (.int (p0 &&& (3 : Int32))), .val (.int (p1 &&& (7 : Int32))), .val (.ref b30), .unset, .unset, .unset] [(.ref b_31)])) ?_ st31
                exact J458s T31 _ T31.heap b30 b_31 nb_31 kb_31 (6 : Int32) ys_31 (X31.mono (by decide) (by decide)) rfl N31 zn31 K31 hCH S_VAL E_uv V_uv F_wireName_m0 F_wireName_m1 E_w0 F_value_w0 F_coder_w0 V_v0 E_w1 F_value_w1 F_coder_w1 V_v1 S_SCRAM_SHA_1 S_PLAIN S_COMPACT_STRINGS Sf_b1 E_b1 V_b1 E_b_31 F_value_b_31 F_coder_b_31 V_nb_31 hr31_0
            ·
              refine OGo.go (B := TJ328.setTop (mkF m 404 #[.val (.int p0), .val (.int p1), .val (.int p2), .val (.int p3), .val (.long q4), .second, .val (.long q5), .second, .val (.ref b1), .val (.int (p0 &&& (3 : Int32))), .val (.int (p1 &&& (7 : Int32))), .unset, .unset, .unset, .unset] [])) ?_ (fun tX kX => XS.icmpYes XJ328.here hx rfl (pc0 := 392) (pc' := 404) rfl (hb hby at_392) rfl (feq hc392).2 (by decide) (by decide) kX)
              refine OGo.go (B := TJ328.setTop (mkF m 406 #[.val (.int p0), .val (.int p1), .val (.int p2), .val (.int p3), .val (.long q4), .second, .val (.long q5), .second, .val (.ref b1), .val (.int (p0 &&& (3 : Int32))), .val (.int (p1 &&& (7 : Int32))), .unset, .unset, .unset, .unset] [(.int (p1 &&& (7 : Int32)))])) ?_ (fun tX kX => XS.iload XJ328.here hx rfl (hb hby at_404) rfl kX)
              refine OGo.go (B := TJ328.setTop (mkF m 407 #[.val (.int p0), .val (.int p1), .val (.int p2), .val (.int p3), .val (.long q4), .second, .val (.long q5), .second, .val (.ref b1), .val (.int (p0 &&& (3 : Int32))), .val (.int (p1 &&& (7 : Int32))), .unset, .unset, .unset, .unset] [(.int (5 : Int32)), (.int (p1 &&& (7 : Int32)))])) ?_ (fun tX kX => XS.iconst XJ328.here hx rfl (hb hby at_406) kX)
              by_cases hc407 : (p1 &&& (7 : Int32)) = (5 : Int32)
              ·
                refine OGo.go (B := TJ328.setTop (mkF m 410 #[.val (.int p0), .val (.int p1), .val (.int p2), .val (.int p3), .val (.long q4), .second, .val (.long q5), .second, .val (.ref b1), .val (.int (p0 &&& (3 : Int32))), .val (.int (p1 &&& (7 : Int32))), .unset, .unset, .unset, .unset] [])) ?_ (fun tX kX => XS.icmpNo XJ328.here hx rfl (hb hby at_407) rfl (teq hc407).2 kX)
                refine OGo.go (B := TJ328.setTop (mkF m 412 #[.val (.int p0), .val (.int p1), .val (.int p2), .val (.int p3), .val (.long q4), .second, .val (.long q5), .second, .val (.ref b1), .val (.int (p0 &&& (3 : Int32))), .val (.int (p1 &&& (7 : Int32))), .unset, .unset, .unset, .unset] [(.int (10 : Int32))])) ?_ (fun tX kX => XS.bipush XJ328.here hx rfl (hb hby at_410) kX)
                obtain ⟨T32, h32, k32, X32, e32, E32, A32, EA32, st32⟩ := newPE XJ328 hx hZ (hw _ (List.mem_of_getElem? (i := 0) rfl)) eJ328 (g := (mkF m 412 #[.val (.int p0), .val (.int p1), .val (.int p2), .val (.int p3), .val (.long q4), .second, .val (.long q5), .second, .val (.ref b1), .val (.int (p0 &&& (3 : Int32))), .val (.int (p1 &&& (7 : Int32))), .unset, .unset, .unset, .unset] [(.int (10 : Int32))])) rfl (hb hby at_412) rfl (by decide) (cap := 10) (by decide) (by decide) (by decide) (by decide) (ad := "[C") (by decide)
                obtain ⟨b32, g32⟩ : ∃ z, z = hJ328.size := ⟨_, rfl⟩
                rw [← g32] at A32 EA32 st32
                have ne_uv_b32 : uv ≠ b32 := Nat.ne_of_lt (Nat.lt_of_lt_of_le E_uv.lt (Nat.le_of_eq g32.symm))
                have ne_m0_b32 : m0 ≠ b32 := Nat.ne_of_lt (Nat.lt_of_lt_of_le F_wireName_m0.lt (Nat.le_of_eq g32.symm))
                have ne_m1_b32 : m1 ≠ b32 := Nat.ne_of_lt (Nat.lt_of_lt_of_le F_wireName_m1.lt (Nat.le_of_eq g32.symm))
                have ne_w0_b32 : w0 ≠ b32 := Nat.ne_of_lt (Nat.lt_of_lt_of_le E_w0.lt (Nat.le_of_eq g32.symm))
                have ne_v0_b32 : v0 ≠ b32 := Nat.ne_of_lt (Nat.lt_of_lt_of_le V_v0.lt (Nat.le_of_eq g32.symm))
                have ne_w1_b32 : w1 ≠ b32 := Nat.ne_of_lt (Nat.lt_of_lt_of_le E_w1.lt (Nat.le_of_eq g32.symm))
                have ne_v1_b32 : v1 ≠ b32 := Nat.ne_of_lt (Nat.lt_of_lt_of_le V_v1.lt (Nat.le_of_eq g32.symm))
                have ne_b1_b32 : b1 ≠ b32 := Nat.ne_of_lt (Nat.lt_of_lt_of_le E_b1.lt (Nat.le_of_eq g32.symm))
                have CHo32 := hCH
                have Sf_b1 := Safe.ext E32 CHo32 Sf_b1
                have hCH := CHv.ext E32 CHo32
                have S_VAL := S_VAL.ext E32
                have E_uv := E_uv.ext E32
                have V_uv := V_uv.ext E32
                have F_wireName_m0 := F_wireName_m0.ext E32
                have F_wireName_m1 := F_wireName_m1.ext E32
                have E_w0 := E_w0.ext E32
                have F_value_w0 := F_value_w0.ext E32
                have F_coder_w0 := F_coder_w0.ext E32
                have V_v0 := V_v0.ext E32
                have E_w1 := E_w1.ext E32
                have F_value_w1 := F_value_w1.ext E32
                have F_coder_w1 := F_coder_w1.ext E32
                have V_v1 := V_v1.ext E32
                have S_SCRAM_SHA_1 := S_SCRAM_SHA_1.ext E32
                have S_PLAIN := S_PLAIN.ext E32
                have S_COMPACT_STRINGS := S_COMPACT_STRINGS.ext E32
                have E_b1 := E_b1.ext E32
                have V_b1 := V_b1.ext E32
                have Sf_b32 : Safe Z own_EL s.vm h32 b32 := Safe.ext E32 CHo32 (Safe.new (Nat.le_of_eq g32.symm))
                have g_b32 : n0 ≤ b32 := Nat.le_trans znJ328 (Nat.le_of_eq g32.symm)
                have sz_b32 : h0.size ≤ b32 := Nat.le_trans KJ328.1 (Nat.le_of_eq g32.symm)
                have zn32 : n0 ≤ h32.size := Nat.le_trans znJ328 E32.1
                have hk32 := Nat.le_trans (Nat.zero_le _) E32.1
                have K32 := KJ328.ext E32
                have E_b32 := EA32
                have V_b32 : Arv Z h32 b32 k32 .char (10 : Int32) [(.int (0 : Int32)), (.int (0 : Int32)), (.int (0 : Int32)), (.int (0 : Int32)), (.int (0 : Int32)), (.int (0 : Int32)), (.int (0 : Int32)), (.int (0 : Int32)), (.int (0 : Int32)), (.int (0 : Int32))] (.int (0 : Int32)) := (Arv.new A32 (by decide)).pad (pad_rep [] (.int (0 : Int32)) 10)
                refine OGo.go (B := T32.setTop (mkF m 414 #[.val (.int p0), .val (.int p1), .val (.int p2), .val (.int p3), .val (.long q4), .second, .val (.long q5), .second, .val (.ref b1), .val (.int (p0 &&& (3 : Int32))), .val (.int (p1 &&& (7 : Int32))), .unset, .unset, .unset, .unset] [(.ref b32)])) ?_ st32
                refine OGo.go (B := T32.setTop (mkF m 416 #[.val (.int p0), .val (.int p1), .val (.int p2), .val (.int p3), .val (.long q4), .second, .val (.long q5), .second, .val (.ref b1), .val (.int (p0 &&& (3 : Int32))), .val (.int (p1 &&& (7 : Int32))), .val (.ref b32), .unset, .unset, .unset] [])) ?_ (fun tX kX => XS.astore X32.here hx rfl (hb hby at_414) rfl rfl (l' := #[.val (.int p0), .val (.int p1), .val (.int p2), .val (.int p3), .val (.long q4), .second, .val (.long q5), .second, .val (.ref b1), .val (.int (p0 &&& (3 : Int32))), .val (.int (p1 &&& (7 : Int32))), .val (.ref b32), .unset, .unset, .unset]) rfl kX)
                refine OGo.go (B := T32.setTop (mkF m 441 #[.val (.int p0), .val (.int p1), .val (.int p2), .val (.int p3), .val (.long q4), .second, .val (.long q5), .second, .val (.ref b1), .val (.int (p0 &&& (3 : Int32))), .val (.int (p1 &&& (7 : Int32))), .val (.ref b32), .unset, .unset, .unset] [])) ?_ (fun tX kX => XS.goto X32.here hx rfl (pc0 := 416) (pc' := 441) rfl (hb hby at_416) (by decide) (by decide) kX)
                refine OGo.go (B := T32.setTop (mkF m 443 #[.val (.int p0), .val (.int p1), .val (.int p2), .val (.int p3), .val (.long q4), .second, .val (.long q5), .second, .val (.ref b1), .val (.int (p0 &&& (3 : Int32))), .val (.int (p1 &&& (7 : Int32))), .val (.ref b32), .unset, .unset, .unset] [(.int (p0 &&& (3 : Int32)))])) ?_ (fun tX kX => XS.iload X32.here hx rfl (hb hby at_441) rfl kX)
                refine OGo.go (B := T32.setTop (mkF m 444 #[.val (.int p0), .val (.int p1), .val (.int p2), .val (.int p3), .val (.long q4), .second, .val (.long q5), .second, .val (.ref b1), .val (.int (p0 &&& (3 : Int32))), .val (.int (p1 &&& (7 : Int32))), .val (.ref b32), .unset, .unset, .unset] [(.int (3 : Int32)), (.int (p0 &&& (3 : Int32)))])) ?_ (fun tX kX => XS.iconst X32.here hx rfl (hb hby at_443) kX)
                by_cases hc444_5 : (p0 &&& (3 : Int32)) = (3 : Int32)
                ·
                  refine OGo.go (B := T32.setTop (mkF m 447 #[.val (.int p0), .val (.int p1), .val (.int p2), .val (.int p3), .val (.long q4), .second, .val (.long q5), .second, .val (.ref b1), .val (.int (p0 &&& (3 : Int32))), .val (.int (p1 &&& (7 : Int32))), .val (.ref b32), .unset, .unset, .unset] [])) ?_ (fun tX kX => XS.icmpNo X32.here hx rfl (hb hby at_444) rfl (teq hc444_5).2 kX)
                  refine OGo.go (B := T32.setTop (mkF m 448 #[.val (.int p0), .val (.int p1), .val (.int p2), .val (.int p3), .val (.long q4), .second, .val (.long q5), .second, .val (.ref b1), .val (.int (p0 &&& (3 : Int32))), .val (.int (p1 &&& (7 : Int32))), .val (.ref b32), .unset, .unset, .unset] [.null])) ?_ (fun tX kX => XS.aconstNull X32.here hx rfl (hb hby at_447) kX)
                  refine OGo.go (B := T32.setTop (mkF m 458 #[.val (.int p0), .val (.int p1), .val (.int p2), .val (.int p3), .val (.long q4), .second, .val (.long q5), .second, .val (.ref b1), .val (.int (p0 &&& (3 : Int32))), .val (.int (p1 &&& (7 : Int32))), .val (.ref b32), .unset, .unset, .unset] [.null])) ?_ (fun tX kX => XS.goto X32.here hx rfl (pc0 := 448) (pc' := 458) rfl (hb hby at_448) (by decide) (by decide) kX)
                  exact J458n T32 _ h32 b32 (X32.mono (by decide) (by decide)) e32 NJ328 zn32 K32 hCH S_VAL E_uv V_uv F_wireName_m0 F_wireName_m1 E_w0 F_value_w0 F_coder_w0 V_v0 E_w1 F_value_w1 F_coder_w1 V_v1 S_SCRAM_SHA_1 S_PLAIN S_COMPACT_STRINGS Sf_b1 E_b1 V_b1
                ·
                  refine OGo.go (B := T32.setTop (mkF m 451 #[.val (.int p0), .val (.int p1), .val (.int p2), .val (.int p3), .val (.long q4), .second, .val (.long q5), .second, .val (.ref b1), .val (.int (p0 &&& (3 : Int32))), .val (.int (p1 &&& (7 : Int32))), .val (.ref b32), .unset, .unset, .unset] [])) ?_ (fun tX kX => XS.icmpYes X32.here hx rfl (pc0 := 444) (pc' := 451) rfl (hb hby at_444) rfl (feq hc444_5).2 (by decide) (by decide) kX)
                  refine OGo.go (B := T32.setTop (mkF m 453 #[.val (.int p0), .val (.int p1), .val (.int p2), .val (.int p3), .val (.long q4), .second, .val (.long q5), .second, .val (.ref b1), .val (.int (p0 &&& (3 : Int32))), .val (.int (p1 &&& (7 : Int32))), .val (.ref b32), .unset, .unset, .unset] [(.ref b1)])) ?_ (fun tX kX => XS.aload X32.here hx rfl (hb hby at_451) rfl rfl kX)
                  refine OGo.go (B := T32.setTop (mkF m 455 #[.val (.int p0), .val (.int p1), .val (.int p2), .val (.int p3), .val (.long q4), .second, .val (.long q5), .second, .val (.ref b1), .val (.int (p0 &&& (3 : Int32))), .val (.int (p1 &&& (7 : Int32))), .val (.ref b32), .unset, .unset, .unset] [(.ref b32), (.ref b1)])) ?_ (fun tX kX => XS.aload X32.here hx rfl (hb hby at_453) rfl rfl kX)
                  obtain ⟨_, _, ⟨T33, L33, k33, n33⟩, -, X33, ⟨Lc33, hQ33, l33, y33, z33⟩, st33⟩ := Jvm.LawKit.callS X32 hx (y := (⟨"com/example/hushlist/hushlist/server/SaslMechanismNamedPinLaw", "prefix", "([C[C)Ljava/lang/String;"⟩ : MethodName)) hown (mvT hZ (hw _ (List.mem_of_getElem? (i := 2) rfl))) (mvT hZ (hw _ (List.mem_of_getElem? (i := 3) rfl))) (mvT hZ (hw _ (List.mem_of_getElem? (i := 4) rfl))) (mvT hZ (hw _ (List.mem_of_getElem? (i := 5) rfl))) (by decide) (backOf (W := 0) (rm1g l Z aV hw [] b1 b32 k1 k32 cs (10 : Int32) [(.int (0 : Int32)), (.int (0 : Int32)), (.int (0 : Int32)), (.int (0 : Int32)), (.int (0 : Int32)), (.int (0 : Int32)), (.int (0 : Int32)), (.int (0 : Int32)), (.int (0 : Int32)), (.int (0 : Int32))] ch0 ch1 ch2 ch3 ch4 ch5 ch6 ch7 ch8 ch9 ch10 ch11 h32 n0 zn32 V_b1 V_b32 S_COMPACT_STRINGS g_b32 ne_b1_b32 hcs (own_Bc (by decide) (own_Bc (by decide) (own_Bc (by decide) (own_Bc (by decide) (own_Bc (by decide) (own_Bc (by decide) (own_Bc (by decide) (own_Bc (by decide) (own_Bc (by decide) (own_Bc (by decide) own_Bn)))))))))) rfl (by decide) (by decide) le0 le1 le2 le3 le4 le5 le6 le7 le8 le9 le10 le11) hZ (hw _ (List.mem_of_getElem? (i := 5) rfl)) (hw _ (List.mem_of_getElem? (i := 4) rfl)) (by decide) (by decide)) (g := (mkF m 455 #[.val (.int p0), .val (.int p1), .val (.int p2), .val (.int p3), .val (.long q4), .second, .val (.long q5), .second, .val (.ref b1), .val (.int (p0 &&& (3 : Int32))), .val (.int (p1 &&& (7 : Int32))), .val (.ref b32), .unset, .unset, .unset] [(.ref b32), (.ref b1)])) rfl (by rw [hml]; rfl) (argsL := [(.ref b1), (.ref b32)]) (rest := []) (lenOf pd___C_C_Ljava_lang_String_ rfl) rfl (by show 2 * 0 + _ ≤ _; exact Nat.le_of_eq rfl) (hb hby at_455) (fun _ _ => ⟨rfl, e32, (by decide : 2 + 2 ≤ _), (by decide : 22 + 16 ≤ _)⟩)
                  dsimp only [Pt.U, Pt.locs, Pt.cells, Pt.slots] at X33 l33 y33 z33 st33 hQ33
                  subst l33 y33 z33
                  obtain ⟨b_33, nb_33, kb_33, ys_33, rfl, N33q, Kq33, sz33_b, E_b_33_p, F_value_b_33_p, F_coder_b_33_p, V_nb_33_p, hr33_0⟩ := hQ33
                  have N33 := Fr.app NJ328 N33q
                  have ne_uv_b_33 : uv ≠ b_33 := Nat.ne_of_lt (Nat.lt_of_lt_of_le E_uv.lt sz33_b)
                  have ne_m0_b_33 : m0 ≠ b_33 := Nat.ne_of_lt (Nat.lt_of_lt_of_le F_wireName_m0.lt sz33_b)
                  have ne_m1_b_33 : m1 ≠ b_33 := Nat.ne_of_lt (Nat.lt_of_lt_of_le F_wireName_m1.lt sz33_b)
                  have ne_w0_b_33 : w0 ≠ b_33 := Nat.ne_of_lt (Nat.lt_of_lt_of_le E_w0.lt sz33_b)
                  have ne_v0_b_33 : v0 ≠ b_33 := Nat.ne_of_lt (Nat.lt_of_lt_of_le V_v0.lt sz33_b)
                  have ne_w1_b_33 : w1 ≠ b_33 := Nat.ne_of_lt (Nat.lt_of_lt_of_le E_w1.lt sz33_b)
                  have ne_v1_b_33 : v1 ≠ b_33 := Nat.ne_of_lt (Nat.lt_of_lt_of_le V_v1.lt sz33_b)
                  have ne_b1_b_33 : b1 ≠ b_33 := Nat.ne_of_lt (Nat.lt_of_lt_of_le E_b1.lt sz33_b)
                  have ne_b32_b_33 : b32 ≠ b_33 := Nat.ne_of_lt (Nat.lt_of_lt_of_le E_b32.lt sz33_b)
                  have sfs33 : ∀ x ∈ [b32], Safe Z own_EL s.vm h32 x := (sfS Sf_b32 sf0)
                  have CHo33 := hCH
                  have Sf_b1 := Safe.keep Kq33 sfs33 CHo33 Sf_b1
                  have Sf_b32 := Safe.keep Kq33 sfs33 CHo33 Sf_b32
                  have hCH := CHv.keep Kq33 sfs33 CHo33
                  have Sf_b_33 := Safe.keep Kq33 sfs33 CHo33 (Safe.new sz33_b)
                  have S_VAL := Sta.keepE S_VAL Kq33 (staS E_b32.cell (fun x hx' => nomatch hx'))
                  have S_SCRAM_SHA_1 := Sta.keepE S_SCRAM_SHA_1 Kq33 (staS E_b32.cell (fun x hx' => nomatch hx'))
                  have S_PLAIN := Sta.keepE S_PLAIN Kq33 (staS E_b32.cell (fun x hx' => nomatch hx'))
                  have S_COMPACT_STRINGS := Sta.keepE S_COMPACT_STRINGS Kq33 (staS E_b32.cell (fun x hx' => nomatch hx'))
                  have E_uv := E_uv.keep Kq33
                  have V_uv := V_uv.keep Kq33 (ninS ne_uv_b32 nin0)
                  have F_wireName_m0 := F_wireName_m0.keep Kq33 (ninS ne_m0_b32 nin0)
                  have F_wireName_m1 := F_wireName_m1.keep Kq33 (ninS ne_m1_b32 nin0)
                  have E_w0 := E_w0.keep Kq33
                  have F_value_w0 := F_value_w0.keep Kq33 (ninS ne_w0_b32 nin0)
                  have F_coder_w0 := F_coder_w0.keep Kq33 (ninS ne_w0_b32 nin0)
                  have V_v0 := V_v0.keep Kq33 (ninS ne_v0_b32 nin0)
                  have E_w1 := E_w1.keep Kq33
                  have F_value_w1 := F_value_w1.keep Kq33 (ninS ne_w1_b32 nin0)
                  have F_coder_w1 := F_coder_w1.keep Kq33 (ninS ne_w1_b32 nin0)
                  have V_v1 := V_v1.keep Kq33 (ninS ne_v1_b32 nin0)
                  have E_b1 := E_b1.keep Kq33
                  have V_b1 := V_b1.keep Kq33 (ninS ne_b1_b32 nin0)
                  have E_b32 := E_b32.keep Kq33
                  have g_b_33 : n0 ≤ b_33 := Nat.le_trans zn32 sz33_b
                  have sz_b_33 : h0.size ≤ b_33 := Nat.le_trans K32.1 sz33_b
                  have K33 := K32.trans Kq33 (allS (P := fun x => x ∈ ([] : List Addr) ∨ h0.size ≤ x) (Or.inr sz_b32) all0)
                  have zn33 : n0 ≤ T33.heap.size := Nat.le_trans zn32 Kq33.1
                  have hk33 := Nat.le_trans hk32 Kq33.1
                  have E_b_33 := E_b_33_p
                  have F_value_b_33 := F_value_b_33_p
                  have F_coder_b_33 := F_coder_b_33_p
                  have V_nb_33 := V_nb_33_p
                  refine OGo.go (B := T33.setTop (mkF m 458 #[.val (.int p0), .val (.int p1), .val (.int p2), .val (.int p3), .val (.long q4), .second, .val (.long q5), .second, .val (.ref b1), .val (.int (p0 &&& (3 : Int32))), .val (.int (p1 &&& (7 : Int32))), .val (.ref b32), .unset, .unset, .unset] [(.ref b_33)])) ?_ st33
                  exact J458s T33 _ T33.heap b32 b_33 nb_33 kb_33 (10 : Int32) ys_33 (X33.mono (by decide) (by decide)) rfl N33 zn33 K33 hCH S_VAL E_uv V_uv F_wireName_m0 F_wireName_m1 E_w0 F_value_w0 F_coder_w0 V_v0 E_w1 F_value_w1 F_coder_w1 V_v1 S_SCRAM_SHA_1 S_PLAIN S_COMPACT_STRINGS Sf_b1 E_b1 V_b1 E_b_33 F_value_b_33 F_coder_b_33 V_nb_33 hr33_0
              ·
                refine OGo.go (B := TJ328.setTop (mkF m 419 #[.val (.int p0), .val (.int p1), .val (.int p2), .val (.int p3), .val (.long q4), .second, .val (.long q5), .second, .val (.ref b1), .val (.int (p0 &&& (3 : Int32))), .val (.int (p1 &&& (7 : Int32))), .unset, .unset, .unset, .unset] [])) ?_ (fun tX kX => XS.icmpYes XJ328.here hx rfl (pc0 := 407) (pc' := 419) rfl (hb hby at_407) rfl (feq hc407).2 (by decide) (by decide) kX)
                refine OGo.go (B := TJ328.setTop (mkF m 421 #[.val (.int p0), .val (.int p1), .val (.int p2), .val (.int p3), .val (.long q4), .second, .val (.long q5), .second, .val (.ref b1), .val (.int (p0 &&& (3 : Int32))), .val (.int (p1 &&& (7 : Int32))), .unset, .unset, .unset, .unset] [(.int (p1 &&& (7 : Int32)))])) ?_ (fun tX kX => XS.iload XJ328.here hx rfl (hb hby at_419) rfl kX)
                refine OGo.go (B := TJ328.setTop (mkF m 423 #[.val (.int p0), .val (.int p1), .val (.int p2), .val (.int p3), .val (.long q4), .second, .val (.long q5), .second, .val (.ref b1), .val (.int (p0 &&& (3 : Int32))), .val (.int (p1 &&& (7 : Int32))), .unset, .unset, .unset, .unset] [(.int (6 : Int32)), (.int (p1 &&& (7 : Int32)))])) ?_ (fun tX kX => XS.bipush XJ328.here hx rfl (hb hby at_421) kX)
                by_cases hc423 : (p1 &&& (7 : Int32)) = (6 : Int32)
                ·
                  refine OGo.go (B := TJ328.setTop (mkF m 426 #[.val (.int p0), .val (.int p1), .val (.int p2), .val (.int p3), .val (.long q4), .second, .val (.long q5), .second, .val (.ref b1), .val (.int (p0 &&& (3 : Int32))), .val (.int (p1 &&& (7 : Int32))), .unset, .unset, .unset, .unset] [])) ?_ (fun tX kX => XS.icmpNo XJ328.here hx rfl (hb hby at_423) rfl (teq hc423).2 kX)
                  refine OGo.go (B := TJ328.setTop (mkF m 428 #[.val (.int p0), .val (.int p1), .val (.int p2), .val (.int p3), .val (.long q4), .second, .val (.long q5), .second, .val (.ref b1), .val (.int (p0 &&& (3 : Int32))), .val (.int (p1 &&& (7 : Int32))), .unset, .unset, .unset, .unset] [(.int (11 : Int32))])) ?_ (fun tX kX => XS.bipush XJ328.here hx rfl (hb hby at_426) kX)
                  obtain ⟨T34, h34, k34, X34, e34, E34, A34, EA34, st34⟩ := newPE XJ328 hx hZ (hw _ (List.mem_of_getElem? (i := 0) rfl)) eJ328 (g := (mkF m 428 #[.val (.int p0), .val (.int p1), .val (.int p2), .val (.int p3), .val (.long q4), .second, .val (.long q5), .second, .val (.ref b1), .val (.int (p0 &&& (3 : Int32))), .val (.int (p1 &&& (7 : Int32))), .unset, .unset, .unset, .unset] [(.int (11 : Int32))])) rfl (hb hby at_428) rfl (by decide) (cap := 11) (by decide) (by decide) (by decide) (by decide) (ad := "[C") (by decide)
                  obtain ⟨b34, g34⟩ : ∃ z, z = hJ328.size := ⟨_, rfl⟩
                  rw [← g34] at A34 EA34 st34
                  have ne_uv_b34 : uv ≠ b34 := Nat.ne_of_lt (Nat.lt_of_lt_of_le E_uv.lt (Nat.le_of_eq g34.symm))
                  have ne_m0_b34 : m0 ≠ b34 := Nat.ne_of_lt (Nat.lt_of_lt_of_le F_wireName_m0.lt (Nat.le_of_eq g34.symm))
                  have ne_m1_b34 : m1 ≠ b34 := Nat.ne_of_lt (Nat.lt_of_lt_of_le F_wireName_m1.lt (Nat.le_of_eq g34.symm))
                  have ne_w0_b34 : w0 ≠ b34 := Nat.ne_of_lt (Nat.lt_of_lt_of_le E_w0.lt (Nat.le_of_eq g34.symm))
                  have ne_v0_b34 : v0 ≠ b34 := Nat.ne_of_lt (Nat.lt_of_lt_of_le V_v0.lt (Nat.le_of_eq g34.symm))
                  have ne_w1_b34 : w1 ≠ b34 := Nat.ne_of_lt (Nat.lt_of_lt_of_le E_w1.lt (Nat.le_of_eq g34.symm))
                  have ne_v1_b34 : v1 ≠ b34 := Nat.ne_of_lt (Nat.lt_of_lt_of_le V_v1.lt (Nat.le_of_eq g34.symm))
                  have ne_b1_b34 : b1 ≠ b34 := Nat.ne_of_lt (Nat.lt_of_lt_of_le E_b1.lt (Nat.le_of_eq g34.symm))
                  have CHo34 := hCH
                  have Sf_b1 := Safe.ext E34 CHo34 Sf_b1
                  have hCH := CHv.ext E34 CHo34
                  have S_VAL := S_VAL.ext E34
                  have E_uv := E_uv.ext E34
                  have V_uv := V_uv.ext E34
                  have F_wireName_m0 := F_wireName_m0.ext E34
                  have F_wireName_m1 := F_wireName_m1.ext E34
                  have E_w0 := E_w0.ext E34
                  have F_value_w0 := F_value_w0.ext E34
                  have F_coder_w0 := F_coder_w0.ext E34
                  have V_v0 := V_v0.ext E34
                  have E_w1 := E_w1.ext E34
                  have F_value_w1 := F_value_w1.ext E34
                  have F_coder_w1 := F_coder_w1.ext E34
                  have V_v1 := V_v1.ext E34
                  have S_SCRAM_SHA_1 := S_SCRAM_SHA_1.ext E34
                  have S_PLAIN := S_PLAIN.ext E34
                  have S_COMPACT_STRINGS := S_COMPACT_STRINGS.ext E34
                  have E_b1 := E_b1.ext E34
                  have V_b1 := V_b1.ext E34
                  have Sf_b34 : Safe Z own_EL s.vm h34 b34 := Safe.ext E34 CHo34 (Safe.new (Nat.le_of_eq g34.symm))
                  have g_b34 : n0 ≤ b34 := Nat.le_trans znJ328 (Nat.le_of_eq g34.symm)
                  have sz_b34 : h0.size ≤ b34 := Nat.le_trans KJ328.1 (Nat.le_of_eq g34.symm)
                  have zn34 : n0 ≤ h34.size := Nat.le_trans znJ328 E34.1
                  have hk34 := Nat.le_trans (Nat.zero_le _) E34.1
                  have K34 := KJ328.ext E34
                  have E_b34 := EA34
                  have V_b34 : Arv Z h34 b34 k34 .char (11 : Int32) [(.int (0 : Int32)), (.int (0 : Int32)), (.int (0 : Int32)), (.int (0 : Int32)), (.int (0 : Int32)), (.int (0 : Int32)), (.int (0 : Int32)), (.int (0 : Int32)), (.int (0 : Int32)), (.int (0 : Int32)), (.int (0 : Int32))] (.int (0 : Int32)) := (Arv.new A34 (by decide)).pad (pad_rep [] (.int (0 : Int32)) 11)
                  refine OGo.go (B := T34.setTop (mkF m 430 #[.val (.int p0), .val (.int p1), .val (.int p2), .val (.int p3), .val (.long q4), .second, .val (.long q5), .second, .val (.ref b1), .val (.int (p0 &&& (3 : Int32))), .val (.int (p1 &&& (7 : Int32))), .unset, .unset, .unset, .unset] [(.ref b34)])) ?_ st34
                  refine OGo.go (B := T34.setTop (mkF m 432 #[.val (.int p0), .val (.int p1), .val (.int p2), .val (.int p3), .val (.long q4), .second, .val (.long q5), .second, .val (.ref b1), .val (.int (p0 &&& (3 : Int32))), .val (.int (p1 &&& (7 : Int32))), .val (.ref b34), .unset, .unset, .unset] [])) ?_ (fun tX kX => XS.astore X34.here hx rfl (hb hby at_430) rfl rfl (l' := #[.val (.int p0), .val (.int p1), .val (.int p2), .val (.int p3), .val (.long q4), .second, .val (.long q5), .second, .val (.ref b1), .val (.int (p0 &&& (3 : Int32))), .val (.int (p1 &&& (7 : Int32))), .val (.ref b34), .unset, .unset, .unset]) rfl kX)
                  refine OGo.go (B := T34.setTop (mkF m 441 #[.val (.int p0), .val (.int p1), .val (.int p2), .val (.int p3), .val (.long q4), .second, .val (.long q5), .second, .val (.ref b1), .val (.int (p0 &&& (3 : Int32))), .val (.int (p1 &&& (7 : Int32))), .val (.ref b34), .unset, .unset, .unset] [])) ?_ (fun tX kX => XS.goto X34.here hx rfl (pc0 := 432) (pc' := 441) rfl (hb hby at_432) (by decide) (by decide) kX)
                  refine OGo.go (B := T34.setTop (mkF m 443 #[.val (.int p0), .val (.int p1), .val (.int p2), .val (.int p3), .val (.long q4), .second, .val (.long q5), .second, .val (.ref b1), .val (.int (p0 &&& (3 : Int32))), .val (.int (p1 &&& (7 : Int32))), .val (.ref b34), .unset, .unset, .unset] [(.int (p0 &&& (3 : Int32)))])) ?_ (fun tX kX => XS.iload X34.here hx rfl (hb hby at_441) rfl kX)
                  refine OGo.go (B := T34.setTop (mkF m 444 #[.val (.int p0), .val (.int p1), .val (.int p2), .val (.int p3), .val (.long q4), .second, .val (.long q5), .second, .val (.ref b1), .val (.int (p0 &&& (3 : Int32))), .val (.int (p1 &&& (7 : Int32))), .val (.ref b34), .unset, .unset, .unset] [(.int (3 : Int32)), (.int (p0 &&& (3 : Int32)))])) ?_ (fun tX kX => XS.iconst X34.here hx rfl (hb hby at_443) kX)
                  by_cases hc444_6 : (p0 &&& (3 : Int32)) = (3 : Int32)
                  ·
                    refine OGo.go (B := T34.setTop (mkF m 447 #[.val (.int p0), .val (.int p1), .val (.int p2), .val (.int p3), .val (.long q4), .second, .val (.long q5), .second, .val (.ref b1), .val (.int (p0 &&& (3 : Int32))), .val (.int (p1 &&& (7 : Int32))), .val (.ref b34), .unset, .unset, .unset] [])) ?_ (fun tX kX => XS.icmpNo X34.here hx rfl (hb hby at_444) rfl (teq hc444_6).2 kX)
                    refine OGo.go (B := T34.setTop (mkF m 448 #[.val (.int p0), .val (.int p1), .val (.int p2), .val (.int p3), .val (.long q4), .second, .val (.long q5), .second, .val (.ref b1), .val (.int (p0 &&& (3 : Int32))), .val (.int (p1 &&& (7 : Int32))), .val (.ref b34), .unset, .unset, .unset] [.null])) ?_ (fun tX kX => XS.aconstNull X34.here hx rfl (hb hby at_447) kX)
                    refine OGo.go (B := T34.setTop (mkF m 458 #[.val (.int p0), .val (.int p1), .val (.int p2), .val (.int p3), .val (.long q4), .second, .val (.long q5), .second, .val (.ref b1), .val (.int (p0 &&& (3 : Int32))), .val (.int (p1 &&& (7 : Int32))), .val (.ref b34), .unset, .unset, .unset] [.null])) ?_ (fun tX kX => XS.goto X34.here hx rfl (pc0 := 448) (pc' := 458) rfl (hb hby at_448) (by decide) (by decide) kX)
                    exact J458n T34 _ h34 b34 (X34.mono (by decide) (by decide)) e34 NJ328 zn34 K34 hCH S_VAL E_uv V_uv F_wireName_m0 F_wireName_m1 E_w0 F_value_w0 F_coder_w0 V_v0 E_w1 F_value_w1 F_coder_w1 V_v1 S_SCRAM_SHA_1 S_PLAIN S_COMPACT_STRINGS Sf_b1 E_b1 V_b1
                  ·
                    refine OGo.go (B := T34.setTop (mkF m 451 #[.val (.int p0), .val (.int p1), .val (.int p2), .val (.int p3), .val (.long q4), .second, .val (.long q5), .second, .val (.ref b1), .val (.int (p0 &&& (3 : Int32))), .val (.int (p1 &&& (7 : Int32))), .val (.ref b34), .unset, .unset, .unset] [])) ?_ (fun tX kX => XS.icmpYes X34.here hx rfl (pc0 := 444) (pc' := 451) rfl (hb hby at_444) rfl (feq hc444_6).2 (by decide) (by decide) kX)
                    refine OGo.go (B := T34.setTop (mkF m 453 #[.val (.int p0), .val (.int p1), .val (.int p2), .val (.int p3), .val (.long q4), .second, .val (.long q5), .second, .val (.ref b1), .val (.int (p0 &&& (3 : Int32))), .val (.int (p1 &&& (7 : Int32))), .val (.ref b34), .unset, .unset, .unset] [(.ref b1)])) ?_ (fun tX kX => XS.aload X34.here hx rfl (hb hby at_451) rfl rfl kX)
                    refine OGo.go (B := T34.setTop (mkF m 455 #[.val (.int p0), .val (.int p1), .val (.int p2), .val (.int p3), .val (.long q4), .second, .val (.long q5), .second, .val (.ref b1), .val (.int (p0 &&& (3 : Int32))), .val (.int (p1 &&& (7 : Int32))), .val (.ref b34), .unset, .unset, .unset] [(.ref b34), (.ref b1)])) ?_ (fun tX kX => XS.aload X34.here hx rfl (hb hby at_453) rfl rfl kX)
                    obtain ⟨_, _, ⟨T35, L35, k35, n35⟩, -, X35, ⟨Lc35, hQ35, l35, y35, z35⟩, st35⟩ := Jvm.LawKit.callS X34 hx (y := (⟨"com/example/hushlist/hushlist/server/SaslMechanismNamedPinLaw", "prefix", "([C[C)Ljava/lang/String;"⟩ : MethodName)) hown (mvT hZ (hw _ (List.mem_of_getElem? (i := 2) rfl))) (mvT hZ (hw _ (List.mem_of_getElem? (i := 3) rfl))) (mvT hZ (hw _ (List.mem_of_getElem? (i := 4) rfl))) (mvT hZ (hw _ (List.mem_of_getElem? (i := 5) rfl))) (by decide) (backOf (W := 0) (rm1g l Z aV hw [] b1 b34 k1 k34 cs (11 : Int32) [(.int (0 : Int32)), (.int (0 : Int32)), (.int (0 : Int32)), (.int (0 : Int32)), (.int (0 : Int32)), (.int (0 : Int32)), (.int (0 : Int32)), (.int (0 : Int32)), (.int (0 : Int32)), (.int (0 : Int32)), (.int (0 : Int32))] ch0 ch1 ch2 ch3 ch4 ch5 ch6 ch7 ch8 ch9 ch10 ch11 h34 n0 zn34 V_b1 V_b34 S_COMPACT_STRINGS g_b34 ne_b1_b34 hcs (own_Bc (by decide) (own_Bc (by decide) (own_Bc (by decide) (own_Bc (by decide) (own_Bc (by decide) (own_Bc (by decide) (own_Bc (by decide) (own_Bc (by decide) (own_Bc (by decide) (own_Bc (by decide) (own_Bc (by decide) own_Bn))))))))))) rfl (by decide) (by decide) le0 le1 le2 le3 le4 le5 le6 le7 le8 le9 le10 le11) hZ (hw _ (List.mem_of_getElem? (i := 5) rfl)) (hw _ (List.mem_of_getElem? (i := 4) rfl)) (by decide) (by decide)) (g := (mkF m 455 #[.val (.int p0), .val (.int p1), .val (.int p2), .val (.int p3), .val (.long q4), .second, .val (.long q5), .second, .val (.ref b1), .val (.int (p0 &&& (3 : Int32))), .val (.int (p1 &&& (7 : Int32))), .val (.ref b34), .unset, .unset, .unset] [(.ref b34), (.ref b1)])) rfl (by rw [hml]; rfl) (argsL := [(.ref b1), (.ref b34)]) (rest := []) (lenOf pd___C_C_Ljava_lang_String_ rfl) rfl (by show 2 * 0 + _ ≤ _; exact Nat.le_of_eq rfl) (hb hby at_455) (fun _ _ => ⟨rfl, e34, (by decide : 2 + 2 ≤ _), (by decide : 23 + 16 ≤ _)⟩)
                    dsimp only [Pt.U, Pt.locs, Pt.cells, Pt.slots] at X35 l35 y35 z35 st35 hQ35
                    subst l35 y35 z35
                    obtain ⟨b_35, nb_35, kb_35, ys_35, rfl, N35q, Kq35, sz35_b, E_b_35_p, F_value_b_35_p, F_coder_b_35_p, V_nb_35_p, hr35_0⟩ := hQ35
                    have N35 := Fr.app NJ328 N35q
                    have ne_uv_b_35 : uv ≠ b_35 := Nat.ne_of_lt (Nat.lt_of_lt_of_le E_uv.lt sz35_b)
                    have ne_m0_b_35 : m0 ≠ b_35 := Nat.ne_of_lt (Nat.lt_of_lt_of_le F_wireName_m0.lt sz35_b)
                    have ne_m1_b_35 : m1 ≠ b_35 := Nat.ne_of_lt (Nat.lt_of_lt_of_le F_wireName_m1.lt sz35_b)
                    have ne_w0_b_35 : w0 ≠ b_35 := Nat.ne_of_lt (Nat.lt_of_lt_of_le E_w0.lt sz35_b)
                    have ne_v0_b_35 : v0 ≠ b_35 := Nat.ne_of_lt (Nat.lt_of_lt_of_le V_v0.lt sz35_b)
                    have ne_w1_b_35 : w1 ≠ b_35 := Nat.ne_of_lt (Nat.lt_of_lt_of_le E_w1.lt sz35_b)
                    have ne_v1_b_35 : v1 ≠ b_35 := Nat.ne_of_lt (Nat.lt_of_lt_of_le V_v1.lt sz35_b)
                    have ne_b1_b_35 : b1 ≠ b_35 := Nat.ne_of_lt (Nat.lt_of_lt_of_le E_b1.lt sz35_b)
                    have ne_b34_b_35 : b34 ≠ b_35 := Nat.ne_of_lt (Nat.lt_of_lt_of_le E_b34.lt sz35_b)
                    have sfs35 : ∀ x ∈ [b34], Safe Z own_EL s.vm h34 x := (sfS Sf_b34 sf0)
                    have CHo35 := hCH
                    have Sf_b1 := Safe.keep Kq35 sfs35 CHo35 Sf_b1
                    have Sf_b34 := Safe.keep Kq35 sfs35 CHo35 Sf_b34
                    have hCH := CHv.keep Kq35 sfs35 CHo35
                    have Sf_b_35 := Safe.keep Kq35 sfs35 CHo35 (Safe.new sz35_b)
                    have S_VAL := Sta.keepE S_VAL Kq35 (staS E_b34.cell (fun x hx' => nomatch hx'))
                    have S_SCRAM_SHA_1 := Sta.keepE S_SCRAM_SHA_1 Kq35 (staS E_b34.cell (fun x hx' => nomatch hx'))
                    have S_PLAIN := Sta.keepE S_PLAIN Kq35 (staS E_b34.cell (fun x hx' => nomatch hx'))
                    have S_COMPACT_STRINGS := Sta.keepE S_COMPACT_STRINGS Kq35 (staS E_b34.cell (fun x hx' => nomatch hx'))
                    have E_uv := E_uv.keep Kq35
                    have V_uv := V_uv.keep Kq35 (ninS ne_uv_b34 nin0)
                    have F_wireName_m0 := F_wireName_m0.keep Kq35 (ninS ne_m0_b34 nin0)
                    have F_wireName_m1 := F_wireName_m1.keep Kq35 (ninS ne_m1_b34 nin0)
                    have E_w0 := E_w0.keep Kq35
                    have F_value_w0 := F_value_w0.keep Kq35 (ninS ne_w0_b34 nin0)
                    have F_coder_w0 := F_coder_w0.keep Kq35 (ninS ne_w0_b34 nin0)
                    have V_v0 := V_v0.keep Kq35 (ninS ne_v0_b34 nin0)
                    have E_w1 := E_w1.keep Kq35
                    have F_value_w1 := F_value_w1.keep Kq35 (ninS ne_w1_b34 nin0)
                    have F_coder_w1 := F_coder_w1.keep Kq35 (ninS ne_w1_b34 nin0)
                    have V_v1 := V_v1.keep Kq35 (ninS ne_v1_b34 nin0)
                    have E_b1 := E_b1.keep Kq35
                    have V_b1 := V_b1.keep Kq35 (ninS ne_b1_b34 nin0)
                    have E_b34 := E_b34.keep Kq35
                    have g_b_35 : n0 ≤ b_35 := Nat.le_trans zn34 sz35_b
                    have sz_b_35 : h0.size ≤ b_35 := Nat.le_trans K34.1 sz35_b
                    have K35 := K34.trans Kq35 (allS (P := fun x => x ∈ ([] : List Addr) ∨ h0.size ≤ x) (Or.inr sz_b34) all0)
                    have zn35 : n0 ≤ T35.heap.size := Nat.le_trans zn34 Kq35.1
                    have hk35 := Nat.le_trans hk34 Kq35.1
                    have E_b_35 := E_b_35_p
                    have F_value_b_35 := F_value_b_35_p
                    have F_coder_b_35 := F_coder_b_35_p
                    have V_nb_35 := V_nb_35_p
                    refine OGo.go (B := T35.setTop (mkF m 458 #[.val (.int p0), .val (.int p1), .val (.int p2), .val (.int p3), .val (.long q4), .second, .val (.long q5), .second, .val (.ref b1), .val (.int (p0 &&& (3 : Int32))), .val (.int (p1 &&& (7 : Int32))), .val (.ref b34), .unset, .unset, .unset] [(.ref b_35)])) ?_ st35
                    exact J458s T35 _ T35.heap b34 b_35 nb_35 kb_35 (11 : Int32) ys_35 (X35.mono (by decide) (by decide)) rfl N35 zn35 K35 hCH S_VAL E_uv V_uv F_wireName_m0 F_wireName_m1 E_w0 F_value_w0 F_coder_w0 V_v0 E_w1 F_value_w1 F_coder_w1 V_v1 S_SCRAM_SHA_1 S_PLAIN S_COMPACT_STRINGS Sf_b1 E_b1 V_b1 E_b_35 F_value_b_35 F_coder_b_35 V_nb_35 hr35_0
                ·
                  refine OGo.go (B := TJ328.setTop (mkF m 435 #[.val (.int p0), .val (.int p1), .val (.int p2), .val (.int p3), .val (.long q4), .second, .val (.long q5), .second, .val (.ref b1), .val (.int (p0 &&& (3 : Int32))), .val (.int (p1 &&& (7 : Int32))), .unset, .unset, .unset, .unset] [])) ?_ (fun tX kX => XS.icmpYes XJ328.here hx rfl (pc0 := 423) (pc' := 435) rfl (hb hby at_423) rfl (feq hc423).2 (by decide) (by decide) kX)
                  refine OGo.go (B := TJ328.setTop (mkF m 437 #[.val (.int p0), .val (.int p1), .val (.int p2), .val (.int p3), .val (.long q4), .second, .val (.long q5), .second, .val (.ref b1), .val (.int (p0 &&& (3 : Int32))), .val (.int (p1 &&& (7 : Int32))), .unset, .unset, .unset, .unset] [(.int (12 : Int32))])) ?_ (fun tX kX => XS.bipush XJ328.here hx rfl (hb hby at_435) kX)
                  obtain ⟨T36, h36, k36, X36, e36, E36, A36, EA36, st36⟩ := newPE XJ328 hx hZ (hw _ (List.mem_of_getElem? (i := 0) rfl)) eJ328 (g := (mkF m 437 #[.val (.int p0), .val (.int p1), .val (.int p2), .val (.int p3), .val (.long q4), .second, .val (.long q5), .second, .val (.ref b1), .val (.int (p0 &&& (3 : Int32))), .val (.int (p1 &&& (7 : Int32))), .unset, .unset, .unset, .unset] [(.int (12 : Int32))])) rfl (hb hby at_437) rfl (by decide) (cap := 12) (by decide) (by decide) (by decide) (by decide) (ad := "[C") (by decide)
                  obtain ⟨b36, g36⟩ : ∃ z, z = hJ328.size := ⟨_, rfl⟩
                  rw [← g36] at A36 EA36 st36
                  have ne_uv_b36 : uv ≠ b36 := Nat.ne_of_lt (Nat.lt_of_lt_of_le E_uv.lt (Nat.le_of_eq g36.symm))
                  have ne_m0_b36 : m0 ≠ b36 := Nat.ne_of_lt (Nat.lt_of_lt_of_le F_wireName_m0.lt (Nat.le_of_eq g36.symm))
                  have ne_m1_b36 : m1 ≠ b36 := Nat.ne_of_lt (Nat.lt_of_lt_of_le F_wireName_m1.lt (Nat.le_of_eq g36.symm))
                  have ne_w0_b36 : w0 ≠ b36 := Nat.ne_of_lt (Nat.lt_of_lt_of_le E_w0.lt (Nat.le_of_eq g36.symm))
                  have ne_v0_b36 : v0 ≠ b36 := Nat.ne_of_lt (Nat.lt_of_lt_of_le V_v0.lt (Nat.le_of_eq g36.symm))
                  have ne_w1_b36 : w1 ≠ b36 := Nat.ne_of_lt (Nat.lt_of_lt_of_le E_w1.lt (Nat.le_of_eq g36.symm))
                  have ne_v1_b36 : v1 ≠ b36 := Nat.ne_of_lt (Nat.lt_of_lt_of_le V_v1.lt (Nat.le_of_eq g36.symm))
                  have ne_b1_b36 : b1 ≠ b36 := Nat.ne_of_lt (Nat.lt_of_lt_of_le E_b1.lt (Nat.le_of_eq g36.symm))
                  have CHo36 := hCH
                  have Sf_b1 := Safe.ext E36 CHo36 Sf_b1
                  have hCH := CHv.ext E36 CHo36
                  have S_VAL := S_VAL.ext E36
                  have E_uv := E_uv.ext E36
                  have V_uv := V_uv.ext E36
                  have F_wireName_m0 := F_wireName_m0.ext E36
                  have F_wireName_m1 := F_wireName_m1.ext E36
                  have E_w0 := E_w0.ext E36
                  have F_value_w0 := F_value_w0.ext E36
                  have F_coder_w0 := F_coder_w0.ext E36
                  have V_v0 := V_v0.ext E36
                  have E_w1 := E_w1.ext E36
                  have F_value_w1 := F_value_w1.ext E36
                  have F_coder_w1 := F_coder_w1.ext E36
                  have V_v1 := V_v1.ext E36
                  have S_SCRAM_SHA_1 := S_SCRAM_SHA_1.ext E36
                  have S_PLAIN := S_PLAIN.ext E36
                  have S_COMPACT_STRINGS := S_COMPACT_STRINGS.ext E36
                  have E_b1 := E_b1.ext E36
                  have V_b1 := V_b1.ext E36
                  have Sf_b36 : Safe Z own_EL s.vm h36 b36 := Safe.ext E36 CHo36 (Safe.new (Nat.le_of_eq g36.symm))
                  have g_b36 : n0 ≤ b36 := Nat.le_trans znJ328 (Nat.le_of_eq g36.symm)
                  have sz_b36 : h0.size ≤ b36 := Nat.le_trans KJ328.1 (Nat.le_of_eq g36.symm)
                  have zn36 : n0 ≤ h36.size := Nat.le_trans znJ328 E36.1
                  have hk36 := Nat.le_trans (Nat.zero_le _) E36.1
                  have K36 := KJ328.ext E36
                  have E_b36 := EA36
                  have V_b36 : Arv Z h36 b36 k36 .char (12 : Int32) [(.int (0 : Int32)), (.int (0 : Int32)), (.int (0 : Int32)), (.int (0 : Int32)), (.int (0 : Int32)), (.int (0 : Int32)), (.int (0 : Int32)), (.int (0 : Int32)), (.int (0 : Int32)), (.int (0 : Int32)), (.int (0 : Int32)), (.int (0 : Int32))] (.int (0 : Int32)) := (Arv.new A36 (by decide)).pad (pad_rep [] (.int (0 : Int32)) 12)
                  refine OGo.go (B := T36.setTop (mkF m 439 #[.val (.int p0), .val (.int p1), .val (.int p2), .val (.int p3), .val (.long q4), .second, .val (.long q5), .second, .val (.ref b1), .val (.int (p0 &&& (3 : Int32))), .val (.int (p1 &&& (7 : Int32))), .unset, .unset, .unset, .unset] [(.ref b36)])) ?_ st36
                  refine OGo.go (B := T36.setTop (mkF m 441 #[.val (.int p0), .val (.int p1), .val (.int p2), .val (.int p3), .val (.long q4), .second, .val (.long q5), .second, .val (.ref b1), .val (.int (p0 &&& (3 : Int32))), .val (.int (p1 &&& (7 : Int32))), .val (.ref b36), .unset, .unset, .unset] [])) ?_ (fun tX kX => XS.astore X36.here hx rfl (hb hby at_439) rfl rfl (l' := #[.val (.int p0), .val (.int p1), .val (.int p2), .val (.int p3), .val (.long q4), .second, .val (.long q5), .second, .val (.ref b1), .val (.int (p0 &&& (3 : Int32))), .val (.int (p1 &&& (7 : Int32))), .val (.ref b36), .unset, .unset, .unset]) rfl kX)
                  refine OGo.go (B := T36.setTop (mkF m 443 #[.val (.int p0), .val (.int p1), .val (.int p2), .val (.int p3), .val (.long q4), .second, .val (.long q5), .second, .val (.ref b1), .val (.int (p0 &&& (3 : Int32))), .val (.int (p1 &&& (7 : Int32))), .val (.ref b36), .unset, .unset, .unset] [(.int (p0 &&& (3 : Int32)))])) ?_ (fun tX kX => XS.iload X36.here hx rfl (hb hby at_441) rfl kX)
                  refine OGo.go (B := T36.setTop (mkF m 444 #[.val (.int p0), .val (.int p1), .val (.int p2), .val (.int p3), .val (.long q4), .second, .val (.long q5), .second, .val (.ref b1), .val (.int (p0 &&& (3 : Int32))), .val (.int (p1 &&& (7 : Int32))), .val (.ref b36), .unset, .unset, .unset] [(.int (3 : Int32)), (.int (p0 &&& (3 : Int32)))])) ?_ (fun tX kX => XS.iconst X36.here hx rfl (hb hby at_443) kX)
                  by_cases hc444_7 : (p0 &&& (3 : Int32)) = (3 : Int32)
                  ·
                    refine OGo.go (B := T36.setTop (mkF m 447 #[.val (.int p0), .val (.int p1), .val (.int p2), .val (.int p3), .val (.long q4), .second, .val (.long q5), .second, .val (.ref b1), .val (.int (p0 &&& (3 : Int32))), .val (.int (p1 &&& (7 : Int32))), .val (.ref b36), .unset, .unset, .unset] [])) ?_ (fun tX kX => XS.icmpNo X36.here hx rfl (hb hby at_444) rfl (teq hc444_7).2 kX)
                    refine OGo.go (B := T36.setTop (mkF m 448 #[.val (.int p0), .val (.int p1), .val (.int p2), .val (.int p3), .val (.long q4), .second, .val (.long q5), .second, .val (.ref b1), .val (.int (p0 &&& (3 : Int32))), .val (.int (p1 &&& (7 : Int32))), .val (.ref b36), .unset, .unset, .unset] [.null])) ?_ (fun tX kX => XS.aconstNull X36.here hx rfl (hb hby at_447) kX)
                    refine OGo.go (B := T36.setTop (mkF m 458 #[.val (.int p0), .val (.int p1), .val (.int p2), .val (.int p3), .val (.long q4), .second, .val (.long q5), .second, .val (.ref b1), .val (.int (p0 &&& (3 : Int32))), .val (.int (p1 &&& (7 : Int32))), .val (.ref b36), .unset, .unset, .unset] [.null])) ?_ (fun tX kX => XS.goto X36.here hx rfl (pc0 := 448) (pc' := 458) rfl (hb hby at_448) (by decide) (by decide) kX)
                    exact J458n T36 _ h36 b36 X36 e36 NJ328 zn36 K36 hCH S_VAL E_uv V_uv F_wireName_m0 F_wireName_m1 E_w0 F_value_w0 F_coder_w0 V_v0 E_w1 F_value_w1 F_coder_w1 V_v1 S_SCRAM_SHA_1 S_PLAIN S_COMPACT_STRINGS Sf_b1 E_b1 V_b1
                  ·
                    refine OGo.go (B := T36.setTop (mkF m 451 #[.val (.int p0), .val (.int p1), .val (.int p2), .val (.int p3), .val (.long q4), .second, .val (.long q5), .second, .val (.ref b1), .val (.int (p0 &&& (3 : Int32))), .val (.int (p1 &&& (7 : Int32))), .val (.ref b36), .unset, .unset, .unset] [])) ?_ (fun tX kX => XS.icmpYes X36.here hx rfl (pc0 := 444) (pc' := 451) rfl (hb hby at_444) rfl (feq hc444_7).2 (by decide) (by decide) kX)
                    refine OGo.go (B := T36.setTop (mkF m 453 #[.val (.int p0), .val (.int p1), .val (.int p2), .val (.int p3), .val (.long q4), .second, .val (.long q5), .second, .val (.ref b1), .val (.int (p0 &&& (3 : Int32))), .val (.int (p1 &&& (7 : Int32))), .val (.ref b36), .unset, .unset, .unset] [(.ref b1)])) ?_ (fun tX kX => XS.aload X36.here hx rfl (hb hby at_451) rfl rfl kX)
                    refine OGo.go (B := T36.setTop (mkF m 455 #[.val (.int p0), .val (.int p1), .val (.int p2), .val (.int p3), .val (.long q4), .second, .val (.long q5), .second, .val (.ref b1), .val (.int (p0 &&& (3 : Int32))), .val (.int (p1 &&& (7 : Int32))), .val (.ref b36), .unset, .unset, .unset] [(.ref b36), (.ref b1)])) ?_ (fun tX kX => XS.aload X36.here hx rfl (hb hby at_453) rfl rfl kX)
                    obtain ⟨_, _, ⟨T37, L37, k37, n37⟩, -, X37, ⟨Lc37, hQ37, l37, y37, z37⟩, st37⟩ := Jvm.LawKit.callS X36 hx (y := (⟨"com/example/hushlist/hushlist/server/SaslMechanismNamedPinLaw", "prefix", "([C[C)Ljava/lang/String;"⟩ : MethodName)) hown (mvT hZ (hw _ (List.mem_of_getElem? (i := 2) rfl))) (mvT hZ (hw _ (List.mem_of_getElem? (i := 3) rfl))) (mvT hZ (hw _ (List.mem_of_getElem? (i := 4) rfl))) (mvT hZ (hw _ (List.mem_of_getElem? (i := 5) rfl))) (by decide) (backOf (W := 0) (rm1g l Z aV hw [] b1 b36 k1 k36 cs (12 : Int32) [(.int (0 : Int32)), (.int (0 : Int32)), (.int (0 : Int32)), (.int (0 : Int32)), (.int (0 : Int32)), (.int (0 : Int32)), (.int (0 : Int32)), (.int (0 : Int32)), (.int (0 : Int32)), (.int (0 : Int32)), (.int (0 : Int32)), (.int (0 : Int32))] ch0 ch1 ch2 ch3 ch4 ch5 ch6 ch7 ch8 ch9 ch10 ch11 h36 n0 zn36 V_b1 V_b36 S_COMPACT_STRINGS g_b36 ne_b1_b36 hcs (own_Bc (by decide) (own_Bc (by decide) (own_Bc (by decide) (own_Bc (by decide) (own_Bc (by decide) (own_Bc (by decide) (own_Bc (by decide) (own_Bc (by decide) (own_Bc (by decide) (own_Bc (by decide) (own_Bc (by decide) (own_Bc (by decide) own_Bn)))))))))))) rfl (by decide) (by decide) le0 le1 le2 le3 le4 le5 le6 le7 le8 le9 le10 le11) hZ (hw _ (List.mem_of_getElem? (i := 5) rfl)) (hw _ (List.mem_of_getElem? (i := 4) rfl)) (by decide) (by decide)) (g := (mkF m 455 #[.val (.int p0), .val (.int p1), .val (.int p2), .val (.int p3), .val (.long q4), .second, .val (.long q5), .second, .val (.ref b1), .val (.int (p0 &&& (3 : Int32))), .val (.int (p1 &&& (7 : Int32))), .val (.ref b36), .unset, .unset, .unset] [(.ref b36), (.ref b1)])) rfl (by rw [hml]; rfl) (argsL := [(.ref b1), (.ref b36)]) (rest := []) (lenOf pd___C_C_Ljava_lang_String_ rfl) rfl (by show 2 * 0 + _ ≤ _; exact Nat.le_of_eq rfl) (hb hby at_455) (fun _ _ => ⟨rfl, e36, (by decide : 2 + 2 ≤ _), (by decide : 24 + 16 ≤ _)⟩)
                    dsimp only [Pt.U, Pt.locs, Pt.cells, Pt.slots] at X37 l37 y37 z37 st37 hQ37
                    subst l37 y37 z37
                    obtain ⟨b_37, nb_37, kb_37, ys_37, rfl, N37q, Kq37, sz37_b, E_b_37_p, F_value_b_37_p, F_coder_b_37_p, V_nb_37_p, hr37_0⟩ := hQ37
                    have N37 := Fr.app NJ328 N37q
                    have ne_uv_b_37 : uv ≠ b_37 := Nat.ne_of_lt (Nat.lt_of_lt_of_le E_uv.lt sz37_b)
                    have ne_m0_b_37 : m0 ≠ b_37 := Nat.ne_of_lt (Nat.lt_of_lt_of_le F_wireName_m0.lt sz37_b)
                    have ne_m1_b_37 : m1 ≠ b_37 := Nat.ne_of_lt (Nat.lt_of_lt_of_le F_wireName_m1.lt sz37_b)
                    have ne_w0_b_37 : w0 ≠ b_37 := Nat.ne_of_lt (Nat.lt_of_lt_of_le E_w0.lt sz37_b)
                    have ne_v0_b_37 : v0 ≠ b_37 := Nat.ne_of_lt (Nat.lt_of_lt_of_le V_v0.lt sz37_b)
                    have ne_w1_b_37 : w1 ≠ b_37 := Nat.ne_of_lt (Nat.lt_of_lt_of_le E_w1.lt sz37_b)
                    have ne_v1_b_37 : v1 ≠ b_37 := Nat.ne_of_lt (Nat.lt_of_lt_of_le V_v1.lt sz37_b)
                    have ne_b1_b_37 : b1 ≠ b_37 := Nat.ne_of_lt (Nat.lt_of_lt_of_le E_b1.lt sz37_b)
                    have ne_b36_b_37 : b36 ≠ b_37 := Nat.ne_of_lt (Nat.lt_of_lt_of_le E_b36.lt sz37_b)
                    have sfs37 : ∀ x ∈ [b36], Safe Z own_EL s.vm h36 x := (sfS Sf_b36 sf0)
                    have CHo37 := hCH
                    have Sf_b1 := Safe.keep Kq37 sfs37 CHo37 Sf_b1
                    have Sf_b36 := Safe.keep Kq37 sfs37 CHo37 Sf_b36
                    have hCH := CHv.keep Kq37 sfs37 CHo37
                    have Sf_b_37 := Safe.keep Kq37 sfs37 CHo37 (Safe.new sz37_b)
                    have S_VAL := Sta.keepE S_VAL Kq37 (staS E_b36.cell (fun x hx' => nomatch hx'))
                    have S_SCRAM_SHA_1 := Sta.keepE S_SCRAM_SHA_1 Kq37 (staS E_b36.cell (fun x hx' => nomatch hx'))
                    have S_PLAIN := Sta.keepE S_PLAIN Kq37 (staS E_b36.cell (fun x hx' => nomatch hx'))
                    have S_COMPACT_STRINGS := Sta.keepE S_COMPACT_STRINGS Kq37 (staS E_b36.cell (fun x hx' => nomatch hx'))
                    have E_uv := E_uv.keep Kq37
                    have V_uv := V_uv.keep Kq37 (ninS ne_uv_b36 nin0)
                    have F_wireName_m0 := F_wireName_m0.keep Kq37 (ninS ne_m0_b36 nin0)
                    have F_wireName_m1 := F_wireName_m1.keep Kq37 (ninS ne_m1_b36 nin0)
                    have E_w0 := E_w0.keep Kq37
                    have F_value_w0 := F_value_w0.keep Kq37 (ninS ne_w0_b36 nin0)
                    have F_coder_w0 := F_coder_w0.keep Kq37 (ninS ne_w0_b36 nin0)
                    have V_v0 := V_v0.keep Kq37 (ninS ne_v0_b36 nin0)
                    have E_w1 := E_w1.keep Kq37
                    have F_value_w1 := F_value_w1.keep Kq37 (ninS ne_w1_b36 nin0)
                    have F_coder_w1 := F_coder_w1.keep Kq37 (ninS ne_w1_b36 nin0)
                    have V_v1 := V_v1.keep Kq37 (ninS ne_v1_b36 nin0)
                    have E_b1 := E_b1.keep Kq37
                    have V_b1 := V_b1.keep Kq37 (ninS ne_b1_b36 nin0)
                    have E_b36 := E_b36.keep Kq37
                    have g_b_37 : n0 ≤ b_37 := Nat.le_trans zn36 sz37_b
                    have sz_b_37 : h0.size ≤ b_37 := Nat.le_trans K36.1 sz37_b
                    have K37 := K36.trans Kq37 (allS (P := fun x => x ∈ ([] : List Addr) ∨ h0.size ≤ x) (Or.inr sz_b36) all0)
                    have zn37 : n0 ≤ T37.heap.size := Nat.le_trans zn36 Kq37.1
                    have hk37 := Nat.le_trans hk36 Kq37.1
                    have E_b_37 := E_b_37_p
                    have F_value_b_37 := F_value_b_37_p
                    have F_coder_b_37 := F_coder_b_37_p
                    have V_nb_37 := V_nb_37_p
                    refine OGo.go (B := T37.setTop (mkF m 458 #[.val (.int p0), .val (.int p1), .val (.int p2), .val (.int p3), .val (.long q4), .second, .val (.long q5), .second, .val (.ref b1), .val (.int (p0 &&& (3 : Int32))), .val (.int (p1 &&& (7 : Int32))), .val (.ref b36), .unset, .unset, .unset] [(.ref b_37)])) ?_ st37
                    exact J458s T37 _ T37.heap b36 b_37 nb_37 kb_37 (12 : Int32) ys_37 X37 rfl N37 zn37 K37 hCH S_VAL E_uv V_uv F_wireName_m0 F_wireName_m1 E_w0 F_value_w0 F_coder_w0 V_v0 E_w1 F_value_w1 F_coder_w1 V_v1 S_SCRAM_SHA_1 S_PLAIN S_COMPACT_STRINGS Sf_b1 E_b1 V_b1 E_b_37 F_value_b_37 F_coder_b_37 V_nb_37 hr37_0
  have J306 : ∀ (TJ306 : State) (LJ306 : List Loc) (hJ306 : Heap) (vs : List Value), (Stand p l e room_1 (s.setVm s.vm) m #[(.int p0), (.int p1), (.int p2), (.int p3), (.long q4), (.long q5)] below meth c TJ306 LJ306 1 12) → (TJ306.heap = hJ306) → (Fr n0 LJ306) → (n0 ≤ hJ306.size) → (Keep h0 hJ306 []) → (CHv Z own_EL s.vm hJ306) → (Sta Z hJ306 "com/example/hushlist/hushlist/server/SaslMechanism" "$VALUES" "[Lcom/example/hushlist/hushlist/server/SaslMechanism;" (.ref uv)) → (Exa Z hJ306 uv "[Lcom/example/hushlist/hushlist/server/SaslMechanism;") → (Arv Z hJ306 uv kv (.object "com/example/hushlist/hushlist/server/SaslMechanism") (2 : Int32) [(.ref m0), (.ref m1)] .null) → (Fld Z hJ306 m0 "com/example/hushlist/hushlist/server/SaslMechanism" "wireName" "Ljava/lang/String;" (.ref w0)) → (Fld Z hJ306 m1 "com/example/hushlist/hushlist/server/SaslMechanism" "wireName" "Ljava/lang/String;" (.ref w1)) → (Exa Z hJ306 w0 "java/lang/String") → (Fld Z hJ306 w0 "java/lang/String" "value" "[B" (.ref v0)) → (Fld Z hJ306 w0 "java/lang/String" "coder" "B" (.int (0 : Int32))) → (Arv Z hJ306 v0 kw0 .byte (11 : Int32) [(.int (83 : Int32)), (.int (67 : Int32)), (.int (82 : Int32)), (.int (65 : Int32)), (.int (77 : Int32)), (.int (45 : Int32)), (.int (83 : Int32)), (.int (72 : Int32)), (.int (65 : Int32)), (.int (45 : Int32)), (.int (49 : Int32))] (.int (0 : Int32))) → (Exa Z hJ306 w1 "java/lang/String") → (Fld Z hJ306 w1 "java/lang/String" "value" "[B" (.ref v1)) → (Fld Z hJ306 w1 "java/lang/String" "coder" "B" (.int (0 : Int32))) → (Arv Z hJ306 v1 kw1 .byte (5 : Int32) [(.int (80 : Int32)), (.int (76 : Int32)), (.int (65 : Int32)), (.int (73 : Int32)), (.int (78 : Int32))] (.int (0 : Int32))) → (Sta Z hJ306 "com/example/hushlist/hushlist/server/SaslMechanism" "SCRAM_SHA_1" "Lcom/example/hushlist/hushlist/server/SaslMechanism;" (.ref m0)) → (Sta Z hJ306 "com/example/hushlist/hushlist/server/SaslMechanism" "PLAIN" "Lcom/example/hushlist/hushlist/server/SaslMechanism;" (.ref m1)) → (Sta Z hJ306 "java/lang/String" "COMPACT_STRINGS" "Z" (.int cs)) → (Safe Z own_EL s.vm hJ306 b1) → (Exa Z hJ306 b1 "[C") → (Arv Z hJ306 b1 k1 .char (12 : Int32) vs (.int (0 : Int32))) → (own_OK vs) → OGo p.tables e below (P0 Z p0 p1 p2 p3 q4 q5 uv kv m0 m1 w0 w1 v0 v1 kw0 kw1 cs h0 n0 s) (TJ306.setTop (mkF m 306 #[.val (.int p0), .val (.int p1), .val (.int p2), .val (.int p3), .val (.long q4), .second, .val (.long q5), .second, .val (.ref b1), .val (.int (p0 &&& (3 : Int32))), .unset, .unset, .unset, .unset, .unset] [])) := by
    intro TJ306 LJ306 hJ306 vs XJ306 eJ306 NJ306 znJ306 KJ306 hCH S_VAL E_uv V_uv F_wireName_m0 F_wireName_m1 E_w0 F_value_w0 F_coder_w0 V_v0 E_w1 F_value_w1 F_coder_w1 V_v1 S_SCRAM_SHA_1 S_PLAIN S_COMPACT_STRINGS Sf_b1 E_b1 V_b1 hOK
    refine OGo.go (B := TJ306.setTop (mkF m 307 #[.val (.int p0), .val (.int p1), .val (.int p2), .val (.int p3), .val (.long q4), .second, .val (.long q5), .second, .val (.ref b1), .val (.int (p0 &&& (3 : Int32))), .unset, .unset, .unset, .unset, .unset] [(.int p0)])) ?_ (fun tX kX => XS.iloadN XJ306.here hx rfl (hb hby at_306) rfl kX)
    refine OGo.go (B := TJ306.setTop (mkF m 308 #[.val (.int p0), .val (.int p1), .val (.int p2), .val (.int p3), .val (.long q4), .second, .val (.long q5), .second, .val (.ref b1), .val (.int (p0 &&& (3 : Int32))), .unset, .unset, .unset, .unset, .unset] [(.int (4 : Int32)), (.int p0)])) ?_ (fun tX kX => XS.iconst XJ306.here hx rfl (hb hby at_307) kX)
    refine OGo.go (B := TJ306.setTop (mkF m 309 #[.val (.int p0), .val (.int p1), .val (.int p2), .val (.int p3), .val (.long q4), .second, .val (.long q5), .second, .val (.ref b1), .val (.int (p0 &&& (3 : Int32))), .unset, .unset, .unset, .unset, .unset] [(.int (p0 &&& (4 : Int32)))])) ?_ (fun tX kX => XS.iand XJ306.here hx rfl (hb hby at_308) rfl kX)
    by_cases hc309 : (p0 &&& (4 : Int32)) = (0 : Int32)
    ·
      refine OGo.go (B := TJ306.setTop (mkF m 328 #[.val (.int p0), .val (.int p1), .val (.int p2), .val (.int p3), .val (.long q4), .second, .val (.long q5), .second, .val (.ref b1), .val (.int (p0 &&& (3 : Int32))), .unset, .unset, .unset, .unset, .unset] [])) ?_ (fun tX kX => XS.ifYes XJ306.here hx rfl (pc0 := 309) (pc' := 328) rfl (hb hby at_309) rfl ((if0 _ _).trans (teq hc309).1) (by decide) (by decide) kX)
      exact J328 TJ306 _ hJ306 vs XJ306 eJ306 NJ306 znJ306 KJ306 hCH S_VAL E_uv V_uv F_wireName_m0 F_wireName_m1 E_w0 F_value_w0 F_coder_w0 V_v0 E_w1 F_value_w1 F_coder_w1 V_v1 S_SCRAM_SHA_1 S_PLAIN S_COMPACT_STRINGS Sf_b1 E_b1 V_b1 hOK
    ·
      refine OGo.go (B := TJ306.setTop (mkF m 312 #[.val (.int p0), .val (.int p1), .val (.int p2), .val (.int p3), .val (.long q4), .second, .val (.long q5), .second, .val (.ref b1), .val (.int (p0 &&& (3 : Int32))), .unset, .unset, .unset, .unset, .unset] [])) ?_ (fun tX kX => XS.ifNo XJ306.here hx rfl (hb hby at_309) rfl ((if0 _ _).trans (feq hc309).1) kX)
      refine OGo.go (B := TJ306.setTop (mkF m 314 #[.val (.int p0), .val (.int p1), .val (.int p2), .val (.int p3), .val (.long q4), .second, .val (.long q5), .second, .val (.ref b1), .val (.int (p0 &&& (3 : Int32))), .unset, .unset, .unset, .unset, .unset] [(.ref b1)])) ?_ (fun tX kX => XS.aload XJ306.here hx rfl (hb hby at_312) rfl rfl kX)
      refine OGo.go (B := TJ306.setTop (mkF m 315 #[.val (.int p0), .val (.int p1), .val (.int p2), .val (.int p3), .val (.long q4), .second, .val (.long q5), .second, .val (.ref b1), .val (.int (p0 &&& (3 : Int32))), .unset, .unset, .unset, .unset, .unset] [(.int p2), (.ref b1)])) ?_ (fun tX kX => XS.iloadN XJ306.here hx rfl (hb hby at_314) rfl kX)
      refine OGo.go (B := TJ306.setTop (mkF m 317 #[.val (.int p0), .val (.int p1), .val (.int p2), .val (.int p3), .val (.long q4), .second, .val (.long q5), .second, .val (.ref b1), .val (.int (p0 &&& (3 : Int32))), .unset, .unset, .unset, .unset, .unset] [(.int (2147483647 : Int32)), (.int p2), (.ref b1)])) ?_ (fun tX kX => XJ306.ldcInt hx hown (mvT hZ (hw _ (List.mem_of_getElem? (i := 77) rfl))) (g := (mkF m 315 #[.val (.int p0), .val (.int p1), .val (.int p2), .val (.int p3), .val (.long q4), .second, .val (.long q5), .second, .val (.ref b1), .val (.int (p0 &&& (3 : Int32))), .unset, .unset, .unset, .unset, .unset] [(.int p2), (.ref b1)])) rfl (hb hby at_315) _ kX)
      refine OGo.go (B := TJ306.setTop (mkF m 318 #[.val (.int p0), .val (.int p1), .val (.int p2), .val (.int p3), .val (.long q4), .second, .val (.long q5), .second, .val (.ref b1), .val (.int (p0 &&& (3 : Int32))), .unset, .unset, .unset, .unset, .unset] [(.int (p2 &&& (2147483647 : Int32))), (.ref b1)])) ?_ (fun tX kX => XS.iand XJ306.here hx rfl (hb hby at_317) rfl kX)
      refine OGo.go (B := TJ306.setTop (mkF m 320 #[.val (.int p0), .val (.int p1), .val (.int p2), .val (.int p3), .val (.long q4), .second, .val (.long q5), .second, .val (.ref b1), .val (.int (p0 &&& (3 : Int32))), .unset, .unset, .unset, .unset, .unset] [(.int (12 : Int32)), (.int (p2 &&& (2147483647 : Int32))), (.ref b1)])) ?_ (fun tX kX => XS.bipush XJ306.here hx rfl (hb hby at_318) kX)
      refine OGo.go (B := TJ306.setTop (mkF m 321 #[.val (.int p0), .val (.int p1), .val (.int p2), .val (.int p3), .val (.long q4), .second, .val (.long q5), .second, .val (.ref b1), .val (.int (p0 &&& (3 : Int32))), .unset, .unset, .unset, .unset, .unset] [(.int ((p2 &&& (2147483647 : Int32)) % (12 : Int32))), (.ref b1)])) ?_ (fun tX kX => iremM XJ306 hx rfl (hb hby at_320) rfl (by decide) kX)
      refine OGo.go (B := TJ306.setTop (mkF m 322 #[.val (.int p0), .val (.int p1), .val (.int p2), .val (.int p3), .val (.long q4), .second, .val (.long q5), .second, .val (.ref b1), .val (.int (p0 &&& (3 : Int32))), .unset, .unset, .unset, .unset, .unset] [(.int p3), (.int ((p2 &&& (2147483647 : Int32)) % (12 : Int32))), (.ref b1)])) ?_ (fun tX kX => XS.iloadN XJ306.here hx rfl (hb hby at_321) rfl kX)
      refine OGo.go (B := TJ306.setTop (mkF m 325 #[.val (.int p0), .val (.int p1), .val (.int p2), .val (.int p3), .val (.long q4), .second, .val (.long q5), .second, .val (.ref b1), .val (.int (p0 &&& (3 : Int32))), .unset, .unset, .unset, .unset, .unset] [(.int (255 : Int32)), (.int p3), (.int ((p2 &&& (2147483647 : Int32)) % (12 : Int32))), (.ref b1)])) ?_ (fun tX kX => XS.sipush XJ306.here hx rfl (hb hby at_322) kX)
      refine OGo.go (B := TJ306.setTop (mkF m 326 #[.val (.int p0), .val (.int p1), .val (.int p2), .val (.int p3), .val (.long q4), .second, .val (.long q5), .second, .val (.ref b1), .val (.int (p0 &&& (3 : Int32))), .unset, .unset, .unset, .unset, .unset] [(.int (p3 &&& (255 : Int32))), (.int ((p2 &&& (2147483647 : Int32)) % (12 : Int32))), (.ref b1)])) ?_ (fun tX kX => XS.iand XJ306.here hx rfl (hb hby at_325) rfl kX)
      refine OGo.go (B := TJ306.setTop (mkF m 327 #[.val (.int p0), .val (.int p1), .val (.int p2), .val (.int p3), .val (.long q4), .second, .val (.long q5), .second, .val (.ref b1), .val (.int (p0 &&& (3 : Int32))), .unset, .unset, .unset, .unset, .unset] [(.int ((p3 &&& (255 : Int32)).toUInt32.toUInt16.toUInt32.toInt32)), (.int ((p2 &&& (2147483647 : Int32)) % (12 : Int32))), (.ref b1)])) ?_ (fun tX kX => XS.i2c XJ306.here hx rfl (hb hby at_326) rfl kX)
      obtain ⟨cl38, Ar38, qa38, S38, N38', H38, G38⟩ := id V_b1
      have hin38 := inb_of (j := ((p2 &&& (2147483647 : Int32)) % (12 : Int32))) S38 (own_idx _).1
      obtain ⟨T38, h38, X38, e38, W38, st38⟩ := stC XJ306 hx hZ eJ306 Ar38 (j := ((p2 &&& (2147483647 : Int32)) % (12 : Int32))) hin38 (g := (mkF m 327 #[.val (.int p0), .val (.int p1), .val (.int p2), .val (.int p3), .val (.long q4), .second, .val (.long q5), .second, .val (.ref b1), .val (.int (p0 &&& (3 : Int32))), .unset, .unset, .unset, .unset, .unset] [(.int ((p3 &&& (255 : Int32)).toUInt32.toUInt16.toUInt32.toInt32)), (.int ((p2 &&& (2147483647 : Int32)) % (12 : Int32))), (.ref b1)])) rfl rfl (hb hby at_327)
      have V_b1_38 := Arv.set Ar38 qa38 S38 N38' H38 G38 (fits_nar_char _) W38 ((p2 &&& (2147483647 : Int32)) % (12 : Int32)).toNatClampNeg rfl (by rw [hOK.1]; exact (own_idx _).2)
      have Sfo38 := (Safe.arr (EL := own_EL) hZ.alike Ar38 (by decide))
      have CHo38 := hCH
      have Sf_b1 := Safe.wr W38 Sfo38 CHo38 Sf_b1
      have hCH := CHv.wr W38 Sfo38 CHo38
      have S_VAL := S_VAL.wr W38
      have E_uv := E_uv.wr W38
      have V_uv := V_uv.other W38 ne_uv_b1
      have F_wireName_m0 := F_wireName_m0.other W38 (Or.inl ne_m0_b1)
      have F_wireName_m1 := F_wireName_m1.other W38 (Or.inl ne_m1_b1)
      have E_w0 := E_w0.wr W38
      have F_value_w0 := F_value_w0.other W38 (Or.inl ne_w0_b1)
      have F_coder_w0 := F_coder_w0.other W38 (Or.inl ne_w0_b1)
      have V_v0 := V_v0.other W38 ne_v0_b1
      have E_w1 := E_w1.wr W38
      have F_value_w1 := F_value_w1.other W38 (Or.inl ne_w1_b1)
      have F_coder_w1 := F_coder_w1.other W38 (Or.inl ne_w1_b1)
      have V_v1 := V_v1.other W38 ne_v1_b1
      have S_SCRAM_SHA_1 := S_SCRAM_SHA_1.wr W38
      have S_PLAIN := S_PLAIN.wr W38
      have S_COMPACT_STRINGS := S_COMPACT_STRINGS.wr W38
      have E_b1 := E_b1.wr W38
      have K38 := KJ306.wr W38 (Or.inr sz_b1)
      have zn38 : n0 ≤ h38.size := Nat.le_trans znJ306 (Keep.of_wr W38).1
      have hk38 := Nat.le_trans (Nat.zero_le _) (Keep.of_wr W38).1
      have N38 := Fr.snoc X38 NJ306 g_b1
      have V_b1 : Arv Z h38 b1 k1 .char (12 : Int32) (vs.set ((p2 &&& (2147483647 : Int32)) % (12 : Int32)).toNatClampNeg (.int (((p3 &&& (255 : Int32)).toUInt32.toUInt16.toUInt32.toInt32).toUInt32.toUInt16.toUInt32.toInt32))) (.int (0 : Int32)) := V_b1_38
      refine OGo.go (B := T38.setTop (mkF m 328 #[.val (.int p0), .val (.int p1), .val (.int p2), .val (.int p3), .val (.long q4), .second, .val (.long q5), .second, .val (.ref b1), .val (.int (p0 &&& (3 : Int32))), .unset, .unset, .unset, .unset, .unset] [])) ?_ st38
      exact J328 T38 _ h38 (vs.set ((p2 &&& (2147483647 : Int32)) % (12 : Int32)).toNatClampNeg (.int (((p3 &&& (255 : Int32)).toUInt32.toUInt16.toUInt32.toInt32).toUInt32.toUInt16.toUInt32.toInt32))) X38 e38 N38 zn38 K38 hCH S_VAL E_uv V_uv F_wireName_m0 F_wireName_m1 E_w0 F_value_w0 F_coder_w0 V_v0 E_w1 F_value_w1 F_coder_w1 V_v1 S_SCRAM_SHA_1 S_PLAIN S_COMPACT_STRINGS Sf_b1 E_b1 V_b1 (own_okset hOK (own_idx _).2 (own_le _))
  refine OGo.go (B := T13.setTop (mkF m 193 #[.val (.int p0), .val (.int p1), .val (.int p2), .val (.int p3), .val (.long q4), .second, .val (.long q5), .second, .val (.ref b1), .val (.int (p0 &&& (3 : Int32))), .unset, .unset, .unset, .unset, .unset] [(.int (p0 &&& (3 : Int32)))])) ?_ (fun tX kX => XS.iload X13.here hx rfl (hb hby at_191) rfl kX)
  by_cases hc193 : (p0 &&& (3 : Int32)) = (0 : Int32)
  ·
    refine OGo.go (B := T13.setTop (mkF m 196 #[.val (.int p0), .val (.int p1), .val (.int p2), .val (.int p3), .val (.long q4), .second, .val (.long q5), .second, .val (.ref b1), .val (.int (p0 &&& (3 : Int32))), .unset, .unset, .unset, .unset, .unset] [])) ?_ (fun tX kX => XS.ifNo X13.here hx rfl (hb hby at_193) rfl ((if0 _ _).trans (teq hc193).2) kX)
    refine OGo.go (B := T13.setTop (mkF m 198 #[.val (.int p0), .val (.int p1), .val (.int p2), .val (.int p3), .val (.long q4), .second, .val (.long q5), .second, .val (.ref b1), .val (.int (p0 &&& (3 : Int32))), .unset, .unset, .unset, .unset, .unset] [(.ref b1)])) ?_ (fun tX kX => XS.aload X13.here hx rfl (hb hby at_196) rfl rfl kX)
    refine OGo.go (B := T13.setTop (mkF m 199 #[.val (.int p0), .val (.int p1), .val (.int p2), .val (.int p3), .val (.long q4), .second, .val (.long q5), .second, .val (.ref b1), .val (.int (p0 &&& (3 : Int32))), .unset, .unset, .unset, .unset, .unset] [(.int (0 : Int32)), (.ref b1)])) ?_ (fun tX kX => XS.iconst X13.here hx rfl (hb hby at_198) kX)
    refine OGo.go (B := T13.setTop (mkF m 201 #[.val (.int p0), .val (.int p1), .val (.int p2), .val (.int p3), .val (.long q4), .second, .val (.long q5), .second, .val (.ref b1), .val (.int (p0 &&& (3 : Int32))), .unset, .unset, .unset, .unset, .unset] [(.int (80 : Int32)), (.int (0 : Int32)), (.ref b1)])) ?_ (fun tX kX => XS.bipush X13.here hx rfl (hb hby at_199) kX)
    obtain ⟨cl39, Ar39, qa39, S39, N39', H39, G39⟩ := id V_b1
    have hin39 := inb_of (j := (0 : Int32)) S39 ⟨by decide, by decide⟩
    obtain ⟨T39, h39, X39, e39, W39, st39⟩ := stC X13 hx hZ e13 Ar39 (j := (0 : Int32)) hin39 (g := (mkF m 201 #[.val (.int p0), .val (.int p1), .val (.int p2), .val (.int p3), .val (.long q4), .second, .val (.long q5), .second, .val (.ref b1), .val (.int (p0 &&& (3 : Int32))), .unset, .unset, .unset, .unset, .unset] [(.int (80 : Int32)), (.int (0 : Int32)), (.ref b1)])) rfl rfl (hb hby at_201)
    have V_b1_39 := Arv.set Ar39 qa39 S39 N39' H39 G39 (fits_nar_char _) W39 0 rfl (Nat.le_of_ble_eq_true rfl)
    have Sfo39 := (Safe.arr (EL := own_EL) hZ.alike Ar39 (by decide))
    have CHo39 := hCH
    have Sf_b1 := Safe.wr W39 Sfo39 CHo39 Sf_b1
    have hCH := CHv.wr W39 Sfo39 CHo39
    have S_VAL := S_VAL.wr W39
    have E_uv := E_uv.wr W39
    have V_uv := V_uv.other W39 ne_uv_b1
    have F_wireName_m0 := F_wireName_m0.other W39 (Or.inl ne_m0_b1)
    have F_wireName_m1 := F_wireName_m1.other W39 (Or.inl ne_m1_b1)
    have E_w0 := E_w0.wr W39
    have F_value_w0 := F_value_w0.other W39 (Or.inl ne_w0_b1)
    have F_coder_w0 := F_coder_w0.other W39 (Or.inl ne_w0_b1)
    have V_v0 := V_v0.other W39 ne_v0_b1
    have E_w1 := E_w1.wr W39
    have F_value_w1 := F_value_w1.other W39 (Or.inl ne_w1_b1)
    have F_coder_w1 := F_coder_w1.other W39 (Or.inl ne_w1_b1)
    have V_v1 := V_v1.other W39 ne_v1_b1
    have S_SCRAM_SHA_1 := S_SCRAM_SHA_1.wr W39
    have S_PLAIN := S_PLAIN.wr W39
    have S_COMPACT_STRINGS := S_COMPACT_STRINGS.wr W39
    have E_b1 := E_b1.wr W39
    have K39 := K13.wr W39 (Or.inr sz_b1)
    have zn39 : n0 ≤ h39.size := Nat.le_trans zn13 (Keep.of_wr W39).1
    have hk39 := Nat.le_trans hk13 (Keep.of_wr W39).1
    have N39 := Fr.snoc X39 N13 g_b1
    have V_b1 : Arv Z h39 b1 k1 .char (12 : Int32) [(.int ((80 : Int32).toUInt32.toUInt16.toUInt32.toInt32)), (.int ((((((q4.toUInt64 >>> ((8 : Int32) &&& 0x3f).toInt64.toUInt64).toInt64) &&& (255 : Int64)).toInt32).toUInt32.toUInt16.toUInt32.toInt32).toUInt32.toUInt16.toUInt32.toInt32)), (.int ((((((q4.toUInt64 >>> ((16 : Int32) &&& 0x3f).toInt64.toUInt64).toInt64) &&& (255 : Int64)).toInt32).toUInt32.toUInt16.toUInt32.toInt32).toUInt32.toUInt16.toUInt32.toInt32)), (.int ((((((q4.toUInt64 >>> ((24 : Int32) &&& 0x3f).toInt64.toUInt64).toInt64) &&& (255 : Int64)).toInt32).toUInt32.toUInt16.toUInt32.toInt32).toUInt32.toUInt16.toUInt32.toInt32)), (.int ((((((q4.toUInt64 >>> ((32 : Int32) &&& 0x3f).toInt64.toUInt64).toInt64) &&& (255 : Int64)).toInt32).toUInt32.toUInt16.toUInt32.toInt32).toUInt32.toUInt16.toUInt32.toInt32)), (.int ((((((q4.toUInt64 >>> ((40 : Int32) &&& 0x3f).toInt64.toUInt64).toInt64) &&& (255 : Int64)).toInt32).toUInt32.toUInt16.toUInt32.toInt32).toUInt32.toUInt16.toUInt32.toInt32)), (.int ((((((q4.toUInt64 >>> ((48 : Int32) &&& 0x3f).toInt64.toUInt64).toInt64) &&& (255 : Int64)).toInt32).toUInt32.toUInt16.toUInt32.toInt32).toUInt32.toUInt16.toUInt32.toInt32)), (.int ((((((q4.toUInt64 >>> ((56 : Int32) &&& 0x3f).toInt64.toUInt64).toInt64) &&& (255 : Int64)).toInt32).toUInt32.toUInt16.toUInt32.toInt32).toUInt32.toUInt16.toUInt32.toInt32)), (.int ((((q5 &&& (255 : Int64)).toInt32).toUInt32.toUInt16.toUInt32.toInt32).toUInt32.toUInt16.toUInt32.toInt32)), (.int ((((((q5.toUInt64 >>> ((8 : Int32) &&& 0x3f).toInt64.toUInt64).toInt64) &&& (255 : Int64)).toInt32).toUInt32.toUInt16.toUInt32.toInt32).toUInt32.toUInt16.toUInt32.toInt32)), (.int ((((((q5.toUInt64 >>> ((16 : Int32) &&& 0x3f).toInt64.toUInt64).toInt64) &&& (255 : Int64)).toInt32).toUInt32.toUInt16.toUInt32.toInt32).toUInt32.toUInt16.toUInt32.toInt32)), (.int ((((((q5.toUInt64 >>> ((24 : Int32) &&& 0x3f).toInt64.toUInt64).toInt64) &&& (255 : Int64)).toInt32).toUInt32.toUInt16.toUInt32.toInt32).toUInt32.toUInt16.toUInt32.toInt32))] (.int (0 : Int32)) := V_b1_39
    refine OGo.go (B := T39.setTop (mkF m 202 #[.val (.int p0), .val (.int p1), .val (.int p2), .val (.int p3), .val (.long q4), .second, .val (.long q5), .second, .val (.ref b1), .val (.int (p0 &&& (3 : Int32))), .unset, .unset, .unset, .unset, .unset] [])) ?_ st39
    refine OGo.go (B := T39.setTop (mkF m 204 #[.val (.int p0), .val (.int p1), .val (.int p2), .val (.int p3), .val (.long q4), .second, .val (.long q5), .second, .val (.ref b1), .val (.int (p0 &&& (3 : Int32))), .unset, .unset, .unset, .unset, .unset] [(.ref b1)])) ?_ (fun tX kX => XS.aload X39.here hx rfl (hb hby at_202) rfl rfl kX)
    refine OGo.go (B := T39.setTop (mkF m 205 #[.val (.int p0), .val (.int p1), .val (.int p2), .val (.int p3), .val (.long q4), .second, .val (.long q5), .second, .val (.ref b1), .val (.int (p0 &&& (3 : Int32))), .unset, .unset, .unset, .unset, .unset] [(.int (1 : Int32)), (.ref b1)])) ?_ (fun tX kX => XS.iconst X39.here hx rfl (hb hby at_204) kX)
    refine OGo.go (B := T39.setTop (mkF m 207 #[.val (.int p0), .val (.int p1), .val (.int p2), .val (.int p3), .val (.long q4), .second, .val (.long q5), .second, .val (.ref b1), .val (.int (p0 &&& (3 : Int32))), .unset, .unset, .unset, .unset, .unset] [(.int (76 : Int32)), (.int (1 : Int32)), (.ref b1)])) ?_ (fun tX kX => XS.bipush X39.here hx rfl (hb hby at_205) kX)
    obtain ⟨cl40, Ar40, qa40, S40, N40', H40, G40⟩ := id V_b1
    have hin40 := inb_of (j := (1 : Int32)) S40 ⟨by decide, by decide⟩
    obtain ⟨T40, h40, X40, e40, W40, st40⟩ := stC X39 hx hZ e39 Ar40 (j := (1 : Int32)) hin40 (g := (mkF m 207 #[.val (.int p0), .val (.int p1), .val (.int p2), .val (.int p3), .val (.long q4), .second, .val (.long q5), .second, .val (.ref b1), .val (.int (p0 &&& (3 : Int32))), .unset, .unset, .unset, .unset, .unset] [(.int (76 : Int32)), (.int (1 : Int32)), (.ref b1)])) rfl rfl (hb hby at_207)
    have V_b1_40 := Arv.set Ar40 qa40 S40 N40' H40 G40 (fits_nar_char _) W40 1 rfl (Nat.le_of_ble_eq_true rfl)
    have Sfo40 := (Safe.arr (EL := own_EL) hZ.alike Ar40 (by decide))
    have CHo40 := hCH
    have Sf_b1 := Safe.wr W40 Sfo40 CHo40 Sf_b1
    have hCH := CHv.wr W40 Sfo40 CHo40
    have S_VAL := S_VAL.wr W40
    have E_uv := E_uv.wr W40
    have V_uv := V_uv.other W40 ne_uv_b1
    have F_wireName_m0 := F_wireName_m0.other W40 (Or.inl ne_m0_b1)
    have F_wireName_m1 := F_wireName_m1.other W40 (Or.inl ne_m1_b1)
    have E_w0 := E_w0.wr W40
    have F_value_w0 := F_value_w0.other W40 (Or.inl ne_w0_b1)
    have F_coder_w0 := F_coder_w0.other W40 (Or.inl ne_w0_b1)
    have V_v0 := V_v0.other W40 ne_v0_b1
    have E_w1 := E_w1.wr W40
    have F_value_w1 := F_value_w1.other W40 (Or.inl ne_w1_b1)
    have F_coder_w1 := F_coder_w1.other W40 (Or.inl ne_w1_b1)
    have V_v1 := V_v1.other W40 ne_v1_b1
    have S_SCRAM_SHA_1 := S_SCRAM_SHA_1.wr W40
    have S_PLAIN := S_PLAIN.wr W40
    have S_COMPACT_STRINGS := S_COMPACT_STRINGS.wr W40
    have E_b1 := E_b1.wr W40
    have K40 := K39.wr W40 (Or.inr sz_b1)
    have zn40 : n0 ≤ h40.size := Nat.le_trans zn39 (Keep.of_wr W40).1
    have hk40 := Nat.le_trans hk39 (Keep.of_wr W40).1
    have N40 := Fr.snoc X40 N39 g_b1
    have V_b1 : Arv Z h40 b1 k1 .char (12 : Int32) [(.int ((80 : Int32).toUInt32.toUInt16.toUInt32.toInt32)), (.int ((76 : Int32).toUInt32.toUInt16.toUInt32.toInt32)), (.int ((((((q4.toUInt64 >>> ((16 : Int32) &&& 0x3f).toInt64.toUInt64).toInt64) &&& (255 : Int64)).toInt32).toUInt32.toUInt16.toUInt32.toInt32).toUInt32.toUInt16.toUInt32.toInt32)), (.int ((((((q4.toUInt64 >>> ((24 : Int32) &&& 0x3f).toInt64.toUInt64).toInt64) &&& (255 : Int64)).toInt32).toUInt32.toUInt16.toUInt32.toInt32).toUInt32.toUInt16.toUInt32.toInt32)), (.int ((((((q4.toUInt64 >>> ((32 : Int32) &&& 0x3f).toInt64.toUInt64).toInt64) &&& (255 : Int64)).toInt32).toUInt32.toUInt16.toUInt32.toInt32).toUInt32.toUInt16.toUInt32.toInt32)), (.int ((((((q4.toUInt64 >>> ((40 : Int32) &&& 0x3f).toInt64.toUInt64).toInt64) &&& (255 : Int64)).toInt32).toUInt32.toUInt16.toUInt32.toInt32).toUInt32.toUInt16.toUInt32.toInt32)), (.int ((((((q4.toUInt64 >>> ((48 : Int32) &&& 0x3f).toInt64.toUInt64).toInt64) &&& (255 : Int64)).toInt32).toUInt32.toUInt16.toUInt32.toInt32).toUInt32.toUInt16.toUInt32.toInt32)), (.int ((((((q4.toUInt64 >>> ((56 : Int32) &&& 0x3f).toInt64.toUInt64).toInt64) &&& (255 : Int64)).toInt32).toUInt32.toUInt16.toUInt32.toInt32).toUInt32.toUInt16.toUInt32.toInt32)), (.int ((((q5 &&& (255 : Int64)).toInt32).toUInt32.toUInt16.toUInt32.toInt32).toUInt32.toUInt16.toUInt32.toInt32)), (.int ((((((q5.toUInt64 >>> ((8 : Int32) &&& 0x3f).toInt64.toUInt64).toInt64) &&& (255 : Int64)).toInt32).toUInt32.toUInt16.toUInt32.toInt32).toUInt32.toUInt16.toUInt32.toInt32)), (.int ((((((q5.toUInt64 >>> ((16 : Int32) &&& 0x3f).toInt64.toUInt64).toInt64) &&& (255 : Int64)).toInt32).toUInt32.toUInt16.toUInt32.toInt32).toUInt32.toUInt16.toUInt32.toInt32)), (.int ((((((q5.toUInt64 >>> ((24 : Int32) &&& 0x3f).toInt64.toUInt64).toInt64) &&& (255 : Int64)).toInt32).toUInt32.toUInt16.toUInt32.toInt32).toUInt32.toUInt16.toUInt32.toInt32))] (.int (0 : Int32)) := V_b1_40
    refine OGo.go (B := T40.setTop (mkF m 208 #[.val (.int p0), .val (.int p1), .val (.int p2), .val (.int p3), .val (.long q4), .second, .val (.long q5), .second, .val (.ref b1), .val (.int (p0 &&& (3 : Int32))), .unset, .unset, .unset, .unset, .unset] [])) ?_ st40
    refine OGo.go (B := T40.setTop (mkF m 210 #[.val (.int p0), .val (.int p1), .val (.int p2), .val (.int p3), .val (.long q4), .second, .val (.long q5), .second, .val (.ref b1), .val (.int (p0 &&& (3 : Int32))), .unset, .unset, .unset, .unset, .unset] [(.ref b1)])) ?_ (fun tX kX => XS.aload X40.here hx rfl (hb hby at_208) rfl rfl kX)
    refine OGo.go (B := T40.setTop (mkF m 211 #[.val (.int p0), .val (.int p1), .val (.int p2), .val (.int p3), .val (.long q4), .second, .val (.long q5), .second, .val (.ref b1), .val (.int (p0 &&& (3 : Int32))), .unset, .unset, .unset, .unset, .unset] [(.int (2 : Int32)), (.ref b1)])) ?_ (fun tX kX => XS.iconst X40.here hx rfl (hb hby at_210) kX)
    refine OGo.go (B := T40.setTop (mkF m 213 #[.val (.int p0), .val (.int p1), .val (.int p2), .val (.int p3), .val (.long q4), .second, .val (.long q5), .second, .val (.ref b1), .val (.int (p0 &&& (3 : Int32))), .unset, .unset, .unset, .unset, .unset] [(.int (65 : Int32)), (.int (2 : Int32)), (.ref b1)])) ?_ (fun tX kX => XS.bipush X40.here hx rfl (hb hby at_211) kX)
    obtain ⟨cl41, Ar41, qa41, S41, N41', H41, G41⟩ := id V_b1
    have hin41 := inb_of (j := (2 : Int32)) S41 ⟨by decide, by decide⟩
    obtain ⟨T41, h41, X41, e41, W41, st41⟩ := stC X40 hx hZ e40 Ar41 (j := (2 : Int32)) hin41 (g := (mkF m 213 #[.val (.int p0), .val (.int p1), .val (.int p2), .val (.int p3), .val (.long q4), .second, .val (.long q5), .second, .val (.ref b1), .val (.int (p0 &&& (3 : Int32))), .unset, .unset, .unset, .unset, .unset] [(.int (65 : Int32)), (.int (2 : Int32)), (.ref b1)])) rfl rfl (hb hby at_213)
    have V_b1_41 := Arv.set Ar41 qa41 S41 N41' H41 G41 (fits_nar_char _) W41 2 rfl (Nat.le_of_ble_eq_true rfl)
    have Sfo41 := (Safe.arr (EL := own_EL) hZ.alike Ar41 (by decide))
    have CHo41 := hCH
    have Sf_b1 := Safe.wr W41 Sfo41 CHo41 Sf_b1
    have hCH := CHv.wr W41 Sfo41 CHo41
    have S_VAL := S_VAL.wr W41
    have E_uv := E_uv.wr W41
    have V_uv := V_uv.other W41 ne_uv_b1
    have F_wireName_m0 := F_wireName_m0.other W41 (Or.inl ne_m0_b1)
    have F_wireName_m1 := F_wireName_m1.other W41 (Or.inl ne_m1_b1)
    have E_w0 := E_w0.wr W41
    have F_value_w0 := F_value_w0.other W41 (Or.inl ne_w0_b1)
    have F_coder_w0 := F_coder_w0.other W41 (Or.inl ne_w0_b1)
    have V_v0 := V_v0.other W41 ne_v0_b1
    have E_w1 := E_w1.wr W41
    have F_value_w1 := F_value_w1.other W41 (Or.inl ne_w1_b1)
    have F_coder_w1 := F_coder_w1.other W41 (Or.inl ne_w1_b1)
    have V_v1 := V_v1.other W41 ne_v1_b1
    have S_SCRAM_SHA_1 := S_SCRAM_SHA_1.wr W41
    have S_PLAIN := S_PLAIN.wr W41
    have S_COMPACT_STRINGS := S_COMPACT_STRINGS.wr W41
    have E_b1 := E_b1.wr W41
    have K41 := K40.wr W41 (Or.inr sz_b1)
    have zn41 : n0 ≤ h41.size := Nat.le_trans zn40 (Keep.of_wr W41).1
    have hk41 := Nat.le_trans hk40 (Keep.of_wr W41).1
    have N41 := Fr.snoc X41 N40 g_b1
    have V_b1 : Arv Z h41 b1 k1 .char (12 : Int32) [(.int ((80 : Int32).toUInt32.toUInt16.toUInt32.toInt32)), (.int ((76 : Int32).toUInt32.toUInt16.toUInt32.toInt32)), (.int ((65 : Int32).toUInt32.toUInt16.toUInt32.toInt32)), (.int ((((((q4.toUInt64 >>> ((24 : Int32) &&& 0x3f).toInt64.toUInt64).toInt64) &&& (255 : Int64)).toInt32).toUInt32.toUInt16.toUInt32.toInt32).toUInt32.toUInt16.toUInt32.toInt32)), (.int ((((((q4.toUInt64 >>> ((32 : Int32) &&& 0x3f).toInt64.toUInt64).toInt64) &&& (255 : Int64)).toInt32).toUInt32.toUInt16.toUInt32.toInt32).toUInt32.toUInt16.toUInt32.toInt32)), (.int ((((((q4.toUInt64 >>> ((40 : Int32) &&& 0x3f).toInt64.toUInt64).toInt64) &&& (255 : Int64)).toInt32).toUInt32.toUInt16.toUInt32.toInt32).toUInt32.toUInt16.toUInt32.toInt32)), (.int ((((((q4.toUInt64 >>> ((48 : Int32) &&& 0x3f).toInt64.toUInt64).toInt64) &&& (255 : Int64)).toInt32).toUInt32.toUInt16.toUInt32.toInt32).toUInt32.toUInt16.toUInt32.toInt32)), (.int ((((((q4.toUInt64 >>> ((56 : Int32) &&& 0x3f).toInt64.toUInt64).toInt64) &&& (255 : Int64)).toInt32).toUInt32.toUInt16.toUInt32.toInt32).toUInt32.toUInt16.toUInt32.toInt32)), (.int ((((q5 &&& (255 : Int64)).toInt32).toUInt32.toUInt16.toUInt32.toInt32).toUInt32.toUInt16.toUInt32.toInt32)), (.int ((((((q5.toUInt64 >>> ((8 : Int32) &&& 0x3f).toInt64.toUInt64).toInt64) &&& (255 : Int64)).toInt32).toUInt32.toUInt16.toUInt32.toInt32).toUInt32.toUInt16.toUInt32.toInt32)), (.int ((((((q5.toUInt64 >>> ((16 : Int32) &&& 0x3f).toInt64.toUInt64).toInt64) &&& (255 : Int64)).toInt32).toUInt32.toUInt16.toUInt32.toInt32).toUInt32.toUInt16.toUInt32.toInt32)), (.int ((((((q5.toUInt64 >>> ((24 : Int32) &&& 0x3f).toInt64.toUInt64).toInt64) &&& (255 : Int64)).toInt32).toUInt32.toUInt16.toUInt32.toInt32).toUInt32.toUInt16.toUInt32.toInt32))] (.int (0 : Int32)) := V_b1_41
    refine OGo.go (B := T41.setTop (mkF m 214 #[.val (.int p0), .val (.int p1), .val (.int p2), .val (.int p3), .val (.long q4), .second, .val (.long q5), .second, .val (.ref b1), .val (.int (p0 &&& (3 : Int32))), .unset, .unset, .unset, .unset, .unset] [])) ?_ st41
    refine OGo.go (B := T41.setTop (mkF m 216 #[.val (.int p0), .val (.int p1), .val (.int p2), .val (.int p3), .val (.long q4), .second, .val (.long q5), .second, .val (.ref b1), .val (.int (p0 &&& (3 : Int32))), .unset, .unset, .unset, .unset, .unset] [(.ref b1)])) ?_ (fun tX kX => XS.aload X41.here hx rfl (hb hby at_214) rfl rfl kX)
    refine OGo.go (B := T41.setTop (mkF m 217 #[.val (.int p0), .val (.int p1), .val (.int p2), .val (.int p3), .val (.long q4), .second, .val (.long q5), .second, .val (.ref b1), .val (.int (p0 &&& (3 : Int32))), .unset, .unset, .unset, .unset, .unset] [(.int (3 : Int32)), (.ref b1)])) ?_ (fun tX kX => XS.iconst X41.here hx rfl (hb hby at_216) kX)
    refine OGo.go (B := T41.setTop (mkF m 219 #[.val (.int p0), .val (.int p1), .val (.int p2), .val (.int p3), .val (.long q4), .second, .val (.long q5), .second, .val (.ref b1), .val (.int (p0 &&& (3 : Int32))), .unset, .unset, .unset, .unset, .unset] [(.int (73 : Int32)), (.int (3 : Int32)), (.ref b1)])) ?_ (fun tX kX => XS.bipush X41.here hx rfl (hb hby at_217) kX)
    obtain ⟨cl42, Ar42, qa42, S42, N42', H42, G42⟩ := id V_b1
    have hin42 := inb_of (j := (3 : Int32)) S42 ⟨by decide, by decide⟩
    obtain ⟨T42, h42, X42, e42, W42, st42⟩ := stC X41 hx hZ e41 Ar42 (j := (3 : Int32)) hin42 (g := (mkF m 219 #[.val (.int p0), .val (.int p1), .val (.int p2), .val (.int p3), .val (.long q4), .second, .val (.long q5), .second, .val (.ref b1), .val (.int (p0 &&& (3 : Int32))), .unset, .unset, .unset, .unset, .unset] [(.int (73 : Int32)), (.int (3 : Int32)), (.ref b1)])) rfl rfl (hb hby at_219)
    have V_b1_42 := Arv.set Ar42 qa42 S42 N42' H42 G42 (fits_nar_char _) W42 3 rfl (Nat.le_of_ble_eq_true rfl)
    have Sfo42 := (Safe.arr (EL := own_EL) hZ.alike Ar42 (by decide))
    have CHo42 := hCH
    have Sf_b1 := Safe.wr W42 Sfo42 CHo42 Sf_b1
    have hCH := CHv.wr W42 Sfo42 CHo42
    have S_VAL := S_VAL.wr W42
    have E_uv := E_uv.wr W42
    have V_uv := V_uv.other W42 ne_uv_b1
    have F_wireName_m0 := F_wireName_m0.other W42 (Or.inl ne_m0_b1)
    have F_wireName_m1 := F_wireName_m1.other W42 (Or.inl ne_m1_b1)
    have E_w0 := E_w0.wr W42
    have F_value_w0 := F_value_w0.other W42 (Or.inl ne_w0_b1)
    have F_coder_w0 := F_coder_w0.other W42 (Or.inl ne_w0_b1)
    have V_v0 := V_v0.other W42 ne_v0_b1
    have E_w1 := E_w1.wr W42
    have F_value_w1 := F_value_w1.other W42 (Or.inl ne_w1_b1)
    have F_coder_w1 := F_coder_w1.other W42 (Or.inl ne_w1_b1)
    have V_v1 := V_v1.other W42 ne_v1_b1
    have S_SCRAM_SHA_1 := S_SCRAM_SHA_1.wr W42
    have S_PLAIN := S_PLAIN.wr W42
    have S_COMPACT_STRINGS := S_COMPACT_STRINGS.wr W42
    have E_b1 := E_b1.wr W42
    have K42 := K41.wr W42 (Or.inr sz_b1)
    have zn42 : n0 ≤ h42.size := Nat.le_trans zn41 (Keep.of_wr W42).1
    have hk42 := Nat.le_trans hk41 (Keep.of_wr W42).1
    have N42 := Fr.snoc X42 N41 g_b1
    have V_b1 : Arv Z h42 b1 k1 .char (12 : Int32) [(.int ((80 : Int32).toUInt32.toUInt16.toUInt32.toInt32)), (.int ((76 : Int32).toUInt32.toUInt16.toUInt32.toInt32)), (.int ((65 : Int32).toUInt32.toUInt16.toUInt32.toInt32)), (.int ((73 : Int32).toUInt32.toUInt16.toUInt32.toInt32)), (.int ((((((q4.toUInt64 >>> ((32 : Int32) &&& 0x3f).toInt64.toUInt64).toInt64) &&& (255 : Int64)).toInt32).toUInt32.toUInt16.toUInt32.toInt32).toUInt32.toUInt16.toUInt32.toInt32)), (.int ((((((q4.toUInt64 >>> ((40 : Int32) &&& 0x3f).toInt64.toUInt64).toInt64) &&& (255 : Int64)).toInt32).toUInt32.toUInt16.toUInt32.toInt32).toUInt32.toUInt16.toUInt32.toInt32)), (.int ((((((q4.toUInt64 >>> ((48 : Int32) &&& 0x3f).toInt64.toUInt64).toInt64) &&& (255 : Int64)).toInt32).toUInt32.toUInt16.toUInt32.toInt32).toUInt32.toUInt16.toUInt32.toInt32)), (.int ((((((q4.toUInt64 >>> ((56 : Int32) &&& 0x3f).toInt64.toUInt64).toInt64) &&& (255 : Int64)).toInt32).toUInt32.toUInt16.toUInt32.toInt32).toUInt32.toUInt16.toUInt32.toInt32)), (.int ((((q5 &&& (255 : Int64)).toInt32).toUInt32.toUInt16.toUInt32.toInt32).toUInt32.toUInt16.toUInt32.toInt32)), (.int ((((((q5.toUInt64 >>> ((8 : Int32) &&& 0x3f).toInt64.toUInt64).toInt64) &&& (255 : Int64)).toInt32).toUInt32.toUInt16.toUInt32.toInt32).toUInt32.toUInt16.toUInt32.toInt32)), (.int ((((((q5.toUInt64 >>> ((16 : Int32) &&& 0x3f).toInt64.toUInt64).toInt64) &&& (255 : Int64)).toInt32).toUInt32.toUInt16.toUInt32.toInt32).toUInt32.toUInt16.toUInt32.toInt32)), (.int ((((((q5.toUInt64 >>> ((24 : Int32) &&& 0x3f).toInt64.toUInt64).toInt64) &&& (255 : Int64)).toInt32).toUInt32.toUInt16.toUInt32.toInt32).toUInt32.toUInt16.toUInt32.toInt32))] (.int (0 : Int32)) := V_b1_42
    refine OGo.go (B := T42.setTop (mkF m 220 #[.val (.int p0), .val (.int p1), .val (.int p2), .val (.int p3), .val (.long q4), .second, .val (.long q5), .second, .val (.ref b1), .val (.int (p0 &&& (3 : Int32))), .unset, .unset, .unset, .unset, .unset] [])) ?_ st42
    refine OGo.go (B := T42.setTop (mkF m 222 #[.val (.int p0), .val (.int p1), .val (.int p2), .val (.int p3), .val (.long q4), .second, .val (.long q5), .second, .val (.ref b1), .val (.int (p0 &&& (3 : Int32))), .unset, .unset, .unset, .unset, .unset] [(.ref b1)])) ?_ (fun tX kX => XS.aload X42.here hx rfl (hb hby at_220) rfl rfl kX)
    refine OGo.go (B := T42.setTop (mkF m 223 #[.val (.int p0), .val (.int p1), .val (.int p2), .val (.int p3), .val (.long q4), .second, .val (.long q5), .second, .val (.ref b1), .val (.int (p0 &&& (3 : Int32))), .unset, .unset, .unset, .unset, .unset] [(.int (4 : Int32)), (.ref b1)])) ?_ (fun tX kX => XS.iconst X42.here hx rfl (hb hby at_222) kX)
    refine OGo.go (B := T42.setTop (mkF m 225 #[.val (.int p0), .val (.int p1), .val (.int p2), .val (.int p3), .val (.long q4), .second, .val (.long q5), .second, .val (.ref b1), .val (.int (p0 &&& (3 : Int32))), .unset, .unset, .unset, .unset, .unset] [(.int (78 : Int32)), (.int (4 : Int32)), (.ref b1)])) ?_ (fun tX kX => XS.bipush X42.here hx rfl (hb hby at_223) kX)
    obtain ⟨cl43, Ar43, qa43, S43, N43', H43, G43⟩ := id V_b1
    have hin43 := inb_of (j := (4 : Int32)) S43 ⟨by decide, by decide⟩
    obtain ⟨T43, h43, X43, e43, W43, st43⟩ := stC X42 hx hZ e42 Ar43 (j := (4 : Int32)) hin43 (g := (mkF m 225 #[.val (.int p0), .val (.int p1), .val (.int p2), .val (.int p3), .val (.long q4), .second, .val (.long q5), .second, .val (.ref b1), .val (.int (p0 &&& (3 : Int32))), .unset, .unset, .unset, .unset, .unset] [(.int (78 : Int32)), (.int (4 : Int32)), (.ref b1)])) rfl rfl (hb hby at_225)
    have V_b1_43 := Arv.set Ar43 qa43 S43 N43' H43 G43 (fits_nar_char _) W43 4 rfl (Nat.le_of_ble_eq_true rfl)
    have Sfo43 := (Safe.arr (EL := own_EL) hZ.alike Ar43 (by decide))
    have CHo43 := hCH
    have Sf_b1 := Safe.wr W43 Sfo43 CHo43 Sf_b1
    have hCH := CHv.wr W43 Sfo43 CHo43
    have S_VAL := S_VAL.wr W43
    have E_uv := E_uv.wr W43
    have V_uv := V_uv.other W43 ne_uv_b1
    have F_wireName_m0 := F_wireName_m0.other W43 (Or.inl ne_m0_b1)
    have F_wireName_m1 := F_wireName_m1.other W43 (Or.inl ne_m1_b1)
    have E_w0 := E_w0.wr W43
    have F_value_w0 := F_value_w0.other W43 (Or.inl ne_w0_b1)
    have F_coder_w0 := F_coder_w0.other W43 (Or.inl ne_w0_b1)
    have V_v0 := V_v0.other W43 ne_v0_b1
    have E_w1 := E_w1.wr W43
    have F_value_w1 := F_value_w1.other W43 (Or.inl ne_w1_b1)
    have F_coder_w1 := F_coder_w1.other W43 (Or.inl ne_w1_b1)
    have V_v1 := V_v1.other W43 ne_v1_b1
    have S_SCRAM_SHA_1 := S_SCRAM_SHA_1.wr W43
    have S_PLAIN := S_PLAIN.wr W43
    have S_COMPACT_STRINGS := S_COMPACT_STRINGS.wr W43
    have E_b1 := E_b1.wr W43
    have K43 := K42.wr W43 (Or.inr sz_b1)
    have zn43 : n0 ≤ h43.size := Nat.le_trans zn42 (Keep.of_wr W43).1
    have hk43 := Nat.le_trans hk42 (Keep.of_wr W43).1
    have N43 := Fr.snoc X43 N42 g_b1
    have V_b1 : Arv Z h43 b1 k1 .char (12 : Int32) [(.int ((80 : Int32).toUInt32.toUInt16.toUInt32.toInt32)), (.int ((76 : Int32).toUInt32.toUInt16.toUInt32.toInt32)), (.int ((65 : Int32).toUInt32.toUInt16.toUInt32.toInt32)), (.int ((73 : Int32).toUInt32.toUInt16.toUInt32.toInt32)), (.int ((78 : Int32).toUInt32.toUInt16.toUInt32.toInt32)), (.int ((((((q4.toUInt64 >>> ((40 : Int32) &&& 0x3f).toInt64.toUInt64).toInt64) &&& (255 : Int64)).toInt32).toUInt32.toUInt16.toUInt32.toInt32).toUInt32.toUInt16.toUInt32.toInt32)), (.int ((((((q4.toUInt64 >>> ((48 : Int32) &&& 0x3f).toInt64.toUInt64).toInt64) &&& (255 : Int64)).toInt32).toUInt32.toUInt16.toUInt32.toInt32).toUInt32.toUInt16.toUInt32.toInt32)), (.int ((((((q4.toUInt64 >>> ((56 : Int32) &&& 0x3f).toInt64.toUInt64).toInt64) &&& (255 : Int64)).toInt32).toUInt32.toUInt16.toUInt32.toInt32).toUInt32.toUInt16.toUInt32.toInt32)), (.int ((((q5 &&& (255 : Int64)).toInt32).toUInt32.toUInt16.toUInt32.toInt32).toUInt32.toUInt16.toUInt32.toInt32)), (.int ((((((q5.toUInt64 >>> ((8 : Int32) &&& 0x3f).toInt64.toUInt64).toInt64) &&& (255 : Int64)).toInt32).toUInt32.toUInt16.toUInt32.toInt32).toUInt32.toUInt16.toUInt32.toInt32)), (.int ((((((q5.toUInt64 >>> ((16 : Int32) &&& 0x3f).toInt64.toUInt64).toInt64) &&& (255 : Int64)).toInt32).toUInt32.toUInt16.toUInt32.toInt32).toUInt32.toUInt16.toUInt32.toInt32)), (.int ((((((q5.toUInt64 >>> ((24 : Int32) &&& 0x3f).toInt64.toUInt64).toInt64) &&& (255 : Int64)).toInt32).toUInt32.toUInt16.toUInt32.toInt32).toUInt32.toUInt16.toUInt32.toInt32))] (.int (0 : Int32)) := V_b1_43
    refine OGo.go (B := T43.setTop (mkF m 226 #[.val (.int p0), .val (.int p1), .val (.int p2), .val (.int p3), .val (.long q4), .second, .val (.long q5), .second, .val (.ref b1), .val (.int (p0 &&& (3 : Int32))), .unset, .unset, .unset, .unset, .unset] [])) ?_ st43
    refine OGo.go (B := T43.setTop (mkF m 306 #[.val (.int p0), .val (.int p1), .val (.int p2), .val (.int p3), .val (.long q4), .second, .val (.long q5), .second, .val (.ref b1), .val (.int (p0 &&& (3 : Int32))), .unset, .unset, .unset, .unset, .unset] [])) ?_ (fun tX kX => XS.goto X43.here hx rfl (pc0 := 226) (pc' := 306) rfl (hb hby at_226) (by decide) (by decide) kX)
    exact J306 T43 _ h43 [(.int ((80 : Int32).toUInt32.toUInt16.toUInt32.toInt32)), (.int ((76 : Int32).toUInt32.toUInt16.toUInt32.toInt32)), (.int ((65 : Int32).toUInt32.toUInt16.toUInt32.toInt32)), (.int ((73 : Int32).toUInt32.toUInt16.toUInt32.toInt32)), (.int ((78 : Int32).toUInt32.toUInt16.toUInt32.toInt32)), (.int ((((((q4.toUInt64 >>> ((40 : Int32) &&& 0x3f).toInt64.toUInt64).toInt64) &&& (255 : Int64)).toInt32).toUInt32.toUInt16.toUInt32.toInt32).toUInt32.toUInt16.toUInt32.toInt32)), (.int ((((((q4.toUInt64 >>> ((48 : Int32) &&& 0x3f).toInt64.toUInt64).toInt64) &&& (255 : Int64)).toInt32).toUInt32.toUInt16.toUInt32.toInt32).toUInt32.toUInt16.toUInt32.toInt32)), (.int ((((((q4.toUInt64 >>> ((56 : Int32) &&& 0x3f).toInt64.toUInt64).toInt64) &&& (255 : Int64)).toInt32).toUInt32.toUInt16.toUInt32.toInt32).toUInt32.toUInt16.toUInt32.toInt32)), (.int ((((q5 &&& (255 : Int64)).toInt32).toUInt32.toUInt16.toUInt32.toInt32).toUInt32.toUInt16.toUInt32.toInt32)), (.int ((((((q5.toUInt64 >>> ((8 : Int32) &&& 0x3f).toInt64.toUInt64).toInt64) &&& (255 : Int64)).toInt32).toUInt32.toUInt16.toUInt32.toInt32).toUInt32.toUInt16.toUInt32.toInt32)), (.int ((((((q5.toUInt64 >>> ((16 : Int32) &&& 0x3f).toInt64.toUInt64).toInt64) &&& (255 : Int64)).toInt32).toUInt32.toUInt16.toUInt32.toInt32).toUInt32.toUInt16.toUInt32.toInt32)), (.int ((((((q5.toUInt64 >>> ((24 : Int32) &&& 0x3f).toInt64.toUInt64).toInt64) &&& (255 : Int64)).toInt32).toUInt32.toUInt16.toUInt32.toInt32).toUInt32.toUInt16.toUInt32.toInt32))] X43 e43 N43 zn43 K43 hCH S_VAL E_uv V_uv F_wireName_m0 F_wireName_m1 E_w0 F_value_w0 F_coder_w0 V_v0 E_w1 F_value_w1 F_coder_w1 V_v1 S_SCRAM_SHA_1 S_PLAIN S_COMPACT_STRINGS Sf_b1 E_b1 V_b1 (own_ok12 (by decide) (by decide) (by decide) (by decide) (by decide) (own_leL _) (own_leL _) (own_leL _) (own_leL _) (own_leL _) (own_leL _) (own_leL _))
  ·
    refine OGo.go (B := T13.setTop (mkF m 229 #[.val (.int p0), .val (.int p1), .val (.int p2), .val (.int p3), .val (.long q4), .second, .val (.long q5), .second, .val (.ref b1), .val (.int (p0 &&& (3 : Int32))), .unset, .unset, .unset, .unset, .unset] [])) ?_ (fun tX kX => XS.ifYes X13.here hx rfl (pc0 := 193) (pc' := 229) rfl (hb hby at_193) rfl ((if0 _ _).trans (feq hc193).2) (by decide) (by decide) kX)
    refine OGo.go (B := T13.setTop (mkF m 231 #[.val (.int p0), .val (.int p1), .val (.int p2), .val (.int p3), .val (.long q4), .second, .val (.long q5), .second, .val (.ref b1), .val (.int (p0 &&& (3 : Int32))), .unset, .unset, .unset, .unset, .unset] [(.int (p0 &&& (3 : Int32)))])) ?_ (fun tX kX => XS.iload X13.here hx rfl (hb hby at_229) rfl kX)
    refine OGo.go (B := T13.setTop (mkF m 232 #[.val (.int p0), .val (.int p1), .val (.int p2), .val (.int p3), .val (.long q4), .second, .val (.long q5), .second, .val (.ref b1), .val (.int (p0 &&& (3 : Int32))), .unset, .unset, .unset, .unset, .unset] [(.int (1 : Int32)), (.int (p0 &&& (3 : Int32)))])) ?_ (fun tX kX => XS.iconst X13.here hx rfl (hb hby at_231) kX)
    by_cases hc232 : (p0 &&& (3 : Int32)) = (1 : Int32)
    ·
      refine OGo.go (B := T13.setTop (mkF m 235 #[.val (.int p0), .val (.int p1), .val (.int p2), .val (.int p3), .val (.long q4), .second, .val (.long q5), .second, .val (.ref b1), .val (.int (p0 &&& (3 : Int32))), .unset, .unset, .unset, .unset, .unset] [])) ?_ (fun tX kX => XS.icmpNo X13.here hx rfl (hb hby at_232) rfl (teq hc232).2 kX)
      refine OGo.go (B := T13.setTop (mkF m 237 #[.val (.int p0), .val (.int p1), .val (.int p2), .val (.int p3), .val (.long q4), .second, .val (.long q5), .second, .val (.ref b1), .val (.int (p0 &&& (3 : Int32))), .unset, .unset, .unset, .unset, .unset] [(.ref b1)])) ?_ (fun tX kX => XS.aload X13.here hx rfl (hb hby at_235) rfl rfl kX)
      refine OGo.go (B := T13.setTop (mkF m 238 #[.val (.int p0), .val (.int p1), .val (.int p2), .val (.int p3), .val (.long q4), .second, .val (.long q5), .second, .val (.ref b1), .val (.int (p0 &&& (3 : Int32))), .unset, .unset, .unset, .unset, .unset] [(.int (0 : Int32)), (.ref b1)])) ?_ (fun tX kX => XS.iconst X13.here hx rfl (hb hby at_237) kX)
      refine OGo.go (B := T13.setTop (mkF m 240 #[.val (.int p0), .val (.int p1), .val (.int p2), .val (.int p3), .val (.long q4), .second, .val (.long q5), .second, .val (.ref b1), .val (.int (p0 &&& (3 : Int32))), .unset, .unset, .unset, .unset, .unset] [(.int (83 : Int32)), (.int (0 : Int32)), (.ref b1)])) ?_ (fun tX kX => XS.bipush X13.here hx rfl (hb hby at_238) kX)
      obtain ⟨cl44, Ar44, qa44, S44, N44', H44, G44⟩ := id V_b1
      have hin44 := inb_of (j := (0 : Int32)) S44 ⟨by decide, by decide⟩
      obtain ⟨T44, h44, X44, e44, W44, st44⟩ := stC X13 hx hZ e13 Ar44 (j := (0 : Int32)) hin44 (g := (mkF m 240 #[.val (.int p0), .val (.int p1), .val (.int p2), .val (.int p3), .val (.long q4), .second, .val (.long q5), .second, .val (.ref b1), .val (.int (p0 &&& (3 : Int32))), .unset, .unset, .unset, .unset, .unset] [(.int (83 : Int32)), (.int (0 : Int32)), (.ref b1)])) rfl rfl (hb hby at_240)
      have V_b1_44 := Arv.set Ar44 qa44 S44 N44' H44 G44 (fits_nar_char _) W44 0 rfl (Nat.le_of_ble_eq_true rfl)
      have Sfo44 := (Safe.arr (EL := own_EL) hZ.alike Ar44 (by decide))
      have CHo44 := hCH
      have Sf_b1 := Safe.wr W44 Sfo44 CHo44 Sf_b1
      have hCH := CHv.wr W44 Sfo44 CHo44
      have S_VAL := S_VAL.wr W44
      have E_uv := E_uv.wr W44
      have V_uv := V_uv.other W44 ne_uv_b1
      have F_wireName_m0 := F_wireName_m0.other W44 (Or.inl ne_m0_b1)
      have F_wireName_m1 := F_wireName_m1.other W44 (Or.inl ne_m1_b1)
      have E_w0 := E_w0.wr W44
      have F_value_w0 := F_value_w0.other W44 (Or.inl ne_w0_b1)
      have F_coder_w0 := F_coder_w0.other W44 (Or.inl ne_w0_b1)
      have V_v0 := V_v0.other W44 ne_v0_b1
      have E_w1 := E_w1.wr W44
      have F_value_w1 := F_value_w1.other W44 (Or.inl ne_w1_b1)
      have F_coder_w1 := F_coder_w1.other W44 (Or.inl ne_w1_b1)
      have V_v1 := V_v1.other W44 ne_v1_b1
      have S_SCRAM_SHA_1 := S_SCRAM_SHA_1.wr W44
      have S_PLAIN := S_PLAIN.wr W44
      have S_COMPACT_STRINGS := S_COMPACT_STRINGS.wr W44
      have E_b1 := E_b1.wr W44
      have K44 := K13.wr W44 (Or.inr sz_b1)
      have zn44 : n0 ≤ h44.size := Nat.le_trans zn13 (Keep.of_wr W44).1
      have hk44 := Nat.le_trans hk13 (Keep.of_wr W44).1
      have N44 := Fr.snoc X44 N13 g_b1
      have V_b1 : Arv Z h44 b1 k1 .char (12 : Int32) [(.int ((83 : Int32).toUInt32.toUInt16.toUInt32.toInt32)), (.int ((((((q4.toUInt64 >>> ((8 : Int32) &&& 0x3f).toInt64.toUInt64).toInt64) &&& (255 : Int64)).toInt32).toUInt32.toUInt16.toUInt32.toInt32).toUInt32.toUInt16.toUInt32.toInt32)), (.int ((((((q4.toUInt64 >>> ((16 : Int32) &&& 0x3f).toInt64.toUInt64).toInt64) &&& (255 : Int64)).toInt32).toUInt32.toUInt16.toUInt32.toInt32).toUInt32.toUInt16.toUInt32.toInt32)), (.int ((((((q4.toUInt64 >>> ((24 : Int32) &&& 0x3f).toInt64.toUInt64).toInt64) &&& (255 : Int64)).toInt32).toUInt32.toUInt16.toUInt32.toInt32).toUInt32.toUInt16.toUInt32.toInt32)), (.int ((((((q4.toUInt64 >>> ((32 : Int32) &&& 0x3f).toInt64.toUInt64).toInt64) &&& (255 : Int64)).toInt32).toUInt32.toUInt16.toUInt32.toInt32).toUInt32.toUInt16.toUInt32.toInt32)), (.int ((((((q4.toUInt64 >>> ((40 : Int32) &&& 0x3f).toInt64.toUInt64).toInt64) &&& (255 : Int64)).toInt32).toUInt32.toUInt16.toUInt32.toInt32).toUInt32.toUInt16.toUInt32.toInt32)), (.int ((((((q4.toUInt64 >>> ((48 : Int32) &&& 0x3f).toInt64.toUInt64).toInt64) &&& (255 : Int64)).toInt32).toUInt32.toUInt16.toUInt32.toInt32).toUInt32.toUInt16.toUInt32.toInt32)), (.int ((((((q4.toUInt64 >>> ((56 : Int32) &&& 0x3f).toInt64.toUInt64).toInt64) &&& (255 : Int64)).toInt32).toUInt32.toUInt16.toUInt32.toInt32).toUInt32.toUInt16.toUInt32.toInt32)), (.int ((((q5 &&& (255 : Int64)).toInt32).toUInt32.toUInt16.toUInt32.toInt32).toUInt32.toUInt16.toUInt32.toInt32)), (.int ((((((q5.toUInt64 >>> ((8 : Int32) &&& 0x3f).toInt64.toUInt64).toInt64) &&& (255 : Int64)).toInt32).toUInt32.toUInt16.toUInt32.toInt32).toUInt32.toUInt16.toUInt32.toInt32)), (.int ((((((q5.toUInt64 >>> ((16 : Int32) &&& 0x3f).toInt64.toUInt64).toInt64) &&& (255 : Int64)).toInt32).toUInt32.toUInt16.toUInt32.toInt32).toUInt32.toUInt16.toUInt32.toInt32)), (.int ((((((q5.toUInt64 >>> ((24 : Int32) &&& 0x3f).toInt64.toUInt64).toInt64) &&& (255 : Int64)).toInt32).toUInt32.toUInt16.toUInt32.toInt32).toUInt32.toUInt16.toUInt32.toInt32))] (.int (0 : Int32)) := V_b1_44
      refine OGo.go (B := T44.setTop (mkF m 241 #[.val (.int p0), .val (.int p1), .val (.int p2), .val (.int p3), .val (.long q4), .second, .val (.long q5), .second, .val (.ref b1), .val (.int (p0 &&& (3 : Int32))), .unset, .unset, .unset, .unset, .unset] [])) ?_ st44
      refine OGo.go (B := T44.setTop (mkF m 243 #[.val (.int p0), .val (.int p1), .val (.int p2), .val (.int p3), .val (.long q4), .second, .val (.long q5), .second, .val (.ref b1), .val (.int (p0 &&& (3 : Int32))), .unset, .unset, .unset, .unset, .unset] [(.ref b1)])) ?_ (fun tX kX => XS.aload X44.here hx rfl (hb hby at_241) rfl rfl kX)
      refine OGo.go (B := T44.setTop (mkF m 244 #[.val (.int p0), .val (.int p1), .val (.int p2), .val (.int p3), .val (.long q4), .second, .val (.long q5), .second, .val (.ref b1), .val (.int (p0 &&& (3 : Int32))), .unset, .unset, .unset, .unset, .unset] [(.int (1 : Int32)), (.ref b1)])) ?_ (fun tX kX => XS.iconst X44.here hx rfl (hb hby at_243) kX)
      refine OGo.go (B := T44.setTop (mkF m 246 #[.val (.int p0), .val (.int p1), .val (.int p2), .val (.int p3), .val (.long q4), .second, .val (.long q5), .second, .val (.ref b1), .val (.int (p0 &&& (3 : Int32))), .unset, .unset, .unset, .unset, .unset] [(.int (67 : Int32)), (.int (1 : Int32)), (.ref b1)])) ?_ (fun tX kX => XS.bipush X44.here hx rfl (hb hby at_244) kX)
      obtain ⟨cl45, Ar45, qa45, S45, N45', H45, G45⟩ := id V_b1
      have hin45 := inb_of (j := (1 : Int32)) S45 ⟨by decide, by decide⟩
      obtain ⟨T45, h45, X45, e45, W45, st45⟩ := stC X44 hx hZ e44 Ar45 (j := (1 : Int32)) hin45 (g := (mkF m 246 #[.val (.int p0), .val (.int p1), .val (.int p2), .val (.int p3), .val (.long q4), .second, .val (.long q5), .second, .val (.ref b1), .val (.int (p0 &&& (3 : Int32))), .unset, .unset, .unset, .unset, .unset] [(.int (67 : Int32)), (.int (1 : Int32)), (.ref b1)])) rfl rfl (hb hby at_246)
      have V_b1_45 := Arv.set Ar45 qa45 S45 N45' H45 G45 (fits_nar_char _) W45 1 rfl (Nat.le_of_ble_eq_true rfl)
      have Sfo45 := (Safe.arr (EL := own_EL) hZ.alike Ar45 (by decide))
      have CHo45 := hCH
      have Sf_b1 := Safe.wr W45 Sfo45 CHo45 Sf_b1
      have hCH := CHv.wr W45 Sfo45 CHo45
      have S_VAL := S_VAL.wr W45
      have E_uv := E_uv.wr W45
      have V_uv := V_uv.other W45 ne_uv_b1
      have F_wireName_m0 := F_wireName_m0.other W45 (Or.inl ne_m0_b1)
      have F_wireName_m1 := F_wireName_m1.other W45 (Or.inl ne_m1_b1)
      have E_w0 := E_w0.wr W45
      have F_value_w0 := F_value_w0.other W45 (Or.inl ne_w0_b1)
      have F_coder_w0 := F_coder_w0.other W45 (Or.inl ne_w0_b1)
      have V_v0 := V_v0.other W45 ne_v0_b1
      have E_w1 := E_w1.wr W45
      have F_value_w1 := F_value_w1.other W45 (Or.inl ne_w1_b1)
      have F_coder_w1 := F_coder_w1.other W45 (Or.inl ne_w1_b1)
      have V_v1 := V_v1.other W45 ne_v1_b1
      have S_SCRAM_SHA_1 := S_SCRAM_SHA_1.wr W45
      have S_PLAIN := S_PLAIN.wr W45
      have S_COMPACT_STRINGS := S_COMPACT_STRINGS.wr W45
      have E_b1 := E_b1.wr W45
      have K45 := K44.wr W45 (Or.inr sz_b1)
      have zn45 : n0 ≤ h45.size := Nat.le_trans zn44 (Keep.of_wr W45).1
      have hk45 := Nat.le_trans hk44 (Keep.of_wr W45).1
      have N45 := Fr.snoc X45 N44 g_b1
      have V_b1 : Arv Z h45 b1 k1 .char (12 : Int32) [(.int ((83 : Int32).toUInt32.toUInt16.toUInt32.toInt32)), (.int ((67 : Int32).toUInt32.toUInt16.toUInt32.toInt32)), (.int ((((((q4.toUInt64 >>> ((16 : Int32) &&& 0x3f).toInt64.toUInt64).toInt64) &&& (255 : Int64)).toInt32).toUInt32.toUInt16.toUInt32.toInt32).toUInt32.toUInt16.toUInt32.toInt32)), (.int ((((((q4.toUInt64 >>> ((24 : Int32) &&& 0x3f).toInt64.toUInt64).toInt64) &&& (255 : Int64)).toInt32).toUInt32.toUInt16.toUInt32.toInt32).toUInt32.toUInt16.toUInt32.toInt32)), (.int ((((((q4.toUInt64 >>> ((32 : Int32) &&& 0x3f).toInt64.toUInt64).toInt64) &&& (255 : Int64)).toInt32).toUInt32.toUInt16.toUInt32.toInt32).toUInt32.toUInt16.toUInt32.toInt32)), (.int ((((((q4.toUInt64 >>> ((40 : Int32) &&& 0x3f).toInt64.toUInt64).toInt64) &&& (255 : Int64)).toInt32).toUInt32.toUInt16.toUInt32.toInt32).toUInt32.toUInt16.toUInt32.toInt32)), (.int ((((((q4.toUInt64 >>> ((48 : Int32) &&& 0x3f).toInt64.toUInt64).toInt64) &&& (255 : Int64)).toInt32).toUInt32.toUInt16.toUInt32.toInt32).toUInt32.toUInt16.toUInt32.toInt32)), (.int ((((((q4.toUInt64 >>> ((56 : Int32) &&& 0x3f).toInt64.toUInt64).toInt64) &&& (255 : Int64)).toInt32).toUInt32.toUInt16.toUInt32.toInt32).toUInt32.toUInt16.toUInt32.toInt32)), (.int ((((q5 &&& (255 : Int64)).toInt32).toUInt32.toUInt16.toUInt32.toInt32).toUInt32.toUInt16.toUInt32.toInt32)), (.int ((((((q5.toUInt64 >>> ((8 : Int32) &&& 0x3f).toInt64.toUInt64).toInt64) &&& (255 : Int64)).toInt32).toUInt32.toUInt16.toUInt32.toInt32).toUInt32.toUInt16.toUInt32.toInt32)), (.int ((((((q5.toUInt64 >>> ((16 : Int32) &&& 0x3f).toInt64.toUInt64).toInt64) &&& (255 : Int64)).toInt32).toUInt32.toUInt16.toUInt32.toInt32).toUInt32.toUInt16.toUInt32.toInt32)), (.int ((((((q5.toUInt64 >>> ((24 : Int32) &&& 0x3f).toInt64.toUInt64).toInt64) &&& (255 : Int64)).toInt32).toUInt32.toUInt16.toUInt32.toInt32).toUInt32.toUInt16.toUInt32.toInt32))] (.int (0 : Int32)) := V_b1_45
      refine OGo.go (B := T45.setTop (mkF m 247 #[.val (.int p0), .val (.int p1), .val (.int p2), .val (.int p3), .val (.long q4), .second, .val (.long q5), .second, .val (.ref b1), .val (.int (p0 &&& (3 : Int32))), .unset, .unset, .unset, .unset, .unset] [])) ?_ st45
      refine OGo.go (B := T45.setTop (mkF m 249 #[.val (.int p0), .val (.int p1), .val (.int p2), .val (.int p3), .val (.long q4), .second, .val (.long q5), .second, .val (.ref b1), .val (.int (p0 &&& (3 : Int32))), .unset, .unset, .unset, .unset, .unset] [(.ref b1)])) ?_ (fun tX kX => XS.aload X45.here hx rfl (hb hby at_247) rfl rfl kX)
      refine OGo.go (B := T45.setTop (mkF m 250 #[.val (.int p0), .val (.int p1), .val (.int p2), .val (.int p3), .val (.long q4), .second, .val (.long q5), .second, .val (.ref b1), .val (.int (p0 &&& (3 : Int32))), .unset, .unset, .unset, .unset, .unset] [(.int (2 : Int32)), (.ref b1)])) ?_ (fun tX kX => XS.iconst X45.here hx rfl (hb hby at_249) kX)
      refine OGo.go (B := T45.setTop (mkF m 252 #[.val (.int p0), .val (.int p1), .val (.int p2), .val (.int p3), .val (.long q4), .second, .val (.long q5), .second, .val (.ref b1), .val (.int (p0 &&& (3 : Int32))), .unset, .unset, .unset, .unset, .unset] [(.int (82 : Int32)), (.int (2 : Int32)), (.ref b1)])) ?_ (fun tX kX => XS.bipush X45.here hx rfl (hb hby at_250) kX)
      obtain ⟨cl46, Ar46, qa46, S46, N46', H46, G46⟩ := id V_b1
      have hin46 := inb_of (j := (2 : Int32)) S46 ⟨by decide, by decide⟩
      obtain ⟨T46, h46, X46, e46, W46, st46⟩ := stC X45 hx hZ e45 Ar46 (j := (2 : Int32)) hin46 (g := (mkF m 252 #[.val (.int p0), .val (.int p1), .val (.int p2), .val (.int p3), .val (.long q4), .second, .val (.long q5), .second, .val (.ref b1), .val (.int (p0 &&& (3 : Int32))), .unset, .unset, .unset, .unset, .unset] [(.int (82 : Int32)), (.int (2 : Int32)), (.ref b1)])) rfl rfl (hb hby at_252)
      have V_b1_46 := Arv.set Ar46 qa46 S46 N46' H46 G46 (fits_nar_char _) W46 2 rfl (Nat.le_of_ble_eq_true rfl)
      have Sfo46 := (Safe.arr (EL := own_EL) hZ.alike Ar46 (by decide))
      have CHo46 := hCH
      have Sf_b1 := Safe.wr W46 Sfo46 CHo46 Sf_b1
      have hCH := CHv.wr W46 Sfo46 CHo46
      have S_VAL := S_VAL.wr W46
      have E_uv := E_uv.wr W46
      have V_uv := V_uv.other W46 ne_uv_b1
      have F_wireName_m0 := F_wireName_m0.other W46 (Or.inl ne_m0_b1)
      have F_wireName_m1 := F_wireName_m1.other W46 (Or.inl ne_m1_b1)
      have E_w0 := E_w0.wr W46
      have F_value_w0 := F_value_w0.other W46 (Or.inl ne_w0_b1)
      have F_coder_w0 := F_coder_w0.other W46 (Or.inl ne_w0_b1)
      have V_v0 := V_v0.other W46 ne_v0_b1
      have E_w1 := E_w1.wr W46
      have F_value_w1 := F_value_w1.other W46 (Or.inl ne_w1_b1)
      have F_coder_w1 := F_coder_w1.other W46 (Or.inl ne_w1_b1)
      have V_v1 := V_v1.other W46 ne_v1_b1
      have S_SCRAM_SHA_1 := S_SCRAM_SHA_1.wr W46
      have S_PLAIN := S_PLAIN.wr W46
      have S_COMPACT_STRINGS := S_COMPACT_STRINGS.wr W46
      have E_b1 := E_b1.wr W46
      have K46 := K45.wr W46 (Or.inr sz_b1)
      have zn46 : n0 ≤ h46.size := Nat.le_trans zn45 (Keep.of_wr W46).1
      have hk46 := Nat.le_trans hk45 (Keep.of_wr W46).1
      have N46 := Fr.snoc X46 N45 g_b1
      have V_b1 : Arv Z h46 b1 k1 .char (12 : Int32) [(.int ((83 : Int32).toUInt32.toUInt16.toUInt32.toInt32)), (.int ((67 : Int32).toUInt32.toUInt16.toUInt32.toInt32)), (.int ((82 : Int32).toUInt32.toUInt16.toUInt32.toInt32)), (.int ((((((q4.toUInt64 >>> ((24 : Int32) &&& 0x3f).toInt64.toUInt64).toInt64) &&& (255 : Int64)).toInt32).toUInt32.toUInt16.toUInt32.toInt32).toUInt32.toUInt16.toUInt32.toInt32)), (.int ((((((q4.toUInt64 >>> ((32 : Int32) &&& 0x3f).toInt64.toUInt64).toInt64) &&& (255 : Int64)).toInt32).toUInt32.toUInt16.toUInt32.toInt32).toUInt32.toUInt16.toUInt32.toInt32)), (.int ((((((q4.toUInt64 >>> ((40 : Int32) &&& 0x3f).toInt64.toUInt64).toInt64) &&& (255 : Int64)).toInt32).toUInt32.toUInt16.toUInt32.toInt32).toUInt32.toUInt16.toUInt32.toInt32)), (.int ((((((q4.toUInt64 >>> ((48 : Int32) &&& 0x3f).toInt64.toUInt64).toInt64) &&& (255 : Int64)).toInt32).toUInt32.toUInt16.toUInt32.toInt32).toUInt32.toUInt16.toUInt32.toInt32)), (.int ((((((q4.toUInt64 >>> ((56 : Int32) &&& 0x3f).toInt64.toUInt64).toInt64) &&& (255 : Int64)).toInt32).toUInt32.toUInt16.toUInt32.toInt32).toUInt32.toUInt16.toUInt32.toInt32)), (.int ((((q5 &&& (255 : Int64)).toInt32).toUInt32.toUInt16.toUInt32.toInt32).toUInt32.toUInt16.toUInt32.toInt32)), (.int ((((((q5.toUInt64 >>> ((8 : Int32) &&& 0x3f).toInt64.toUInt64).toInt64) &&& (255 : Int64)).toInt32).toUInt32.toUInt16.toUInt32.toInt32).toUInt32.toUInt16.toUInt32.toInt32)), (.int ((((((q5.toUInt64 >>> ((16 : Int32) &&& 0x3f).toInt64.toUInt64).toInt64) &&& (255 : Int64)).toInt32).toUInt32.toUInt16.toUInt32.toInt32).toUInt32.toUInt16.toUInt32.toInt32)), (.int ((((((q5.toUInt64 >>> ((24 : Int32) &&& 0x3f).toInt64.toUInt64).toInt64) &&& (255 : Int64)).toInt32).toUInt32.toUInt16.toUInt32.toInt32).toUInt32.toUInt16.toUInt32.toInt32))] (.int (0 : Int32)) := V_b1_46
      refine OGo.go (B := T46.setTop (mkF m 253 #[.val (.int p0), .val (.int p1), .val (.int p2), .val (.int p3), .val (.long q4), .second, .val (.long q5), .second, .val (.ref b1), .val (.int (p0 &&& (3 : Int32))), .unset, .unset, .unset, .unset, .unset] [])) ?_ st46
      refine OGo.go (B := T46.setTop (mkF m 255 #[.val (.int p0), .val (.int p1), .val (.int p2), .val (.int p3), .val (.long q4), .second, .val (.long q5), .second, .val (.ref b1), .val (.int (p0 &&& (3 : Int32))), .unset, .unset, .unset, .unset, .unset] [(.ref b1)])) ?_ (fun tX kX => XS.aload X46.here hx rfl (hb hby at_253) rfl rfl kX)
      refine OGo.go (B := T46.setTop (mkF m 256 #[.val (.int p0), .val (.int p1), .val (.int p2), .val (.int p3), .val (.long q4), .second, .val (.long q5), .second, .val (.ref b1), .val (.int (p0 &&& (3 : Int32))), .unset, .unset, .unset, .unset, .unset] [(.int (3 : Int32)), (.ref b1)])) ?_ (fun tX kX => XS.iconst X46.here hx rfl (hb hby at_255) kX)
      refine OGo.go (B := T46.setTop (mkF m 258 #[.val (.int p0), .val (.int p1), .val (.int p2), .val (.int p3), .val (.long q4), .second, .val (.long q5), .second, .val (.ref b1), .val (.int (p0 &&& (3 : Int32))), .unset, .unset, .unset, .unset, .unset] [(.int (65 : Int32)), (.int (3 : Int32)), (.ref b1)])) ?_ (fun tX kX => XS.bipush X46.here hx rfl (hb hby at_256) kX)
      obtain ⟨cl47, Ar47, qa47, S47, N47', H47, G47⟩ := id V_b1
      have hin47 := inb_of (j := (3 : Int32)) S47 ⟨by decide, by decide⟩
      obtain ⟨T47, h47, X47, e47, W47, st47⟩ := stC X46 hx hZ e46 Ar47 (j := (3 : Int32)) hin47 (g := (mkF m 258 #[.val (.int p0), .val (.int p1), .val (.int p2), .val (.int p3), .val (.long q4), .second, .val (.long q5), .second, .val (.ref b1), .val (.int (p0 &&& (3 : Int32))), .unset, .unset, .unset, .unset, .unset] [(.int (65 : Int32)), (.int (3 : Int32)), (.ref b1)])) rfl rfl (hb hby at_258)
      have V_b1_47 := Arv.set Ar47 qa47 S47 N47' H47 G47 (fits_nar_char _) W47 3 rfl (Nat.le_of_ble_eq_true rfl)
      have Sfo47 := (Safe.arr (EL := own_EL) hZ.alike Ar47 (by decide))
      have CHo47 := hCH
      have Sf_b1 := Safe.wr W47 Sfo47 CHo47 Sf_b1
      have hCH := CHv.wr W47 Sfo47 CHo47
      have S_VAL := S_VAL.wr W47
      have E_uv := E_uv.wr W47
      have V_uv := V_uv.other W47 ne_uv_b1
      have F_wireName_m0 := F_wireName_m0.other W47 (Or.inl ne_m0_b1)
      have F_wireName_m1 := F_wireName_m1.other W47 (Or.inl ne_m1_b1)
      have E_w0 := E_w0.wr W47
      have F_value_w0 := F_value_w0.other W47 (Or.inl ne_w0_b1)
      have F_coder_w0 := F_coder_w0.other W47 (Or.inl ne_w0_b1)
      have V_v0 := V_v0.other W47 ne_v0_b1
      have E_w1 := E_w1.wr W47
      have F_value_w1 := F_value_w1.other W47 (Or.inl ne_w1_b1)
      have F_coder_w1 := F_coder_w1.other W47 (Or.inl ne_w1_b1)
      have V_v1 := V_v1.other W47 ne_v1_b1
      have S_SCRAM_SHA_1 := S_SCRAM_SHA_1.wr W47
      have S_PLAIN := S_PLAIN.wr W47
      have S_COMPACT_STRINGS := S_COMPACT_STRINGS.wr W47
      have E_b1 := E_b1.wr W47
      have K47 := K46.wr W47 (Or.inr sz_b1)
      have zn47 : n0 ≤ h47.size := Nat.le_trans zn46 (Keep.of_wr W47).1
      have hk47 := Nat.le_trans hk46 (Keep.of_wr W47).1
      have N47 := Fr.snoc X47 N46 g_b1
      have V_b1 : Arv Z h47 b1 k1 .char (12 : Int32) [(.int ((83 : Int32).toUInt32.toUInt16.toUInt32.toInt32)), (.int ((67 : Int32).toUInt32.toUInt16.toUInt32.toInt32)), (.int ((82 : Int32).toUInt32.toUInt16.toUInt32.toInt32)), (.int ((65 : Int32).toUInt32.toUInt16.toUInt32.toInt32)), (.int ((((((q4.toUInt64 >>> ((32 : Int32) &&& 0x3f).toInt64.toUInt64).toInt64) &&& (255 : Int64)).toInt32).toUInt32.toUInt16.toUInt32.toInt32).toUInt32.toUInt16.toUInt32.toInt32)), (.int ((((((q4.toUInt64 >>> ((40 : Int32) &&& 0x3f).toInt64.toUInt64).toInt64) &&& (255 : Int64)).toInt32).toUInt32.toUInt16.toUInt32.toInt32).toUInt32.toUInt16.toUInt32.toInt32)), (.int ((((((q4.toUInt64 >>> ((48 : Int32) &&& 0x3f).toInt64.toUInt64).toInt64) &&& (255 : Int64)).toInt32).toUInt32.toUInt16.toUInt32.toInt32).toUInt32.toUInt16.toUInt32.toInt32)), (.int ((((((q4.toUInt64 >>> ((56 : Int32) &&& 0x3f).toInt64.toUInt64).toInt64) &&& (255 : Int64)).toInt32).toUInt32.toUInt16.toUInt32.toInt32).toUInt32.toUInt16.toUInt32.toInt32)), (.int ((((q5 &&& (255 : Int64)).toInt32).toUInt32.toUInt16.toUInt32.toInt32).toUInt32.toUInt16.toUInt32.toInt32)), (.int ((((((q5.toUInt64 >>> ((8 : Int32) &&& 0x3f).toInt64.toUInt64).toInt64) &&& (255 : Int64)).toInt32).toUInt32.toUInt16.toUInt32.toInt32).toUInt32.toUInt16.toUInt32.toInt32)), (.int ((((((q5.toUInt64 >>> ((16 : Int32) &&& 0x3f).toInt64.toUInt64).toInt64) &&& (255 : Int64)).toInt32).toUInt32.toUInt16.toUInt32.toInt32).toUInt32.toUInt16.toUInt32.toInt32)), (.int ((((((q5.toUInt64 >>> ((24 : Int32) &&& 0x3f).toInt64.toUInt64).toInt64) &&& (255 : Int64)).toInt32).toUInt32.toUInt16.toUInt32.toInt32).toUInt32.toUInt16.toUInt32.toInt32))] (.int (0 : Int32)) := V_b1_47
      refine OGo.go (B := T47.setTop (mkF m 259 #[.val (.int p0), .val (.int p1), .val (.int p2), .val (.int p3), .val (.long q4), .second, .val (.long q5), .second, .val (.ref b1), .val (.int (p0 &&& (3 : Int32))), .unset, .unset, .unset, .unset, .unset] [])) ?_ st47
      refine OGo.go (B := T47.setTop (mkF m 261 #[.val (.int p0), .val (.int p1), .val (.int p2), .val (.int p3), .val (.long q4), .second, .val (.long q5), .second, .val (.ref b1), .val (.int (p0 &&& (3 : Int32))), .unset, .unset, .unset, .unset, .unset] [(.ref b1)])) ?_ (fun tX kX => XS.aload X47.here hx rfl (hb hby at_259) rfl rfl kX)
      refine OGo.go (B := T47.setTop (mkF m 262 #[.val (.int p0), .val (.int p1), .val (.int p2), .val (.int p3), .val (.long q4), .second, .val (.long q5), .second, .val (.ref b1), .val (.int (p0 &&& (3 : Int32))), .unset, .unset, .unset, .unset, .unset] [(.int (4 : Int32)), (.ref b1)])) ?_ (fun tX kX => XS.iconst X47.here hx rfl (hb hby at_261) kX)
      refine OGo.go (B := T47.setTop (mkF m 264 #[.val (.int p0), .val (.int p1), .val (.int p2), .val (.int p3), .val (.long q4), .second, .val (.long q5), .second, .val (.ref b1), .val (.int (p0 &&& (3 : Int32))), .unset, .unset, .unset, .unset, .unset] [(.int (77 : Int32)), (.int (4 : Int32)), (.ref b1)])) ?_ (fun tX kX => XS.bipush X47.here hx rfl (hb hby at_262) kX)
      obtain ⟨cl48, Ar48, qa48, S48, N48', H48, G48⟩ := id V_b1
      have hin48 := inb_of (j := (4 : Int32)) S48 ⟨by decide, by decide⟩
      obtain ⟨T48, h48, X48, e48, W48, st48⟩ := stC X47 hx hZ e47 Ar48 (j := (4 : Int32)) hin48 (g := (mkF m 264 #[.val (.int p0), .val (.int p1), .val (.int p2), .val (.int p3), .val (.long q4), .second, .val (.long q5), .second, .val (.ref b1), .val (.int (p0 &&& (3 : Int32))), .unset, .unset, .unset, .unset, .unset] [(.int (77 : Int32)), (.int (4 : Int32)), (.ref b1)])) rfl rfl (hb hby at_264)
      have V_b1_48 := Arv.set Ar48 qa48 S48 N48' H48 G48 (fits_nar_char _) W48 4 rfl (Nat.le_of_ble_eq_true rfl)
      have Sfo48 := (Safe.arr (EL := own_EL) hZ.alike Ar48 (by decide))
      have CHo48 := hCH
      have Sf_b1 := Safe.wr W48 Sfo48 CHo48 Sf_b1
      have hCH := CHv.wr W48 Sfo48 CHo48
      have S_VAL := S_VAL.wr W48
      have E_uv := E_uv.wr W48
      have V_uv := V_uv.other W48 ne_uv_b1
      have F_wireName_m0 := F_wireName_m0.other W48 (Or.inl ne_m0_b1)
      have F_wireName_m1 := F_wireName_m1.other W48 (Or.inl ne_m1_b1)
      have E_w0 := E_w0.wr W48
      have F_value_w0 := F_value_w0.other W48 (Or.inl ne_w0_b1)
      have F_coder_w0 := F_coder_w0.other W48 (Or.inl ne_w0_b1)
      have V_v0 := V_v0.other W48 ne_v0_b1
      have E_w1 := E_w1.wr W48
      have F_value_w1 := F_value_w1.other W48 (Or.inl ne_w1_b1)
      have F_coder_w1 := F_coder_w1.other W48 (Or.inl ne_w1_b1)
      have V_v1 := V_v1.other W48 ne_v1_b1
      have S_SCRAM_SHA_1 := S_SCRAM_SHA_1.wr W48
      have S_PLAIN := S_PLAIN.wr W48
      have S_COMPACT_STRINGS := S_COMPACT_STRINGS.wr W48
      have E_b1 := E_b1.wr W48
      have K48 := K47.wr W48 (Or.inr sz_b1)
      have zn48 : n0 ≤ h48.size := Nat.le_trans zn47 (Keep.of_wr W48).1
      have hk48 := Nat.le_trans hk47 (Keep.of_wr W48).1
      have N48 := Fr.snoc X48 N47 g_b1
      have V_b1 : Arv Z h48 b1 k1 .char (12 : Int32) [(.int ((83 : Int32).toUInt32.toUInt16.toUInt32.toInt32)), (.int ((67 : Int32).toUInt32.toUInt16.toUInt32.toInt32)), (.int ((82 : Int32).toUInt32.toUInt16.toUInt32.toInt32)), (.int ((65 : Int32).toUInt32.toUInt16.toUInt32.toInt32)), (.int ((77 : Int32).toUInt32.toUInt16.toUInt32.toInt32)), (.int ((((((q4.toUInt64 >>> ((40 : Int32) &&& 0x3f).toInt64.toUInt64).toInt64) &&& (255 : Int64)).toInt32).toUInt32.toUInt16.toUInt32.toInt32).toUInt32.toUInt16.toUInt32.toInt32)), (.int ((((((q4.toUInt64 >>> ((48 : Int32) &&& 0x3f).toInt64.toUInt64).toInt64) &&& (255 : Int64)).toInt32).toUInt32.toUInt16.toUInt32.toInt32).toUInt32.toUInt16.toUInt32.toInt32)), (.int ((((((q4.toUInt64 >>> ((56 : Int32) &&& 0x3f).toInt64.toUInt64).toInt64) &&& (255 : Int64)).toInt32).toUInt32.toUInt16.toUInt32.toInt32).toUInt32.toUInt16.toUInt32.toInt32)), (.int ((((q5 &&& (255 : Int64)).toInt32).toUInt32.toUInt16.toUInt32.toInt32).toUInt32.toUInt16.toUInt32.toInt32)), (.int ((((((q5.toUInt64 >>> ((8 : Int32) &&& 0x3f).toInt64.toUInt64).toInt64) &&& (255 : Int64)).toInt32).toUInt32.toUInt16.toUInt32.toInt32).toUInt32.toUInt16.toUInt32.toInt32)), (.int ((((((q5.toUInt64 >>> ((16 : Int32) &&& 0x3f).toInt64.toUInt64).toInt64) &&& (255 : Int64)).toInt32).toUInt32.toUInt16.toUInt32.toInt32).toUInt32.toUInt16.toUInt32.toInt32)), (.int ((((((q5.toUInt64 >>> ((24 : Int32) &&& 0x3f).toInt64.toUInt64).toInt64) &&& (255 : Int64)).toInt32).toUInt32.toUInt16.toUInt32.toInt32).toUInt32.toUInt16.toUInt32.toInt32))] (.int (0 : Int32)) := V_b1_48
      refine OGo.go (B := T48.setTop (mkF m 265 #[.val (.int p0), .val (.int p1), .val (.int p2), .val (.int p3), .val (.long q4), .second, .val (.long q5), .second, .val (.ref b1), .val (.int (p0 &&& (3 : Int32))), .unset, .unset, .unset, .unset, .unset] [])) ?_ st48
      refine OGo.go (B := T48.setTop (mkF m 267 #[.val (.int p0), .val (.int p1), .val (.int p2), .val (.int p3), .val (.long q4), .second, .val (.long q5), .second, .val (.ref b1), .val (.int (p0 &&& (3 : Int32))), .unset, .unset, .unset, .unset, .unset] [(.ref b1)])) ?_ (fun tX kX => XS.aload X48.here hx rfl (hb hby at_265) rfl rfl kX)
      refine OGo.go (B := T48.setTop (mkF m 268 #[.val (.int p0), .val (.int p1), .val (.int p2), .val (.int p3), .val (.long q4), .second, .val (.long q5), .second, .val (.ref b1), .val (.int (p0 &&& (3 : Int32))), .unset, .unset, .unset, .unset, .unset] [(.int (5 : Int32)), (.ref b1)])) ?_ (fun tX kX => XS.iconst X48.here hx rfl (hb hby at_267) kX)
      refine OGo.go (B := T48.setTop (mkF m 270 #[.val (.int p0), .val (.int p1), .val (.int p2), .val (.int p3), .val (.long q4), .second, .val (.long q5), .second, .val (.ref b1), .val (.int (p0 &&& (3 : Int32))), .unset, .unset, .unset, .unset, .unset] [(.int (45 : Int32)), (.int (5 : Int32)), (.ref b1)])) ?_ (fun tX kX => XS.bipush X48.here hx rfl (hb hby at_268) kX)
      obtain ⟨cl49, Ar49, qa49, S49, N49', H49, G49⟩ := id V_b1
      have hin49 := inb_of (j := (5 : Int32)) S49 ⟨by decide, by decide⟩
      obtain ⟨T49, h49, X49, e49, W49, st49⟩ := stC X48 hx hZ e48 Ar49 (j := (5 : Int32)) hin49 (g := (mkF m 270 #[.val (.int p0), .val (.int p1), .val (.int p2), .val (.int p3), .val (.long q4), .second, .val (.long q5), .second, .val (.ref b1), .val (.int (p0 &&& (3 : Int32))), .unset, .unset, .unset, .unset, .unset] [(.int (45 : Int32)), (.int (5 : Int32)), (.ref b1)])) rfl rfl (hb hby at_270)
      have V_b1_49 := Arv.set Ar49 qa49 S49 N49' H49 G49 (fits_nar_char _) W49 5 rfl (Nat.le_of_ble_eq_true rfl)
      have Sfo49 := (Safe.arr (EL := own_EL) hZ.alike Ar49 (by decide))
      have CHo49 := hCH
      have Sf_b1 := Safe.wr W49 Sfo49 CHo49 Sf_b1
      have hCH := CHv.wr W49 Sfo49 CHo49
      have S_VAL := S_VAL.wr W49
      have E_uv := E_uv.wr W49
      have V_uv := V_uv.other W49 ne_uv_b1
      have F_wireName_m0 := F_wireName_m0.other W49 (Or.inl ne_m0_b1)
      have F_wireName_m1 := F_wireName_m1.other W49 (Or.inl ne_m1_b1)
      have E_w0 := E_w0.wr W49
      have F_value_w0 := F_value_w0.other W49 (Or.inl ne_w0_b1)
      have F_coder_w0 := F_coder_w0.other W49 (Or.inl ne_w0_b1)
      have V_v0 := V_v0.other W49 ne_v0_b1
      have E_w1 := E_w1.wr W49
      have F_value_w1 := F_value_w1.other W49 (Or.inl ne_w1_b1)
      have F_coder_w1 := F_coder_w1.other W49 (Or.inl ne_w1_b1)
      have V_v1 := V_v1.other W49 ne_v1_b1
      have S_SCRAM_SHA_1 := S_SCRAM_SHA_1.wr W49
      have S_PLAIN := S_PLAIN.wr W49
      have S_COMPACT_STRINGS := S_COMPACT_STRINGS.wr W49
      have E_b1 := E_b1.wr W49
      have K49 := K48.wr W49 (Or.inr sz_b1)
      have zn49 : n0 ≤ h49.size := Nat.le_trans zn48 (Keep.of_wr W49).1
      have hk49 := Nat.le_trans hk48 (Keep.of_wr W49).1
      have N49 := Fr.snoc X49 N48 g_b1
      have V_b1 : Arv Z h49 b1 k1 .char (12 : Int32) [(.int ((83 : Int32).toUInt32.toUInt16.toUInt32.toInt32)), (.int ((67 : Int32).toUInt32.toUInt16.toUInt32.toInt32)), (.int ((82 : Int32).toUInt32.toUInt16.toUInt32.toInt32)), (.int ((65 : Int32).toUInt32.toUInt16.toUInt32.toInt32)), (.int ((77 : Int32).toUInt32.toUInt16.toUInt32.toInt32)), (.int ((45 : Int32).toUInt32.toUInt16.toUInt32.toInt32)), (.int ((((((q4.toUInt64 >>> ((48 : Int32) &&& 0x3f).toInt64.toUInt64).toInt64) &&& (255 : Int64)).toInt32).toUInt32.toUInt16.toUInt32.toInt32).toUInt32.toUInt16.toUInt32.toInt32)), (.int ((((((q4.toUInt64 >>> ((56 : Int32) &&& 0x3f).toInt64.toUInt64).toInt64) &&& (255 : Int64)).toInt32).toUInt32.toUInt16.toUInt32.toInt32).toUInt32.toUInt16.toUInt32.toInt32)), (.int ((((q5 &&& (255 : Int64)).toInt32).toUInt32.toUInt16.toUInt32.toInt32).toUInt32.toUInt16.toUInt32.toInt32)), (.int ((((((q5.toUInt64 >>> ((8 : Int32) &&& 0x3f).toInt64.toUInt64).toInt64) &&& (255 : Int64)).toInt32).toUInt32.toUInt16.toUInt32.toInt32).toUInt32.toUInt16.toUInt32.toInt32)), (.int ((((((q5.toUInt64 >>> ((16 : Int32) &&& 0x3f).toInt64.toUInt64).toInt64) &&& (255 : Int64)).toInt32).toUInt32.toUInt16.toUInt32.toInt32).toUInt32.toUInt16.toUInt32.toInt32)), (.int ((((((q5.toUInt64 >>> ((24 : Int32) &&& 0x3f).toInt64.toUInt64).toInt64) &&& (255 : Int64)).toInt32).toUInt32.toUInt16.toUInt32.toInt32).toUInt32.toUInt16.toUInt32.toInt32))] (.int (0 : Int32)) := V_b1_49
      refine OGo.go (B := T49.setTop (mkF m 271 #[.val (.int p0), .val (.int p1), .val (.int p2), .val (.int p3), .val (.long q4), .second, .val (.long q5), .second, .val (.ref b1), .val (.int (p0 &&& (3 : Int32))), .unset, .unset, .unset, .unset, .unset] [])) ?_ st49
      refine OGo.go (B := T49.setTop (mkF m 273 #[.val (.int p0), .val (.int p1), .val (.int p2), .val (.int p3), .val (.long q4), .second, .val (.long q5), .second, .val (.ref b1), .val (.int (p0 &&& (3 : Int32))), .unset, .unset, .unset, .unset, .unset] [(.ref b1)])) ?_ (fun tX kX => XS.aload X49.here hx rfl (hb hby at_271) rfl rfl kX)
      refine OGo.go (B := T49.setTop (mkF m 275 #[.val (.int p0), .val (.int p1), .val (.int p2), .val (.int p3), .val (.long q4), .second, .val (.long q5), .second, .val (.ref b1), .val (.int (p0 &&& (3 : Int32))), .unset, .unset, .unset, .unset, .unset] [(.int (6 : Int32)), (.ref b1)])) ?_ (fun tX kX => XS.bipush X49.here hx rfl (hb hby at_273) kX)
      refine OGo.go (B := T49.setTop (mkF m 277 #[.val (.int p0), .val (.int p1), .val (.int p2), .val (.int p3), .val (.long q4), .second, .val (.long q5), .second, .val (.ref b1), .val (.int (p0 &&& (3 : Int32))), .unset, .unset, .unset, .unset, .unset] [(.int (83 : Int32)), (.int (6 : Int32)), (.ref b1)])) ?_ (fun tX kX => XS.bipush X49.here hx rfl (hb hby at_275) kX)
      obtain ⟨cl50, Ar50, qa50, S50, N50', H50, G50⟩ := id V_b1
      have hin50 := inb_of (j := (6 : Int32)) S50 ⟨by decide, by decide⟩
      obtain ⟨T50, h50, X50, e50, W50, st50⟩ := stC X49 hx hZ e49 Ar50 (j := (6 : Int32)) hin50 (g := (mkF m 277 #[.val (.int p0), .val (.int p1), .val (.int p2), .val (.int p3), .val (.long q4), .second, .val (.long q5), .second, .val (.ref b1), .val (.int (p0 &&& (3 : Int32))), .unset, .unset, .unset, .unset, .unset] [(.int (83 : Int32)), (.int (6 : Int32)), (.ref b1)])) rfl rfl (hb hby at_277)
      have V_b1_50 := Arv.set Ar50 qa50 S50 N50' H50 G50 (fits_nar_char _) W50 6 rfl (Nat.le_of_ble_eq_true rfl)
      have Sfo50 := (Safe.arr (EL := own_EL) hZ.alike Ar50 (by decide))
      have CHo50 := hCH
      have Sf_b1 := Safe.wr W50 Sfo50 CHo50 Sf_b1
      have hCH := CHv.wr W50 Sfo50 CHo50
      have S_VAL := S_VAL.wr W50
      have E_uv := E_uv.wr W50
      have V_uv := V_uv.other W50 ne_uv_b1
      have F_wireName_m0 := F_wireName_m0.other W50 (Or.inl ne_m0_b1)
      have F_wireName_m1 := F_wireName_m1.other W50 (Or.inl ne_m1_b1)
      have E_w0 := E_w0.wr W50
      have F_value_w0 := F_value_w0.other W50 (Or.inl ne_w0_b1)
      have F_coder_w0 := F_coder_w0.other W50 (Or.inl ne_w0_b1)
      have V_v0 := V_v0.other W50 ne_v0_b1
      have E_w1 := E_w1.wr W50
      have F_value_w1 := F_value_w1.other W50 (Or.inl ne_w1_b1)
      have F_coder_w1 := F_coder_w1.other W50 (Or.inl ne_w1_b1)
      have V_v1 := V_v1.other W50 ne_v1_b1
      have S_SCRAM_SHA_1 := S_SCRAM_SHA_1.wr W50
      have S_PLAIN := S_PLAIN.wr W50
      have S_COMPACT_STRINGS := S_COMPACT_STRINGS.wr W50
      have E_b1 := E_b1.wr W50
      have K50 := K49.wr W50 (Or.inr sz_b1)
      have zn50 : n0 ≤ h50.size := Nat.le_trans zn49 (Keep.of_wr W50).1
      have hk50 := Nat.le_trans hk49 (Keep.of_wr W50).1
      have N50 := Fr.snoc X50 N49 g_b1
      have V_b1 : Arv Z h50 b1 k1 .char (12 : Int32) [(.int ((83 : Int32).toUInt32.toUInt16.toUInt32.toInt32)), (.int ((67 : Int32).toUInt32.toUInt16.toUInt32.toInt32)), (.int ((82 : Int32).toUInt32.toUInt16.toUInt32.toInt32)), (.int ((65 : Int32).toUInt32.toUInt16.toUInt32.toInt32)), (.int ((77 : Int32).toUInt32.toUInt16.toUInt32.toInt32)), (.int ((45 : Int32).toUInt32.toUInt16.toUInt32.toInt32)), (.int ((83 : Int32).toUInt32.toUInt16.toUInt32.toInt32)), (.int ((((((q4.toUInt64 >>> ((56 : Int32) &&& 0x3f).toInt64.toUInt64).toInt64) &&& (255 : Int64)).toInt32).toUInt32.toUInt16.toUInt32.toInt32).toUInt32.toUInt16.toUInt32.toInt32)), (.int ((((q5 &&& (255 : Int64)).toInt32).toUInt32.toUInt16.toUInt32.toInt32).toUInt32.toUInt16.toUInt32.toInt32)), (.int ((((((q5.toUInt64 >>> ((8 : Int32) &&& 0x3f).toInt64.toUInt64).toInt64) &&& (255 : Int64)).toInt32).toUInt32.toUInt16.toUInt32.toInt32).toUInt32.toUInt16.toUInt32.toInt32)), (.int ((((((q5.toUInt64 >>> ((16 : Int32) &&& 0x3f).toInt64.toUInt64).toInt64) &&& (255 : Int64)).toInt32).toUInt32.toUInt16.toUInt32.toInt32).toUInt32.toUInt16.toUInt32.toInt32)), (.int ((((((q5.toUInt64 >>> ((24 : Int32) &&& 0x3f).toInt64.toUInt64).toInt64) &&& (255 : Int64)).toInt32).toUInt32.toUInt16.toUInt32.toInt32).toUInt32.toUInt16.toUInt32.toInt32))] (.int (0 : Int32)) := V_b1_50
      refine OGo.go (B := T50.setTop (mkF m 278 #[.val (.int p0), .val (.int p1), .val (.int p2), .val (.int p3), .val (.long q4), .second, .val (.long q5), .second, .val (.ref b1), .val (.int (p0 &&& (3 : Int32))), .unset, .unset, .unset, .unset, .unset] [])) ?_ st50
      refine OGo.go (B := T50.setTop (mkF m 280 #[.val (.int p0), .val (.int p1), .val (.int p2), .val (.int p3), .val (.long q4), .second, .val (.long q5), .second, .val (.ref b1), .val (.int (p0 &&& (3 : Int32))), .unset, .unset, .unset, .unset, .unset] [(.ref b1)])) ?_ (fun tX kX => XS.aload X50.here hx rfl (hb hby at_278) rfl rfl kX)
      refine OGo.go (B := T50.setTop (mkF m 282 #[.val (.int p0), .val (.int p1), .val (.int p2), .val (.int p3), .val (.long q4), .second, .val (.long q5), .second, .val (.ref b1), .val (.int (p0 &&& (3 : Int32))), .unset, .unset, .unset, .unset, .unset] [(.int (7 : Int32)), (.ref b1)])) ?_ (fun tX kX => XS.bipush X50.here hx rfl (hb hby at_280) kX)
      refine OGo.go (B := T50.setTop (mkF m 284 #[.val (.int p0), .val (.int p1), .val (.int p2), .val (.int p3), .val (.long q4), .second, .val (.long q5), .second, .val (.ref b1), .val (.int (p0 &&& (3 : Int32))), .unset, .unset, .unset, .unset, .unset] [(.int (72 : Int32)), (.int (7 : Int32)), (.ref b1)])) ?_ (fun tX kX => XS.bipush X50.here hx rfl (hb hby at_282) kX)
      obtain ⟨cl51, Ar51, qa51, S51, N51', H51, G51⟩ := id V_b1
      have hin51 := inb_of (j := (7 : Int32)) S51 ⟨by decide, by decide⟩
      obtain ⟨T51, h51, X51, e51, W51, st51⟩ := stC X50 hx hZ e50 Ar51 (j := (7 : Int32)) hin51 (g := (mkF m 284 #[.val (.int p0), .val (.int p1), .val (.int p2), .val (.int p3), .val (.long q4), .second, .val (.long q5), .second, .val (.ref b1), .val (.int (p0 &&& (3 : Int32))), .unset, .unset, .unset, .unset, .unset] [(.int (72 : Int32)), (.int (7 : Int32)), (.ref b1)])) rfl rfl (hb hby at_284)
      have V_b1_51 := Arv.set Ar51 qa51 S51 N51' H51 G51 (fits_nar_char _) W51 7 rfl (Nat.le_of_ble_eq_true rfl)
      have Sfo51 := (Safe.arr (EL := own_EL) hZ.alike Ar51 (by decide))
      have CHo51 := hCH
      have Sf_b1 := Safe.wr W51 Sfo51 CHo51 Sf_b1
      have hCH := CHv.wr W51 Sfo51 CHo51
      have S_VAL := S_VAL.wr W51
      have E_uv := E_uv.wr W51
      have V_uv := V_uv.other W51 ne_uv_b1
      have F_wireName_m0 := F_wireName_m0.other W51 (Or.inl ne_m0_b1)
      have F_wireName_m1 := F_wireName_m1.other W51 (Or.inl ne_m1_b1)
      have E_w0 := E_w0.wr W51
      have F_value_w0 := F_value_w0.other W51 (Or.inl ne_w0_b1)
      have F_coder_w0 := F_coder_w0.other W51 (Or.inl ne_w0_b1)
      have V_v0 := V_v0.other W51 ne_v0_b1
      have E_w1 := E_w1.wr W51
      have F_value_w1 := F_value_w1.other W51 (Or.inl ne_w1_b1)
      have F_coder_w1 := F_coder_w1.other W51 (Or.inl ne_w1_b1)
      have V_v1 := V_v1.other W51 ne_v1_b1
      have S_SCRAM_SHA_1 := S_SCRAM_SHA_1.wr W51
      have S_PLAIN := S_PLAIN.wr W51
      have S_COMPACT_STRINGS := S_COMPACT_STRINGS.wr W51
      have E_b1 := E_b1.wr W51
      have K51 := K50.wr W51 (Or.inr sz_b1)
      have zn51 : n0 ≤ h51.size := Nat.le_trans zn50 (Keep.of_wr W51).1
      have hk51 := Nat.le_trans hk50 (Keep.of_wr W51).1
      have N51 := Fr.snoc X51 N50 g_b1
      have V_b1 : Arv Z h51 b1 k1 .char (12 : Int32) [(.int ((83 : Int32).toUInt32.toUInt16.toUInt32.toInt32)), (.int ((67 : Int32).toUInt32.toUInt16.toUInt32.toInt32)), (.int ((82 : Int32).toUInt32.toUInt16.toUInt32.toInt32)), (.int ((65 : Int32).toUInt32.toUInt16.toUInt32.toInt32)), (.int ((77 : Int32).toUInt32.toUInt16.toUInt32.toInt32)), (.int ((45 : Int32).toUInt32.toUInt16.toUInt32.toInt32)), (.int ((83 : Int32).toUInt32.toUInt16.toUInt32.toInt32)), (.int ((72 : Int32).toUInt32.toUInt16.toUInt32.toInt32)), (.int ((((q5 &&& (255 : Int64)).toInt32).toUInt32.toUInt16.toUInt32.toInt32).toUInt32.toUInt16.toUInt32.toInt32)), (.int ((((((q5.toUInt64 >>> ((8 : Int32) &&& 0x3f).toInt64.toUInt64).toInt64) &&& (255 : Int64)).toInt32).toUInt32.toUInt16.toUInt32.toInt32).toUInt32.toUInt16.toUInt32.toInt32)), (.int ((((((q5.toUInt64 >>> ((16 : Int32) &&& 0x3f).toInt64.toUInt64).toInt64) &&& (255 : Int64)).toInt32).toUInt32.toUInt16.toUInt32.toInt32).toUInt32.toUInt16.toUInt32.toInt32)), (.int ((((((q5.toUInt64 >>> ((24 : Int32) &&& 0x3f).toInt64.toUInt64).toInt64) &&& (255 : Int64)).toInt32).toUInt32.toUInt16.toUInt32.toInt32).toUInt32.toUInt16.toUInt32.toInt32))] (.int (0 : Int32)) := V_b1_51
      refine OGo.go (B := T51.setTop (mkF m 285 #[.val (.int p0), .val (.int p1), .val (.int p2), .val (.int p3), .val (.long q4), .second, .val (.long q5), .second, .val (.ref b1), .val (.int (p0 &&& (3 : Int32))), .unset, .unset, .unset, .unset, .unset] [])) ?_ st51
      refine OGo.go (B := T51.setTop (mkF m 287 #[.val (.int p0), .val (.int p1), .val (.int p2), .val (.int p3), .val (.long q4), .second, .val (.long q5), .second, .val (.ref b1), .val (.int (p0 &&& (3 : Int32))), .unset, .unset, .unset, .unset, .unset] [(.ref b1)])) ?_ (fun tX kX => XS.aload X51.here hx rfl (hb hby at_285) rfl rfl kX)
      refine OGo.go (B := T51.setTop (mkF m 289 #[.val (.int p0), .val (.int p1), .val (.int p2), .val (.int p3), .val (.long q4), .second, .val (.long q5), .second, .val (.ref b1), .val (.int (p0 &&& (3 : Int32))), .unset, .unset, .unset, .unset, .unset] [(.int (8 : Int32)), (.ref b1)])) ?_ (fun tX kX => XS.bipush X51.here hx rfl (hb hby at_287) kX)
      refine OGo.go (B := T51.setTop (mkF m 291 #[.val (.int p0), .val (.int p1), .val (.int p2), .val (.int p3), .val (.long q4), .second, .val (.long q5), .second, .val (.ref b1), .val (.int (p0 &&& (3 : Int32))), .unset, .unset, .unset, .unset, .unset] [(.int (65 : Int32)), (.int (8 : Int32)), (.ref b1)])) ?_ (fun tX kX => XS.bipush X51.here hx rfl (hb hby at_289) kX)
      obtain ⟨cl52, Ar52, qa52, S52, N52', H52, G52⟩ := id V_b1
      have hin52 := inb_of (j := (8 : Int32)) S52 ⟨by decide, by decide⟩
      obtain ⟨T52, h52, X52, e52, W52, st52⟩ := stC X51 hx hZ e51 Ar52 (j := (8 : Int32)) hin52 (g := (mkF m 291 #[.val (.int p0), .val (.int p1), .val (.int p2), .val (.int p3), .val (.long q4), .second, .val (.long q5), .second, .val (.ref b1), .val (.int (p0 &&& (3 : Int32))), .unset, .unset, .unset, .unset, .unset] [(.int (65 : Int32)), (.int (8 : Int32)), (.ref b1)])) rfl rfl (hb hby at_291)
      have V_b1_52 := Arv.set Ar52 qa52 S52 N52' H52 G52 (fits_nar_char _) W52 8 rfl (Nat.le_of_ble_eq_true rfl)
      have Sfo52 := (Safe.arr (EL := own_EL) hZ.alike Ar52 (by decide))
      have CHo52 := hCH
      have Sf_b1 := Safe.wr W52 Sfo52 CHo52 Sf_b1
      have hCH := CHv.wr W52 Sfo52 CHo52
      have S_VAL := S_VAL.wr W52
      have E_uv := E_uv.wr W52
      have V_uv := V_uv.other W52 ne_uv_b1
      have F_wireName_m0 := F_wireName_m0.other W52 (Or.inl ne_m0_b1)
      have F_wireName_m1 := F_wireName_m1.other W52 (Or.inl ne_m1_b1)
      have E_w0 := E_w0.wr W52
      have F_value_w0 := F_value_w0.other W52 (Or.inl ne_w0_b1)
      have F_coder_w0 := F_coder_w0.other W52 (Or.inl ne_w0_b1)
      have V_v0 := V_v0.other W52 ne_v0_b1
      have E_w1 := E_w1.wr W52
      have F_value_w1 := F_value_w1.other W52 (Or.inl ne_w1_b1)
      have F_coder_w1 := F_coder_w1.other W52 (Or.inl ne_w1_b1)
      have V_v1 := V_v1.other W52 ne_v1_b1
      have S_SCRAM_SHA_1 := S_SCRAM_SHA_1.wr W52
      have S_PLAIN := S_PLAIN.wr W52
      have S_COMPACT_STRINGS := S_COMPACT_STRINGS.wr W52
      have E_b1 := E_b1.wr W52
      have K52 := K51.wr W52 (Or.inr sz_b1)
      have zn52 : n0 ≤ h52.size := Nat.le_trans zn51 (Keep.of_wr W52).1
      have hk52 := Nat.le_trans hk51 (Keep.of_wr W52).1
      have N52 := Fr.snoc X52 N51 g_b1
      have V_b1 : Arv Z h52 b1 k1 .char (12 : Int32) [(.int ((83 : Int32).toUInt32.toUInt16.toUInt32.toInt32)), (.int ((67 : Int32).toUInt32.toUInt16.toUInt32.toInt32)), (.int ((82 : Int32).toUInt32.toUInt16.toUInt32.toInt32)), (.int ((65 : Int32).toUInt32.toUInt16.toUInt32.toInt32)), (.int ((77 : Int32).toUInt32.toUInt16.toUInt32.toInt32)), (.int ((45 : Int32).toUInt32.toUInt16.toUInt32.toInt32)), (.int ((83 : Int32).toUInt32.toUInt16.toUInt32.toInt32)), (.int ((72 : Int32).toUInt32.toUInt16.toUInt32.toInt32)), (.int ((65 : Int32).toUInt32.toUInt16.toUInt32.toInt32)), (.int ((((((q5.toUInt64 >>> ((8 : Int32) &&& 0x3f).toInt64.toUInt64).toInt64) &&& (255 : Int64)).toInt32).toUInt32.toUInt16.toUInt32.toInt32).toUInt32.toUInt16.toUInt32.toInt32)), (.int ((((((q5.toUInt64 >>> ((16 : Int32) &&& 0x3f).toInt64.toUInt64).toInt64) &&& (255 : Int64)).toInt32).toUInt32.toUInt16.toUInt32.toInt32).toUInt32.toUInt16.toUInt32.toInt32)), (.int ((((((q5.toUInt64 >>> ((24 : Int32) &&& 0x3f).toInt64.toUInt64).toInt64) &&& (255 : Int64)).toInt32).toUInt32.toUInt16.toUInt32.toInt32).toUInt32.toUInt16.toUInt32.toInt32))] (.int (0 : Int32)) := V_b1_52
      refine OGo.go (B := T52.setTop (mkF m 292 #[.val (.int p0), .val (.int p1), .val (.int p2), .val (.int p3), .val (.long q4), .second, .val (.long q5), .second, .val (.ref b1), .val (.int (p0 &&& (3 : Int32))), .unset, .unset, .unset, .unset, .unset] [])) ?_ st52
      refine OGo.go (B := T52.setTop (mkF m 294 #[.val (.int p0), .val (.int p1), .val (.int p2), .val (.int p3), .val (.long q4), .second, .val (.long q5), .second, .val (.ref b1), .val (.int (p0 &&& (3 : Int32))), .unset, .unset, .unset, .unset, .unset] [(.ref b1)])) ?_ (fun tX kX => XS.aload X52.here hx rfl (hb hby at_292) rfl rfl kX)
      refine OGo.go (B := T52.setTop (mkF m 296 #[.val (.int p0), .val (.int p1), .val (.int p2), .val (.int p3), .val (.long q4), .second, .val (.long q5), .second, .val (.ref b1), .val (.int (p0 &&& (3 : Int32))), .unset, .unset, .unset, .unset, .unset] [(.int (9 : Int32)), (.ref b1)])) ?_ (fun tX kX => XS.bipush X52.here hx rfl (hb hby at_294) kX)
      refine OGo.go (B := T52.setTop (mkF m 298 #[.val (.int p0), .val (.int p1), .val (.int p2), .val (.int p3), .val (.long q4), .second, .val (.long q5), .second, .val (.ref b1), .val (.int (p0 &&& (3 : Int32))), .unset, .unset, .unset, .unset, .unset] [(.int (45 : Int32)), (.int (9 : Int32)), (.ref b1)])) ?_ (fun tX kX => XS.bipush X52.here hx rfl (hb hby at_296) kX)
      obtain ⟨cl53, Ar53, qa53, S53, N53', H53, G53⟩ := id V_b1
      have hin53 := inb_of (j := (9 : Int32)) S53 ⟨by decide, by decide⟩
      obtain ⟨T53, h53, X53, e53, W53, st53⟩ := stC X52 hx hZ e52 Ar53 (j := (9 : Int32)) hin53 (g := (mkF m 298 #[.val (.int p0), .val (.int p1), .val (.int p2), .val (.int p3), .val (.long q4), .second, .val (.long q5), .second, .val (.ref b1), .val (.int (p0 &&& (3 : Int32))), .unset, .unset, .unset, .unset, .unset] [(.int (45 : Int32)), (.int (9 : Int32)), (.ref b1)])) rfl rfl (hb hby at_298)
      have V_b1_53 := Arv.set Ar53 qa53 S53 N53' H53 G53 (fits_nar_char _) W53 9 rfl (Nat.le_of_ble_eq_true rfl)
      have Sfo53 := (Safe.arr (EL := own_EL) hZ.alike Ar53 (by decide))
      have CHo53 := hCH
      have Sf_b1 := Safe.wr W53 Sfo53 CHo53 Sf_b1
      have hCH := CHv.wr W53 Sfo53 CHo53
      have S_VAL := S_VAL.wr W53
      have E_uv := E_uv.wr W53
      have V_uv := V_uv.other W53 ne_uv_b1
      have F_wireName_m0 := F_wireName_m0.other W53 (Or.inl ne_m0_b1)
      have F_wireName_m1 := F_wireName_m1.other W53 (Or.inl ne_m1_b1)
      have E_w0 := E_w0.wr W53
      have F_value_w0 := F_value_w0.other W53 (Or.inl ne_w0_b1)
      have F_coder_w0 := F_coder_w0.other W53 (Or.inl ne_w0_b1)
      have V_v0 := V_v0.other W53 ne_v0_b1
      have E_w1 := E_w1.wr W53
      have F_value_w1 := F_value_w1.other W53 (Or.inl ne_w1_b1)
      have F_coder_w1 := F_coder_w1.other W53 (Or.inl ne_w1_b1)
      have V_v1 := V_v1.other W53 ne_v1_b1
      have S_SCRAM_SHA_1 := S_SCRAM_SHA_1.wr W53
      have S_PLAIN := S_PLAIN.wr W53
      have S_COMPACT_STRINGS := S_COMPACT_STRINGS.wr W53
      have E_b1 := E_b1.wr W53
      have K53 := K52.wr W53 (Or.inr sz_b1)
      have zn53 : n0 ≤ h53.size := Nat.le_trans zn52 (Keep.of_wr W53).1
      have hk53 := Nat.le_trans hk52 (Keep.of_wr W53).1
      have N53 := Fr.snoc X53 N52 g_b1
      have V_b1 : Arv Z h53 b1 k1 .char (12 : Int32) [(.int ((83 : Int32).toUInt32.toUInt16.toUInt32.toInt32)), (.int ((67 : Int32).toUInt32.toUInt16.toUInt32.toInt32)), (.int ((82 : Int32).toUInt32.toUInt16.toUInt32.toInt32)), (.int ((65 : Int32).toUInt32.toUInt16.toUInt32.toInt32)), (.int ((77 : Int32).toUInt32.toUInt16.toUInt32.toInt32)), (.int ((45 : Int32).toUInt32.toUInt16.toUInt32.toInt32)), (.int ((83 : Int32).toUInt32.toUInt16.toUInt32.toInt32)), (.int ((72 : Int32).toUInt32.toUInt16.toUInt32.toInt32)), (.int ((65 : Int32).toUInt32.toUInt16.toUInt32.toInt32)), (.int ((45 : Int32).toUInt32.toUInt16.toUInt32.toInt32)), (.int ((((((q5.toUInt64 >>> ((16 : Int32) &&& 0x3f).toInt64.toUInt64).toInt64) &&& (255 : Int64)).toInt32).toUInt32.toUInt16.toUInt32.toInt32).toUInt32.toUInt16.toUInt32.toInt32)), (.int ((((((q5.toUInt64 >>> ((24 : Int32) &&& 0x3f).toInt64.toUInt64).toInt64) &&& (255 : Int64)).toInt32).toUInt32.toUInt16.toUInt32.toInt32).toUInt32.toUInt16.toUInt32.toInt32))] (.int (0 : Int32)) := V_b1_53
      refine OGo.go (B := T53.setTop (mkF m 299 #[.val (.int p0), .val (.int p1), .val (.int p2), .val (.int p3), .val (.long q4), .second, .val (.long q5), .second, .val (.ref b1), .val (.int (p0 &&& (3 : Int32))), .unset, .unset, .unset, .unset, .unset] [])) ?_ st53
      refine OGo.go (B := T53.setTop (mkF m 301 #[.val (.int p0), .val (.int p1), .val (.int p2), .val (.int p3), .val (.long q4), .second, .val (.long q5), .second, .val (.ref b1), .val (.int (p0 &&& (3 : Int32))), .unset, .unset, .unset, .unset, .unset] [(.ref b1)])) ?_ (fun tX kX => XS.aload X53.here hx rfl (hb hby at_299) rfl rfl kX)
      refine OGo.go (B := T53.setTop (mkF m 303 #[.val (.int p0), .val (.int p1), .val (.int p2), .val (.int p3), .val (.long q4), .second, .val (.long q5), .second, .val (.ref b1), .val (.int (p0 &&& (3 : Int32))), .unset, .unset, .unset, .unset, .unset] [(.int (10 : Int32)), (.ref b1)])) ?_ (fun tX kX => XS.bipush X53.here hx rfl (hb hby at_301) kX)
      refine OGo.go (B := T53.setTop (mkF m 305 #[.val (.int p0), .val (.int p1), .val (.int p2), .val (.int p3), .val (.long q4), .second, .val (.long q5), .second, .val (.ref b1), .val (.int (p0 &&& (3 : Int32))), .unset, .unset, .unset, .unset, .unset] [(.int (49 : Int32)), (.int (10 : Int32)), (.ref b1)])) ?_ (fun tX kX => XS.bipush X53.here hx rfl (hb hby at_303) kX)
      obtain ⟨cl54, Ar54, qa54, S54, N54', H54, G54⟩ := id V_b1
      have hin54 := inb_of (j := (10 : Int32)) S54 ⟨by decide, by decide⟩
      obtain ⟨T54, h54, X54, e54, W54, st54⟩ := stC X53 hx hZ e53 Ar54 (j := (10 : Int32)) hin54 (g := (mkF m 305 #[.val (.int p0), .val (.int p1), .val (.int p2), .val (.int p3), .val (.long q4), .second, .val (.long q5), .second, .val (.ref b1), .val (.int (p0 &&& (3 : Int32))), .unset, .unset, .unset, .unset, .unset] [(.int (49 : Int32)), (.int (10 : Int32)), (.ref b1)])) rfl rfl (hb hby at_305)
      have V_b1_54 := Arv.set Ar54 qa54 S54 N54' H54 G54 (fits_nar_char _) W54 10 rfl (Nat.le_of_ble_eq_true rfl)
      have Sfo54 := (Safe.arr (EL := own_EL) hZ.alike Ar54 (by decide))
      have CHo54 := hCH
      have Sf_b1 := Safe.wr W54 Sfo54 CHo54 Sf_b1
      have hCH := CHv.wr W54 Sfo54 CHo54
      have S_VAL := S_VAL.wr W54
      have E_uv := E_uv.wr W54
      have V_uv := V_uv.other W54 ne_uv_b1
      have F_wireName_m0 := F_wireName_m0.other W54 (Or.inl ne_m0_b1)
      have F_wireName_m1 := F_wireName_m1.other W54 (Or.inl ne_m1_b1)
      have E_w0 := E_w0.wr W54
      have F_value_w0 := F_value_w0.other W54 (Or.inl ne_w0_b1)
      have F_coder_w0 := F_coder_w0.other W54 (Or.inl ne_w0_b1)
      have V_v0 := V_v0.other W54 ne_v0_b1
      have E_w1 := E_w1.wr W54
      have F_value_w1 := F_value_w1.other W54 (Or.inl ne_w1_b1)
      have F_coder_w1 := F_coder_w1.other W54 (Or.inl ne_w1_b1)
      have V_v1 := V_v1.other W54 ne_v1_b1
      have S_SCRAM_SHA_1 := S_SCRAM_SHA_1.wr W54
      have S_PLAIN := S_PLAIN.wr W54
      have S_COMPACT_STRINGS := S_COMPACT_STRINGS.wr W54
      have E_b1 := E_b1.wr W54
      have K54 := K53.wr W54 (Or.inr sz_b1)
      have zn54 : n0 ≤ h54.size := Nat.le_trans zn53 (Keep.of_wr W54).1
      have hk54 := Nat.le_trans hk53 (Keep.of_wr W54).1
      have N54 := Fr.snoc X54 N53 g_b1
      have V_b1 : Arv Z h54 b1 k1 .char (12 : Int32) [(.int ((83 : Int32).toUInt32.toUInt16.toUInt32.toInt32)), (.int ((67 : Int32).toUInt32.toUInt16.toUInt32.toInt32)), (.int ((82 : Int32).toUInt32.toUInt16.toUInt32.toInt32)), (.int ((65 : Int32).toUInt32.toUInt16.toUInt32.toInt32)), (.int ((77 : Int32).toUInt32.toUInt16.toUInt32.toInt32)), (.int ((45 : Int32).toUInt32.toUInt16.toUInt32.toInt32)), (.int ((83 : Int32).toUInt32.toUInt16.toUInt32.toInt32)), (.int ((72 : Int32).toUInt32.toUInt16.toUInt32.toInt32)), (.int ((65 : Int32).toUInt32.toUInt16.toUInt32.toInt32)), (.int ((45 : Int32).toUInt32.toUInt16.toUInt32.toInt32)), (.int ((49 : Int32).toUInt32.toUInt16.toUInt32.toInt32)), (.int ((((((q5.toUInt64 >>> ((24 : Int32) &&& 0x3f).toInt64.toUInt64).toInt64) &&& (255 : Int64)).toInt32).toUInt32.toUInt16.toUInt32.toInt32).toUInt32.toUInt16.toUInt32.toInt32))] (.int (0 : Int32)) := V_b1_54
      refine OGo.go (B := T54.setTop (mkF m 306 #[.val (.int p0), .val (.int p1), .val (.int p2), .val (.int p3), .val (.long q4), .second, .val (.long q5), .second, .val (.ref b1), .val (.int (p0 &&& (3 : Int32))), .unset, .unset, .unset, .unset, .unset] [])) ?_ st54
      exact J306 T54 _ h54 [(.int ((83 : Int32).toUInt32.toUInt16.toUInt32.toInt32)), (.int ((67 : Int32).toUInt32.toUInt16.toUInt32.toInt32)), (.int ((82 : Int32).toUInt32.toUInt16.toUInt32.toInt32)), (.int ((65 : Int32).toUInt32.toUInt16.toUInt32.toInt32)), (.int ((77 : Int32).toUInt32.toUInt16.toUInt32.toInt32)), (.int ((45 : Int32).toUInt32.toUInt16.toUInt32.toInt32)), (.int ((83 : Int32).toUInt32.toUInt16.toUInt32.toInt32)), (.int ((72 : Int32).toUInt32.toUInt16.toUInt32.toInt32)), (.int ((65 : Int32).toUInt32.toUInt16.toUInt32.toInt32)), (.int ((45 : Int32).toUInt32.toUInt16.toUInt32.toInt32)), (.int ((49 : Int32).toUInt32.toUInt16.toUInt32.toInt32)), (.int ((((((q5.toUInt64 >>> ((24 : Int32) &&& 0x3f).toInt64.toUInt64).toInt64) &&& (255 : Int64)).toInt32).toUInt32.toUInt16.toUInt32.toInt32).toUInt32.toUInt16.toUInt32.toInt32))] X54 e54 N54 zn54 K54 hCH S_VAL E_uv V_uv F_wireName_m0 F_wireName_m1 E_w0 F_value_w0 F_coder_w0 V_v0 E_w1 F_value_w1 F_coder_w1 V_v1 S_SCRAM_SHA_1 S_PLAIN S_COMPACT_STRINGS Sf_b1 E_b1 V_b1 (own_ok12 (by decide) (by decide) (by decide) (by decide) (by decide) (by decide) (by decide) (by decide) (by decide) (by decide) (by decide) (own_leL _))
    ·
      refine OGo.go (B := T13.setTop (mkF m 306 #[.val (.int p0), .val (.int p1), .val (.int p2), .val (.int p3), .val (.long q4), .second, .val (.long q5), .second, .val (.ref b1), .val (.int (p0 &&& (3 : Int32))), .unset, .unset, .unset, .unset, .unset] [])) ?_ (fun tX kX => XS.icmpYes X13.here hx rfl (pc0 := 232) (pc' := 306) rfl (hb hby at_232) rfl (feq hc232).2 (by decide) (by decide) kX)
      exact J306 T13 _ h13 [(.int ((((q4 &&& (255 : Int64)).toInt32).toUInt32.toUInt16.toUInt32.toInt32).toUInt32.toUInt16.toUInt32.toInt32)), (.int ((((((q4.toUInt64 >>> ((8 : Int32) &&& 0x3f).toInt64.toUInt64).toInt64) &&& (255 : Int64)).toInt32).toUInt32.toUInt16.toUInt32.toInt32).toUInt32.toUInt16.toUInt32.toInt32)), (.int ((((((q4.toUInt64 >>> ((16 : Int32) &&& 0x3f).toInt64.toUInt64).toInt64) &&& (255 : Int64)).toInt32).toUInt32.toUInt16.toUInt32.toInt32).toUInt32.toUInt16.toUInt32.toInt32)), (.int ((((((q4.toUInt64 >>> ((24 : Int32) &&& 0x3f).toInt64.toUInt64).toInt64) &&& (255 : Int64)).toInt32).toUInt32.toUInt16.toUInt32.toInt32).toUInt32.toUInt16.toUInt32.toInt32)), (.int ((((((q4.toUInt64 >>> ((32 : Int32) &&& 0x3f).toInt64.toUInt64).toInt64) &&& (255 : Int64)).toInt32).toUInt32.toUInt16.toUInt32.toInt32).toUInt32.toUInt16.toUInt32.toInt32)), (.int ((((((q4.toUInt64 >>> ((40 : Int32) &&& 0x3f).toInt64.toUInt64).toInt64) &&& (255 : Int64)).toInt32).toUInt32.toUInt16.toUInt32.toInt32).toUInt32.toUInt16.toUInt32.toInt32)), (.int ((((((q4.toUInt64 >>> ((48 : Int32) &&& 0x3f).toInt64.toUInt64).toInt64) &&& (255 : Int64)).toInt32).toUInt32.toUInt16.toUInt32.toInt32).toUInt32.toUInt16.toUInt32.toInt32)), (.int ((((((q4.toUInt64 >>> ((56 : Int32) &&& 0x3f).toInt64.toUInt64).toInt64) &&& (255 : Int64)).toInt32).toUInt32.toUInt16.toUInt32.toInt32).toUInt32.toUInt16.toUInt32.toInt32)), (.int ((((q5 &&& (255 : Int64)).toInt32).toUInt32.toUInt16.toUInt32.toInt32).toUInt32.toUInt16.toUInt32.toInt32)), (.int ((((((q5.toUInt64 >>> ((8 : Int32) &&& 0x3f).toInt64.toUInt64).toInt64) &&& (255 : Int64)).toInt32).toUInt32.toUInt16.toUInt32.toInt32).toUInt32.toUInt16.toUInt32.toInt32)), (.int ((((((q5.toUInt64 >>> ((16 : Int32) &&& 0x3f).toInt64.toUInt64).toInt64) &&& (255 : Int64)).toInt32).toUInt32.toUInt16.toUInt32.toInt32).toUInt32.toUInt16.toUInt32.toInt32)), (.int ((((((q5.toUInt64 >>> ((24 : Int32) &&& 0x3f).toInt64.toUInt64).toInt64) &&& (255 : Int64)).toInt32).toUInt32.toUInt16.toUInt32.toInt32).toUInt32.toUInt16.toUInt32.toInt32))] X13 e13 N13 zn13 K13 hCH S_VAL E_uv V_uv F_wireName_m0 F_wireName_m1 E_w0 F_value_w0 F_coder_w0 V_v0 E_w1 F_value_w1 F_coder_w1 V_v1 S_SCRAM_SHA_1 S_PLAIN S_COMPACT_STRINGS Sf_b1 E_b1 V_b1 (own_ok12 (own_leL _) (own_leL _) (own_leL _) (own_leL _) (own_leL _) (own_leL _) (own_leL _) (own_leL _) (own_leL _) (own_leL _) (own_leL _) (own_leL _))
set_option maxRecDepth 65536 in
set_option maxHeartbeats 40000000 in
theorem comes_1 {Post : Tables → Env → Array Value → State → Outcome → State → Prop} (hpost : ∀ tb e args s v u, (limb_1_1.after args s (.returned v) u = true ∧ limb_1_2.after args s (.returned v) u = true ∧ True) → ReturnedEndW s (.returned v) u (Jvm.fieldLocs frame_1_writes args s ++ Jvm.arrayLocs frame_1_arrays args s ++ Jvm.staticLocs frame_1_statics s) 24 3264 → Post tb e args s (.returned v) u) :
    ArmFor flags0 classFile x code maxLocals ret World_1 tables_1 room_1 Calls_1 rest_1 Pre_1 Post := by
  intro l hfl _ _ p e ha hc hk s m args below hf hA hF happ hP
  obtain ⟨hcalls, hrest, hpre⟩ := hP
  obtain ⟨-, -, -, hnamed, -, -, -, hat⟩ := (Spec.applies_iff hf).mp happ
  obtain ⟨hg, hn⟩ := and_e (Cond.before_iff.mp (show (Jvm.Cond.and given_1 narrow_1).before args s = true from hpre))
  obtain ⟨gc0, gr0⟩ := and_e hg
  obtain ⟨gc1, gr1⟩ := and_e gr0
  obtain ⟨gc2, gr2⟩ := and_e gr1
  obtain ⟨gc3, gr3⟩ := and_e gr2
  obtain ⟨gc4, gr4⟩ := and_e gr3
  obtain ⟨gc5, gr5⟩ := and_e gr4
  obtain ⟨w0, w1, w2, w3, w4, w5, rfl⟩ : ∃ w0 w1 w2 w3 w4 w5 : Value, args = #[w0, w1, w2, w3, w4, w5] := by
    have hs : args.size = 6 := by simpa [Cond.value, given_1] using gc0
    obtain ⟨L⟩ := args
    match L, hs with
    | [w0, w1, w2, w3, w4, w5], _ => exact ⟨w0, w1, w2, w3, w4, w5, rfl⟩
  have hw := fun d (hd : d ∈ tables_1) => atoms_spec (ws := Jvm.Cond.code x code maxLocals ret :: tables_1) hat d (List.mem_cons_of_mem _ hd)
  have hfit : Fit s := fun {y c} hc i hi => by
    obtain ⟨ha, rfl⟩ := Array.getElem?_eq_some_iff.mp hc
    have q := List.all_eq_true.mp ((Array.all_eq_true_iff_forall_mem.mp hF) _ (Array.getElem_mem ha)) i (List.mem_range.mpr hi)
    simpa [Array.getElem?_eq_getElem hi] using q
  obtain ⟨hsets, hown0⟩ := atoms_of _ (rest_1_c_eq ▸ (show rest_1_c.before _ s = true from hrest))
  have hset := fun k (hk : k ∈ jdkStatics_1) => Cond.before_iff.mp (hsets k hk)
  obtain ⟨i0, ei0⟩ := is_v gc1
  obtain rfl : w0 = (.int i0) := Option.some.inj ei0
  obtain ⟨i1, ei1⟩ := is_v gc2
  obtain rfl : w1 = (.int i1) := Option.some.inj ei1
  obtain ⟨i2, ei2⟩ := is_v gc3
  obtain rfl : w2 = (.int i2) := Option.some.inj ei2
  obtain ⟨i3, ei3⟩ := is_v gc4
  obtain rfl : w3 = (.int i3) := Option.some.inj ei3
  obtain ⟨i4, ei4⟩ := isL_v gc5
  obtain rfl : w4 = (.long i4) := Option.some.inj ei4
  obtain ⟨i5, ei5⟩ := isL_v gr5
  obtain rfl : w5 = (.long i5) := Option.some.inj ei5
  obtain ⟨nc0, nr0⟩ := and_e hn
  obtain ⟨nc1, nr1⟩ := and_e nr0
  obtain ⟨nc2, nr2⟩ := and_e nr1
  obtain ⟨nc3, nr3⟩ := and_e nr2
  obtain ⟨nc4, nr4⟩ := and_e nr3
  obtain ⟨nc5, nr5⟩ := and_e nr4
  obtain ⟨nc6, nr6⟩ := and_e nr5
  obtain ⟨nc7, nr7⟩ := and_e nr6
  obtain ⟨nc8, nr8⟩ := and_e nr7
  obtain ⟨nc9, nr9⟩ := and_e nr8
  obtain ⟨nc10, nr10⟩ := and_e nr9
  obtain ⟨nc11, nr11⟩ := and_e nr10
  obtain ⟨nc12, nr12⟩ := and_e nr11
  obtain ⟨nc13, nr13⟩ := and_e nr12
  obtain ⟨nc14, nr14⟩ := and_e nr13
  obtain ⟨nc15, nr15⟩ := and_e nr14
  obtain ⟨nc16, nr16⟩ := and_e nr15
  obtain ⟨nc17, nr17⟩ := and_e nr16
  obtain ⟨nc18, nr18⟩ := and_e nr17
  obtain ⟨nc19, nr19⟩ := and_e nr18
  obtain ⟨nc20, nr20⟩ := and_e nr19
  obtain ⟨nc21, nr21⟩ := and_e nr20
  obtain ⟨nc22, nr22⟩ := and_e nr21
  obtain ⟨nc23, nr23⟩ := and_e nr22
  obtain ⟨nc24, nr24⟩ := and_e nr23
  obtain ⟨nc25, nr25⟩ := and_e nr24
  obtain ⟨nc26, nr26⟩ := and_e nr25
  obtain ⟨nc27, nr27⟩ := and_e nr26
  obtain ⟨nc28, nr28⟩ := and_e nr27
  obtain ⟨nc29, nr29⟩ := and_e nr28
  have nc30 := nr29
  obtain ⟨cs, evcs⟩ := is_v (hset _ (List.mem_of_getElem? (i := 1) rfl))
  have hcs : ¬ cs = 0 := fun q => by have z := not_v (hset _ (List.mem_of_getElem? (i := 2) rfl)); rw [eq_i evcs (Term.int_eval 0) (by rw [q])] at z; cases z
  have SCS := Sta.start evcs (Or.inl (hsets _ (List.mem_of_getElem? (i := 0) rfl)))
  obtain ⟨uv, evv⟩ := arr_v nc0
  have SV := Sta.start evv (Or.inr ⟨(hw _ (List.mem_of_getElem? (i := 37) rfl)), (hw _ (List.mem_of_getElem? (i := 43) rfl))⟩)
  obtain ⟨clv, AV⟩ := Arr.start evv nc0
  have EV := Exa.start evv nc1
  have lnv := lenI evv AV nc2
  obtain ⟨m0, evm0⟩ := exa_v nc3
  obtain ⟨m1, evm1⟩ := exa_v nc4
  have VV : Arv s s.heap uv clv.cls (.object "com/example/hushlist/hushlist/server/SaslMechanism") (2 : Int32) [(.ref m0), (.ref m1)] .null := Arv.start hfit AV lnv.2 lnv.1 (by decide) rfl ⟨(elem_in evm0 evv (Term.int_eval 0) AV.1).2, (elem_in evm1 evv (Term.int_eval 1) AV.1).2, trivial⟩
  obtain ⟨w0x, evw0⟩ := exa_v nc5
  have FW0 := Fld.start ((fld_at evm0).symm.trans evw0)
  have EW0 := Exa.start evw0 nc5
  have FC0 := fldI evw0 nc6
  obtain ⟨v0x, evv0⟩ := arr_v nc7
  have FV0 := Fld.start ((fld_at evw0).symm.trans evv0)
  obtain ⟨cl0, A0⟩ := Arr.start evv0 nc7
  have ln0 := lenI evv0 A0 nc8
  have VB0 : Arv s s.heap v0x cl0.cls .byte (11 : Int32) [(.int (83 : Int32)), (.int (67 : Int32)), (.int (82 : Int32)), (.int (65 : Int32)), (.int (77 : Int32)), (.int (45 : Int32)), (.int (83 : Int32)), (.int (72 : Int32)), (.int (65 : Int32)), (.int (45 : Int32)), (.int (49 : Int32))] (.int (0 : Int32)) := Arv.start hfit A0 ln0.2 ln0.1 (by decide) rfl ⟨(elem_in (valI nc15) evv0 (Term.int_eval 0) A0.1).2, (elem_in (valI nc16) evv0 (Term.int_eval 1) A0.1).2, (elem_in (valI nc17) evv0 (Term.int_eval 2) A0.1).2, (elem_in (valI nc18) evv0 (Term.int_eval 3) A0.1).2, (elem_in (valI nc19) evv0 (Term.int_eval 4) A0.1).2, (elem_in (valI nc20) evv0 (Term.int_eval 5) A0.1).2, (elem_in (valI nc21) evv0 (Term.int_eval 6) A0.1).2, (elem_in (valI nc22) evv0 (Term.int_eval 7) A0.1).2, (elem_in (valI nc23) evv0 (Term.int_eval 8) A0.1).2, (elem_in (valI nc24) evv0 (Term.int_eval 9) A0.1).2, (elem_in (valI nc25) evv0 (Term.int_eval 10) A0.1).2, trivial⟩
  obtain ⟨w1x, evw1⟩ := exa_v nc9
  have FW1 := Fld.start ((fld_at evm1).symm.trans evw1)
  have EW1 := Exa.start evw1 nc9
  have FC1 := fldI evw1 nc10
  obtain ⟨v1x, evv1⟩ := arr_v nc11
  have FV1 := Fld.start ((fld_at evw1).symm.trans evv1)
  obtain ⟨cl1, A1⟩ := Arr.start evv1 nc11
  have ln1 := lenI evv1 A1 nc12
  have VB1 : Arv s s.heap v1x cl1.cls .byte (5 : Int32) [(.int (80 : Int32)), (.int (76 : Int32)), (.int (65 : Int32)), (.int (73 : Int32)), (.int (78 : Int32))] (.int (0 : Int32)) := Arv.start hfit A1 ln1.2 ln1.1 (by decide) rfl ⟨(elem_in (valI nc26) evv1 (Term.int_eval 0) A1.1).2, (elem_in (valI nc27) evv1 (Term.int_eval 1) A1.1).2, (elem_in (valI nc28) evv1 (Term.int_eval 2) A1.1).2, (elem_in (valI nc29) evv1 (Term.int_eval 3) A1.1).2, (elem_in (valI nc30) evv1 (Term.int_eval 4) A1.1).2, trivial⟩
  have SP := Sta.start (own_eqR evm1 nc13) (Or.inr ⟨(hw _ (List.mem_of_getElem? (i := 37) rfl)), (hw _ (List.mem_of_getElem? (i := 76) rfl))⟩)
  have SS := Sta.start (own_eqR evm0 nc14) (Or.inr ⟨(hw _ (List.mem_of_getElem? (i := 37) rfl)), (hw _ (List.mem_of_getElem? (i := 80) rfl))⟩)
  have hCHs : CHv s own_EL s.vm s.heap := CHv.start (own_ewT hw) (fun p hp => hcalls.1 p hp) (hsets _ (List.mem_of_getElem? (i := 2) rfl)) (hw _ (List.mem_of_getElem? (i := 24) rfl)) (hw _ (List.mem_of_getElem? (i := 7) rfl))
  obtain ⟨n, o, h1, h2, h3, _, L, rfl, ⟨rfl, N⟩, hq⟩ := rm0 l s _ hw tables_1 i0 i1 i2 i3 i4 i5 uv clv.cls m0 m1 w0x w1x v0x v1x cl0.cls cl1.cls cs s.heap s.heap.size (Nat.le_refl _) SV EV VV FW0 FW1 EW0 FV0 FC0 VB0 EW1 FV1 FC1 VB1 SS SP SCS hcs p e ha hc hk s m _ below hf ((Spec.applies_iff_loose hf).mp happ).1 ⟨rfl, State.Warmed39.refl s, rfl, hCHs⟩ trivial
  refine ⟨n, _, h1, h2, h3, hpost _ _ _ _ _ _ ⟨Cond.after_iff.mpr rfl, Cond.after_iff.mpr (eq_i res_at (Term.int_eval (1)) rfl), trivial⟩ ⟨hq.1, hq.2.1, hq.2.2.1, (hq.2.2.2.sift fun y hy => Or.inr (N y hy)).mono (by decide) (by decide)⟩⟩
theorem main_1_1 : Claimed_1_1 := comes_1 fun _ _ _ _ _ _ h hF => ⟨h.1, hF⟩
theorem main_1_2 : Claimed_1_2 := comes_1 fun _ _ _ _ _ _ h hF => ⟨h.2.1, hF⟩
end Jvm.Pilot.@@N@@
namespace Jvm.Pilot.@@N@@
open Jvm Jvm.ClassFile Sem Op Lib Jvm.Free Jvm.Stand Jvm.Pilot.@@N@@.Jvm.D
/-! MADE BY PROGRAM (witnessworld.py) out of the Statement's table words and the real class files: 24 classes; the members and pool entries that the words name. The judged class is class 1, her method 1. -/
namespace start1
open Jvm.ClassFile
def u (s : String) : CpInfo := .utf8 (stringToUtf16 s)
/-- a pool by its gaps: so many unusable entries, then the entry; so many at the end -/
def gap : Nat → List CpInfo → List CpInfo
  | 0, r => r
  | n + 1, r => .unusable :: gap n r
def poolList (es : List (Nat × CpInfo)) (last : Nat) : List CpInfo := es.foldr (fun e r => gap e.1 (e.2 :: r)) (gap last [])
def pool (es : List (Nat × CpInfo)) (last : Nat) : Array CpInfo := ⟨poolList es last⟩
def fileOf (pool : Array CpInfo) (this : Nat) (attrs : Array Attribute := #[]) (ms : Array MethodInfo := #[]) (fl : Nat := 33) (sup : Nat := 0) (ifs : Array Nat := #[]) (fds : Array FieldInfo := #[]) : ClassFile where
  minorVersion := 0
  majorVersion := 65
  constantPool := pool
  accessFlags := fl
  thisClass := this
  superClass := sup
  interfaces := ifs
  fields := fds
  methods := ms
  attributes := attrs
def plain (name : String) (sup : Option ClassId) : Class where
  name := name
  kind := .ordinary
  loader := none
  accessFlags := 33
  super := sup
  interfaces := #[]
  cf := none
  fields := #[]
  methods := #[]
  instanceTypes := #[]
  staticTypes := #[]
  resolved := #[]
  callSites := []
  init := .initialized
  statics := none
  mirror := none

def pool0 : Array CpInfo := pool [(5, u "<init>"), (0, u "()V"), (1, .class_ 10), (1, u "java/lang/Object"), (85, u "clone"), (0, u "()Ljava/lang/Object;")] 26

def k0c0 : Code := { maxStack := 0, maxLocals := 1, code := object_method_1_code, exceptionTable := #[], attributes := #[] }
def k0m0 : Method := { name := "<init>", desc := "()V", sig := { parameters := [], returnType := none }, accessFlags := 1, code := some k0c0 }
def k0m1 : Method := { name := "clone", desc := "()Ljava/lang/Object;", sig := { parameters := [], returnType := some (.object "java/lang/Object") }, accessFlags := 260, code := none }
/-- java/lang/Object -/
def k0 : Class := { plain "java/lang/Object" none with
  accessFlags := 33
  interfaces := #[]
  cf := some (fileOf pool0 8 #[] #[{ accessFlags := 1, nameIndex := 5, descriptorIndex := 6, attributes := #[] }, { accessFlags := 260, nameIndex := 96, descriptorIndex := 97, attributes := #[] }] 33 0 #[] #[])
  fields := #[]
  methods := #[k0m0, k0m1]
  instanceTypes := #[]
  staticTypes := #[]
  resolved := Array.replicate 124 none
  statics := none }

def pool1 : Array CpInfo := pool [(2, .class_ 4), (1, u "java/lang/Object"), (0, u "<init>"), (0, u "()V"), (0, .long 255), (1, .integer 2147483647), (0, .methodref 11 12), (0, .class_ 13), (0, .nameAndType 14 15), (0, u "com/example/hushlist/hushlist/server/SaslMechanismNamedPinLaw"), (0, u "prefix"), (0, u "([C[C)Ljava/lang/String;"), (0, .methodref 17 18), (0, .class_ 19), (0, .nameAndType 20 21), (0, u "com/example/hushlist/hushlist/server/SaslMechanism"), (0, u "named"), (0, u "(Ljava/lang/String;)Lcom/example/hushlist/hushlist/server/SaslMechanism;"), (0, .methodref 11 23), (0, .nameAndType 24 21), (0, u "expected"), (0, .class_ 26), (0, u "java/lang/String"), (0, .methodref 25 28), (0, .nameAndType 5 29), (0, u "([C)V"), (0, .string 31), (0, u "SCRAM-SHA-1"), (0, .methodref 25 33), (0, .nameAndType 34 35), (0, u "equals"), (0, u "(Ljava/lang/Object;)Z"), (0, .fieldref 17 37), (0, .nameAndType 38 39), (0, u "SCRAM_SHA_1"), (0, u "Lcom/example/hushlist/hushlist/server/SaslMechanism;"), (0, .string 41), (0, u "PLAIN"), (0, .fieldref 17 43), (0, .nameAndType 41 39), (2, u "law"), (0, u "(IIIIJJ)Z")] 5

def k1m0 : Method := { name := "<init>", desc := "()V", sig := { parameters := [], returnType := none }, accessFlags := 1, code := none }
def k1c1 : Code := { maxStack := 6, maxLocals := 15, code := code, exceptionTable := #[], attributes := #[] }
def k1m1 : Method := { name := "law", desc := "(IIIIJJ)Z", sig := { parameters := [.int, .int, .int, .int, .long, .long], returnType := some .boolean }, accessFlags := 9, code := some k1c1 }
def k1c2 : Code := { maxStack := 4, maxLocals := 3, code := method_3_code, exceptionTable := #[], attributes := #[] }
def k1m2 : Method := { name := "prefix", desc := "([C[C)Ljava/lang/String;", sig := { parameters := [(.array .char), (.array .char)], returnType := some (.object "java/lang/String") }, accessFlags := 10, code := some k1c2 }
def k1c3 : Code := { maxStack := 2, maxLocals := 1, code := method_4_code, exceptionTable := #[], attributes := #[] }
def k1m3 : Method := { name := "expected", desc := "(Ljava/lang/String;)Lcom/example/hushlist/hushlist/server/SaslMechanism;", sig := { parameters := [(.object "java/lang/String")], returnType := some (.object "com/example/hushlist/hushlist/server/SaslMechanism") }, accessFlags := 10, code := some k1c3 }
/-- com/example/hushlist/hushlist/server/SaslMechanismNamedPinLaw -/
def k1 : Class := { plain "com/example/hushlist/hushlist/server/SaslMechanismNamedPinLaw" (some 0) with
  accessFlags := 49
  interfaces := #[]
  cf := some (fileOf pool1 11 #[] #[{ accessFlags := 1, nameIndex := 5, descriptorIndex := 6, attributes := #[] }, { accessFlags := 9, nameIndex := 46, descriptorIndex := 47, attributes := #[] }, { accessFlags := 10, nameIndex := 14, descriptorIndex := 15, attributes := #[] }, { accessFlags := 10, nameIndex := 24, descriptorIndex := 21, attributes := #[] }] 49 2 #[] #[])
  fields := #[]
  methods := #[k1m0, k1m1, k1m2, k1m3]
  instanceTypes := #[]
  staticTypes := #[]
  resolved := Array.replicate 53 none
  statics := none }

def pool2 : Array CpInfo := pool [(1, .class_ 2), (0, u "java/io/Serializable"), (0, .class_ 4), (0, u "java/lang/Object")] 2

/-- java/io/Serializable -/
def k2 : Class := { plain "java/io/Serializable" (some 0) with
  accessFlags := 1537
  interfaces := #[]
  cf := some (fileOf pool2 1 #[] #[] 1537 3 #[] #[])
  fields := #[]
  methods := #[]
  instanceTypes := #[]
  staticTypes := #[]
  resolved := Array.replicate 7 none
  statics := none }

def pool3 : Array CpInfo := pool [(1, .class_ 2), (0, u "java/lang/Comparable"), (0, .class_ 4), (0, u "java/lang/Object")] 7

/-- java/lang/Comparable -/
def k3 : Class := { plain "java/lang/Comparable" (some 0) with
  accessFlags := 1537
  interfaces := #[]
  cf := some (fileOf pool3 1 #[] #[] 1537 3 #[] #[])
  fields := #[]
  methods := #[]
  instanceTypes := #[]
  staticTypes := #[]
  resolved := Array.replicate 12 none
  statics := none }

def pool4 : Array CpInfo := pool [(2, .class_ 4), (1, u "java/lang/CharSequence"), (42, .class_ 48), (0, u "java/lang/CharSequence$1CodePointIterator"), (10, .class_ 60), (0, u "java/lang/CharSequence$1CharIterator"), (5, .class_ 67), (0, u "java/lang/Object")] 63

/-- java/lang/CharSequence -/
def k4 : Class := { plain "java/lang/CharSequence" (some 0) with
  accessFlags := 1537
  interfaces := #[]
  cf := some (fileOf pool4 2 #[.nestMembers #[47, 59]] #[] 1537 66 #[] #[])
  fields := #[]
  methods := #[]
  instanceTypes := #[]
  staticTypes := #[]
  resolved := Array.replicate 131 none
  statics := none }

def pool5 : Array CpInfo := pool [(1, .class_ 2), (0, u "java/lang/constant/Constable"), (0, .class_ 4), (0, u "java/lang/Object")] 6

/-- java/lang/constant/Constable -/
def k5 : Class := { plain "java/lang/constant/Constable" (some 0) with
  accessFlags := 1537
  interfaces := #[]
  cf := some (fileOf pool5 1 #[] #[] 1537 3 #[] #[])
  fields := #[]
  methods := #[]
  instanceTypes := #[]
  staticTypes := #[]
  resolved := Array.replicate 11 none
  statics := none }

def pool6 : Array CpInfo := pool [(1, .class_ 2), (0, u "java/lang/constant/ConstantDesc"), (0, .class_ 4), (0, u "java/lang/Object")] 32

/-- java/lang/constant/ConstantDesc -/
def k6 : Class := { plain "java/lang/constant/ConstantDesc" (some 0) with
  accessFlags := 1537
  interfaces := #[]
  cf := some (fileOf pool6 1 #[] #[] 1537 3 #[] #[])
  fields := #[]
  methods := #[]
  instanceTypes := #[]
  staticTypes := #[]
  resolved := Array.replicate 37 none
  statics := none }

def pool7 : Array CpInfo := pool [(1, .methodref 2 3), (0, .class_ 4), (0, .nameAndType 5 6), (0, u "java/lang/Object"), (0, u "<init>"), (0, u "()V"), (0, .string 8), (0, u ""), (0, .fieldref 10 11), (0, .class_ 12), (0, .nameAndType 13 14), (0, u "java/lang/String"), (0, u "value"), (0, u "[B"), (0, .fieldref 10 16), (0, .nameAndType 17 18), (0, u "coder"), (0, u "B"), (2, u "hash"), (0, u "I"), (2, u "hashIsZero"), (0, u "Z"), (0, .methodref 10 28), (0, .nameAndType 5 29), (0, u "([CIILjava/lang/Void;)V"), (8, .fieldref 10 39), (0, .nameAndType 40 26), (0, u "COMPACT_STRINGS"), (1, .class_ 44), (1, u "java/lang/StringUTF16"), (0, u "compress"), (1, .methodref 42 48), (0, .nameAndType 49 50), (0, u "coderFromArrayLen"), (0, u "([BI)B"), (56, .class_ 109), (1, u "java/lang/StringLatin1"), (67, .methodref 42 178), (0, .nameAndType 45 179), (0, u "([CII)[B"), (361, .methodref 107 542), (0, .nameAndType 543 544), (0, u "equals"), (0, u "([B[B)Z"), (28, u "(Ljava/lang/Object;)Z"), (1, .class_ 576), (0, u "java/lang/CharSequence"), (22, u "CASE_INSENSITIVE_ORDER"), (0, u "Ljava/util/Comparator;"), (409, u "([C)V"), (90, u "serialPersistentFields"), (0, u "[Ljava/io/ObjectStreamField;"), (0, .class_ 1104), (0, u "java/lang/String$CaseInsensitiveComparator"), (1, .class_ 1107), (0, u "java/io/Serializable"), (0, .class_ 1109), (0, u "java/lang/Comparable"), (0, .class_ 1111), (0, u "java/lang/constant/Constable"), (0, .class_ 1113), (0, u "java/lang/constant/ConstantDesc"), (2, u "serialVersionUID"), (0, u "J"), (3, u "REPL"), (0, u "C"), (2, u "LATIN1"), (1, u "UTF16")] 323

def k7m0 : Method := { name := "<init>", desc := "()V", sig := { parameters := [], returnType := none }, accessFlags := 1, code := none }
def k7c1 : Code := { maxStack := 5, maxLocals := 2, code := jdk_42_method_3_code, exceptionTable := #[], attributes := #[] }
def k7m1 : Method := { name := "<init>", desc := "([C)V", sig := { parameters := [(.array .char)], returnType := none }, accessFlags := 1, code := some k7c1 }
def k7c2 : Code := { maxStack := 2, maxLocals := 3, code := jdk_42_method_66_code, exceptionTable := #[], attributes := #[] }
def k7m2 : Method := { name := "equals", desc := "(Ljava/lang/Object;)Z", sig := { parameters := [(.object "java/lang/Object")], returnType := some .boolean }, accessFlags := 1, code := some k7c2 }
def k7c3 : Code := { maxStack := 4, maxLocals := 6, code := jdk_42_method_149_code, exceptionTable := #[], attributes := #[] }
def k7m3 : Method := { name := "<init>", desc := "([CIILjava/lang/Void;)V", sig := { parameters := [(.array .char), .int, .int, (.object "java/lang/Void")], returnType := none }, accessFlags := 2, code := some k7c3 }
/-- java/lang/String -/
def k7 : Class := { plain "java/lang/String" (some 0) with
  accessFlags := 49
  interfaces := #[2, 3, 4, 5, 6]
  cf := some (fileOf pool7 10 #[.nestMembers #[1103]] #[{ accessFlags := 1, nameIndex := 5, descriptorIndex := 6, attributes := #[] }, { accessFlags := 1, nameIndex := 5, descriptorIndex := 1010, attributes := #[] }, { accessFlags := 1, nameIndex := 543, descriptorIndex := 573, attributes := #[] }, { accessFlags := 2, nameIndex := 5, descriptorIndex := 29, attributes := #[] }] 49 2 #[1106, 1108, 575, 1110, 1112] #[{ accessFlags := 18, nameIndex := 13, descriptorIndex := 14, attributes := #[] }, { accessFlags := 18, nameIndex := 17, descriptorIndex := 18, attributes := #[] }, { accessFlags := 2, nameIndex := 21, descriptorIndex := 22, attributes := #[] }, { accessFlags := 2, nameIndex := 25, descriptorIndex := 26, attributes := #[] }, { accessFlags := 26, nameIndex := 1116, descriptorIndex := 1117, attributes := #[] }, { accessFlags := 24, nameIndex := 40, descriptorIndex := 26, attributes := #[] }, { accessFlags := 26, nameIndex := 1101, descriptorIndex := 1102, attributes := #[] }, { accessFlags := 26, nameIndex := 1121, descriptorIndex := 1122, attributes := #[] }, { accessFlags := 25, nameIndex := 599, descriptorIndex := 600, attributes := #[] }, { accessFlags := 24, nameIndex := 1125, descriptorIndex := 18, attributes := #[] }, { accessFlags := 24, nameIndex := 1127, descriptorIndex := 18, attributes := #[] }])
  fields := #[{ name := "value", type := (.array .byte), accessFlags := 18, slot := 0, constantValue := 0 }, { name := "coder", type := .byte, accessFlags := 18, slot := 1, constantValue := 0 }, { name := "hash", type := .int, accessFlags := 2, slot := 2, constantValue := 0 }, { name := "hashIsZero", type := .boolean, accessFlags := 2, slot := 3, constantValue := 0 }, { name := "serialVersionUID", type := .long, accessFlags := 26, slot := 0, constantValue := 0 }, { name := "COMPACT_STRINGS", type := .boolean, accessFlags := 24, slot := 1, constantValue := 0 }, { name := "serialPersistentFields", type := (.array (.object "java/io/ObjectStreamField")), accessFlags := 26, slot := 2, constantValue := 0 }, { name := "REPL", type := .char, accessFlags := 26, slot := 3, constantValue := 0 }, { name := "CASE_INSENSITIVE_ORDER", type := (.object "java/util/Comparator"), accessFlags := 25, slot := 4, constantValue := 0 }, { name := "LATIN1", type := .byte, accessFlags := 24, slot := 5, constantValue := 0 }, { name := "UTF16", type := .byte, accessFlags := 24, slot := 6, constantValue := 0 }]
  methods := #[k7m0, k7m1, k7m2, k7m3]
  instanceTypes := #[(.array .byte), .byte, .int, .boolean]
  staticTypes := #[.long, .boolean, (.array (.object "java/io/ObjectStreamField")), .char, (.object "java/util/Comparator"), .byte, .byte]
  resolved := Array.replicate 1451 none
  statics := some 0 }

def pool8 : Array CpInfo := pool [(6, .class_ 8), (1, u "java/lang/Object"), (0, u "<init>"), (0, u "()V"), (1, .class_ 14), (1, u "java/lang/StringUTF16"), (31, u "$assertionsDisabled"), (0, u "Z"), (13, u "HI_BYTE_SHIFT"), (0, u "I"), (2, u "LO_BYTE_SHIFT"), (49, .methodref 12 116), (0, .nameAndType 117 118), (0, u "compress"), (0, u "([CI[BII)I"), (3, u "([CII)[B"), (138, u "coderFromArrayLen"), (0, u "([BI)B"), (106, .class_ 371), (1, u "java/lang/StringUTF16$LinesSpliterator"), (58, u "MAX_LENGTH"), (196, .class_ 628), (0, u "java/lang/StringUTF16$CodePointsSpliterator"), (0, .class_ 630), (0, u "java/lang/StringUTF16$CharsSpliterator")] 4

def k8m0 : Method := { name := "<init>", desc := "()V", sig := { parameters := [], returnType := none }, accessFlags := 0, code := none }
def k8c1 : Code := { maxStack := 2, maxLocals := 2, code := jdk_52_method_15_code, exceptionTable := #[], attributes := #[] }
def k8m1 : Method := { name := "coderFromArrayLen", desc := "([BI)B", sig := { parameters := [(.array .byte), .int], returnType := some .byte }, accessFlags := 8, code := some k8c1 }
def k8c2 : Code := { maxStack := 5, maxLocals := 6, code := jdk_52_method_16_code, exceptionTable := #[], attributes := #[] }
def k8m2 : Method := { name := "compress", desc := "([CII)[B", sig := { parameters := [(.array .char), .int, .int], returnType := some (.array .byte) }, accessFlags := 9, code := some k8c2 }
def k8c3 : Code := { maxStack := 3, maxLocals := 7, code := jdk_52_method_21_code, exceptionTable := #[], attributes := #[] }
def k8m3 : Method := { name := "compress", desc := "([CI[BII)I", sig := { parameters := [(.array .char), .int, (.array .byte), .int, .int], returnType := some .int }, accessFlags := 9, code := some k8c3 }
/-- java/lang/StringUTF16 -/
def k8 : Class := { plain "java/lang/StringUTF16" (some 0) with
  accessFlags := 48
  interfaces := #[]
  cf := some (fileOf pool8 12 #[.nestMembers #[627, 629, 369]] #[{ accessFlags := 0, nameIndex := 9, descriptorIndex := 10, attributes := #[] }, { accessFlags := 8, nameIndex := 261, descriptorIndex := 262, attributes := #[] }, { accessFlags := 9, nameIndex := 117, descriptorIndex := 122, attributes := #[] }, { accessFlags := 9, nameIndex := 117, descriptorIndex := 118, attributes := #[] }] 48 6 #[] #[{ accessFlags := 26, nameIndex := 61, descriptorIndex := 62, attributes := #[] }, { accessFlags := 26, nameIndex := 65, descriptorIndex := 62, attributes := #[] }, { accessFlags := 24, nameIndex := 430, descriptorIndex := 62, attributes := #[] }, { accessFlags := 4120, nameIndex := 46, descriptorIndex := 47, attributes := #[] }])
  fields := #[{ name := "HI_BYTE_SHIFT", type := .int, accessFlags := 26, slot := 0, constantValue := 0 }, { name := "LO_BYTE_SHIFT", type := .int, accessFlags := 26, slot := 1, constantValue := 0 }, { name := "MAX_LENGTH", type := .int, accessFlags := 24, slot := 2, constantValue := 0 }, { name := "$assertionsDisabled", type := .boolean, accessFlags := 4120, slot := 3, constantValue := 0 }]
  methods := #[k8m0, k8m1, k8m2, k8m3]
  instanceTypes := #[]
  staticTypes := #[.int, .int, .int, .boolean]
  resolved := Array.replicate 635 none
  statics := none }

def pool9 : Array CpInfo := pool [(2, .class_ 4), (1, u "java/lang/Enum"), (0, u "name"), (0, u "Ljava/lang/String;"), (2, u "ordinal"), (0, u "I"), (1, .class_ 14), (1, u "java/lang/Object"), (4, u "hash"), (86, .class_ 108), (1, u "java/lang/Enum$EnumDesc"), (2, .class_ 112), (0, u "java/lang/constant/Constable"), (0, .class_ 114), (0, u "java/lang/Comparable"), (0, .class_ 116), (0, u "java/io/Serializable")] 87

/-- java/lang/Enum -/
def k9 : Class := { plain "java/lang/Enum" (some 0) with
  accessFlags := 1057
  interfaces := #[5, 3, 2]
  cf := some (fileOf pool9 2 #[.nestMembers #[106]] #[] 1057 12 #[111, 113, 115] #[{ accessFlags := 18, nameIndex := 5, descriptorIndex := 6, attributes := #[] }, { accessFlags := 18, nameIndex := 9, descriptorIndex := 10, attributes := #[] }, { accessFlags := 2, nameIndex := 19, descriptorIndex := 10, attributes := #[] }])
  fields := #[{ name := "name", type := (.object "java/lang/String"), accessFlags := 18, slot := 0, constantValue := 0 }, { name := "ordinal", type := .int, accessFlags := 18, slot := 1, constantValue := 0 }, { name := "hash", type := .int, accessFlags := 2, slot := 2, constantValue := 0 }]
  methods := #[]
  instanceTypes := #[(.object "java/lang/String"), .int, .int]
  staticTypes := #[]
  resolved := Array.replicate 204 none
  statics := none }

def pool10 : Array CpInfo := pool [(1, .class_ 2), (0, u "com/example/hushlist/hushlist/server/SaslMechanism"), (2, u "SCRAM_SHA_1"), (0, u "Lcom/example/hushlist/hushlist/server/SaslMechanism;"), (2, u "PLAIN"), (0, .fieldref 1 11), (0, .nameAndType 12 13), (0, u "$VALUES"), (0, u "[Lcom/example/hushlist/hushlist/server/SaslMechanism;"), (0, .methodref 15 16), (0, .class_ 13), (0, .nameAndType 17 18), (0, u "clone"), (0, u "()Ljava/lang/Object;"), (1, .class_ 22), (1, u "java/lang/Enum"), (6, .fieldref 1 30), (0, .nameAndType 31 32), (0, u "wireName"), (0, u "Ljava/lang/String;"), (0, .methodref 1 34), (0, .nameAndType 35 36), (0, u "values"), (0, u "()[Lcom/example/hushlist/hushlist/server/SaslMechanism;"), (0, .methodref 38 39), (0, .class_ 40), (0, .nameAndType 41 42), (0, u "java/lang/String"), (0, u "equals"), (0, u "(Ljava/lang/Object;)Z"), (26, .class_ 70), (0, u "com/example/hushlist/hushlist/server/SaslMechanism$1"), (6, .class_ 78), (0, u "com/example/hushlist/hushlist/server/SaslMechanism$2"), (5, u "NAMESPACE"), (3, u "(Ljava/lang/String;)Lcom/example/hushlist/hushlist/server/SaslMechanism;"), (5, u "named")] 11

def k10c0 : Code := { maxStack := 1, maxLocals := 0, code := prog_62_method_1_code, exceptionTable := #[], attributes := #[] }
def k10m0 : Method := { name := "values", desc := "()[Lcom/example/hushlist/hushlist/server/SaslMechanism;", sig := { parameters := [], returnType := some (.array (.object "com/example/hushlist/hushlist/server/SaslMechanism")) }, accessFlags := 9, code := some k10c0 }
def k10c1 : Code := { maxStack := 2, maxLocals := 5, code := prog_62_method_5_code, exceptionTable := #[], attributes := #[] }
def k10m1 : Method := { name := "named", desc := "(Ljava/lang/String;)Lcom/example/hushlist/hushlist/server/SaslMechanism;", sig := { parameters := [(.object "java/lang/String")], returnType := some (.object "com/example/hushlist/hushlist/server/SaslMechanism") }, accessFlags := 8, code := some k10c1 }
/-- com/example/hushlist/hushlist/server/SaslMechanism -/
def k10 : Class := { plain "com/example/hushlist/hushlist/server/SaslMechanism" (some 9) with
  accessFlags := 17440
  interfaces := #[]
  cf := some (fileOf pool10 1 #[.nestMembers #[77, 69]] #[{ accessFlags := 9, nameIndex := 35, descriptorIndex := 36, attributes := #[] }, { accessFlags := 8, nameIndex := 94, descriptorIndex := 88, attributes := #[] }] 17440 20 #[] #[{ accessFlags := 16409, nameIndex := 5, descriptorIndex := 6, attributes := #[] }, { accessFlags := 16409, nameIndex := 9, descriptorIndex := 6, attributes := #[] }, { accessFlags := 24, nameIndex := 84, descriptorIndex := 32, attributes := #[] }, { accessFlags := 18, nameIndex := 31, descriptorIndex := 32, attributes := #[] }, { accessFlags := 4122, nameIndex := 12, descriptorIndex := 13, attributes := #[] }])
  fields := #[{ name := "SCRAM_SHA_1", type := (.object "com/example/hushlist/hushlist/server/SaslMechanism"), accessFlags := 16409, slot := 0, constantValue := 0 }, { name := "PLAIN", type := (.object "com/example/hushlist/hushlist/server/SaslMechanism"), accessFlags := 16409, slot := 1, constantValue := 0 }, { name := "NAMESPACE", type := (.object "java/lang/String"), accessFlags := 24, slot := 2, constantValue := 0 }, { name := "wireName", type := (.object "java/lang/String"), accessFlags := 18, slot := 3, constantValue := 0 }, { name := "$VALUES", type := (.array (.object "com/example/hushlist/hushlist/server/SaslMechanism")), accessFlags := 4122, slot := 3, constantValue := 0 }]
  methods := #[k10m0, k10m1]
  instanceTypes := #[(.object "java/lang/String"), .int, .int, (.object "java/lang/String")]
  staticTypes := #[(.object "com/example/hushlist/hushlist/server/SaslMechanism"), (.object "com/example/hushlist/hushlist/server/SaslMechanism"), (.object "java/lang/String"), (.array (.object "com/example/hushlist/hushlist/server/SaslMechanism"))]
  resolved := Array.replicate 106 none
  statics := some 1 }

def pool11 : Array CpInfo := pool [(1, .class_ 2), (0, u "java/lang/Cloneable"), (0, .class_ 4), (0, u "java/lang/Object")] 2

/-- java/lang/Cloneable -/
def k11 : Class := { plain "java/lang/Cloneable" (some 0) with
  accessFlags := 1537
  interfaces := #[]
  cf := some (fileOf pool11 1 #[] #[] 1537 3 #[] #[])
  fields := #[]
  methods := #[]
  instanceTypes := #[]
  staticTypes := #[]
  resolved := Array.replicate 7 none
  statics := none }

def pool12 : Array CpInfo := pool [(2, .class_ 4), (1, u "com/example/hushlist/hushlist/server/SaslMechanism"), (23, .class_ 29), (0, u "com/example/hushlist/hushlist/server/SaslMechanism$1")] 33

/-- com/example/hushlist/hushlist/server/SaslMechanism$1 -/
def k12 : Class := { plain "com/example/hushlist/hushlist/server/SaslMechanism$1" (some 10) with
  accessFlags := 16432
  interfaces := #[]
  cf := some (fileOf pool12 28 #[.nestHost 2] #[] 16432 2 #[] #[])
  fields := #[]
  methods := #[]
  instanceTypes := #[(.object "java/lang/String"), .int, .int, (.object "java/lang/String")]
  staticTypes := #[]
  resolved := Array.replicate 63 none
  statics := none }

def pool13 : Array CpInfo := pool [(4, .class_ 6), (1, u "java/lang/Object"), (0, u "<init>"), (0, u "()V"), (5, .class_ 16), (1, u "java/lang/StringLatin1"), (104, u "$assertionsDisabled"), (0, u "Z"), (98, .class_ 223), (1, u "java/lang/StringLatin1$LinesSpliterator"), (57, u "equals"), (0, u "([B[B)Z"), (107, .class_ 391), (0, u "java/lang/StringLatin1$CharsSpliterator")] 3

def k13m0 : Method := { name := "<init>", desc := "()V", sig := { parameters := [], returnType := none }, accessFlags := 0, code := none }
def k13c1 : Code := { maxStack := 3, maxLocals := 3, code := jdk_43_method_13_code, exceptionTable := #[], attributes := #[] }
def k13m1 : Method := { name := "equals", desc := "([B[B)Z", sig := { parameters := [(.array .byte), (.array .byte)], returnType := some .boolean }, accessFlags := 9, code := some k13c1 }
/-- java/lang/StringLatin1 -/
def k13 : Class := { plain "java/lang/StringLatin1" (some 0) with
  accessFlags := 48
  interfaces := #[]
  cf := some (fileOf pool13 14 #[.nestMembers #[390, 221]] #[{ accessFlags := 0, nameIndex := 7, descriptorIndex := 8, attributes := #[] }, { accessFlags := 9, nameIndex := 281, descriptorIndex := 282, attributes := #[] }] 48 4 #[] #[{ accessFlags := 4120, nameIndex := 121, descriptorIndex := 122, attributes := #[] }])
  fields := #[{ name := "$assertionsDisabled", type := .boolean, accessFlags := 4120, slot := 0, constantValue := 0 }]
  methods := #[k13m0, k13m1]
  instanceTypes := #[]
  staticTypes := #[.boolean]
  resolved := Array.replicate 395 none
  statics := none }

def pool14 : Array CpInfo := pool [(2, .class_ 4), (1, u "com/example/hushlist/hushlist/server/SaslMechanism"), (7, .class_ 13), (0, u "com/example/hushlist/hushlist/server/SaslMechanism$2")] 10

/-- com/example/hushlist/hushlist/server/SaslMechanism$2 -/
def k14 : Class := { plain "com/example/hushlist/hushlist/server/SaslMechanism$2" (some 10) with
  accessFlags := 16432
  interfaces := #[]
  cf := some (fileOf pool14 12 #[.nestHost 2] #[] 16432 2 #[] #[])
  fields := #[]
  methods := #[]
  instanceTypes := #[(.object "java/lang/String"), .int, .int, (.object "java/lang/String")]
  staticTypes := #[]
  resolved := Array.replicate 24 none
  statics := none }

def pool15 : Array CpInfo := pool [(2, .class_ 4), (1, u "java/lang/Object"), (0, u "<init>"), (0, u "()V"), (17, .class_ 26), (1, u "jdk/internal/util/Preconditions"), (28, .class_ 56), (0, u "jdk/internal/util/Preconditions$4"), (57, .class_ 115), (0, u "jdk/internal/util/Preconditions$1"), (7, u "SIOOBE_FORMATTER"), (0, u "Ljava/util/function/BiFunction;"), (0, .class_ 126), (0, u "jdk/internal/util/Preconditions$2"), (3, u "AIOOBE_FORMATTER"), (0, .class_ 132), (0, u "jdk/internal/util/Preconditions$3"), (3, u "IOOBE_FORMATTER")] 57

def k15m0 : Method := { name := "<init>", desc := "()V", sig := { parameters := [], returnType := none }, accessFlags := 1, code := none }
/-- jdk/internal/util/Preconditions -/
def k15 : Class := { plain "jdk/internal/util/Preconditions" (some 0) with
  accessFlags := 33
  interfaces := #[]
  cf := some (fileOf pool15 24 #[.nestMembers #[55, 131, 125, 114]] #[{ accessFlags := 1, nameIndex := 5, descriptorIndex := 6, attributes := #[] }] 33 2 #[] #[{ accessFlags := 25, nameIndex := 123, descriptorIndex := 124, attributes := #[] }, { accessFlags := 25, nameIndex := 130, descriptorIndex := 124, attributes := #[] }, { accessFlags := 25, nameIndex := 136, descriptorIndex := 124, attributes := #[] }])
  fields := #[{ name := "SIOOBE_FORMATTER", type := (.object "java/util/function/BiFunction"), accessFlags := 25, slot := 0, constantValue := 0 }, { name := "AIOOBE_FORMATTER", type := (.object "java/util/function/BiFunction"), accessFlags := 25, slot := 1, constantValue := 0 }, { name := "IOOBE_FORMATTER", type := (.object "java/util/function/BiFunction"), accessFlags := 25, slot := 2, constantValue := 0 }]
  methods := #[k15m0]
  instanceTypes := #[]
  staticTypes := #[(.object "java/util/function/BiFunction"), (.object "java/util/function/BiFunction"), (.object "java/util/function/BiFunction")]
  resolved := Array.replicate 194 none
  statics := some 2 }

def pool16 : Array CpInfo := pool [(9, u "<init>"), (6, .class_ 18), (1, u "java/lang/Object"), (0, u "()V"), (1, .class_ 23), (1, u "jdk/internal/util/ArraysSupport"), (0, u "LOG2_ARRAY_LONG_INDEX_SCALE"), (0, u "I"), (2, u "U"), (0, u "Ljdk/internal/misc/Unsafe;"), (8, u "BIG_ENDIAN"), (0, u "Z"), (8, u "LOG2_BYTE_BIT_SIZE"), (4, u "LOG2_ARRAY_INT_INDEX_SCALE"), (54, u "JLA"), (0, u "Ljdk/internal/access/JavaLangAccess;"), (11, u "LOG2_ARRAY_BOOLEAN_INDEX_SCALE"), (9, u "LOG2_ARRAY_BYTE_INDEX_SCALE"), (5, u "LOG2_ARRAY_CHAR_INDEX_SCALE"), (5, u "LOG2_ARRAY_SHORT_INDEX_SCALE"), (18, u "LOG2_ARRAY_FLOAT_INDEX_SCALE"), (24, u "LOG2_ARRAY_DOUBLE_INDEX_SCALE"), (89, u "T_BOOLEAN"), (2, u "T_CHAR"), (1, u "T_FLOAT"), (1, u "T_DOUBLE"), (1, u "T_BYTE"), (1, u "T_SHORT"), (1, u "T_INT"), (1, u "T_LONG"), (1, u "SOFT_MAX_ARRAY_LENGTH")] 83

def k16m0 : Method := { name := "<init>", desc := "()V", sig := { parameters := [], returnType := none }, accessFlags := 2, code := none }
/-- jdk/internal/util/ArraysSupport -/
def k16 : Class := { plain "jdk/internal/util/ArraysSupport" (some 0) with
  accessFlags := 33
  interfaces := #[]
  cf := some (fileOf pool16 21 #[] #[{ accessFlags := 2, nameIndex := 9, descriptorIndex := 19, attributes := #[] }] 33 16 #[] #[{ accessFlags := 24, nameIndex := 28, descriptorIndex := 29, attributes := #[] }, { accessFlags := 26, nameIndex := 38, descriptorIndex := 39, attributes := #[] }, { accessFlags := 25, nameIndex := 121, descriptorIndex := 25, attributes := #[] }, { accessFlags := 25, nameIndex := 131, descriptorIndex := 25, attributes := #[] }, { accessFlags := 25, nameIndex := 137, descriptorIndex := 25, attributes := #[] }, { accessFlags := 25, nameIndex := 143, descriptorIndex := 25, attributes := #[] }, { accessFlags := 25, nameIndex := 53, descriptorIndex := 25, attributes := #[] }, { accessFlags := 25, nameIndex := 24, descriptorIndex := 25, attributes := #[] }, { accessFlags := 25, nameIndex := 162, descriptorIndex := 25, attributes := #[] }, { accessFlags := 25, nameIndex := 187, descriptorIndex := 25, attributes := #[] }, { accessFlags := 26, nameIndex := 48, descriptorIndex := 25, attributes := #[] }, { accessFlags := 25, nameIndex := 277, descriptorIndex := 25, attributes := #[] }, { accessFlags := 25, nameIndex := 280, descriptorIndex := 25, attributes := #[] }, { accessFlags := 25, nameIndex := 282, descriptorIndex := 25, attributes := #[] }, { accessFlags := 25, nameIndex := 284, descriptorIndex := 25, attributes := #[] }, { accessFlags := 25, nameIndex := 286, descriptorIndex := 25, attributes := #[] }, { accessFlags := 25, nameIndex := 288, descriptorIndex := 25, attributes := #[] }, { accessFlags := 25, nameIndex := 290, descriptorIndex := 25, attributes := #[] }, { accessFlags := 25, nameIndex := 292, descriptorIndex := 25, attributes := #[] }, { accessFlags := 26, nameIndex := 108, descriptorIndex := 109, attributes := #[] }, { accessFlags := 25, nameIndex := 294, descriptorIndex := 25, attributes := #[] }])
  fields := #[{ name := "U", type := (.object "jdk/internal/misc/Unsafe"), accessFlags := 24, slot := 0, constantValue := 0 }, { name := "BIG_ENDIAN", type := .boolean, accessFlags := 26, slot := 1, constantValue := 0 }, { name := "LOG2_ARRAY_BOOLEAN_INDEX_SCALE", type := .int, accessFlags := 25, slot := 2, constantValue := 0 }, { name := "LOG2_ARRAY_BYTE_INDEX_SCALE", type := .int, accessFlags := 25, slot := 3, constantValue := 0 }, { name := "LOG2_ARRAY_CHAR_INDEX_SCALE", type := .int, accessFlags := 25, slot := 4, constantValue := 0 }, { name := "LOG2_ARRAY_SHORT_INDEX_SCALE", type := .int, accessFlags := 25, slot := 5, constantValue := 0 }, { name := "LOG2_ARRAY_INT_INDEX_SCALE", type := .int, accessFlags := 25, slot := 6, constantValue := 0 }, { name := "LOG2_ARRAY_LONG_INDEX_SCALE", type := .int, accessFlags := 25, slot := 7, constantValue := 0 }, { name := "LOG2_ARRAY_FLOAT_INDEX_SCALE", type := .int, accessFlags := 25, slot := 8, constantValue := 0 }, { name := "LOG2_ARRAY_DOUBLE_INDEX_SCALE", type := .int, accessFlags := 25, slot := 9, constantValue := 0 }, { name := "LOG2_BYTE_BIT_SIZE", type := .int, accessFlags := 26, slot := 10, constantValue := 0 }, { name := "T_BOOLEAN", type := .int, accessFlags := 25, slot := 11, constantValue := 0 }, { name := "T_CHAR", type := .int, accessFlags := 25, slot := 12, constantValue := 0 }, { name := "T_FLOAT", type := .int, accessFlags := 25, slot := 13, constantValue := 0 }, { name := "T_DOUBLE", type := .int, accessFlags := 25, slot := 14, constantValue := 0 }, { name := "T_BYTE", type := .int, accessFlags := 25, slot := 15, constantValue := 0 }, { name := "T_SHORT", type := .int, accessFlags := 25, slot := 16, constantValue := 0 }, { name := "T_INT", type := .int, accessFlags := 25, slot := 17, constantValue := 0 }, { name := "T_LONG", type := .int, accessFlags := 25, slot := 18, constantValue := 0 }, { name := "JLA", type := (.object "jdk/internal/access/JavaLangAccess"), accessFlags := 26, slot := 19, constantValue := 0 }, { name := "SOFT_MAX_ARRAY_LENGTH", type := .int, accessFlags := 25, slot := 20, constantValue := 0 }]
  methods := #[k16m0]
  instanceTypes := #[]
  staticTypes := #[(.object "jdk/internal/misc/Unsafe"), .boolean, .int, .int, .int, .int, .int, .int, .int, .int, .int, .int, .int, .int, .int, .int, .int, .int, .int, (.object "jdk/internal/access/JavaLangAccess"), .int]
  resolved := Array.replicate 378 none
  statics := none }

/-- the primitive byte -/
def k17 : Class := { plain "byte" none with kind := .primitive 'B', accessFlags := 0x411 }
/-- [B -/
def k18 : Class := { plain "[B" (some 0) with kind := .array 17 .byte, interfaces := #[11, 2], accessFlags := 1041 }

/-- the primitive char -/
def k19 : Class := { plain "char" none with kind := .primitive 'C', accessFlags := 0x411 }
/-- [C -/
def k20 : Class := { plain "[C" (some 0) with kind := .array 19 .char, interfaces := #[11, 2], accessFlags := 1041 }

/-- the primitive int -/
def k21 : Class := { plain "int" none with kind := .primitive 'I', accessFlags := 0x411 }
/-- [I -/
def k22 : Class := { plain "[I" (some 0) with kind := .array 21 .int, interfaces := #[11, 2], accessFlags := 1041 }

/-- [Lcom/example/hushlist/hushlist/server/SaslMechanism; -/
def k23 : Class := { plain "[Lcom/example/hushlist/hushlist/server/SaslMechanism;" (some 0) with kind := .array 10 (.object "com/example/hushlist/hushlist/server/SaslMechanism"), interfaces := #[11, 2], accessFlags := 1041 }

def heap : Heap := #[{ cls := 7, slots := #[.long 0, .int 1, .null, .int 0, .null, .int 0, .int 0], vm := .statics 7 },
  { cls := 10, slots := #[.ref 4, .ref 5, .null, .ref 3], vm := .statics 10 },
  { cls := 15, slots := #[.null, .null, .null], vm := .statics 15 },
  { cls := 23, slots := #[.ref 4, .ref 5], vm := .none },
  { cls := 12, slots := #[.null, .int 0, .int 0, .ref 6], vm := .none },
  { cls := 14, slots := #[.null, .int 1, .int 0, .ref 7], vm := .none },
  { cls := 7, slots := #[.ref 8, .int 0, .int 0, .int 0], vm := .none },
  { cls := 7, slots := #[.ref 9, .int 0, .int 0, .int 0], vm := .none },
  { cls := 18, slots := #[.int 83, .int 67, .int 82, .int 65, .int 77, .int 45, .int 83, .int 72, .int 65, .int 45, .int 49], vm := .none },
  { cls := 18, slots := #[.int 80, .int 76, .int 65, .int 73, .int 78], vm := .none }]
def classes : Array Class := #[k0, k1, k2, k3, k4, k5, k6, k7, k8, k9, k10, k11, k12, k13, k14, k15, k16, k17, k18, k19, k20, k21, k22, k23]
def interned : List (Array UInt16 × Addr) := []
def slotsUsed : Nat := 48
def theMethod : MethodId := ⟨1, 1⟩
def args0 : Array Value := #[.int 0, .int 3, .int 0, .int 65, .long 5, .long 7]
def aboutOver (below : List Frame) : State where
  vm := { classes := classes, interned := interned.toArray }
  heap := heap
  slotsUsed := slotsUsed
  threads := #[{ frames := .invoking theMethod args0 :: below }]
def below0 : List Frame := [.native { method := ⟨0, 0⟩, args := #[] }]
def about1 : State := aboutOver below0
def p0 : Program := .bare "" "" ""
def e0 : Env := launch0.env 0 0 0
theorem w_frames : about1.frames = Frame.invoking theMethod args0 :: below0 := rfl
set_option maxRecDepth 65536 in
theorem w_args : argsFit about1.vm theMethod args0 = true := by decide +kernel
set_option maxRecDepth 65536 in
theorem w_heap : heapFits about1 = true := by decide +kernel
set_option maxRecDepth 65536 in
theorem w_runnable : about1.curStatus? = some .runnable := by decide +kernel
set_option maxRecDepth 65536 in
theorem w_alone : about1.alone = true := by decide +kernel
set_option maxRecDepth 65536 in
theorem w_named : about1.methodNamed? x = some theMethod := by decide +kernel
set_option maxRecDepth 65536 in
theorem w_hears : about1.hears theMethod below0 = true := by decide +kernel
set_option maxRecDepth 65536 in
theorem w_ripe : about1.ripe theMethod args0 below0 = true := by decide +kernel
theorem w_running : about1.status = .running := rfl
set_option maxRecDepth 65536 in
theorem w_room : about1.hasRoom e0.platform room_1 = true :=
  launch0.hasRoom_least _ room_1 (by decide +kernel) (by decide +kernel) (by decide +kernel) (by decide +kernel) (by decide +kernel) (by decide +kernel)
theorem allAtoms_all (ts : List Jvm.Cond) (a : Array Jvm.Value) (st : Jvm.State) : (allAtoms ts).before a st = ts.all (fun c => c.before a st) := by
  induction ts with
  | nil => rfl
  | cons c t ih =>
    show (Jvm.Cond.and c (allAtoms t)).before a st = _
    rw [Jvm.Cond.before_and, ih, List.all_cons]
def words1 : List Jvm.Cond := Jvm.Cond.code x code maxLocals ret :: tables_1
/-- a 'code' word, met by the world's own term for the bytes: nothing is compared byte by byte -/
theorem code_word {y : MethodName} {bytes : ByteArray} {mx : Nat} {rt : Option FieldType} {a : Array Value} {s : State} {m : MethodId} {meth : Method} {c : Code} (h1 : s.methodNamed? y = some m) (h2 : s.vm.method? m = some meth) (h3 : meth.code = some c) (h4 : c.code = bytes)
    (h5 : (c.maxLocals == mx && c.exceptionTable.isEmpty && decide (c.maxStack ≤ mostOperands) && decide (meth.sig.returnType = rt) && !meth.locks && decide (parseMethodDescriptor y.desc = some meth.sig)) = true) : (Jvm.Cond.code y bytes mx rt).before a s = true := by
  simp only [Bool.and_eq_true, beq_iff_eq, Bool.not_eq_true', decide_eq_true_eq] at h5
  obtain ⟨⟨⟨⟨⟨g1, g2⟩, g3⟩, g4⟩, g5⟩, g6⟩ := h5
  simp [Cond.before, Cond.holds, Cond.value, h1, h2, h3, h4, g1, g2, g3, g4, g5, g6]
def isCode : Jvm.Cond → Bool
  | .code _ _ _ _ => true
  | _ => false
theorem all_split {L : List Jvm.Cond} {P : Jvm.Cond → Bool} (h1 : L.all (fun c => isCode c || P c) = true) (h2 : ∀ c ∈ L.filter isCode, P c = true) : L.all P = true := by
  refine List.all_eq_true.mpr fun c hc => ?_
  have h := List.all_eq_true.mp h1 c hc
  rcases Bool.eq_false_or_eq_true (isCode c) with hi | hi
  · exact h2 c (List.mem_filter.mpr ⟨hc, hi⟩)
  · simpa [hi] using h
set_option maxRecDepth 65536 in
theorem w_c0 : (Jvm.Cond.code x code maxLocals ret).before args0 about1 = true := code_word (m := ⟨1, 1⟩) (meth := k1m1) (c := k1c1) (by decide +kernel) rfl rfl rfl (by decide +kernel)
set_option maxRecDepth 65536 in
theorem w_c1 : (Jvm.Cond.code ({ cls := "com/example/hushlist/hushlist/server/SaslMechanismNamedPinLaw", name := "prefix", desc := "([C[C)Ljava/lang/String;" } : Jvm.MethodName) method_3_code (3 : Nat) (Option.some (Jvm.ClassFile.FieldType.object "java/lang/String"))).before args0 about1 = true := code_word (m := ⟨1, 2⟩) (meth := k1m2) (c := k1c2) (by decide +kernel) rfl rfl rfl (by decide +kernel)
set_option maxRecDepth 65536 in
theorem w_c2 : (Jvm.Cond.code ({ cls := "java/lang/String", name := "<init>", desc := "([C)V" } : Jvm.MethodName) jdk_42_method_3_code (2 : Nat) (Option.none : Option Jvm.ClassFile.FieldType)).before args0 about1 = true := code_word (m := ⟨7, 1⟩) (meth := k7m1) (c := k7c1) (by decide +kernel) rfl rfl rfl (by decide +kernel)
set_option maxRecDepth 65536 in
theorem w_c3 : (Jvm.Cond.code ({ cls := "java/lang/String", name := "<init>", desc := "([CIILjava/lang/Void;)V" } : Jvm.MethodName) jdk_42_method_149_code (6 : Nat) (Option.none : Option Jvm.ClassFile.FieldType)).before args0 about1 = true := code_word (m := ⟨7, 3⟩) (meth := k7m3) (c := k7c3) (by decide +kernel) rfl rfl rfl (by decide +kernel)
set_option maxRecDepth 65536 in
theorem w_c4 : (Jvm.Cond.code ({ cls := "java/lang/Object", name := "<init>", desc := "()V" } : Jvm.MethodName) object_method_1_code (1 : Nat) (Option.none : Option Jvm.ClassFile.FieldType)).before args0 about1 = true := code_word (m := ⟨0, 0⟩) (meth := k0m0) (c := k0c0) (by decide +kernel) rfl rfl rfl (by decide +kernel)
set_option maxRecDepth 65536 in
theorem w_c5 : (Jvm.Cond.code ({ cls := "java/lang/StringUTF16", name := "compress", desc := "([CII)[B" } : Jvm.MethodName) jdk_52_method_16_code (6 : Nat) (Option.some (Jvm.ClassFile.FieldType.array Jvm.ClassFile.FieldType.byte))).before args0 about1 = true := code_word (m := ⟨8, 2⟩) (meth := k8m2) (c := k8c2) (by decide +kernel) rfl rfl rfl (by decide +kernel)
set_option maxRecDepth 65536 in
theorem w_c6 : (Jvm.Cond.code ({ cls := "java/lang/StringUTF16", name := "compress", desc := "([CI[BII)I" } : Jvm.MethodName) jdk_52_method_21_code (7 : Nat) (Option.some Jvm.ClassFile.FieldType.int)).before args0 about1 = true := code_word (m := ⟨8, 3⟩) (meth := k8m3) (c := k8c3) (by decide +kernel) rfl rfl rfl (by decide +kernel)
set_option maxRecDepth 65536 in
theorem w_c7 : (Jvm.Cond.code ({ cls := "java/lang/StringUTF16", name := "coderFromArrayLen", desc := "([BI)B" } : Jvm.MethodName) jdk_52_method_15_code (2 : Nat) (Option.some Jvm.ClassFile.FieldType.byte)).before args0 about1 = true := code_word (m := ⟨8, 1⟩) (meth := k8m1) (c := k8c1) (by decide +kernel) rfl rfl rfl (by decide +kernel)
set_option maxRecDepth 65536 in
theorem w_c8 : (Jvm.Cond.code ({ cls := "com/example/hushlist/hushlist/server/SaslMechanism", name := "named", desc := "(Ljava/lang/String;)Lcom/example/hushlist/hushlist/server/SaslMechanism;" } : Jvm.MethodName) prog_62_method_5_code (5 : Nat) (Option.some (Jvm.ClassFile.FieldType.object "com/example/hushlist/hushlist/server/SaslMechanism"))).before args0 about1 = true := code_word (m := ⟨10, 1⟩) (meth := k10m1) (c := k10c1) (by decide +kernel) rfl rfl rfl (by decide +kernel)
set_option maxRecDepth 65536 in
theorem w_c9 : (Jvm.Cond.code ({ cls := "com/example/hushlist/hushlist/server/SaslMechanism", name := "values", desc := "()[Lcom/example/hushlist/hushlist/server/SaslMechanism;" } : Jvm.MethodName) prog_62_method_1_code (0 : Nat) (Option.some (Jvm.ClassFile.FieldType.array (Jvm.ClassFile.FieldType.object "com/example/hushlist/hushlist/server/SaslMechanism")))).before args0 about1 = true := code_word (m := ⟨10, 0⟩) (meth := k10m0) (c := k10c0) (by decide +kernel) rfl rfl rfl (by decide +kernel)
set_option maxRecDepth 65536 in
theorem w_c10 : (Jvm.Cond.code ({ cls := "java/lang/String", name := "equals", desc := "(Ljava/lang/Object;)Z" } : Jvm.MethodName) jdk_42_method_66_code (3 : Nat) (Option.some Jvm.ClassFile.FieldType.boolean)).before args0 about1 = true := code_word (m := ⟨7, 2⟩) (meth := k7m2) (c := k7c2) (by decide +kernel) rfl rfl rfl (by decide +kernel)
set_option maxRecDepth 65536 in
theorem w_c11 : (Jvm.Cond.code ({ cls := "java/lang/StringLatin1", name := "equals", desc := "([B[B)Z" } : Jvm.MethodName) jdk_43_method_13_code (3 : Nat) (Option.some Jvm.ClassFile.FieldType.boolean)).before args0 about1 = true := code_word (m := ⟨13, 1⟩) (meth := k13m1) (c := k13c1) (by decide +kernel) rfl rfl rfl (by decide +kernel)
set_option maxRecDepth 65536 in
theorem w_c12 : (Jvm.Cond.code ({ cls := "com/example/hushlist/hushlist/server/SaslMechanismNamedPinLaw", name := "expected", desc := "(Ljava/lang/String;)Lcom/example/hushlist/hushlist/server/SaslMechanism;" } : Jvm.MethodName) method_4_code (1 : Nat) (Option.some (Jvm.ClassFile.FieldType.object "com/example/hushlist/hushlist/server/SaslMechanism"))).before args0 about1 = true := code_word (m := ⟨1, 3⟩) (meth := k1m3) (c := k1c3) (by decide +kernel) rfl rfl rfl (by decide +kernel)
def codes1 : List Jvm.Cond := [Jvm.Cond.code x code maxLocals ret, Jvm.Cond.code ({ cls := "com/example/hushlist/hushlist/server/SaslMechanismNamedPinLaw", name := "prefix", desc := "([C[C)Ljava/lang/String;" } : Jvm.MethodName) method_3_code (3 : Nat) (Option.some (Jvm.ClassFile.FieldType.object "java/lang/String")), Jvm.Cond.code ({ cls := "java/lang/String", name := "<init>", desc := "([C)V" } : Jvm.MethodName) jdk_42_method_3_code (2 : Nat) (Option.none : Option Jvm.ClassFile.FieldType), Jvm.Cond.code ({ cls := "java/lang/String", name := "<init>", desc := "([CIILjava/lang/Void;)V" } : Jvm.MethodName) jdk_42_method_149_code (6 : Nat) (Option.none : Option Jvm.ClassFile.FieldType), Jvm.Cond.code ({ cls := "java/lang/Object", name := "<init>", desc := "()V" } : Jvm.MethodName) object_method_1_code (1 : Nat) (Option.none : Option Jvm.ClassFile.FieldType), Jvm.Cond.code ({ cls := "java/lang/StringUTF16", name := "compress", desc := "([CII)[B" } : Jvm.MethodName) jdk_52_method_16_code (6 : Nat) (Option.some (Jvm.ClassFile.FieldType.array Jvm.ClassFile.FieldType.byte)), Jvm.Cond.code ({ cls := "java/lang/StringUTF16", name := "compress", desc := "([CI[BII)I" } : Jvm.MethodName) jdk_52_method_21_code (7 : Nat) (Option.some Jvm.ClassFile.FieldType.int), Jvm.Cond.code ({ cls := "java/lang/StringUTF16", name := "coderFromArrayLen", desc := "([BI)B" } : Jvm.MethodName) jdk_52_method_15_code (2 : Nat) (Option.some Jvm.ClassFile.FieldType.byte), Jvm.Cond.code ({ cls := "com/example/hushlist/hushlist/server/SaslMechanism", name := "named", desc := "(Ljava/lang/String;)Lcom/example/hushlist/hushlist/server/SaslMechanism;" } : Jvm.MethodName) prog_62_method_5_code (5 : Nat) (Option.some (Jvm.ClassFile.FieldType.object "com/example/hushlist/hushlist/server/SaslMechanism")), Jvm.Cond.code ({ cls := "com/example/hushlist/hushlist/server/SaslMechanism", name := "values", desc := "()[Lcom/example/hushlist/hushlist/server/SaslMechanism;" } : Jvm.MethodName) prog_62_method_1_code (0 : Nat) (Option.some (Jvm.ClassFile.FieldType.array (Jvm.ClassFile.FieldType.object "com/example/hushlist/hushlist/server/SaslMechanism"))), Jvm.Cond.code ({ cls := "java/lang/String", name := "equals", desc := "(Ljava/lang/Object;)Z" } : Jvm.MethodName) jdk_42_method_66_code (3 : Nat) (Option.some Jvm.ClassFile.FieldType.boolean), Jvm.Cond.code ({ cls := "java/lang/StringLatin1", name := "equals", desc := "([B[B)Z" } : Jvm.MethodName) jdk_43_method_13_code (3 : Nat) (Option.some Jvm.ClassFile.FieldType.boolean), Jvm.Cond.code ({ cls := "com/example/hushlist/hushlist/server/SaslMechanismNamedPinLaw", name := "expected", desc := "(Ljava/lang/String;)Lcom/example/hushlist/hushlist/server/SaslMechanism;" } : Jvm.MethodName) method_4_code (1 : Nat) (Option.some (Jvm.ClassFile.FieldType.object "com/example/hushlist/hushlist/server/SaslMechanism"))]
set_option maxRecDepth 65536 in
theorem codes_eq : words1.filter isCode = codes1 := rfl
theorem w_codes : ∀ c ∈ words1.filter isCode, c.before args0 about1 = true := by
  rw [codes_eq]
  intro c hc
  simp only [codes1, List.mem_cons, List.not_mem_nil, or_false] at hc
  rcases hc with rfl | rfl | rfl | rfl | rfl | rfl | rfl | rfl | rfl | rfl | rfl | rfl | rfl
  · exact w_c0
  · exact w_c1
  · exact w_c2
  · exact w_c3
  · exact w_c4
  · exact w_c5
  · exact w_c6
  · exact w_c7
  · exact w_c8
  · exact w_c9
  · exact w_c10
  · exact w_c11
  · exact w_c12
set_option maxRecDepth 65536 in
theorem w_t1 : (words1.take 24).all (fun c => isCode c || c.before args0 about1) = true := by decide +kernel
set_option maxRecDepth 65536 in
theorem w_t2 : ((words1.drop 24).take 24).all (fun c => isCode c || c.before args0 about1) = true := by decide +kernel
set_option maxRecDepth 65536 in
theorem w_t3 : (((words1.drop 24).drop 24).take 24).all (fun c => isCode c || c.before args0 about1) = true := by decide +kernel
set_option maxRecDepth 65536 in
theorem w_t4 : (((words1.drop 24).drop 24).drop 24).all (fun c => isCode c || c.before args0 about1) = true := by decide +kernel
theorem w_tables : (allAtoms (Jvm.Cond.code x code maxLocals ret :: tables_1)).before args0 about1 = true := by
  rw [allAtoms_all]
  show words1.all (fun c => c.before args0 about1) = true
  refine all_split ?_ w_codes
  rw [← List.take_append_drop 24 words1, List.all_append, w_t1, ← List.take_append_drop 24 (words1.drop 24), List.all_append, w_t2, ← List.take_append_drop 24 ((words1.drop 24).drop 24), List.all_append, w_t3, w_t4]
  rfl
set_option maxRecDepth 65536 in
theorem w_rest : rest_1_c.before args0 about1 = true := by decide +kernel
set_option maxRecDepth 65536 in
theorem w_case : (Jvm.Cond.and given_1 narrow_1).before args0 about1 = true := by decide +kernel
set_option maxRecDepth 65536 in
theorem w_consts : constsHeld consts_1 about1 := Jvm.Lit.constsHeldB_iff.mp (by decide +kernel)
theorem w_applies : (headSpec (Jvm.Cond.code x code maxLocals ret :: tables_1) room_1).applies x e0.platform about1 = true :=
  (Spec.applies_iff w_frames).mpr ⟨w_running, w_runnable, w_alone, w_named, w_hears, w_ripe, w_room, w_tables⟩
theorem atStart : AtStart classFile x code maxLocals ret World_1 tables_1 room_1 Calls_1 rest_1 Pre_1 launch0 p0 e0 about1 theMethod args0 below0 :=
  ⟨lists_1, trivial, launch0.admits_env _ _ _, launch0.least_env, fairChoices_fair.cas, fairChoices_fair.clock, w_frames, w_args, w_heap, w_applies, ⟨w_consts, trivial⟩, w_rest, w_case⟩
end start1
theorem witness_1 : WitnessClaimed_1 := ⟨start1.p0, start1.e0, start1.about1, start1.theMethod, start1.args0, start1.below0, start1.atStart⟩
end Jvm.Pilot.@@N@@
