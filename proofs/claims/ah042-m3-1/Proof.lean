import JvmDerived
import JvmDerived.Pilot.@@N@@Statement
import JvmDerived.Pilot.@@N@@Code
set_option linter.unusedVariables false
set_option linter.unusedSimpArgs false
namespace Jvm.Pilot.@@N@@.Own
open Jvm Sem ClassFile Op Lib Jvm.Stand Jvm.Free Jvm.LawKit Jvm.RoadKit
/-- from the state A the run comes to an end of which P holds -/
def OGo (tb : Tables) (e : Env) (below : List Frame) (P : Outcome → State → Prop) (A : State) : Prop := ∃ s₂ o, Steps tb e below A s₂ ∧ s₂.status = .running ∧ Ended s₂ below o ∧ P o s₂
theorem OGo.go {tb : Tables} {e : Env} {below : List Frame} {P : Outcome → State → Prop} {A B : State} (k : OGo tb e below P B) (h : ∀ t, Steps tb e below B t → Steps tb e below A t) : OGo tb e below P A := by
  obtain ⟨s, o, h1, h2⟩ := k; exact ⟨s, o, h _ h1, h2⟩
theorem OGo.start {tb : Tables} {e : Env} {below : List Frame} {P : Outcome → State → Prop} {T : State} {g g' : JFrame} (q : g = g') (k : OGo tb e below P (T.setTop g')) : OGo tb e below P (T.setTop g) := q ▸ k
theorem OGo.ret {p : Program} {l : Launch} {e : Env} {R : Room} {s : State} {m : MethodId} {args : Array Value} {below : List Frame} {meth : Method} {c : Code} {T : State} {locs : List Loc} {cells slots : Nat}
    (X : Stand p l e R s m args below meth c T locs cells slots) {v : Option Value} (hv : meth.sig.returnType = none → v = none) (hlocks : meth.locks = false) {A : State}
    (hA : ∀ fs, (∀ (f : JFrame) (acts : List Action), f.method = m → f.locked = none → f.entered = [] → (doReturn e (T.setTop f) acts v).1 = T.setFrames fs) → Steps p.tables e below A (T.setFrames fs))
    {Q : Option Value → Heap → List Loc → Prop} {C S : Nat} (hQ : Q v T.heap locs) (hc : cells ≤ C) (hs : slots ≤ S) :
    OGo p.tables e below (fun o U' => ∃ v L, o = .returned v ∧ Q v U'.heap L ∧ FrameEnd s o U' L C S) A := by
  obtain ⟨fs, hr, hrun, hended, hW, hsame⟩ := X.leave hv hlocks
  exact ⟨_, _, hA fs hr, hrun, hended, v, locs, rfl, hQ, ⟨_, rfl⟩, hW, hsame.mono hc hs⟩
theorem OGo.retW {p : Program} {l : Launch} {e : Env} {R : Room} {s : State} {m : MethodId} {args : Array Value} {below : List Frame} {meth : Method} {c : Code} {T : State} {locs : List Loc} {cells slots : Nat} {vm0 : Vm} {k0 : Nat}
    (X : Stand p l e R (s.setVm vm0) m args below meth c T locs cells slots) (hS : s.Since vm0 k0) (hn : k0 ≤ T.heap.size) {v : Option Value} (hv : meth.sig.returnType = none → v = none) (hlocks : meth.locks = false) {A : State}
    (hA : ∀ fs, (∀ (f : JFrame) (acts : List Action), f.method = m → f.locked = none → f.entered = [] → (doReturn e (T.setTop f) acts v).1 = T.setFrames fs) → Steps p.tables e below A (T.setFrames fs))
    {Q : Option Value → Heap → List Loc → Prop} {C S : Nat} (hQ : Q v T.heap locs) (hc : cells ≤ C) (hs : slots ≤ S) :
    OGo p.tables e below (fun o U' => ∃ v L, o = .returned v ∧ Q v U'.heap L ∧ ReturnedEndW s o U' L C S) A := by
  obtain ⟨fs, hr, hrun, hended, h1, h2, h3, h4⟩ := X.leaveW hS hn hv hlocks
  exact ⟨_, _, hA fs hr, hrun, hended, v, locs, rfl, hQ, h1, h2, h3, h4.mono hc hs⟩
theorem OGo.retWH {p : Program} {l : Launch} {e : Env} {R : Room} {s : State} {m : MethodId} {args : Array Value} {below : List Frame} {meth : Method} {c : Code} {T : State} {locs : List Loc} {cells slots : Nat} {vm0 : Vm} {k0 : Nat} {Z : State} {EL : List (String × Nat)}
    (X : Stand p l e R (s.setVm vm0) m args below meth c T locs cells slots) (hS : s.Since vm0 k0) (hn : k0 ≤ T.heap.size) {v : Option Value} (hv : meth.sig.returnType = none → v = none) (hlocks : meth.locks = false) {A : State}
    (hA : ∀ fs, (∀ (f : JFrame) (acts : List Action), f.method = m → f.locked = none → f.entered = [] → (doReturn e (T.setTop f) acts v).1 = T.setFrames fs) → Steps p.tables e below A (T.setFrames fs))
    {Q : Option Value → Heap → List Loc → Prop} {C S : Nat} (hQ : Q v T.heap locs) (hCR : CHr Z EL s.vm s.heap T.vm T.heap) (hc : cells ≤ C) (hs : slots ≤ S) :
    OGo p.tables e below (fun o U' => ∃ v L, o = .returned v ∧ Q v U'.heap L ∧ CHr Z EL s.vm s.heap U'.vm U'.heap ∧ ReturnedEndW s o U' L C S) A := by
  obtain ⟨fs, hr, hrun, hended, h1, h2, h3, h4⟩ := X.leaveW hS hn hv hlocks
  exact ⟨_, _, hA fs hr, hrun, hended, v, locs, rfl, hQ, hCR, h1, h2, h3, h4.mono hc hs⟩
theorem Safe.bare {Z : State} {EL : List (String × Nat)} {vm : Vm} {h : Heap} {x : Addr} (hal : Z.vm.Alike vm) (E : Exa Z h x "java/lang/String") (N : Fld Z h x "java/lang/String" "value" "[B" .null) : Safe Z EL vm h x := fun B => by
  obtain ⟨cell, k, e1, e2, e3, -, -⟩ := E
  obtain ⟨p, -, u, a, -, q, -, F, rfl | rfl⟩ := B
  · obtain ⟨cell', cf, kf, i, f, n1, n2, -, -, -, -, n7⟩ := N
    have ha := F.ha
    obtain ⟨cS, ⟨⟨-, -, -, ⟨c1, k1, i1, f1, -⟩, -, -, -, v1, -⟩, -⟩, -⟩ := F
    obtain ⟨k3, e4, -⟩ := State.fieldFound?_setVm (s := Z) (vm' := vm) hal n2
    have e5 := (show (Wst Z vm h).fieldFound? _ _ _ = _ from e4).symm.trans f1
    simp only [Option.some.injEq, Prod.mk.injEq] at e5
    cases (show h[q.sa]? = some q.sC from ha).symm.trans n1
    rw [← e5.2.2.2, n7] at v1
    cases v1
  · have hd := F.hd
    cases (show h[q.sd]? = some q.SA from hd).symm.trans e1
    obtain ⟨cS, -, -, f, -⟩ := F
    have f' : Z.vm.findClass "[B" = some q.SA.cls := by rw [← hal.findClass]; exact f
    obtain ⟨k1, q1, q2⟩ := Vm.findClass_spec f'
    obtain ⟨k2, q3, q4⟩ := Vm.findClass_spec e2
    cases q1.symm.trans q3
    exact absurd (q2.symm.trans q4) (by decide)
theorem Sta.keep0 {Z : State} {h h' : Heap} {C n d : String} {v : Value} (F : Sta Z h C n d v) (K : Keep h h' []) : Sta Z h' C n d v := by
  obtain ⟨cf, i, k, f, st, cell, h1, h2, h3, h4, h5, r⟩ := F; exact ⟨cf, i, k, f, st, cell, h1, h2, h3, h4, K.2.1 _ _ h5 (fun q => nomatch q), r⟩
theorem Sta.keepE {Z : State} {h h' : Heap} {C n d : String} {v : Value} {ws : List Addr} (F : Sta Z h C n d v) (K : Keep h h' ws) (q : ∀ x ∈ ws, ∃ c : Cell, h[x]? = some c ∧ ∀ q, c.vm ≠ .statics q) : Sta Z h' C n d v := by
  obtain ⟨cf, i, k, f, st, cell, h1, h2, h3, h4, h5, h6, r⟩ := F
  refine ⟨cf, i, k, f, st, cell, h1, h2, h3, h4, K.2.1 _ _ h5 (fun hm => ?_), h6, r⟩
  obtain ⟨c, hc, hq⟩ := q _ hm
  cases h5.symm.trans hc
  cases hv : cell.vm <;> rw [hv] at h6 <;> first | exact hq _ hv | (simp [VmData.isStatics] at h6)
theorem staS {h : Heap} {y : Addr} {ws : List Addr} (a : ∃ c : Cell, h[y]? = some c ∧ ∀ q, c.vm ≠ .statics q) (r : ∀ x ∈ ws, ∃ c : Cell, h[x]? = some c ∧ ∀ q, c.vm ≠ .statics q) : ∀ x ∈ y :: ws, ∃ c : Cell, h[x]? = some c ∧ ∀ q, c.vm ≠ .statics q := fun x hx => (List.mem_cons.mp hx).elim (fun e => e ▸ a) (r x)
theorem own_nf {args : Array Value} {s : State} {C : String} {y y' : MethodName} (hsel : (Cond.selects C y' y').before args s = true) (e : y'.cls = y.cls) : NotFace s y := fun r0 h0 => by
  obtain ⟨c2, r2, m2, q1, q2, q3, q4, kP, hkP, hkPi⟩ := Cond.selects_spec hsel
  have a := findClass_of_methodNamed h0
  have b := findClass_of_methodNamed q3
  rw [e] at b
  have c : r0.cls = m2.cls := Option.some.inj (a.symm.trans b)
  exact ⟨kP, by rw [c]; exact hkP, hkPi⟩
theorem own_decl {a0 a1 : Array Value} {Z : State} {y : MethodName} {bytes : ByteArray} {maxL : Nat} {ret : Option FieldType} (w : (Cond.instanceMethod y).before a0 Z = true) (wc : (Cond.code y bytes maxL ret).before a0 Z = true) : (Cond.declares y).before a1 Z = true := by
  obtain ⟨m, meth, h1, h2, h3, -⟩ := Cond.instanceMethod_spec w
  obtain ⟨m2, c, h4, -, -, -, -, -, -, h5⟩ := Cond.code_spec h1 wc
  cases h2.symm.trans h4
  simp [Cond.before, Cond.holds, Cond.value, h1, h2, h3, h5]
theorem own_same {a0 : Array Value} {Z : State} {y : MethodName} (hmh : y.cls ≠ "java/lang/invoke/MethodHandle" ∧ y.cls ≠ "java/lang/invoke/VarHandle") (w : (Cond.declares y).before a0 Z = true) (nf : NotFace Z y) : (Cond.sameMethod y.cls y.cls y.name y.desc).before a0 Z = true := by
  obtain ⟨m, meth, h1, -⟩ := Cond.declares_spec w
  obtain ⟨k, hk, hi⟩ := nf m h1
  have hc := findClass_of_methodNamed h1
  have hf := State.methodFound?_of_named h1 hmh
  simp [Cond.before, Cond.holds, Cond.value, hc, hf, h1, hk, hi]
theorem fldI {args : Array Value} {s : State} {t : Term} {C n d : String} {x : Addr} {k : Int32} (ht : t.eval args s none [] s = some (.ref x)) (h : (Cond.eq (Term.field t C n d) (Term.int k)).value args s none s [] = some true) : Fld s s.heap x C n d (.int k) := by
  obtain ⟨u, w, hu, hw, hk, hk'⟩ := cmp_v (Or.inl h)
  cases (Term.int_eval k).symm.trans hw
  obtain ⟨z, rfl⟩ := hk'
  have e : z = k := by simpa [Cond.value, hu, Term.int_eval] using h
  subst e
  exact Fld.start (by rw [← fld_at ht]; exact hu)
theorem long_eval {args : Array Value} {s f : State} {o : Option Outcome} {idx : List Nat} (n : Int64) : (Term.long n).eval args f o idx s = some (.long n) := rfl
theorem fldL {args : Array Value} {s : State} {t : Term} {C n d : String} {x : Addr} {k : Int64} (ht : t.eval args s none [] s = some (.ref x)) (h : (Cond.eq (Term.field t C n d) (Term.long k)).value args s none s [] = some true) : Fld s s.heap x C n d (.long k) := by
  obtain ⟨u, w, hu, hw, hk, hk'⟩ := cmp_v (Or.inl h)
  cases (long_eval k).symm.trans hw
  obtain ⟨z, rfl⟩ := hk'
  have e : z = k := by simpa [Cond.value, hu, long_eval] using h
  subst e
  exact Fld.start (by rw [← fld_at ht]; exact hu)
theorem valL {args : Array Value} {s : State} {t : Term} {k : Int64} (h : (Cond.eq t (Term.long k)).value args s none s [] = some true) : t.eval args s none [] s = some (.long k) := by
  obtain ⟨u, w, hu, hw, hk, hk'⟩ := cmp_v (Or.inl h)
  cases (long_eval k).symm.trans hw
  obtain ⟨z, rfl⟩ := hk'
  have e : z = k := by simpa [Cond.value, hu, long_eval] using h
  subst e
  exact hu
theorem valI {args : Array Value} {s : State} {t : Term} {k : Int32} (h : (Cond.eq t (Term.int k)).value args s none s [] = some true) : t.eval args s none [] s = some (.int k) := by
  obtain ⟨u, w, hu, hw, hk, hk'⟩ := cmp_v (Or.inl h)
  cases (Term.int_eval k).symm.trans hw
  obtain ⟨z, rfl⟩ := hk'
  have e : z = k := by simpa [Cond.value, hu, Term.int_eval] using h
  subst e
  exact hu
theorem lenI {args : Array Value} {s : State} {t : Term} {x : Addr} {cl : Cell} {ty : FieldType} {k : Int32} (ht : t.eval args s none [] s = some (.ref x)) (A : Arr s s.heap x cl ty) (h : (Cond.eq (Term.length t) (Term.int k)).value args s none s [] = some true) : cl.slots.size.toInt32 = k ∧ cl.slots.size < 2 ^ 31 := by
  have hv := valI h
  have ha : s.arrayAt? x = some cl := Arr.fin (Vm.Alike.refl _) A
  simp only [Term.eval, ht, ha, Option.bind_eq_bind, Option.bind_some] at hv
  split at hv
  · rename_i q; exact ⟨by simpa using hv, q⟩
  · cases hv
theorem elemR {args : Array Value} {s : State} {t u : Term} {x y : Addr} {cl : Cell} {ty : FieldType} {k : Int32} (ht : t.eval args s none [] s = some (.ref x)) (A : Arr s s.heap x cl ty) (hu : u.eval args s none [] s = some (.ref y)) (h : (Cond.eq (Term.elem t (Term.int k)) u).value args s none s [] = some true) : cl.slots[k.toNatClampNeg]? = some (.ref y) := by
  obtain ⟨v, w, hv, hw, hk, hk'⟩ := cmp_v (Or.inl h)
  cases hu.symm.trans hw
  have e := (elem_in hv ht (Term.int_eval k) A.1).2
  rw [e]
  rcases ref_cases (v := v) hk'.2 with rfl | ⟨z, rfl⟩
  · simp [Cond.value, hv, hu] at h
  · have q : z = y := by simpa [Cond.value, hv, hu] using h
    rw [q]
end Jvm.Pilot.@@N@@.Own
namespace Jvm.Pilot.@@N@@
open Jvm Jvm.ClassFile Sem Op Lib Jvm.Free Jvm.Stand Jvm.LawKit Jvm.RoadKit Bundle Jvm.Pilot.@@N@@.Jvm.D Jvm.Pilot.@@N@@.Own
theorem own_backW {p : Program} {l : Launch} {e : Env} {R : Room} {s : State} {args : Array Value} {below : List Frame} {Z : State} {a0 : Array Value} {EL : List (String × Nat)} {h : Heap} {vm0 : Vm} {y : MethodName} {bytes : ByteArray} {maxL : Nat} {ret : Option FieldType} {rm : Room} {len W : Nat} {as' : Array Value} {Q : Option Value → Heap → List Loc → Prop}
    (hM : MetFree l y (Jvm.RoadKit.head1 [Jvm.Cond.code y bytes maxL ret] rm) (fun a U => a = as' ∧ Z.Warmed39 U.vm ∧ U.heap = h ∧ CHv Z EL U.vm h) (fun _ _ _ _ _ => True) (fun _ U o U' => ∃ v L, o = .returned v ∧ Q v U'.heap L ∧ ReturnedEndW U o U' L rm.cells rm.slots))
    (hZ : Z.Warmed39 vm0) (wc : (Jvm.Cond.code y bytes maxL ret).before a0 Z = true) (wz : (Jvm.Cond.initialized y.cls).before a0 Z = true) (hf : rm.frames + 1 ≤ R.frames) (hl : W + (maxL + 11) + rm.locals ≤ R.locals) (hEL : EW Z a0 EL) (H : CHv Z EL vm0 h) :
    BackS l R p e below (s.setVm vm0) args y len W (fun A a => a = as' ∧ A.U.heap = h ∧ A.cells + rm.cells ≤ R.cells ∧ A.slots + rm.slots ≤ R.slots)
      (fun A _ v B => ∃ L, Q v B.U.heap L ∧ B.locs = A.locs ++ L ∧ B.cells = A.cells + rm.cells ∧ B.slots = A.slots + rm.slots) := by
  refine BackS.of_freeW (bytes := bytes) (maxL := maxL) (ret := ret) (E := fun _ _ o t L k n => k = rm.cells ∧ n = rm.slots ∧ ∃ v, o = .returned v ∧ Q v t.heap L) hM hf hl ?_ ?_ ?_ ?_ ?_
  · intro m meth c A a Y hp
    have hU : Z.Warmed39 A.U.vm := wtrans (s := s.setVm vm0) hZ Y.warmed
    refine ⟨?_, mv hU wc, mv hU wz, hp.2.2.1, hp.2.2.2⟩
    show (Jvm.Cond.and _ .tt).before a A.U = true
    rw [Cond.before_and, mv hU wc]; rfl
  · intro m meth c A a g mk Y hp
    exact ⟨hp.1, wtrans (s := s.setVm vm0) hZ Y.warmed, hp.2.1, (CHv.at Y hZ hEL H).1⟩
  · intro m meth c A a g mk Y hp; trivial
  · rintro a first o t ⟨v, L, h1, h2, h3⟩
    exact ⟨L, _, _, h3, rfl, rfl, v, h1, h2⟩
  · rintro m meth c A a g mk v t L k n Y hp _ _ ⟨e1, e2, v', e3, e4⟩
    cases e3; subst e1 e2; exact ⟨L, e4, rfl, rfl, rfl⟩

open Jvm.Free.Exc
def own_thr (rc : String) : List Jvm.Cond := [.initialized tN, .superclass tN "java/lang/Object", .instanceMethod tFill, .codeSync tFill Jvm.LibCode.Throwable.Fill.code 1 (some (.object tN)), .instanceMethod tFill0, .native tFill0, .instanceMethod oInit, .code oInit ⟨#[0xb1]⟩ 1 none, .methodLink tN 1 oInit, .methodLink tN 27 tFill, .methodLink tN 202 tFill0, .fieldLink tN 7 tN "cause" "Ljava/lang/Throwable;", .lays tN tN "cause" "Ljava/lang/Throwable;", .fieldLink tN 17 tN "stackTrace" steD, .lays tN tN "stackTrace" steD, .fieldLink tN 24 tN "suppressedExceptions" listD, .lays rc tN "suppressedExceptions" listD, .fieldLink tN 13 tN "UNASSIGNED_STACK" steD, .laysStatic tN "UNASSIGNED_STACK" steD, .fieldLink tN 20 tN "SUPPRESSED_SENTINEL" listD, .laysStatic tN "SUPPRESSED_SENTINEL" listD, .lays tN tN "detailMessage" "Ljava/lang/String;", .lays rc tN "stackTrace" steD]
def own_ties (T : ThrowableC) (s : State) : Prop := s.vm.findClass tN = some T.cT ∧ s.methodNamed? tFill = some T.fill ∧ s.methodNamed? tFill0 = some T.fill0 ∧ (∃ i, s.fieldFound? tN "stackTrace" steD = some (T.cT, T.kT, i, T.fStack)) ∧
  (∃ i, s.fieldFound? tN "UNASSIGNED_STACK" steD = some (T.cT, T.kT, i, T.fUnassigned)) ∧ T.fStack.type = .array (.object "java/lang/StackTraceElement") ∧ ∃ cell, s.heap[T.aS]? = some cell ∧ cell.vm.isStatics = true
set_option maxHeartbeats 4000000 in
theorem own_links {a : Array Value} {s : State} {pl : Platform} (ho : pl.frameOwnsMonitors = true) (hfi : pl.finalization = false) (hpl : pl.magicAccessors = ({} : Platform).magicAccessors) {rc : String}
    (W : ∀ d ∈ own_thr rc, d.holds a s none s [] = true) : ∃ T : ThrowableC, T.Links pl s ∧ own_ties T s := by
  obtain ⟨⟨cl, j0⟩, n0, N1, N2, N3, N4, N5, N6⟩ := Cond.native_spec (W _ (List.mem_of_getElem? (i := 5) rfl))
  have F := findClass_of_methodNamed N1
  obtain ⟨kt, K1, K2⟩ := Vm.findClass_spec F
  obtain ⟨_, kt2, _, _, S1, _, _, S2, _, S3⟩ := Cond.superclass_spec F (W _ (List.mem_of_getElem? (i := 1) rfl))
  cases K1.symm.trans S1
  obtain ⟨jf, mf, A1, A2, A3, A4, A5, -, -⟩ := Cond.ownMethod (x := tFill) F K1 (W _ (List.mem_of_getElem? (i := 2) rfl))
  obtain ⟨_, cf, B1, B2, B3, B4, B5, B6, -, B7⟩ := Cond.codeSync_spec A1 (W _ (List.mem_of_getElem? (i := 3) rfl))
  cases A2.symm.trans B1
  obtain ⟨j1, m1, C1, C2, C3, C4, C5, C6, C7⟩ := Cond.ownMethod (x := tFill0) F K1 (W _ (List.mem_of_getElem? (i := 4) rfl))
  cases N1.symm.trans C1
  cases N2.symm.trans C2
  obtain ⟨mo, om, D1, D2, D3, D4⟩ := Cond.instanceMethod_spec (W _ (List.mem_of_getElem? (i := 6) rfl))
  obtain ⟨_, oc, E1, E2, E3, E4, -, E5, -, E6⟩ := Cond.code_spec D1 (W _ (List.mem_of_getElem? (i := 7) rfl))
  cases D2.symm.trans E1
  obtain ⟨ko, O1, O2⟩ := Vm.findClass_spec (findClass_of_methodNamed D1)
  obtain ⟨O3, O4⟩ := name_of_methodNamed D1 D2
  obtain ⟨x1, y1, f, G1, G2, G3, G4⟩ := Cond.linkedMethod F K1 D1 (W _ (List.mem_of_getElem? (i := 8) rfl)) pl hpl
  obtain ⟨x27, y27, _, H1, H2, H3, H4⟩ := Cond.linkedMethod F K1 A1 (W _ (List.mem_of_getElem? (i := 9) rfl)) pl hpl
  cases G3.symm.trans H3
  obtain ⟨x202, y202, _, I1, I2, I3, I4⟩ := Cond.linkedMethod F K1 N1 (W _ (List.mem_of_getElem? (i := 10) rfl)) pl hpl
  cases G3.symm.trans I3
  obtain ⟨u7, v7, fc, P1, P2, P3, P4, P5, -, -, P6⟩ := Cond.ownField (t := .object tN) F K1 (by decide +kernel) (W _ (List.mem_of_getElem? (i := 11) rfl)) (W _ (List.mem_of_getElem? (i := 12) rfl)) pl hpl
  obtain ⟨u17, v17, fs, Q1, Q2, Q3, Q4, Q5, Q6, Q7, Q8⟩ := Cond.ownField (t := .array (.object "java/lang/StackTraceElement")) F K1 (by decide +kernel) (W _ (List.mem_of_getElem? (i := 13) rfl)) (W _ (List.mem_of_getElem? (i := 14) rfl)) pl hpl
  obtain ⟨u24, v24, fp, R1, R2, R3, R4, R5, R6, -, R8⟩ := Cond.ownField (t := .object "java/util/List") F K1 (by decide +kernel) (W _ (List.mem_of_getElem? (i := 15) rfl)) (W _ (List.mem_of_getElem? (i := 16) rfl)) pl hpl
  obtain ⟨u13, v13, f13, sa, sc, T1, T2, T3, T4, -, -, T5, T6, T7, -, -, T8⟩ := Cond.ownStatic (t := .array (.object "java/lang/StackTraceElement")) F K1 (by decide +kernel) (W _ (List.mem_of_getElem? (i := 17) rfl)) (W _ (List.mem_of_getElem? (i := 18) rfl)) pl hpl
  obtain ⟨u20, v20, f20, _, _, U1, U2, U3, U4, -⟩ := Cond.ownStatic (t := .object "java/util/List") F K1 (by decide +kernel) (W _ (List.mem_of_getElem? (i := 19) rfl)) (W _ (List.mem_of_getElem? (i := 20) rfl)) pl hpl
  obtain ⟨_, _, _, _, _, fm, _, _, V1, V2, V3, _⟩ := Cond.lays_spec (W _ (List.mem_of_getElem? (i := 21) rfl))
  obtain ⟨cr, kr, _, _, _, _, L1, L2, -⟩ := Cond.lays_spec (W _ (List.mem_of_getElem? (i := 16) rfl))
  have apart : fs.slot ≠ fp.slot := by
    obtain ⟨-, d, Y1, Y2⟩ := Cond.laysAt L1 L2 Q8 (W _ (List.mem_of_getElem? (i := 22) rfl))
    obtain ⟨-, d', Z1, Z2⟩ := Cond.laysAt L1 L2 R8 (W _ (List.mem_of_getElem? (i := 16) rfl))
    exact Cond.laysApart Y1 Z1 Y2 Z2 (by rw [Q6, R6]; decide)
  have q1 : mf.sig.parameters = [] := by
    have z : (parseMethodDescriptor tFill.desc).map (·.parameters) = some [] := by decide +kernel
    rw [B7] at z; simpa using z
  have q2 : n0.sig.parameters = [.int] := by
    have z : (parseMethodDescriptor tFill0.desc).map (·.parameters) = some [.int] := by decide +kernel
    rw [N6] at z; simpa using z
  have q3 : om.sig.parameters = [] := by
    have z : (parseMethodDescriptor oInit.desc).map (·.parameters) = some [] := by decide +kernel
    rw [E6] at z; simpa using z
  let T : ThrowableC := { cT := cl, kT := kt, cO := cl, aS := sa, fillIdx := jf, fill0Idx := j0, initSIdx := jf, obj := mo, kObj := ko, methFill := mf, methFill0 := n0, methInitS := mf, methObj := om, codeFill := cf, codeInitS := cf, codeObj := oc, fBack := fc, fDepth := fc, fStack := fs, fCause := fc, fSupp := fp, fMsg := fm, fUnassigned := f13, fSentinel := f20, cfT := f, ci1 := x1, n1 := y1, ci27 := x27, n27 := y27, ci202 := x202, n202 := y202, ci7 := u7, i7 := v7, ci13 := u13, i13 := v13, ci17 := u17, i17 := v17, ci20 := u20, i20 := v20, ci24 := u24, i24 := v24 }
  have ok : T.Links pl s := by
    constructor
    case owns => exact ho
    case noFinalization => exact hfi
    case objFound => exact (by rw [O4]; exact lookupSpecial_of_named D1 D2 D3 : lookupSpecial s.vm mo.cls "<init>" om.desc = .method mo)
    case objParams => exact (by rw [q3]; rfl : om.sig.parameters.length = 0)
    case initialized => exact Cond.initialized_spec F K1 (W _ (List.mem_of_getElem? (i := 0) rfl))
    case boot => exact Vm.findClass_boot F K1
    all_goals first | exact K1 | exact K2 | exact S3 | exact T5 | exact A3 | exact B2 | exact B3 | exact B4 | exact B6 | exact A4 | exact A5 | exact B5 | exact q1 | exact C3 | exact C6 | exact C7 | exact q2 | exact C4 | exact N3 | exact N4 | exact N5 | exact C5 | exact Q4 | exact Q5 | exact T4 | exact O1 | exact O2 | exact D2 | exact O3 | exact D3 | exact D4 | exact E2 | exact E3 | exact E5 | exact P4 | exact P5 | exact U4 | exact R4 | exact R5 | exact V2 | exact V3 | exact apart | exact G3 | exact G1 | exact G2 | exact G4 | exact H1 | exact H2 | exact H4 | exact I1 | exact I2 | exact I4 | exact P1 | exact P2 | exact P3 | exact T1 | exact T2 | exact T3 | exact Q1 | exact Q2 | exact Q3 | exact U1 | exact U2 | exact U3 | exact R1 | exact R2 | exact R3
  exact ⟨T, ok, F, A1, N1, ⟨_, Q8⟩, ⟨_, T8⟩, Q7, sc, T6, T7⟩
def own_more (rc : String) : List Jvm.Cond := [.declares tFill, .selects rc tFill0 tFill0, .selects rc tFill tFill, .instanceMethod tFill, .methodLink tN 27 tFill, .fieldLink tN 198 tN "backtrace" obD, .lays tN tN "backtrace" obD, .lays rc tN "backtrace" obD, .arrayOver (.object "java/lang/Object"), .soleField tN "backtrace", .soleField tN "depth", .lays rc tN "depth" "I", .lays rc tN "stackTrace" steD]
theorem own_xok {rc : String} : ∀ d ∈ own_thr rc ++ own_more rc, xOk d = true := List.all_eq_true.mp rfl
theorem own_tk {s : State} {cell : Cell} {k : Class} {f : Field} {v : Value} (h1 : s.vm.classes[cell.cls]? = some k) (h2 : k.kind = .ordinary) (h3 : k.instanceTypes[f.slot]? = some f.type) (h4 : fits f.type v = true) (h5 : cell.vm = .none) (h6 : cell.slots.size = k.instanceTypes.size) : Jvm.Takes s cell f v := by
  obtain ⟨q1, q2⟩ := Takes.of_laid (v := v) h1 h2 h3 h4
  exact ⟨by rw [h6]; simpa using q1, by rw [h5]; exact q2⟩
set_option maxHeartbeats 8000000 in
theorem own_fill {p : Program} {l : Launch} {e : Env} {R : Room} {s : State} {m : MethodId} {args : Array Value} {below : List Frame} {meth : Method} {c : Code} {T : State} {locs : List Loc} {cells slots : Nat} {Z : State} {a0 : Array Value} {h : Heap}
    (X : Stand p l e R s m args below meth c T locs cells slots) (hx : p.tables.exec = Jvm.exec) (hl : l.stackTraces = true) (hZ : Z.Warmed39 s.vm) (hown : s.vm.findClass tN = some m.cls) {rc : String} {n : Nat}
    (w : ∀ d ∈ own_thr rc ++ own_more rc, d.before a0 Z = true) (wi : (Cond.instantiable rc n).before a0 Z = true) (hT0 : ThS Z s.heap) (hT : ThS Z h) (hTK : s.vm.MethodsKnown) (hBelow : s.vm.FramesKnown below) (eT : T.heap = h) {a : Addr} {us : Value}
    (E : Exa Z h a rc) (N : Unt h a) (B : Fld Z h a tN "backtrace" obD .null) (S : Fld Z h a tN "stackTrace" steD us) (SU : Sta Z h tN "UNASSIGNED_STACK" steD us) (hus : us.isRef = true)
    {g : JFrame} (hg : g.method = m) (hsize : g.locals.size = c.maxLocals) {rest : List Value} (hs : g.stack = .ref a :: rest) (hd : decode c.code g.pc = .ok (.invokevirtual 27, 3))
    (hf : 3 ≤ R.frames) (hlo : 2 * g.monitorRoom + (rest.map fun v => v.category).sum + 42 ≤ R.locals) (hc : cells + 1 ≤ R.cells) (hsl : slots + 2752 ≤ R.slots) :
    ∃ (T' : State) (h' : Heap) (L : List Loc), Stand p l e R s m args below meth c T' (locs ++ L) (cells + 1) (slots + 2752) ∧ T'.heap = h' ∧ (∀ y ∈ L, y.base = a) ∧ Exa Z h' a rc ∧
      (∀ {O nm d : String} {v : Value} {t : FieldType}, Laid Z a0 rc O nm d → parseFieldDescriptor d = some t → nm ≠ "backtrace" → nm ≠ "depth" → nm ≠ "stackTrace" → Fld Z h a O nm d v → Fld Z h' a O nm d v) ∧
      ∀ target, Steps p.tables e below (T'.setTop { g with pc := g.pc + 3, stack := .ref a :: rest }) target → Steps p.tables e below (T.setTop g) target := by
  have W : ∀ d ∈ own_thr rc ++ own_more rc, d.holds args s none s [] = true := fun d hd => mvX (args := args) hT0 hZ (own_xok d hd) (w d hd)
  have M : ∀ {d}, d ∈ own_more rc → d.holds args s none s [] = true := fun hd => W _ (List.mem_append_right _ hd)
  obtain ⟨TT, LL, y1, y2, y3, ⟨i17, y4⟩, ⟨i13, y5⟩, y6, sc, y7, y8⟩ := own_links (a := args) (s := s) (pl := e.platform) (by rw [X.admits.platform]) (by rw [X.admits.platform]) (by rw [X.admits.platform]) (rc := rc) (fun d hd => W d (List.mem_append_left _ hd))
  have htr : e.platform.stackTraces = true := by rw [X.admits.platform]; exact hl
  have hpl : e.platform.magicAccessors = ({} : Platform).magicAccessors := by rw [X.admits.platform]
  obtain ⟨cell, k, e1, e2, e3, e4, e5⟩ := id E
  obtain ⟨_, n1, n2, n3⟩ := id N
  cases e1.symm.trans n1
  obtain ⟨_, _, j1, j2, j3, -⟩ := Cond.instantiable_spec wi
  cases e2.symm.trans j1
  cases e3.symm.trans j2
  obtain ⟨kx, x1, x2⟩ := hZ.alike.2.2 _ _ e3
  have hfc : s.vm.findClass rc = some cell.cls := by rw [hZ.alike.findClass]; exact e2
  have hord : kx.kind = .ordinary := by rw [x2]; exact j3
  have hsz : cell.slots.size = kx.instanceTypes.size := by rw [x2]; exact e5 j3
  -- the fields at s
  obtain ⟨z1, z2, fB, b1, b2, b3, b4, -, b5, b6, b7⟩ := Cond.ownField (t := .object "java/lang/Object") y1 LL.cls (by decide +kernel) (M (List.mem_of_getElem? (i := 5) rfl)) (M (List.mem_of_getElem? (i := 6) rfl)) e.platform hpl
  obtain ⟨_, _, _, _, iD, fD, _, _, d1, d2, -⟩ := Cond.lays_spec (M (List.mem_of_getElem? (i := 11) rfl))
  cases Option.some.inj ((Cond.lays_declared (M (List.mem_of_getElem? (i := 11) rfl)) d1).symm.trans y1)
  obtain ⟨d3, d4⟩ := State.fieldFound?_spec d1
  cases Option.some.inj (d3.symm.trans LL.cls)
  obtain ⟨d5, d6⟩ := State.fieldFound?_type d1 (t := .int) (by decide +kernel)
  obtain ⟨tS, dS, S1, S2⟩ := Cond.laysAt hfc x1 y4 (M (List.mem_of_getElem? (i := 12) rfl))
  obtain ⟨tB, dB, B1, B2⟩ := Cond.laysAt hfc x1 b7 (M (List.mem_of_getElem? (i := 7) rfl))
  obtain ⟨tD, dD, D1, D2⟩ := Cond.laysAt hfc x1 d1 (M (List.mem_of_getElem? (i := 11) rfl))
  obtain ⟨comp, cO, kO, -, -, o1, o2, o3⟩ := Cond.arrayOver_spec (M (List.mem_of_getElem? (i := 8) rfl))
  -- the receiver's slots
  have same : ∀ {O nm d : String} {cf : ClassId} {kf : Class} {i : Nat} {f : Field} {v : Value}, s.fieldFound? O nm d = some (cf, kf, i, f) → Fld Z h a O nm d v → cell.slots[f.slot]? = some v := fun {O nm d cf kf i f v} q F => by
    obtain ⟨c9, cf9, k9, i9, f9, g1, g2, -, -, -, -, g7⟩ := F
    cases e1.symm.trans g1
    obtain ⟨k8, g8, -⟩ := State.fieldFound?_setVm (s := Z) hZ.alike g2
    cases q.symm.trans (show s.fieldFound? O nm d = _ from g8)
    exact g7
  obtain ⟨cu, iu, ku, fu, su, cellu, r1, r2, r3, r4, r5, r6, r7⟩ := id SU
  obtain ⟨ku2, r8, r9⟩ := State.fieldFound?_setVm (s := Z) hZ.alike r1
  cases (show s.fieldFound? tN "UNASSIGNED_STACK" steD = _ from r8).symm.trans y5
  have hsu : su = TT.aS := by
    have q : TT.kT.statics = some su := by rw [r9]; exact r4
    exact Option.some.inj (q.symm.trans LL.statics)
  subst hsu
  have hne : TT.aS ≠ a := fun z => by rw [z, e1] at r5; cases r5; rw [e4] at r6; cases r6
  have hsel0 : selectMethod e.platform s.vm cell.cls TT.fill0 = .method TT.fill0 := by
    obtain ⟨c2, q0, m2, q1, q2, q3, q4, -⟩ := Cond.selects_spec (M (List.mem_of_getElem? (i := 1) rfl))
    cases Option.some.inj (q1.symm.trans hfc)
    cases Option.some.inj (q2.symm.trans (State.methodFound?_of_named y3 (by decide)))
    cases Option.some.inj (q3.symm.trans y3)
    rw [Launch.admits_selectMethod X.admits]; exact q4
  have hSE := (M (List.mem_of_getElem? (i := 2) rfl))
  obtain ⟨v6, vm6, ⟨T6, L6, c6, n6⟩, hW6, X6, ⟨hv6, C6, nn, hn, hD6, q1, q2, q3, q4, hL6, hc6, hn6⟩, come⟩ := X.virtualBack hx (own := tN) (C := rc) (index := 27) (y := tFill) (z := tFill) hown (M (List.mem_of_getElem? (i := 4) rfl)) (M (List.mem_of_getElem? (i := 0) rfl)) (notFace_of_selects hSE) hSE (M (List.mem_of_getElem? (i := 3) rfl)) (by decide)
    (fillPaysAny (l := l) (R := R) (W := 2 * g.monitorRoom + (rest.map fun v => v.category).sum) hx htr TT LL y2 (u0 := ⟨us, hus⟩) (self := a) (cell := cell) (cellS := cellu) (fun _ => by rw [n2]; simp) (by rw [n2]; simp) (by rw [n3]) (by rw [n3]) (same y4 S) hsel0 hne (fun z => by rw [z] at r6; cases r6) r7
      (own_tk x1 hord tS (by rw [y6]; exact fits_refV_array _ ⟨us, hus⟩) n2 hsz) ⟨{ ci198 := z1, i198 := z2, fBack := fB }, ⟨b1, b2, b3, b4⟩, same b7 B⟩ hTK hBelow y1 o3 o1 o2
      (Cond.soleField_find y1 LL.cls (M (List.mem_of_getElem? (i := 9) rfl)) b3 b5 b4) (Cond.soleField_find y1 LL.cls (M (List.mem_of_getElem? (i := 10) rfl)) d4 d5 d2) (fun x => own_tk x1 hord tB (by rw [b6]; rfl) n2 hsz) (fun x => own_tk x1 hord tD (by rw [d6]; rfl) n2 hsz) (by omega) (by omega))
    (b := a) (cB := cell.cls) hfc ⟨cell, by rw [eT]; exact e1, rfl, e4⟩ hg hsize (Steps.refl _) (argsL := []) (rest := rest)
    (fun sig q => by rw [show parseMethodDescriptor tFill.desc = some ⟨[], some (.object tN)⟩ from by decide +kernel] at q; rw [← Option.some.inj q]; rfl) hs (Nat.le_refl _) hd
    (fun vmx hWx => ⟨rfl, hc, hsl, by show T.heap[a]? = _; rw [eT]; exact e1, by show T.heap[TT.aS]? = _; rw [eT]; exact r5⟩)
  dsimp only [Pt.U, Pt.locs, Pt.cells, Pt.slots] at X6 hD6 hL6 hc6 hn6 come
  subst hv6 hL6 hc6 hn6
  refine ⟨T6, T6.heap, _, X6.mono (Nat.le_refl _) (Nat.add_le_add_left hn _), rfl, fun y hy => ?_, ⟨C6, k, hD6, by rw [q1]; exact e2, by rw [q1]; exact e3, by rw [q2]; exact e4, fun z => by rw [q3]; exact e5 z⟩, fun {O nm d v t} La pd na nb nc F => ?_, fun target q => come.trans q⟩
  · simp only [List.mem_cons, List.not_mem_nil, or_false] at hy
    rcases hy with rfl | rfl | rfl <;> rfl
  · obtain ⟨c9, cf9, k9, i9, f9, g1, g2, g3, g4, g5, g6, g7⟩ := F
    cases e1.symm.trans g1
    have ap : ∀ {O' nm' d' : String} {cf' : ClassId} {kf' : Class} {i' : Nat} {f' : Field} {t' : FieldType}, s.fieldFound? O' nm' d' = some (cf', kf', i', f') → Laid Z a0 rc O' nm' d' → parseFieldDescriptor d' = some t' → nm ≠ nm' → f9.slot ≠ f'.slot := fun {O' nm' d' cf' kf' i' f' t'} u1 u2 u3 u4 => by
      obtain ⟨c8, k8, i8, u5⟩ := Jvm.Free.BdW.found_ride (U := s) (U' := Z) hZ.alike.symm ⟨_, _, _, u1⟩
      have u6 := slot_ne La u2 u4 pd u3
      simpa [Jvm.RoadKit.slotOf, g2, u5] using u6
    refine ⟨C6, cf9, k9, i9, f9, hD6, g2, g3, by rw [q2]; exact g4, by rw [q2]; exact g5, by rw [q1]; exact g6, ?_⟩
    rw [q4 _ (ap b7 (Or.inl (w _ (List.mem_append_right _ (List.mem_of_getElem? (i := 7) rfl)))) (t' := .object "java/lang/Object") (by decide +kernel) na) (ap d1 (Or.inl (w _ (List.mem_append_right _ (List.mem_of_getElem? (i := 11) rfl)))) (t' := .int) (by decide +kernel) nb) (ap y4 (Or.inl (w _ (List.mem_append_right _ (List.mem_of_getElem? (i := 12) rfl)))) (t' := .array (.object "java/lang/StackTraceElement")) (by decide +kernel) nc)]
    exact g7
def own_EL : List (String × Nat) := [("java/lang/String", 7)]
theorem own_ewT {Z : State} {a0 : Array Value} (hw : ∀ d ∈ tables_1, d.before a0 Z = true) : EW Z a0 own_EL := EW.cons (hw _ (List.mem_of_getElem? (i := 14) rfl)) (by decide) EW.nil
theorem own_wST {Z : State} {a0 : Array Value} (hw : ∀ d ∈ tables_1, d.before a0 Z = true) : ∀ d ∈ Bundle.stringAtoms, d.before a0 Z = true := fun d hd => hw d ((by decide +kernel : ∀ d ∈ Bundle.stringAtoms, d ∈ tables_1) d hd)
theorem own_w {Z : State} {a0 : Array Value} (hw : ∀ d ∈ tables_1, d.before a0 Z = true) : ∀ d ∈ own_thr "com/example/hushlist/hushlist/engine/StanzaException" ++ own_more "com/example/hushlist/hushlist/engine/StanzaException", d.before a0 Z = true := fun d hd => hw d ((by decide +kernel : ∀ d ∈ own_thr "com/example/hushlist/hushlist/engine/StanzaException" ++ own_more "com/example/hushlist/hushlist/engine/StanzaException", d ∈ tables_1) d hd)
theorem own_keep {p : Program} {l : Launch} {e : Env} {R : Room} {s : State} {m : MethodId} {args : Array Value} {below : List Frame} {meth : Method} {c : Code} {T : State} {locs : List Loc} {cells slots : Nat} {h0 h' : Heap} {a : Addr}
    (X : Stand p l e R s m args below meth c T locs cells slots) (hh : s.heap = h0) (eT : T.heap = h') (hL : ∀ y ∈ locs, y.base = a) : Keep h0 h' [a] := by
  subst hh eT
  have K : Jvm.Free.Exc.Kept s T locs := X.same.2.2.2.2.2
  refine ⟨?_, fun x cx hx hn => K.other (a := a) hL (fun z => hn (by rw [z]; exact List.mem_singleton.mpr rfl)) hx, fun x cx hx => ?_⟩
  · rcases Nat.eq_zero_or_pos s.heap.size with z | z
    · omega
    · obtain ⟨c', q, -⟩ := K (s.heap.size - 1) _ (Array.getElem?_eq_getElem (by omega))
      have := (Array.getElem?_eq_some_iff.mp q).1
      omega
  · obtain ⟨c', q1, q2, q3, -⟩ := K x cx hx
    exact ⟨c', q1, by rw [q2], by rw [q2], q3⟩
theorem d15_0 : decode jdk_52_method_15_code 0 = .ok (.iload_n 1, 1) := by decide +kernel
theorem d15_1 : decode jdk_52_method_15_code 1 = .ok (.aload_n 0, 1) := by decide +kernel
theorem d15_2 : decode jdk_52_method_15_code 2 = .ok (.arraylength, 1) := by decide +kernel
theorem d15_3 : decode jdk_52_method_15_code 3 = .ok (.isub, 1) := by decide +kernel
theorem d15_4 : decode jdk_52_method_15_code 4 = .ok (.bipush 31, 2) := by decide +kernel
theorem d15_6 : decode jdk_52_method_15_code 6 = .ok (.iushr, 1) := by decide +kernel
theorem d15_7 : decode jdk_52_method_15_code 7 = .ok (.i2b, 1) := by decide +kernel
theorem d15_8 : decode jdk_52_method_15_code 8 = .ok (.ireturn, 1) := by decide +kernel
theorem pn_java_lang_StringUTF16 : plainName "java/lang/StringUTF16" = true := by first | (simp [plainName, overriddenIn]; done) | decide +kernel
def Q15 (Z : State) (a0 : Addr) (p1 : Int32) (kb : ClassId) (vs : List Value) (h0 : Heap) (n0 : Nat) (v : Option Value) (h : Heap) (L : List Loc) : Prop := v = some (.int (((((p1 - p1).toUInt32 >>> ((31 : Int32) &&& 31).toUInt32).toInt32).toInt8.toInt32).toInt8.toInt32)) ∧ Fr n0 L ∧ h = h0
def P15 (Z : State) (a0 : Addr) (p1 : Int32) (kb : ClassId) (vs : List Value) (h0 : Heap) (n0 : Nat) (s : State) (o : Outcome) (U' : State) : Prop := ∃ v L, o = .returned v ∧ Q15 Z a0 p1 kb vs h0 n0 v U'.heap L ∧ FrameEnd s o U' L ({ frames := 0, cells := 0, slots := 0, locals := 0 } : Room).cells ({ frames := 0, cells := 0, slots := 0, locals := 0 } : Room).slots
set_option maxRecDepth 65536 in
set_option maxHeartbeats 40000000 in
theorem rm15 (l : Launch) (Z : State) (aV : Array Value) (hw : ∀ d ∈ tables_1, d.before aV Z = true) (ws : List Jvm.Cond) (a0 : Addr) (p1 : Int32) (kb : ClassId) (vs : List Value) (h0 : Heap) (n0 : Nat) (Z0 : n0 ≤ h0.size) (V_a0 : Arv Z h0 a0 kb .byte p1 vs (.int (0 : Int32))) :
    MetFree l (⟨"java/lang/StringUTF16", "coderFromArrayLen", "([BI)B"⟩ : MethodName) (head1 (Jvm.Cond.code (⟨"java/lang/StringUTF16", "coderFromArrayLen", "([BI)B"⟩ : MethodName) jdk_52_method_15_code 2 (some .byte) :: ws) ({ frames := 0, cells := 0, slots := 0, locals := 0 } : Room)) (fun a U => a = #[(.ref a0), (.int p1)] ∧ Z.Warmed39 U.vm ∧ U.heap = h0) (fun _ _ _ _ _ => True) (fun _ U o U' => ∃ v L, o = .returned v ∧ Q15 Z a0 p1 kb vs h0 n0 v U'.heap L ∧ FrameEnd U o U' L ({ frames := 0, cells := 0, slots := 0, locals := 0 } : Room).cells ({ frames := 0, cells := 0, slots := 0, locals := 0 } : Room).slots) := by
  refine MetFree.of_bodySF (plainFor_of_name pn_java_lang_StringUTF16) hisR ?_
  intro p e s m args below meth c s₁ Bd hml0 hP hK
  obtain ⟨rfl, hZ, hh⟩ := hP
  have hx := Bd.exec
  have hby := Bd.bytes
  have hml : c.maxLocals = 2 := hml0
  have hown : s.vm.findClass "java/lang/StringUTF16" = some m.cls := findClass_of_methodNamed Bd.named
  have hnm := (name_of_methodNamed Bd.named Bd.method).1
  have X0 : Stand p l e ({ frames := 0, cells := 0, slots := 0, locals := 0 } : Room) s m #[(.ref a0), (.int p1)] below meth c s₁ [] 0 0 := Stand.of_body Bd
  have e0 : s₁.heap = h0 := by rw [← hh, Bd.state]; rfl
  have efx : entryFrame m #[(.ref a0), (.int p1)] 2 = mkF m 0 #[.val (.ref a0), .val (.int p1)] [] := by first | (simp [entryFrame, mkF, argsToLocals, Value.category]; done) | rfl
  have N0 := Fr.nil n0
  have K0 : Keep h0 h0 [] := Keep.refl h0 _
  refine OGo.start (g' := mkF m 0 #[.val (.ref a0), .val (.int p1)] []) (efx) ?_
  show OGo p.tables e below (P15 Z a0 p1 kb vs h0 n0 s) (s₁.setTop (mkF m 0 #[.val (.ref a0), .val (.int p1)] []))
  refine OGo.go (B := s₁.setTop (mkF m 1 #[.val (.ref a0), .val (.int p1)] [(.int p1)])) ?_ (fun tX kX => XS.iloadN X0.here hx rfl (hb hby d15_0) rfl kX)
  refine OGo.go (B := s₁.setTop (mkF m 2 #[.val (.ref a0), .val (.int p1)] [(.ref a0), (.int p1)])) ?_ (fun tX kX => XS.aloadN X0.here hx rfl (hb hby d15_1) rfl rfl kX)
  obtain ⟨cl1, Ar1, qa1, S1, N1', H1, G1⟩ := id V_a0
  refine OGo.go (B := s₁.setTop (mkF m 3 #[.val (.ref a0), .val (.int p1)] [(.int p1), (.int p1)])) ?_ (fun tX kX => X0.arraylength hx (by rw [e0]; exact Ar1.1) (State.isArrayOf_alike hZ.alike Ar1.2.1) (g := (mkF m 2 #[.val (.ref a0), .val (.int p1)] [(.ref a0), (.int p1)])) rfl rfl (hb hby d15_2) _ (by rw [len_of S1 N1']; exact kX))
  refine OGo.go (B := s₁.setTop (mkF m 4 #[.val (.ref a0), .val (.int p1)] [(.int (p1 - p1))])) ?_ (fun tX kX => XS.isub X0.here hx rfl (hb hby d15_3) rfl kX)
  refine OGo.go (B := s₁.setTop (mkF m 6 #[.val (.ref a0), .val (.int p1)] [(.int (31 : Int32)), (.int (p1 - p1))])) ?_ (fun tX kX => XS.bipush X0.here hx rfl (hb hby d15_4) kX)
  refine OGo.go (B := s₁.setTop (mkF m 7 #[.val (.ref a0), .val (.int p1)] [(.int (((p1 - p1).toUInt32 >>> ((31 : Int32) &&& 31).toUInt32).toInt32))])) ?_ (fun tX kX => XS.iushr X0.here hx rfl (hb hby d15_6) rfl kX)
  refine OGo.go (B := s₁.setTop (mkF m 8 #[.val (.ref a0), .val (.int p1)] [(.int ((((p1 - p1).toUInt32 >>> ((31 : Int32) &&& 31).toUInt32).toInt32).toInt8.toInt32))])) ?_ (fun tX kX => XS.i2b X0.here hx rfl (hb hby d15_7) rfl kX)
  refine OGo.ret X0 (v := (some (.int (((((p1 - p1).toUInt32 >>> ((31 : Int32) &&& 31).toUInt32).toInt32).toInt8.toInt32).toInt8.toInt32)))) (fun h => by rw [Bd.returns] at h; cases h) (BodyLoose.notSynchronized Bd) (fun fs hr => retN X0 hx (t := .byte) (z := ((((p1 - p1).toUInt32 >>> ((31 : Int32) &&& 31).toUInt32).toInt32).toInt8.toInt32)) Bd.returns (by simp) (hb hby d15_8) hr) (Q := Q15 Z a0 p1 kb vs h0 n0) ?_ (by decide) (by decide)
  show Q15 Z a0 p1 kb vs h0 n0 _ s₁.heap _
  rw [e0]
  exact ⟨rfl, N0, rfl⟩
theorem d2_0 : decode jdk_42_method_149_code 0 = .ok (.aload_n 0, 1) := by decide +kernel
theorem d2_1 : decode jdk_42_method_149_code 1 = .ok (.invokespecial 1, 3) := by decide +kernel
theorem d2_4 : decode jdk_42_method_149_code 4 = .ok (.iload_n 3, 1) := by decide +kernel
theorem d2_5 : decode jdk_42_method_149_code 5 = .ok (.ifCond .ne 22, 3) := by decide +kernel
theorem d2_8 : decode jdk_42_method_149_code 8 = .ok (.aload_n 0, 1) := by decide +kernel
theorem d2_9 : decode jdk_42_method_149_code 9 = .ok (.ldc 7, 2) := by decide +kernel
theorem d2_11 : decode jdk_42_method_149_code 11 = .ok (.getfield 9, 3) := by decide +kernel
theorem d2_14 : decode jdk_42_method_149_code 14 = .ok (.putfield 9, 3) := by decide +kernel
theorem d2_17 : decode jdk_42_method_149_code 17 = .ok (.aload_n 0, 1) := by decide +kernel
theorem d2_18 : decode jdk_42_method_149_code 18 = .ok (.ldc 7, 2) := by decide +kernel
theorem d2_20 : decode jdk_42_method_149_code 20 = .ok (.getfield 15, 3) := by decide +kernel
theorem d2_23 : decode jdk_42_method_149_code 23 = .ok (.putfield 15, 3) := by decide +kernel
theorem d2_26 : decode jdk_42_method_149_code 26 = .ok (.return_, 1) := by decide +kernel
theorem pn_java_lang_String : plainName "java/lang/String" = true := by first | (simp [plainName, overriddenIn]; done) | decide +kernel
def Q2c0 (Z : State) (a0 : Addr) (a1 : Addr) (u2 : Value) (h0 : Heap) (n0 : Nat) (v : Option Value) (h : Heap) (L : List Loc) : Prop := v = none ∧ Fr n0 L ∧ Keep h0 h [a0] ∧ Exa Z h a0 "java/lang/String"
def P2c0 (Z : State) (a0 : Addr) (a1 : Addr) (u2 : Value) (h0 : Heap) (n0 : Nat) (s : State) (o : Outcome) (U' : State) : Prop := ∃ v L, o = .returned v ∧ Q2c0 Z a0 a1 u2 h0 n0 v U'.heap L ∧ CHr Z own_EL s.vm s.heap U'.vm U'.heap ∧ ReturnedEndW s o U' L ({ frames := 1, cells := 2, slots := 4, locals := 12 } : Room).cells ({ frames := 1, cells := 2, slots := 4, locals := 12 } : Room).slots
set_option maxRecDepth 65536 in
set_option maxHeartbeats 40000000 in
theorem rm2c0 (l : Launch) (Z : State) (aV : Array Value) (hw : ∀ d ∈ tables_1, d.before aV Z = true) (ws : List Jvm.Cond) (a0 : Addr) (a1 : Addr) (u2 : Value) (h0 : Heap) (n0 : Nat) (Z0 : n0 ≤ h0.size) (E_a0 : Exa Z h0 a0 "java/lang/String") (F_value_a0 : Fld Z h0 a0 "java/lang/String" "value" "[B" .null) (F_coder_a0 : Fld Z h0 a0 "java/lang/String" "coder" "B" u2) (ga : n0 ≤ a0) :
    MetFree l (⟨"java/lang/String", "<init>", "([CIILjava/lang/Void;)V"⟩ : MethodName) (head1 (Jvm.Cond.code (⟨"java/lang/String", "<init>", "([CIILjava/lang/Void;)V"⟩ : MethodName) jdk_42_method_149_code 6 none :: ws) ({ frames := 1, cells := 2, slots := 4, locals := 12 } : Room)) (fun a U => a = #[(.ref a0), (.ref a1), (.int (0 : Int32)), (.int (0 : Int32)), .null] ∧ Z.Warmed39 U.vm ∧ U.heap = h0 ∧ CHv Z own_EL U.vm h0) (fun _ _ _ _ _ => True) (fun _ U o U' => ∃ v L, o = .returned v ∧ Q2c0 Z a0 a1 u2 h0 n0 v U'.heap L ∧ CHr Z own_EL U.vm U.heap U'.vm U'.heap ∧ ReturnedEndW U o U' L ({ frames := 1, cells := 2, slots := 4, locals := 12 } : Room).cells ({ frames := 1, cells := 2, slots := 4, locals := 12 } : Room).slots) := by
  refine MetFree.of_bodySF (plainFor_of_name pn_java_lang_String) hisR ?_
  intro p e s m args below meth c s₁ Bd hml0 hP hK
  obtain ⟨rfl, hZ, hh, hCH⟩ := hP
  have hx := Bd.exec
  have hby := Bd.bytes
  have hml : c.maxLocals = 6 := hml0
  have hown : s.vm.findClass "java/lang/String" = some m.cls := findClass_of_methodNamed Bd.named
  have hnm := (name_of_methodNamed Bd.named Bd.method).1
  have X0 : Stand p l e ({ frames := 1, cells := 2, slots := 4, locals := 12 } : Room) s m #[(.ref a0), (.ref a1), (.int (0 : Int32)), (.int (0 : Int32)), .null] below meth c s₁ [] 0 0 := Stand.of_body Bd
  have e0 : s₁.heap = h0 := by rw [← hh, Bd.state]; rfl
  have X0 : Stand p l e ({ frames := 1, cells := 2, slots := 4, locals := 12 } : Room) (s.setVm s.vm) m #[(.ref a0), (.ref a1), (.int (0 : Int32)), (.int (0 : Int32)), .null] below meth c s₁ [] 0 0 := X0
  have hZ : Z.Warmed39 (s.setVm s.vm).vm := hZ
  have hown : (s.setVm s.vm).vm.findClass "java/lang/String" = some m.cls := hown
  have hS0 : s.Since s.vm 0 := (State.WarmedH.refl s).since 0
  have hk0 : 0 ≤ h0.size := Nat.zero_le _
  have own_ew := own_ewT hw
  have own_wS := own_wST hw
  have efx : entryFrame m #[(.ref a0), (.ref a1), (.int (0 : Int32)), (.int (0 : Int32)), .null] 6 = mkF m 0 #[.val (.ref a0), .val (.ref a1), .val (.int (0 : Int32)), .val (.int (0 : Int32)), .val .null, .unset] [] := by first | (simp [entryFrame, mkF, argsToLocals, Value.category]; done) | rfl
  have CR0 : CHr Z own_EL s.vm h0 s.vm h0 := CHr.refl hCH
  have N0 := Fr.nil n0
  have K0 : Keep h0 h0 [a0] := Keep.refl h0 _
  refine OGo.start (g' := mkF m 0 #[.val (.ref a0), .val (.ref a1), .val (.int (0 : Int32)), .val (.int (0 : Int32)), .val .null, .unset] []) (efx) ?_
  show OGo p.tables e below (P2c0 Z a0 a1 u2 h0 n0 s) (s₁.setTop (mkF m 0 #[.val (.ref a0), .val (.ref a1), .val (.int (0 : Int32)), .val (.int (0 : Int32)), .val .null, .unset] []))
  have Sf_a0 : Safe Z own_EL s.vm h0 a0 := Safe.bare hZ.alike E_a0 F_value_a0
  refine OGo.go (B := s₁.setTop (mkF m 1 #[.val (.ref a0), .val (.ref a1), .val (.int (0 : Int32)), .val (.int (0 : Int32)), .val .null, .unset] [(.ref a0)])) ?_ (fun tX kX => XS.aloadN X0.here hx rfl (hb hby d2_0) rfl rfl kX)
  obtain ⟨T1, X1, e1, st1⟩ := initO X0 hx hZ hown (hw _ (List.mem_of_getElem? (i := 11) rfl)) (hw _ (List.mem_of_getElem? (i := 12) rfl)) (hw _ (List.mem_of_getElem? (i := 13) rfl)) e0 (g := (mkF m 1 #[.val (.ref a0), .val (.ref a1), .val (.int (0 : Int32)), .val (.int (0 : Int32)), .val .null, .unset] [(.ref a0)])) rfl (by rw [hml]; rfl) rfl (hb hby d2_1) (by decide) (W := 0) (by show 2 * 0 + _ ≤ _; exact Nat.le_of_eq rfl) (by decide)
  refine OGo.go (B := T1.setTop (mkF m 4 #[.val (.ref a0), .val (.ref a1), .val (.int (0 : Int32)), .val (.int (0 : Int32)), .val .null, .unset] [])) ?_ st1
  refine OGo.go (B := T1.setTop (mkF m 5 #[.val (.ref a0), .val (.ref a1), .val (.int (0 : Int32)), .val (.int (0 : Int32)), .val .null, .unset] [(.int (0 : Int32))])) ?_ (fun tX kX => XS.iloadN X1.here hx rfl (hb hby d2_4) rfl kX)
  refine OGo.go (B := T1.setTop (mkF m 8 #[.val (.ref a0), .val (.ref a1), .val (.int (0 : Int32)), .val (.int (0 : Int32)), .val .null, .unset] [])) ?_ (fun tX kX => XS.ifNo X1.here hx rfl (hb hby d2_5) rfl ((if0 _ _).trans (teq (by decide)).2) kX)
  refine OGo.go (B := T1.setTop (mkF m 9 #[.val (.ref a0), .val (.ref a1), .val (.int (0 : Int32)), .val (.int (0 : Int32)), .val .null, .unset] [(.ref a0)])) ?_ (fun tX kX => XS.aloadN X1.here hx rfl (hb hby d2_8) rfl rfl kX)
  obtain ⟨s2, T2, h2, k2, sb2, kk2, X2, e2, E2, hS2, hk2, hZ2, hown2, EA2, FC2, FV2, VA2, -, -, CR2, LT2, SF2, st2⟩ := ldcCH (vs := []) (z := (0 : Int32)) X1 hx hZ hown (hw _ (List.mem_of_getElem? (i := 14) rfl)) own_wS e1 hS0 hk0 own_ew (by decide) hCH ⟨by decide, rfl⟩ (by decide) rfl (g := (mkF m 9 #[.val (.ref a0), .val (.ref a1), .val (.int (0 : Int32)), .val (.int (0 : Int32)), .val .null, .unset] [(.ref a0)])) rfl (hb hby d2_9) (n := 0) (by decide) (by decide) (by decide) (by decide)
  have Sf_a0 := CR2.safe E_a0.lt Sf_a0
  have CRt2 := CR0.trans CR2
  have hCH := CR2.1
  have E_a0 := E_a0.ext E2
  have F_value_a0 := F_value_a0.ext E2
  have F_coder_a0 := F_coder_a0.ext E2
  have zn2 : n0 ≤ h2.size := Nat.le_trans Z0 E2.1
  have K2 := K0.ext E2
  have E_s2 := EA2
  have F_coder_s2 := FC2
  have F_value_s2 := FV2
  have V_sb2 := VA2
  refine OGo.go (B := T2.setTop (mkF m 11 #[.val (.ref a0), .val (.ref a1), .val (.int (0 : Int32)), .val (.int (0 : Int32)), .val .null, .unset] [(.ref s2), (.ref a0)])) ?_ st2
  obtain ⟨T3, X3, e3, st3⟩ := getF X2 hx hZ2 hown2 (host := "") (Or.inl (hw _ (List.mem_of_getElem? (i := 20) rfl))) Via.refl e2 F_value_s2 (g := (mkF m 11 #[.val (.ref a0), .val (.ref a1), .val (.int (0 : Int32)), .val (.int (0 : Int32)), .val .null, .unset] [(.ref s2), (.ref a0)])) rfl rfl (hb hby d2_11)
  refine OGo.go (B := T3.setTop (mkF m 14 #[.val (.ref a0), .val (.ref a1), .val (.int (0 : Int32)), .val (.int (0 : Int32)), .val .null, .unset] [(.ref sb2), (.ref a0)])) ?_ st3
  obtain ⟨T4, h4, X4, e4, W4, st4⟩ := putF X3 hx hZ2 hown2 (host := "") (Or.inl (hw _ (List.mem_of_getElem? (i := 20) rfl))) Via.refl e3 F_value_a0 E_a0 (Or.inr ⟨(hw _ (List.mem_of_getElem? (i := 16) rfl)), rfl, hnm⟩) (hw _ (List.mem_of_getElem? (i := 2) rfl)) (ty := (.array .byte)) (by decide) rfl rfl (g := (mkF m 14 #[.val (.ref a0), .val (.ref a1), .val (.int (0 : Int32)), .val (.int (0 : Int32)), .val .null, .unset] [(.ref sb2), (.ref a0)])) rfl rfl (hb hby d2_14)
  have Eold4 := E_a0
  have Sfo4 := Sf_a0
  have CHo4 := hCH
  have Sf_a0 := Safe.wr W4 Sfo4 CHo4 Sf_a0
  have CR4 := CRt2.trans (CHr.wr W4 Sfo4 CHo4)
  have hCH := CHv.wr W4 Sfo4 CHo4
  have E_a0 := E_a0.wr W4
  have F_value_a0 := F_value_a0.same W4
  have F_coder_a0 := F_coder_a0.other W4 (Or.inr (slot_ne (Or.inr (hw _ (List.mem_of_getElem? (i := 17) rfl))) (Or.inr (hw _ (List.mem_of_getElem? (i := 16) rfl))) (by decide) (t := .byte) (t' := (.array .byte)) (by decide) (by decide)))
  have E_s2 := E_s2.wr W4
  have F_coder_s2 := F_coder_s2.other W4 (Or.inr (slot_ne (Or.inr (hw _ (List.mem_of_getElem? (i := 17) rfl))) (Or.inr (hw _ (List.mem_of_getElem? (i := 16) rfl))) (by decide) (t := .byte) (t' := (.array .byte)) (by decide) (by decide)))
  have V_sb2 := V_sb2.other W4 (Ne.symm (Exa.neArv Eold4 V_sb2 (hw _ (List.mem_of_getElem? (i := 2) rfl))))
  have K4 := K2.wr W4 (Or.inl (List.mem_of_getElem? (i := 0) rfl))
  have zn4 : n0 ≤ h4.size := Nat.le_trans zn2 (Keep.of_wr W4).1
  have hk4 := Nat.le_trans hk2 (Keep.of_wr W4).1
  have N4 := Fr.snoc X4 N0 ga
  refine OGo.go (B := T4.setTop (mkF m 17 #[.val (.ref a0), .val (.ref a1), .val (.int (0 : Int32)), .val (.int (0 : Int32)), .val .null, .unset] [])) ?_ st4
  refine OGo.go (B := T4.setTop (mkF m 18 #[.val (.ref a0), .val (.ref a1), .val (.int (0 : Int32)), .val (.int (0 : Int32)), .val .null, .unset] [(.ref a0)])) ?_ (fun tX kX => XS.aloadN X4.here hx rfl (hb hby d2_17) rfl rfl kX)
  refine OGo.go (B := T4.setTop (mkF m 20 #[.val (.ref a0), .val (.ref a1), .val (.int (0 : Int32)), .val (.int (0 : Int32)), .val .null, .unset] [(.ref s2), (.ref a0)])) ?_ (ldcAgain X4 hx hZ2 hown2 (hw _ (List.mem_of_getElem? (i := 14) rfl)) LT2 (g := (mkF m 18 #[.val (.ref a0), .val (.ref a1), .val (.int (0 : Int32)), .val (.int (0 : Int32)), .val .null, .unset] [(.ref a0)])) rfl (hb hby d2_18))
  obtain ⟨T5, X5, e5, st5⟩ := getF X4 hx hZ2 hown2 (host := "") (Or.inl (hw _ (List.mem_of_getElem? (i := 21) rfl))) Via.refl e4 F_coder_s2 (g := (mkF m 20 #[.val (.ref a0), .val (.ref a1), .val (.int (0 : Int32)), .val (.int (0 : Int32)), .val .null, .unset] [(.ref s2), (.ref a0)])) rfl rfl (hb hby d2_20)
  refine OGo.go (B := T5.setTop (mkF m 23 #[.val (.ref a0), .val (.ref a1), .val (.int (0 : Int32)), .val (.int (0 : Int32)), .val .null, .unset] [(.int (0 : Int32)), (.ref a0)])) ?_ st5
  obtain ⟨T6, h6, X6, e6, W6, st6⟩ := putF X5 hx hZ2 hown2 (host := "") (Or.inl (hw _ (List.mem_of_getElem? (i := 21) rfl))) Via.refl e5 F_coder_a0 E_a0 (Or.inr ⟨(hw _ (List.mem_of_getElem? (i := 17) rfl)), rfl, hnm⟩) (hw _ (List.mem_of_getElem? (i := 2) rfl)) (ty := .byte) (by decide) rfl rfl (g := (mkF m 23 #[.val (.ref a0), .val (.ref a1), .val (.int (0 : Int32)), .val (.int (0 : Int32)), .val .null, .unset] [(.int (0 : Int32)), (.ref a0)])) rfl rfl (hb hby d2_23)
  have Eold6 := E_a0
  have Sfo6 := Sf_a0
  have CHo6 := hCH
  have Sf_a0 := Safe.wr W6 Sfo6 CHo6 Sf_a0
  have CR6 := CR4.trans (CHr.wr W6 Sfo6 CHo6)
  have hCH := CHv.wr W6 Sfo6 CHo6
  have E_a0 := E_a0.wr W6
  have F_value_a0 := F_value_a0.other W6 (Or.inr (slot_ne (Or.inr (hw _ (List.mem_of_getElem? (i := 16) rfl))) (Or.inr (hw _ (List.mem_of_getElem? (i := 17) rfl))) (by decide) (t := (.array .byte)) (t' := .byte) (by decide) (by decide)))
  have F_coder_a0 := F_coder_a0.same W6
  have E_s2 := E_s2.wr W6
  have V_sb2 := V_sb2.other W6 (Ne.symm (Exa.neArv Eold6 V_sb2 (hw _ (List.mem_of_getElem? (i := 2) rfl))))
  have K6 := K4.wr W6 (Or.inl (List.mem_of_getElem? (i := 0) rfl))
  have zn6 : n0 ≤ h6.size := Nat.le_trans zn4 (Keep.of_wr W6).1
  have hk6 := Nat.le_trans hk4 (Keep.of_wr W6).1
  have N6 := Fr.snoc X6 N4 ga
  refine OGo.go (B := T6.setTop (mkF m 26 #[.val (.ref a0), .val (.ref a1), .val (.int (0 : Int32)), .val (.int (0 : Int32)), .val .null, .unset] [])) ?_ st6
  have CRe := CR6.trans (CHv.at X6 hZ2 own_ew hCH)
  refine OGo.retWH X6 hS2 (by rw [e6]; exact hk6) (v := none) (fun _ => rfl) (BodyLoose.notSynchronized Bd) (fun fs hr => X6.returnOut hx Bd.returns (hb hby d2_26) hr) (Q := Q2c0 Z a0 a1 u2 h0 n0) ?_ (by rw [hh, e6]; exact CRe) (by decide) (by decide)
  show Q2c0 Z a0 a1 u2 h0 n0 _ T6.heap _
  rw [e6]
  exact ⟨rfl, N6, K6, E_a0⟩
theorem d1_0 : decode jdk_42_method_3_code 0 = .ok (.aload_n 0, 1) := by decide +kernel
theorem d1_1 : decode jdk_42_method_3_code 1 = .ok (.aload_n 1, 1) := by decide +kernel
theorem d1_2 : decode jdk_42_method_3_code 2 = .ok (.iconst 0, 1) := by decide +kernel
theorem d1_3 : decode jdk_42_method_3_code 3 = .ok (.aload_n 1, 1) := by decide +kernel
theorem d1_4 : decode jdk_42_method_3_code 4 = .ok (.arraylength, 1) := by decide +kernel
theorem d1_5 : decode jdk_42_method_3_code 5 = .ok (.aconst_null, 1) := by decide +kernel
theorem d1_6 : decode jdk_42_method_3_code 6 = .ok (.invokespecial 27, 3) := by decide +kernel
theorem pd___CIILjava_lang_Void__V : parseMethodDescriptor "([CIILjava/lang/Void;)V" = some ⟨[(.array .char), .int, .int, (.object "java/lang/Void")], none⟩ := by decide +kernel
theorem d1_9 : decode jdk_42_method_3_code 9 = .ok (.return_, 1) := by decide +kernel
def Q1c0 (Z : State) (a0 : Addr) (a1 : Addr) (u2 : Value) (kc : ClassId) (h0 : Heap) (n0 : Nat) (v : Option Value) (h : Heap) (L : List Loc) : Prop := v = none ∧ Fr n0 L ∧ Keep h0 h [a0] ∧ Exa Z h a0 "java/lang/String"
def P1c0 (Z : State) (a0 : Addr) (a1 : Addr) (u2 : Value) (kc : ClassId) (h0 : Heap) (n0 : Nat) (s : State) (o : Outcome) (U' : State) : Prop := ∃ v L, o = .returned v ∧ Q1c0 Z a0 a1 u2 kc h0 n0 v U'.heap L ∧ CHr Z own_EL s.vm s.heap U'.vm U'.heap ∧ ReturnedEndW s o U' L ({ frames := 2, cells := 2, slots := 4, locals := 29 } : Room).cells ({ frames := 2, cells := 2, slots := 4, locals := 29 } : Room).slots
set_option maxRecDepth 65536 in
set_option maxHeartbeats 40000000 in
theorem rm1c0 (l : Launch) (Z : State) (aV : Array Value) (hw : ∀ d ∈ tables_1, d.before aV Z = true) (ws : List Jvm.Cond) (a0 : Addr) (a1 : Addr) (u2 : Value) (kc : ClassId) (h0 : Heap) (n0 : Nat) (Z0 : n0 ≤ h0.size) (E_a0 : Exa Z h0 a0 "java/lang/String") (F_value_a0 : Fld Z h0 a0 "java/lang/String" "value" "[B" .null) (F_coder_a0 : Fld Z h0 a0 "java/lang/String" "coder" "B" u2) (V_a1 : Arv Z h0 a1 kc .char (0 : Int32) [] (.int (0 : Int32))) (ga : n0 ≤ a0) :
    MetFree l (⟨"java/lang/String", "<init>", "([C)V"⟩ : MethodName) (head1 (Jvm.Cond.code (⟨"java/lang/String", "<init>", "([C)V"⟩ : MethodName) jdk_42_method_3_code 2 none :: ws) ({ frames := 2, cells := 2, slots := 4, locals := 29 } : Room)) (fun a U => a = #[(.ref a0), (.ref a1)] ∧ Z.Warmed39 U.vm ∧ U.heap = h0 ∧ CHv Z own_EL U.vm h0) (fun _ _ _ _ _ => True) (fun _ U o U' => ∃ v L, o = .returned v ∧ Q1c0 Z a0 a1 u2 kc h0 n0 v U'.heap L ∧ CHr Z own_EL U.vm U.heap U'.vm U'.heap ∧ ReturnedEndW U o U' L ({ frames := 2, cells := 2, slots := 4, locals := 29 } : Room).cells ({ frames := 2, cells := 2, slots := 4, locals := 29 } : Room).slots) := by
  refine MetFree.of_bodySF (plainFor_of_name pn_java_lang_String) hisR ?_
  intro p e s m args below meth c s₁ Bd hml0 hP hK
  obtain ⟨rfl, hZ, hh, hCH⟩ := hP
  have hx := Bd.exec
  have hby := Bd.bytes
  have hml : c.maxLocals = 2 := hml0
  have hown : s.vm.findClass "java/lang/String" = some m.cls := findClass_of_methodNamed Bd.named
  have hnm := (name_of_methodNamed Bd.named Bd.method).1
  have X0 : Stand p l e ({ frames := 2, cells := 2, slots := 4, locals := 29 } : Room) s m #[(.ref a0), (.ref a1)] below meth c s₁ [] 0 0 := Stand.of_body Bd
  have e0 : s₁.heap = h0 := by rw [← hh, Bd.state]; rfl
  have X0 : Stand p l e ({ frames := 2, cells := 2, slots := 4, locals := 29 } : Room) (s.setVm s.vm) m #[(.ref a0), (.ref a1)] below meth c s₁ [] 0 0 := X0
  have hZ : Z.Warmed39 (s.setVm s.vm).vm := hZ
  have hown : (s.setVm s.vm).vm.findClass "java/lang/String" = some m.cls := hown
  have hS0 : s.Since s.vm 0 := (State.WarmedH.refl s).since 0
  have hk0 : 0 ≤ h0.size := Nat.zero_le _
  have own_ew := own_ewT hw
  have own_wS := own_wST hw
  have efx : entryFrame m #[(.ref a0), (.ref a1)] 2 = mkF m 0 #[.val (.ref a0), .val (.ref a1)] [] := by first | (simp [entryFrame, mkF, argsToLocals, Value.category]; done) | rfl
  have CR0 : CHr Z own_EL s.vm h0 s.vm h0 := CHr.refl hCH
  have N0 := Fr.nil n0
  have K0 : Keep h0 h0 [a0] := Keep.refl h0 _
  refine OGo.start (g' := mkF m 0 #[.val (.ref a0), .val (.ref a1)] []) (efx) ?_
  show OGo p.tables e below (P1c0 Z a0 a1 u2 kc h0 n0 s) (s₁.setTop (mkF m 0 #[.val (.ref a0), .val (.ref a1)] []))
  have Sf_a0 : Safe Z own_EL s.vm h0 a0 := Safe.bare hZ.alike E_a0 F_value_a0
  refine OGo.go (B := s₁.setTop (mkF m 1 #[.val (.ref a0), .val (.ref a1)] [(.ref a0)])) ?_ (fun tX kX => XS.aloadN X0.here hx rfl (hb hby d1_0) rfl rfl kX)
  refine OGo.go (B := s₁.setTop (mkF m 2 #[.val (.ref a0), .val (.ref a1)] [(.ref a1), (.ref a0)])) ?_ (fun tX kX => XS.aloadN X0.here hx rfl (hb hby d1_1) rfl rfl kX)
  refine OGo.go (B := s₁.setTop (mkF m 3 #[.val (.ref a0), .val (.ref a1)] [(.int (0 : Int32)), (.ref a1), (.ref a0)])) ?_ (fun tX kX => XS.iconst X0.here hx rfl (hb hby d1_2) kX)
  refine OGo.go (B := s₁.setTop (mkF m 4 #[.val (.ref a0), .val (.ref a1)] [(.ref a1), (.int (0 : Int32)), (.ref a1), (.ref a0)])) ?_ (fun tX kX => XS.aloadN X0.here hx rfl (hb hby d1_3) rfl rfl kX)
  obtain ⟨cl1, Ar1, qa1, S1, N1', H1, G1⟩ := id V_a1
  refine OGo.go (B := s₁.setTop (mkF m 5 #[.val (.ref a0), .val (.ref a1)] [(.int (0 : Int32)), (.int (0 : Int32)), (.ref a1), (.ref a0)])) ?_ (fun tX kX => X0.arraylength hx (by rw [e0]; exact Ar1.1) (State.isArrayOf_alike hZ.alike Ar1.2.1) (g := (mkF m 4 #[.val (.ref a0), .val (.ref a1)] [(.ref a1), (.int (0 : Int32)), (.ref a1), (.ref a0)])) rfl rfl (hb hby d1_4) _ (by rw [len_of S1 N1']; exact kX))
  refine OGo.go (B := s₁.setTop (mkF m 6 #[.val (.ref a0), .val (.ref a1)] [.null, (.int (0 : Int32)), (.int (0 : Int32)), (.ref a1), (.ref a0)])) ?_ (fun tX kX => XS.aconstNull X0.here hx rfl (hb hby d1_5) kX)
  obtain ⟨_, _, ⟨T2, L2, k2, n2⟩, -, X2, hSq2, hgr2, ⟨Lc2, hQ2, l2, y2, z2, CRq2⟩, st2⟩ := X0.specialBackS hx (y := (⟨"java/lang/String", "<init>", "([CIILjava/lang/Void;)V"⟩ : MethodName)) rfl hown (mvT hZ (hw _ (List.mem_of_getElem? (i := 7) rfl))) (mvT hZ (hw _ (List.mem_of_getElem? (i := 8) rfl))) (mvT hZ (hw _ (List.mem_of_getElem? (i := 10) rfl))) (by decide) (backOfSH (W := 0) (rm2c0 l Z aV hw [] a0 a1 u2 h0 n0 Z0 E_a0 F_value_a0 F_coder_a0 ga) hZ (hw _ (List.mem_of_getElem? (i := 10) rfl)) (hw _ (List.mem_of_getElem? (i := 3) rfl)) (by decide) (by decide) own_ew hCH) (g := (mkF m 6 #[.val (.ref a0), .val (.ref a1)] [.null, (.int (0 : Int32)), (.int (0 : Int32)), (.ref a1), (.ref a0)])) rfl (by rw [hml]; rfl) (Steps.refl _) (a := a0) (argsL := [(.ref a1), (.int (0 : Int32)), (.int (0 : Int32)), .null]) (rest := []) (lenOf pd___CIILjava_lang_Void__V rfl) rfl (by show 2 * 0 + _ ≤ _; exact Nat.le_of_eq rfl) (hb hby d1_6) (fun _ _ => ⟨rfl, e0, (by decide : 0 + 2 ≤ _), (by decide : 0 + 4 ≤ _)⟩)
  dsimp only [Pt.U, Pt.locs, Pt.cells, Pt.slots] at X2 l2 y2 z2 st2 hQ2 hSq2 hgr2 CRq2
  subst l2 y2 z2
  obtain ⟨X2, hS2, hZ2, hown2⟩ := rebS hS0 hk0 X2 hSq2 (by rw [← e0]; exact hgr2) hZ hown
  have Sf_a0 := CRq2.safe E_a0.lt Sf_a0
  have CRt2 := CR0.trans CRq2
  have hCH := CRq2.1
  obtain ⟨rfl, N2q, Kq2, E_a0_p⟩ := hQ2
  have N2 := Fr.app N0 N2q
  have E_a0 := E_a0.keep Kq2
  have K2 := K0.trans Kq2 (allS (P := fun x => x ∈ [a0] ∨ h0.size ≤ x) (Or.inl (List.mem_of_getElem? (i := 0) rfl)) all0)
  have zn2 : n0 ≤ T2.heap.size := Nat.le_trans Z0 Kq2.1
  have hk2 := Nat.le_trans hk0 Kq2.1
  have E_a0 := E_a0_p
  refine OGo.go (B := T2.setTop (mkF m 9 #[.val (.ref a0), .val (.ref a1)] [])) ?_ (fun tX kX => st2.trans kX)
  have CRe := CRt2.trans (CHv.at X2 hZ2 own_ew hCH)
  refine OGo.retWH X2 hS2 (Nat.le_refl _) (v := none) (fun _ => rfl) (BodyLoose.notSynchronized Bd) (fun fs hr => X2.returnOut hx Bd.returns (hb hby d1_9) hr) (Q := Q1c0 Z a0 a1 u2 kc h0 n0) ?_ (by rw [hh]; exact CRe) (by decide) (by decide)
  show Q1c0 Z a0 a1 u2 kc h0 n0 _ T2.heap _
  exact ⟨rfl, N2, K2, E_a0⟩
theorem d14_0 : decode jdk_52_method_21_code 0 = .ok (.iconst 0, 1) := by decide +kernel
theorem d14_1 : decode jdk_52_method_21_code 1 = .ok (.istore 5, 2) := by decide +kernel
theorem d14_3 : decode jdk_52_method_21_code 3 = .ok (.iload 5, 2) := by decide +kernel
theorem d14_5 : decode jdk_52_method_21_code 5 = .ok (.iload 4, 2) := by decide +kernel
theorem d14_7 : decode jdk_52_method_21_code 7 = .ok (.if_icmp .ge 37, 3) := by decide +kernel
theorem d14_10 : decode jdk_52_method_21_code 10 = .ok (.aload_n 0, 1) := by decide +kernel
theorem d14_11 : decode jdk_52_method_21_code 11 = .ok (.iload_n 1, 1) := by decide +kernel
theorem d14_12 : decode jdk_52_method_21_code 12 = .ok (.caload, 1) := by decide +kernel
theorem d14_13 : decode jdk_52_method_21_code 13 = .ok (.istore 6, 2) := by decide +kernel
theorem d14_15 : decode jdk_52_method_21_code 15 = .ok (.iload 6, 2) := by decide +kernel
theorem d14_17 : decode jdk_52_method_21_code 17 = .ok (.sipush 255, 3) := by decide +kernel
theorem d14_20 : decode jdk_52_method_21_code 20 = .ok (.if_icmp .le 6, 3) := by decide +kernel
theorem d14_26 : decode jdk_52_method_21_code 26 = .ok (.aload_n 2, 1) := by decide +kernel
theorem d14_27 : decode jdk_52_method_21_code 27 = .ok (.iload_n 3, 1) := by decide +kernel
theorem d14_28 : decode jdk_52_method_21_code 28 = .ok (.iload 6, 2) := by decide +kernel
theorem d14_30 : decode jdk_52_method_21_code 30 = .ok (.i2b, 1) := by decide +kernel
theorem d14_31 : decode jdk_52_method_21_code 31 = .ok (.bastore, 1) := by decide +kernel
theorem d14_32 : decode jdk_52_method_21_code 32 = .ok (.iinc 1 1, 3) := by decide +kernel
theorem d14_35 : decode jdk_52_method_21_code 35 = .ok (.iinc 3 1, 3) := by decide +kernel
theorem d14_38 : decode jdk_52_method_21_code 38 = .ok (.iinc 5 1, 3) := by decide +kernel
theorem d14_41 : decode jdk_52_method_21_code 41 = .ok (.goto (-38), 3) := by decide +kernel
theorem d14_44 : decode jdk_52_method_21_code 44 = .ok (.iload 4, 2) := by decide +kernel
theorem d14_46 : decode jdk_52_method_21_code 46 = .ok (.ireturn, 1) := by decide +kernel
def Q14c1 (Z : State) (a0 : Addr) (a2 : Addr) (kc : ClassId) (kb : ClassId) (ch0 : Int32) (h0 : Heap) (n0 : Nat) (v : Option Value) (h : Heap) (L : List Loc) : Prop := v = some (.int (1 : Int32)) ∧ Fr n0 L ∧ Keep h0 h [a2] ∧ Exa Z h a2 "[B" ∧ Arv Z h a2 kb .byte (1 : Int32) [(.int ((ch0.toInt8.toInt32).toInt8.toInt32))] (.int (0 : Int32))
def P14c1 (Z : State) (a0 : Addr) (a2 : Addr) (kc : ClassId) (kb : ClassId) (ch0 : Int32) (h0 : Heap) (n0 : Nat) (s : State) (o : Outcome) (U' : State) : Prop := ∃ v L, o = .returned v ∧ Q14c1 Z a0 a2 kc kb ch0 h0 n0 v U'.heap L ∧ FrameEnd s o U' L ({ frames := 0, cells := 0, slots := 0, locals := 0 } : Room).cells ({ frames := 0, cells := 0, slots := 0, locals := 0 } : Room).slots
set_option maxRecDepth 65536 in
set_option maxHeartbeats 40000000 in
theorem rm14c1 (l : Launch) (Z : State) (aV : Array Value) (hw : ∀ d ∈ tables_1, d.before aV Z = true) (ws : List Jvm.Cond) (a0 : Addr) (a2 : Addr) (kc : ClassId) (kb : ClassId) (ch0 : Int32) (h0 : Heap) (n0 : Nat) (Z0 : n0 ≤ h0.size) (V_a0 : Arv Z h0 a0 kc .char (1 : Int32) [(.int ch0)] (.int (0 : Int32))) (E_a2 : Exa Z h0 a2 "[B") (V_a2 : Arv Z h0 a2 kb .byte (1 : Int32) [(.int (0 : Int32))] (.int (0 : Int32))) (ga : n0 ≤ a2) (nab : a0 ≠ a2) (le0 : ¬ (255 : Int32) < ch0) :
    MetFree l (⟨"java/lang/StringUTF16", "compress", "([CI[BII)I"⟩ : MethodName) (head1 (Jvm.Cond.code (⟨"java/lang/StringUTF16", "compress", "([CI[BII)I"⟩ : MethodName) jdk_52_method_21_code 7 (some .int) :: ws) ({ frames := 0, cells := 0, slots := 0, locals := 0 } : Room)) (fun a U => a = #[(.ref a0), (.int (0 : Int32)), (.ref a2), (.int (0 : Int32)), (.int (1 : Int32))] ∧ Z.Warmed39 U.vm ∧ U.heap = h0) (fun _ _ _ _ _ => True) (fun _ U o U' => ∃ v L, o = .returned v ∧ Q14c1 Z a0 a2 kc kb ch0 h0 n0 v U'.heap L ∧ FrameEnd U o U' L ({ frames := 0, cells := 0, slots := 0, locals := 0 } : Room).cells ({ frames := 0, cells := 0, slots := 0, locals := 0 } : Room).slots) := by
  refine MetFree.of_bodySF (plainFor_of_name pn_java_lang_StringUTF16) hisR ?_
  intro p e s m args below meth c s₁ Bd hml0 hP hK
  obtain ⟨rfl, hZ, hh⟩ := hP
  have hx := Bd.exec
  have hby := Bd.bytes
  have hml : c.maxLocals = 7 := hml0
  have hown : s.vm.findClass "java/lang/StringUTF16" = some m.cls := findClass_of_methodNamed Bd.named
  have hnm := (name_of_methodNamed Bd.named Bd.method).1
  have X0 : Stand p l e ({ frames := 0, cells := 0, slots := 0, locals := 0 } : Room) s m #[(.ref a0), (.int (0 : Int32)), (.ref a2), (.int (0 : Int32)), (.int (1 : Int32))] below meth c s₁ [] 0 0 := Stand.of_body Bd
  have e0 : s₁.heap = h0 := by rw [← hh, Bd.state]; rfl
  have efx : entryFrame m #[(.ref a0), (.int (0 : Int32)), (.ref a2), (.int (0 : Int32)), (.int (1 : Int32))] 7 = mkF m 0 #[.val (.ref a0), .val (.int (0 : Int32)), .val (.ref a2), .val (.int (0 : Int32)), .val (.int (1 : Int32)), .unset, .unset] [] := by first | (simp [entryFrame, mkF, argsToLocals, Value.category]; done) | rfl
  have N0 := Fr.nil n0
  have K0 : Keep h0 h0 [a2] := Keep.refl h0 _
  refine OGo.start (g' := mkF m 0 #[.val (.ref a0), .val (.int (0 : Int32)), .val (.ref a2), .val (.int (0 : Int32)), .val (.int (1 : Int32)), .unset, .unset] []) (efx) ?_
  show OGo p.tables e below (P14c1 Z a0 a2 kc kb ch0 h0 n0 s) (s₁.setTop (mkF m 0 #[.val (.ref a0), .val (.int (0 : Int32)), .val (.ref a2), .val (.int (0 : Int32)), .val (.int (1 : Int32)), .unset, .unset] []))
  refine OGo.go (B := s₁.setTop (mkF m 1 #[.val (.ref a0), .val (.int (0 : Int32)), .val (.ref a2), .val (.int (0 : Int32)), .val (.int (1 : Int32)), .unset, .unset] [(.int (0 : Int32))])) ?_ (fun tX kX => XS.iconst X0.here hx rfl (hb hby d14_0) kX)
  refine OGo.go (B := s₁.setTop (mkF m 3 #[.val (.ref a0), .val (.int (0 : Int32)), .val (.ref a2), .val (.int (0 : Int32)), .val (.int (1 : Int32)), .val (.int (0 : Int32)), .unset] [])) ?_ (fun tX kX => XS.istore X0.here hx rfl (hb hby d14_1) rfl (l' := #[.val (.ref a0), .val (.int (0 : Int32)), .val (.ref a2), .val (.int (0 : Int32)), .val (.int (1 : Int32)), .val (.int (0 : Int32)), .unset]) rfl kX)
  refine OGo.go (B := s₁.setTop (mkF m 5 #[.val (.ref a0), .val (.int (0 : Int32)), .val (.ref a2), .val (.int (0 : Int32)), .val (.int (1 : Int32)), .val (.int (0 : Int32)), .unset] [(.int (0 : Int32))])) ?_ (fun tX kX => XS.iload X0.here hx rfl (hb hby d14_3) rfl kX)
  refine OGo.go (B := s₁.setTop (mkF m 7 #[.val (.ref a0), .val (.int (0 : Int32)), .val (.ref a2), .val (.int (0 : Int32)), .val (.int (1 : Int32)), .val (.int (0 : Int32)), .unset] [(.int (1 : Int32)), (.int (0 : Int32))])) ?_ (fun tX kX => XS.iload X0.here hx rfl (hb hby d14_5) rfl kX)
  refine OGo.go (B := s₁.setTop (mkF m 10 #[.val (.ref a0), .val (.int (0 : Int32)), .val (.ref a2), .val (.int (0 : Int32)), .val (.int (1 : Int32)), .val (.int (0 : Int32)), .unset] [])) ?_ (fun tX kX => XS.icmpNo X0.here hx rfl (hb hby d14_7) rfl (tlt (by decide)).2.1 kX)
  refine OGo.go (B := s₁.setTop (mkF m 11 #[.val (.ref a0), .val (.int (0 : Int32)), .val (.ref a2), .val (.int (0 : Int32)), .val (.int (1 : Int32)), .val (.int (0 : Int32)), .unset] [(.ref a0)])) ?_ (fun tX kX => XS.aloadN X0.here hx rfl (hb hby d14_10) rfl rfl kX)
  refine OGo.go (B := s₁.setTop (mkF m 12 #[.val (.ref a0), .val (.int (0 : Int32)), .val (.ref a2), .val (.int (0 : Int32)), .val (.int (1 : Int32)), .val (.int (0 : Int32)), .unset] [(.int (0 : Int32)), (.ref a0)])) ?_ (fun tX kX => XS.iloadN X0.here hx rfl (hb hby d14_11) rfl kX)
  obtain ⟨cl1, Ar1, qa1, S1, N1', H1, G1⟩ := id V_a0
  have hin1 := inb_of (j := (0 : Int32)) S1 ⟨by decide, by decide⟩
  have hat1 := H1.at (v := (.int ch0)) hin1 rfl
  refine OGo.go (B := s₁.setTop (mkF m 13 #[.val (.ref a0), .val (.int (0 : Int32)), .val (.ref a2), .val (.int (0 : Int32)), .val (.int (1 : Int32)), .val (.int (0 : Int32)), .unset] [(.int ch0)])) ?_ (fun tX kX => X0.caload hx (j := (0 : Int32)) (v := (.int ch0)) (by rw [e0]; exact Ar1.1) (State.isArrayOf_alike hZ.alike Ar1.2.1) Ar1.2.2 hin1 hat1 (g := (mkF m 12 #[.val (.ref a0), .val (.int (0 : Int32)), .val (.ref a2), .val (.int (0 : Int32)), .val (.int (1 : Int32)), .val (.int (0 : Int32)), .unset] [(.int (0 : Int32)), (.ref a0)])) rfl rfl (hb hby d14_12) _ kX)
  refine OGo.go (B := s₁.setTop (mkF m 15 #[.val (.ref a0), .val (.int (0 : Int32)), .val (.ref a2), .val (.int (0 : Int32)), .val (.int (1 : Int32)), .val (.int (0 : Int32)), .val (.int ch0)] [])) ?_ (fun tX kX => XS.istore X0.here hx rfl (hb hby d14_13) rfl (l' := #[.val (.ref a0), .val (.int (0 : Int32)), .val (.ref a2), .val (.int (0 : Int32)), .val (.int (1 : Int32)), .val (.int (0 : Int32)), .val (.int ch0)]) rfl kX)
  refine OGo.go (B := s₁.setTop (mkF m 17 #[.val (.ref a0), .val (.int (0 : Int32)), .val (.ref a2), .val (.int (0 : Int32)), .val (.int (1 : Int32)), .val (.int (0 : Int32)), .val (.int ch0)] [(.int ch0)])) ?_ (fun tX kX => XS.iload X0.here hx rfl (hb hby d14_15) rfl kX)
  refine OGo.go (B := s₁.setTop (mkF m 20 #[.val (.ref a0), .val (.int (0 : Int32)), .val (.ref a2), .val (.int (0 : Int32)), .val (.int (1 : Int32)), .val (.int (0 : Int32)), .val (.int ch0)] [(.int (255 : Int32)), (.int ch0)])) ?_ (fun tX kX => XS.sipush X0.here hx rfl (hb hby d14_17) kX)
  refine OGo.go (B := s₁.setTop (mkF m 26 #[.val (.ref a0), .val (.int (0 : Int32)), .val (.ref a2), .val (.int (0 : Int32)), .val (.int (1 : Int32)), .val (.int (0 : Int32)), .val (.int ch0)] [])) ?_ (fun tX kX => XS.icmpYes X0.here hx rfl (pc0 := 20) (pc' := 26) rfl (hb hby d14_20) rfl (flt le0).2.2.2 (by decide) (by decide) kX)
  refine OGo.go (B := s₁.setTop (mkF m 27 #[.val (.ref a0), .val (.int (0 : Int32)), .val (.ref a2), .val (.int (0 : Int32)), .val (.int (1 : Int32)), .val (.int (0 : Int32)), .val (.int ch0)] [(.ref a2)])) ?_ (fun tX kX => XS.aloadN X0.here hx rfl (hb hby d14_26) rfl rfl kX)
  refine OGo.go (B := s₁.setTop (mkF m 28 #[.val (.ref a0), .val (.int (0 : Int32)), .val (.ref a2), .val (.int (0 : Int32)), .val (.int (1 : Int32)), .val (.int (0 : Int32)), .val (.int ch0)] [(.int (0 : Int32)), (.ref a2)])) ?_ (fun tX kX => XS.iloadN X0.here hx rfl (hb hby d14_27) rfl kX)
  refine OGo.go (B := s₁.setTop (mkF m 30 #[.val (.ref a0), .val (.int (0 : Int32)), .val (.ref a2), .val (.int (0 : Int32)), .val (.int (1 : Int32)), .val (.int (0 : Int32)), .val (.int ch0)] [(.int ch0), (.int (0 : Int32)), (.ref a2)])) ?_ (fun tX kX => XS.iload X0.here hx rfl (hb hby d14_28) rfl kX)
  refine OGo.go (B := s₁.setTop (mkF m 31 #[.val (.ref a0), .val (.int (0 : Int32)), .val (.ref a2), .val (.int (0 : Int32)), .val (.int (1 : Int32)), .val (.int (0 : Int32)), .val (.int ch0)] [(.int (ch0.toInt8.toInt32)), (.int (0 : Int32)), (.ref a2)])) ?_ (fun tX kX => XS.i2b X0.here hx rfl (hb hby d14_30) rfl kX)
  obtain ⟨cl2, Ar2, qa2, S2, N2', H2, G2⟩ := id V_a2
  have hin2 := inb_of (j := (0 : Int32)) S2 ⟨by decide, by decide⟩
  obtain ⟨T2, h2, X2, e2, W2, st2⟩ := stB X0 hx hZ e0 Ar2 (j := (0 : Int32)) hin2 (g := (mkF m 31 #[.val (.ref a0), .val (.int (0 : Int32)), .val (.ref a2), .val (.int (0 : Int32)), .val (.int (1 : Int32)), .val (.int (0 : Int32)), .val (.int ch0)] [(.int (ch0.toInt8.toInt32)), (.int (0 : Int32)), (.ref a2)])) rfl rfl (hb hby d14_31)
  have V_a2_2 := Arv.set Ar2 qa2 S2 N2' H2 G2 (fits_nar_byte _) W2 0 rfl (Nat.le_of_ble_eq_true rfl)
  have V_a0 := V_a0.other W2 nab
  have E_a2 := E_a2.wr W2
  have K2 := K0.wr W2 (Or.inl (List.mem_of_getElem? (i := 0) rfl))
  have zn2 : n0 ≤ h2.size := Nat.le_trans Z0 (Keep.of_wr W2).1
  have N2 := Fr.snoc X2 N0 ga
  have V_a2 : Arv Z h2 a2 kb .byte (1 : Int32) [(.int ((ch0.toInt8.toInt32).toInt8.toInt32))] (.int (0 : Int32)) := V_a2_2
  refine OGo.go (B := T2.setTop (mkF m 32 #[.val (.ref a0), .val (.int (0 : Int32)), .val (.ref a2), .val (.int (0 : Int32)), .val (.int (1 : Int32)), .val (.int (0 : Int32)), .val (.int ch0)] [])) ?_ st2
  refine OGo.go (B := T2.setTop (mkF m 35 #[.val (.ref a0), .val (.int (1 : Int32)), .val (.ref a2), .val (.int (0 : Int32)), .val (.int (1 : Int32)), .val (.int (0 : Int32)), .val (.int ch0)] [])) ?_ (fun tX kX => XS.iinc X2.here hx rfl (hb hby d14_32) rfl (l' := #[.val (.ref a0), .val (.int (1 : Int32)), .val (.ref a2), .val (.int (0 : Int32)), .val (.int (1 : Int32)), .val (.int (0 : Int32)), .val (.int ch0)]) rfl kX)
  refine OGo.go (B := T2.setTop (mkF m 38 #[.val (.ref a0), .val (.int (1 : Int32)), .val (.ref a2), .val (.int (1 : Int32)), .val (.int (1 : Int32)), .val (.int (0 : Int32)), .val (.int ch0)] [])) ?_ (fun tX kX => XS.iinc X2.here hx rfl (hb hby d14_35) rfl (l' := #[.val (.ref a0), .val (.int (1 : Int32)), .val (.ref a2), .val (.int (1 : Int32)), .val (.int (1 : Int32)), .val (.int (0 : Int32)), .val (.int ch0)]) rfl kX)
  refine OGo.go (B := T2.setTop (mkF m 41 #[.val (.ref a0), .val (.int (1 : Int32)), .val (.ref a2), .val (.int (1 : Int32)), .val (.int (1 : Int32)), .val (.int (1 : Int32)), .val (.int ch0)] [])) ?_ (fun tX kX => XS.iinc X2.here hx rfl (hb hby d14_38) rfl (l' := #[.val (.ref a0), .val (.int (1 : Int32)), .val (.ref a2), .val (.int (1 : Int32)), .val (.int (1 : Int32)), .val (.int (1 : Int32)), .val (.int ch0)]) rfl kX)
  refine OGo.go (B := T2.setTop (mkF m 3 #[.val (.ref a0), .val (.int (1 : Int32)), .val (.ref a2), .val (.int (1 : Int32)), .val (.int (1 : Int32)), .val (.int (1 : Int32)), .val (.int ch0)] [])) ?_ (fun tX kX => XS.goto X2.here hx rfl (pc0 := 41) (pc' := 3) rfl (hb hby d14_41) (by decide) (by decide) kX)
  refine OGo.go (B := T2.setTop (mkF m 5 #[.val (.ref a0), .val (.int (1 : Int32)), .val (.ref a2), .val (.int (1 : Int32)), .val (.int (1 : Int32)), .val (.int (1 : Int32)), .val (.int ch0)] [(.int (1 : Int32))])) ?_ (fun tX kX => XS.iload X2.here hx rfl (hb hby d14_3) rfl kX)
  refine OGo.go (B := T2.setTop (mkF m 7 #[.val (.ref a0), .val (.int (1 : Int32)), .val (.ref a2), .val (.int (1 : Int32)), .val (.int (1 : Int32)), .val (.int (1 : Int32)), .val (.int ch0)] [(.int (1 : Int32)), (.int (1 : Int32))])) ?_ (fun tX kX => XS.iload X2.here hx rfl (hb hby d14_5) rfl kX)
  refine OGo.go (B := T2.setTop (mkF m 44 #[.val (.ref a0), .val (.int (1 : Int32)), .val (.ref a2), .val (.int (1 : Int32)), .val (.int (1 : Int32)), .val (.int (1 : Int32)), .val (.int ch0)] [])) ?_ (fun tX kX => XS.icmpYes X2.here hx rfl (pc0 := 7) (pc' := 44) rfl (hb hby d14_7) rfl (flt (by decide)).2.1 (by decide) (by decide) kX)
  refine OGo.go (B := T2.setTop (mkF m 46 #[.val (.ref a0), .val (.int (1 : Int32)), .val (.ref a2), .val (.int (1 : Int32)), .val (.int (1 : Int32)), .val (.int (1 : Int32)), .val (.int ch0)] [(.int (1 : Int32))])) ?_ (fun tX kX => XS.iload X2.here hx rfl (hb hby d14_44) rfl kX)
  refine OGo.ret X2 (v := (some (.int (1 : Int32)))) (fun h => by rw [Bd.returns] at h; cases h) (BodyLoose.notSynchronized Bd) (fun fs hr => retOut X2 hx Bd.returns rfl (Or.inl ⟨rfl, Or.inl rfl, _, rfl⟩) (hb hby d14_46) hr) (Q := Q14c1 Z a0 a2 kc kb ch0 h0 n0) ?_ (by decide) (by decide)
  show Q14c1 Z a0 a2 kc kb ch0 h0 n0 _ T2.heap _
  rw [e2]
  exact ⟨rfl, N2, K2, E_a2, V_a2⟩
theorem d13_0 : decode jdk_52_method_16_code 0 = .ok (.iload_n 2, 1) := by decide +kernel
theorem d13_1 : decode jdk_52_method_16_code 1 = .ok (.newarray .byte, 2) := by decide +kernel
theorem d13_3 : decode jdk_52_method_16_code 3 = .ok (.astore_n 3, 1) := by decide +kernel
theorem d13_4 : decode jdk_52_method_16_code 4 = .ok (.aload_n 0, 1) := by decide +kernel
theorem d13_5 : decode jdk_52_method_16_code 5 = .ok (.iload_n 1, 1) := by decide +kernel
theorem d13_6 : decode jdk_52_method_16_code 6 = .ok (.aload_n 3, 1) := by decide +kernel
theorem d13_7 : decode jdk_52_method_16_code 7 = .ok (.iconst 0, 1) := by decide +kernel
theorem d13_8 : decode jdk_52_method_16_code 8 = .ok (.iload_n 2, 1) := by decide +kernel
theorem d13_9 : decode jdk_52_method_16_code 9 = .ok (.invokestatic 115, 3) := by decide +kernel
theorem pd___CI_BII_I : parseMethodDescriptor "([CI[BII)I" = some ⟨[(.array .char), .int, (.array .byte), .int, .int], some .int⟩ := by decide +kernel
theorem d13_12 : decode jdk_52_method_16_code 12 = .ok (.istore 4, 2) := by decide +kernel
theorem d13_14 : decode jdk_52_method_16_code 14 = .ok (.iload 4, 2) := by decide +kernel
theorem d13_16 : decode jdk_52_method_16_code 16 = .ok (.iload_n 2, 1) := by decide +kernel
theorem d13_17 : decode jdk_52_method_16_code 17 = .ok (.if_icmp .eq 40, 3) := by decide +kernel
theorem d13_57 : decode jdk_52_method_16_code 57 = .ok (.aload_n 3, 1) := by decide +kernel
theorem d13_58 : decode jdk_52_method_16_code 58 = .ok (.areturn, 1) := by decide +kernel
def Q13c1 (Z : State) (a0 : Addr) (kc : ClassId) (ch0 : Int32) (h0 : Heap) (n0 : Nat) (v : Option Value) (h : Heap) (L : List Loc) : Prop := ∃ (nb : Addr) (kb : ClassId), v = some (.ref nb) ∧ Fr n0 L ∧ Keep h0 h [] ∧ h0.size ≤ nb ∧ Exa Z h nb "[B" ∧ Arv Z h nb kb .byte (1 : Int32) [(.int ((ch0.toInt8.toInt32).toInt8.toInt32))] (.int (0 : Int32))
def P13c1 (Z : State) (a0 : Addr) (kc : ClassId) (ch0 : Int32) (h0 : Heap) (n0 : Nat) (s : State) (o : Outcome) (U' : State) : Prop := ∃ v L, o = .returned v ∧ Q13c1 Z a0 kc ch0 h0 n0 v U'.heap L ∧ FrameEnd s o U' L ({ frames := 1, cells := 1, slots := 1, locals := 18 } : Room).cells ({ frames := 1, cells := 1, slots := 1, locals := 18 } : Room).slots
set_option maxRecDepth 65536 in
set_option maxHeartbeats 40000000 in
theorem rm13c1 (l : Launch) (Z : State) (aV : Array Value) (hw : ∀ d ∈ tables_1, d.before aV Z = true) (ws : List Jvm.Cond) (a0 : Addr) (kc : ClassId) (ch0 : Int32) (h0 : Heap) (n0 : Nat) (Z0 : n0 ≤ h0.size) (V_a0 : Arv Z h0 a0 kc .char (1 : Int32) [(.int ch0)] (.int (0 : Int32))) (le0 : ¬ (255 : Int32) < ch0) :
    MetFree l (⟨"java/lang/StringUTF16", "compress", "([CII)[B"⟩ : MethodName) (head1 (Jvm.Cond.code (⟨"java/lang/StringUTF16", "compress", "([CII)[B"⟩ : MethodName) jdk_52_method_16_code 6 (some (.array .byte)) :: ws) ({ frames := 1, cells := 1, slots := 1, locals := 18 } : Room)) (fun a U => a = #[(.ref a0), (.int (0 : Int32)), (.int (1 : Int32))] ∧ Z.Warmed39 U.vm ∧ U.heap = h0) (fun _ _ _ _ _ => True) (fun _ U o U' => ∃ v L, o = .returned v ∧ Q13c1 Z a0 kc ch0 h0 n0 v U'.heap L ∧ FrameEnd U o U' L ({ frames := 1, cells := 1, slots := 1, locals := 18 } : Room).cells ({ frames := 1, cells := 1, slots := 1, locals := 18 } : Room).slots) := by
  refine MetFree.of_bodySF (plainFor_of_name pn_java_lang_StringUTF16) hisR ?_
  intro p e s m args below meth c s₁ Bd hml0 hP hK
  obtain ⟨rfl, hZ, hh⟩ := hP
  have hx := Bd.exec
  have hby := Bd.bytes
  have hml : c.maxLocals = 6 := hml0
  have hown : s.vm.findClass "java/lang/StringUTF16" = some m.cls := findClass_of_methodNamed Bd.named
  have hnm := (name_of_methodNamed Bd.named Bd.method).1
  have X0 : Stand p l e ({ frames := 1, cells := 1, slots := 1, locals := 18 } : Room) s m #[(.ref a0), (.int (0 : Int32)), (.int (1 : Int32))] below meth c s₁ [] 0 0 := Stand.of_body Bd
  have e0 : s₁.heap = h0 := by rw [← hh, Bd.state]; rfl
  have efx : entryFrame m #[(.ref a0), (.int (0 : Int32)), (.int (1 : Int32))] 6 = mkF m 0 #[.val (.ref a0), .val (.int (0 : Int32)), .val (.int (1 : Int32)), .unset, .unset, .unset] [] := by first | (simp [entryFrame, mkF, argsToLocals, Value.category]; done) | rfl
  have N0 := Fr.nil n0
  have K0 : Keep h0 h0 [] := Keep.refl h0 _
  refine OGo.start (g' := mkF m 0 #[.val (.ref a0), .val (.int (0 : Int32)), .val (.int (1 : Int32)), .unset, .unset, .unset] []) (efx) ?_
  show OGo p.tables e below (P13c1 Z a0 kc ch0 h0 n0 s) (s₁.setTop (mkF m 0 #[.val (.ref a0), .val (.int (0 : Int32)), .val (.int (1 : Int32)), .unset, .unset, .unset] []))
  refine OGo.go (B := s₁.setTop (mkF m 1 #[.val (.ref a0), .val (.int (0 : Int32)), .val (.int (1 : Int32)), .unset, .unset, .unset] [(.int (1 : Int32))])) ?_ (fun tX kX => XS.iloadN X0.here hx rfl (hb hby d13_0) rfl kX)
  obtain ⟨T1, h1, k1, X1, e1, E1, A1, EA1, st1⟩ := newPE X0 hx hZ (hw _ (List.mem_of_getElem? (i := 15) rfl)) e0 (g := (mkF m 1 #[.val (.ref a0), .val (.int (0 : Int32)), .val (.int (1 : Int32)), .unset, .unset, .unset] [(.int (1 : Int32))])) rfl (hb hby d13_1) rfl (by decide) (cap := 1) (by decide) (by decide) (by decide) (by decide) (ad := "[B") (by decide)
  obtain ⟨b1, g1⟩ : ∃ z, z = h0.size := ⟨_, rfl⟩
  rw [← g1] at A1 EA1 st1
  have ne_a0_b1 : a0 ≠ b1 := Nat.ne_of_lt (Nat.lt_of_lt_of_le V_a0.lt (Nat.le_of_eq g1.symm))
  have V_a0 := V_a0.ext E1
  have g_b1 : n0 ≤ b1 := Nat.le_trans Z0 (Nat.le_of_eq g1.symm)
  have sz_b1 : h0.size ≤ b1 := Nat.le_trans K0.1 (Nat.le_of_eq g1.symm)
  have zn1 : n0 ≤ h1.size := Nat.le_trans Z0 E1.1
  have K1 := K0.ext E1
  have E_b1 := EA1
  have V_b1 : Arv Z h1 b1 k1 .byte (1 : Int32) [(.int (0 : Int32))] (.int (0 : Int32)) := (Arv.new A1 (by decide)).pad (pad_rep [] (.int (0 : Int32)) 1)
  refine OGo.go (B := T1.setTop (mkF m 3 #[.val (.ref a0), .val (.int (0 : Int32)), .val (.int (1 : Int32)), .unset, .unset, .unset] [(.ref b1)])) ?_ st1
  refine OGo.go (B := T1.setTop (mkF m 4 #[.val (.ref a0), .val (.int (0 : Int32)), .val (.int (1 : Int32)), .val (.ref b1), .unset, .unset] [])) ?_ (fun tX kX => XS.astoreN X1.here hx rfl (hb hby d13_3) rfl rfl (l' := #[.val (.ref a0), .val (.int (0 : Int32)), .val (.int (1 : Int32)), .val (.ref b1), .unset, .unset]) rfl kX)
  refine OGo.go (B := T1.setTop (mkF m 5 #[.val (.ref a0), .val (.int (0 : Int32)), .val (.int (1 : Int32)), .val (.ref b1), .unset, .unset] [(.ref a0)])) ?_ (fun tX kX => XS.aloadN X1.here hx rfl (hb hby d13_4) rfl rfl kX)
  refine OGo.go (B := T1.setTop (mkF m 6 #[.val (.ref a0), .val (.int (0 : Int32)), .val (.int (1 : Int32)), .val (.ref b1), .unset, .unset] [(.int (0 : Int32)), (.ref a0)])) ?_ (fun tX kX => XS.iloadN X1.here hx rfl (hb hby d13_5) rfl kX)
  refine OGo.go (B := T1.setTop (mkF m 7 #[.val (.ref a0), .val (.int (0 : Int32)), .val (.int (1 : Int32)), .val (.ref b1), .unset, .unset] [(.ref b1), (.int (0 : Int32)), (.ref a0)])) ?_ (fun tX kX => XS.aloadN X1.here hx rfl (hb hby d13_6) rfl rfl kX)
  refine OGo.go (B := T1.setTop (mkF m 8 #[.val (.ref a0), .val (.int (0 : Int32)), .val (.int (1 : Int32)), .val (.ref b1), .unset, .unset] [(.int (0 : Int32)), (.ref b1), (.int (0 : Int32)), (.ref a0)])) ?_ (fun tX kX => XS.iconst X1.here hx rfl (hb hby d13_7) kX)
  refine OGo.go (B := T1.setTop (mkF m 9 #[.val (.ref a0), .val (.int (0 : Int32)), .val (.int (1 : Int32)), .val (.ref b1), .unset, .unset] [(.int (1 : Int32)), (.int (0 : Int32)), (.ref b1), (.int (0 : Int32)), (.ref a0)])) ?_ (fun tX kX => XS.iloadN X1.here hx rfl (hb hby d13_8) rfl kX)
  obtain ⟨_, _, ⟨T2, L2, k2, n2⟩, -, X2, ⟨Lc2, hQ2, l2, y2, z2⟩, st2⟩ := Jvm.LawKit.callS X1 hx (y := (⟨"java/lang/StringUTF16", "compress", "([CI[BII)I"⟩ : MethodName)) hown (mvT hZ (hw _ (List.mem_of_getElem? (i := 106) rfl))) (mvT hZ (hw _ (List.mem_of_getElem? (i := 107) rfl))) (mvT hZ (hw _ (List.mem_of_getElem? (i := 104) rfl))) (mvT hZ (hw _ (List.mem_of_getElem? (i := 108) rfl))) (by decide) (backOf (W := 0) (rm14c1 l Z aV hw [] a0 b1 kc k1 ch0 h1 n0 zn1 V_a0 E_b1 V_b1 g_b1 ne_a0_b1 le0) hZ (hw _ (List.mem_of_getElem? (i := 108) rfl)) (hw _ (List.mem_of_getElem? (i := 104) rfl)) (by decide) (by decide)) (g := (mkF m 9 #[.val (.ref a0), .val (.int (0 : Int32)), .val (.int (1 : Int32)), .val (.ref b1), .unset, .unset] [(.int (1 : Int32)), (.int (0 : Int32)), (.ref b1), (.int (0 : Int32)), (.ref a0)])) rfl (by rw [hml]; rfl) (argsL := [(.ref a0), (.int (0 : Int32)), (.ref b1), (.int (0 : Int32)), (.int (1 : Int32))]) (rest := []) (lenOf pd___CI_BII_I rfl) rfl (by show 2 * 0 + _ ≤ _; exact Nat.le_of_eq rfl) (hb hby d13_9) (fun _ _ => ⟨rfl, e1, (by decide : 1 + 0 ≤ _), (by decide : 1 + 0 ≤ _)⟩)
  dsimp only [Pt.U, Pt.locs, Pt.cells, Pt.slots] at X2 l2 y2 z2 st2 hQ2
  subst l2 y2 z2
  obtain ⟨rfl, N2q, Kq2, E_b1_p, V_b1_p⟩ := hQ2
  have N2 := Fr.app N0 N2q
  have V_a0 := V_a0.keep Kq2 (ninS ne_a0_b1 nin0)
  have E_b1 := E_b1.keep Kq2
  have K2 := K1.trans Kq2 (allS (P := fun x => x ∈ ([] : List Addr) ∨ h0.size ≤ x) (Or.inr sz_b1) all0)
  have zn2 : n0 ≤ T2.heap.size := Nat.le_trans zn1 Kq2.1
  have E_b1 := E_b1_p
  have V_b1 := V_b1_p
  refine OGo.go (B := T2.setTop (mkF m 12 #[.val (.ref a0), .val (.int (0 : Int32)), .val (.int (1 : Int32)), .val (.ref b1), .unset, .unset] [(.int (1 : Int32))])) ?_ st2
  refine OGo.go (B := T2.setTop (mkF m 14 #[.val (.ref a0), .val (.int (0 : Int32)), .val (.int (1 : Int32)), .val (.ref b1), .val (.int (1 : Int32)), .unset] [])) ?_ (fun tX kX => XS.istore X2.here hx rfl (hb hby d13_12) rfl (l' := #[.val (.ref a0), .val (.int (0 : Int32)), .val (.int (1 : Int32)), .val (.ref b1), .val (.int (1 : Int32)), .unset]) rfl kX)
  refine OGo.go (B := T2.setTop (mkF m 16 #[.val (.ref a0), .val (.int (0 : Int32)), .val (.int (1 : Int32)), .val (.ref b1), .val (.int (1 : Int32)), .unset] [(.int (1 : Int32))])) ?_ (fun tX kX => XS.iload X2.here hx rfl (hb hby d13_14) rfl kX)
  refine OGo.go (B := T2.setTop (mkF m 17 #[.val (.ref a0), .val (.int (0 : Int32)), .val (.int (1 : Int32)), .val (.ref b1), .val (.int (1 : Int32)), .unset] [(.int (1 : Int32)), (.int (1 : Int32))])) ?_ (fun tX kX => XS.iloadN X2.here hx rfl (hb hby d13_16) rfl kX)
  refine OGo.go (B := T2.setTop (mkF m 57 #[.val (.ref a0), .val (.int (0 : Int32)), .val (.int (1 : Int32)), .val (.ref b1), .val (.int (1 : Int32)), .unset] [])) ?_ (fun tX kX => XS.icmpYes X2.here hx rfl (pc0 := 17) (pc' := 57) rfl (hb hby d13_17) rfl (teq (by decide)).1 (by decide) (by decide) kX)
  refine OGo.go (B := T2.setTop (mkF m 58 #[.val (.ref a0), .val (.int (0 : Int32)), .val (.int (1 : Int32)), .val (.ref b1), .val (.int (1 : Int32)), .unset] [(.ref b1)])) ?_ (fun tX kX => XS.aloadN X2.here hx rfl (hb hby d13_57) rfl rfl kX)
  refine OGo.ret X2 (v := (some (.ref b1))) (fun h => by rw [Bd.returns] at h; cases h) (BodyLoose.notSynchronized Bd) (fun fs hr => retOut X2 hx Bd.returns rfl (Or.inr (Or.inr (Or.inr (Or.inr ⟨rfl, rfl, rfl⟩)))) (hb hby d13_58) hr) (Q := Q13c1 Z a0 kc ch0 h0 n0) ?_ (by decide) (by decide)
  show Q13c1 Z a0 kc ch0 h0 n0 _ T2.heap _
  exact ⟨b1, k1, rfl, N2, K2, sz_b1, E_b1, V_b1⟩
theorem d2_27 : decode jdk_42_method_149_code 27 = .ok (.getstatic 38, 3) := by decide +kernel
theorem d2_30 : decode jdk_42_method_149_code 30 = .ok (.ifCond .eq 28, 3) := by decide +kernel
theorem d2_33 : decode jdk_42_method_149_code 33 = .ok (.aload_n 1, 1) := by decide +kernel
theorem d2_34 : decode jdk_42_method_149_code 34 = .ok (.iload_n 2, 1) := by decide +kernel
theorem d2_35 : decode jdk_42_method_149_code 35 = .ok (.iload_n 3, 1) := by decide +kernel
theorem d2_36 : decode jdk_42_method_149_code 36 = .ok (.invokestatic 177, 3) := by decide +kernel
theorem pd___CII__B : parseMethodDescriptor "([CII)[B" = some ⟨[(.array .char), .int, .int], some (.array .byte)⟩ := by decide +kernel
theorem d2_39 : decode jdk_42_method_149_code 39 = .ok (.astore 5, 2) := by decide +kernel
theorem d2_41 : decode jdk_42_method_149_code 41 = .ok (.aload_n 0, 1) := by decide +kernel
theorem d2_42 : decode jdk_42_method_149_code 42 = .ok (.aload 5, 2) := by decide +kernel
theorem d2_44 : decode jdk_42_method_149_code 44 = .ok (.iload_n 3, 1) := by decide +kernel
theorem d2_45 : decode jdk_42_method_149_code 45 = .ok (.invokestatic 47, 3) := by decide +kernel
theorem pd___BI_B : parseMethodDescriptor "([BI)B" = some ⟨[(.array .byte), .int], some .byte⟩ := by decide +kernel
theorem d2_48 : decode jdk_42_method_149_code 48 = .ok (.putfield 15, 3) := by decide +kernel
theorem d2_51 : decode jdk_42_method_149_code 51 = .ok (.aload_n 0, 1) := by decide +kernel
theorem d2_52 : decode jdk_42_method_149_code 52 = .ok (.aload 5, 2) := by decide +kernel
theorem d2_54 : decode jdk_42_method_149_code 54 = .ok (.putfield 9, 3) := by decide +kernel
theorem d2_57 : decode jdk_42_method_149_code 57 = .ok (.return_, 1) := by decide +kernel
def Q2c1 (Z : State) (a0 : Addr) (a1 : Addr) (u1 : Value) (u2 : Value) (kc : ClassId) (cs : Int32) (ch0 : Int32) (h0 : Heap) (n0 : Nat) (v : Option Value) (h : Heap) (L : List Loc) : Prop := v = none ∧ Fr n0 L ∧ Keep h0 h [a0] ∧ Exa Z h a0 "java/lang/String"
def P2c1 (Z : State) (a0 : Addr) (a1 : Addr) (u1 : Value) (u2 : Value) (kc : ClassId) (cs : Int32) (ch0 : Int32) (h0 : Heap) (n0 : Nat) (s : State) (o : Outcome) (U' : State) : Prop := ∃ v L, o = .returned v ∧ Q2c1 Z a0 a1 u1 u2 kc cs ch0 h0 n0 v U'.heap L ∧ FrameEnd s o U' L ({ frames := 2, cells := 1, slots := 1, locals := 35 } : Room).cells ({ frames := 2, cells := 1, slots := 1, locals := 35 } : Room).slots
set_option maxRecDepth 65536 in
set_option maxHeartbeats 40000000 in
theorem rm2c1 (l : Launch) (Z : State) (aV : Array Value) (hw : ∀ d ∈ tables_1, d.before aV Z = true) (ws : List Jvm.Cond) (a0 : Addr) (a1 : Addr) (u1 : Value) (u2 : Value) (kc : ClassId) (cs : Int32) (ch0 : Int32) (h0 : Heap) (n0 : Nat) (Z0 : n0 ≤ h0.size) (E_a0 : Exa Z h0 a0 "java/lang/String") (F_value_a0 : Fld Z h0 a0 "java/lang/String" "value" "[B" u1) (F_coder_a0 : Fld Z h0 a0 "java/lang/String" "coder" "B" u2) (V_a1 : Arv Z h0 a1 kc .char (1 : Int32) [(.int ch0)] (.int (0 : Int32))) (S_COMPACT_STRINGS : Sta Z h0 "java/lang/String" "COMPACT_STRINGS" "Z" (.int cs)) (ga : n0 ≤ a0) (nac : a1 ≠ a0) (hcs : ¬ cs = 0) (le0 : ¬ (255 : Int32) < ch0) :
    MetFree l (⟨"java/lang/String", "<init>", "([CIILjava/lang/Void;)V"⟩ : MethodName) (head1 (Jvm.Cond.code (⟨"java/lang/String", "<init>", "([CIILjava/lang/Void;)V"⟩ : MethodName) jdk_42_method_149_code 6 none :: ws) ({ frames := 2, cells := 1, slots := 1, locals := 35 } : Room)) (fun a U => a = #[(.ref a0), (.ref a1), (.int (0 : Int32)), (.int (1 : Int32)), .null] ∧ Z.Warmed39 U.vm ∧ U.heap = h0) (fun _ _ _ _ _ => True) (fun _ U o U' => ∃ v L, o = .returned v ∧ Q2c1 Z a0 a1 u1 u2 kc cs ch0 h0 n0 v U'.heap L ∧ FrameEnd U o U' L ({ frames := 2, cells := 1, slots := 1, locals := 35 } : Room).cells ({ frames := 2, cells := 1, slots := 1, locals := 35 } : Room).slots) := by
  refine MetFree.of_bodySF (plainFor_of_name pn_java_lang_String) hisR ?_
  intro p e s m args below meth c s₁ Bd hml0 hP hK
  obtain ⟨rfl, hZ, hh⟩ := hP
  have hx := Bd.exec
  have hby := Bd.bytes
  have hml : c.maxLocals = 6 := hml0
  have hown : s.vm.findClass "java/lang/String" = some m.cls := findClass_of_methodNamed Bd.named
  have hnm := (name_of_methodNamed Bd.named Bd.method).1
  have X0 : Stand p l e ({ frames := 2, cells := 1, slots := 1, locals := 35 } : Room) s m #[(.ref a0), (.ref a1), (.int (0 : Int32)), (.int (1 : Int32)), .null] below meth c s₁ [] 0 0 := Stand.of_body Bd
  have e0 : s₁.heap = h0 := by rw [← hh, Bd.state]; rfl
  have efx : entryFrame m #[(.ref a0), (.ref a1), (.int (0 : Int32)), (.int (1 : Int32)), .null] 6 = mkF m 0 #[.val (.ref a0), .val (.ref a1), .val (.int (0 : Int32)), .val (.int (1 : Int32)), .val .null, .unset] [] := by first | (simp [entryFrame, mkF, argsToLocals, Value.category]; done) | rfl
  have N0 := Fr.nil n0
  have K0 : Keep h0 h0 [a0] := Keep.refl h0 _
  refine OGo.start (g' := mkF m 0 #[.val (.ref a0), .val (.ref a1), .val (.int (0 : Int32)), .val (.int (1 : Int32)), .val .null, .unset] []) (efx) ?_
  show OGo p.tables e below (P2c1 Z a0 a1 u1 u2 kc cs ch0 h0 n0 s) (s₁.setTop (mkF m 0 #[.val (.ref a0), .val (.ref a1), .val (.int (0 : Int32)), .val (.int (1 : Int32)), .val .null, .unset] []))
  refine OGo.go (B := s₁.setTop (mkF m 1 #[.val (.ref a0), .val (.ref a1), .val (.int (0 : Int32)), .val (.int (1 : Int32)), .val .null, .unset] [(.ref a0)])) ?_ (fun tX kX => XS.aloadN X0.here hx rfl (hb hby d2_0) rfl rfl kX)
  obtain ⟨T1, X1, e1, st1⟩ := initO X0 hx hZ hown (hw _ (List.mem_of_getElem? (i := 11) rfl)) (hw _ (List.mem_of_getElem? (i := 12) rfl)) (hw _ (List.mem_of_getElem? (i := 13) rfl)) e0 (g := (mkF m 1 #[.val (.ref a0), .val (.ref a1), .val (.int (0 : Int32)), .val (.int (1 : Int32)), .val .null, .unset] [(.ref a0)])) rfl (by rw [hml]; rfl) rfl (hb hby d2_1) (by decide) (W := 0) (by show 2 * 0 + _ ≤ _; exact Nat.le_of_eq rfl) (by decide)
  refine OGo.go (B := T1.setTop (mkF m 4 #[.val (.ref a0), .val (.ref a1), .val (.int (0 : Int32)), .val (.int (1 : Int32)), .val .null, .unset] [])) ?_ st1
  refine OGo.go (B := T1.setTop (mkF m 5 #[.val (.ref a0), .val (.ref a1), .val (.int (0 : Int32)), .val (.int (1 : Int32)), .val .null, .unset] [(.int (1 : Int32))])) ?_ (fun tX kX => XS.iloadN X1.here hx rfl (hb hby d2_4) rfl kX)
  refine OGo.go (B := T1.setTop (mkF m 27 #[.val (.ref a0), .val (.ref a1), .val (.int (0 : Int32)), .val (.int (1 : Int32)), .val .null, .unset] [])) ?_ (fun tX kX => XS.ifYes X1.here hx rfl (pc0 := 5) (pc' := 27) rfl (hb hby d2_5) rfl ((if0 _ _).trans (feq (by decide)).2) (by decide) (by decide) kX)
  obtain ⟨T2, X2, e2, st2⟩ := getS2 X1 hx hZ hown (host := "") (Or.inl (hw _ (List.mem_of_getElem? (i := 101) rfl))) Via.refl e1 S_COMPACT_STRINGS (g := (mkF m 27 #[.val (.ref a0), .val (.ref a1), .val (.int (0 : Int32)), .val (.int (1 : Int32)), .val .null, .unset] [])) rfl (hb hby d2_27)
  refine OGo.go (B := T2.setTop (mkF m 30 #[.val (.ref a0), .val (.ref a1), .val (.int (0 : Int32)), .val (.int (1 : Int32)), .val .null, .unset] [(.int cs)])) ?_ st2
  refine OGo.go (B := T2.setTop (mkF m 33 #[.val (.ref a0), .val (.ref a1), .val (.int (0 : Int32)), .val (.int (1 : Int32)), .val .null, .unset] [])) ?_ (fun tX kX => XS.ifNo X2.here hx rfl (hb hby d2_30) rfl ((if0 _ _).trans (feq hcs).1) kX)
  refine OGo.go (B := T2.setTop (mkF m 34 #[.val (.ref a0), .val (.ref a1), .val (.int (0 : Int32)), .val (.int (1 : Int32)), .val .null, .unset] [(.ref a1)])) ?_ (fun tX kX => XS.aloadN X2.here hx rfl (hb hby d2_33) rfl rfl kX)
  refine OGo.go (B := T2.setTop (mkF m 35 #[.val (.ref a0), .val (.ref a1), .val (.int (0 : Int32)), .val (.int (1 : Int32)), .val .null, .unset] [(.int (0 : Int32)), (.ref a1)])) ?_ (fun tX kX => XS.iloadN X2.here hx rfl (hb hby d2_34) rfl kX)
  refine OGo.go (B := T2.setTop (mkF m 36 #[.val (.ref a0), .val (.ref a1), .val (.int (0 : Int32)), .val (.int (1 : Int32)), .val .null, .unset] [(.int (1 : Int32)), (.int (0 : Int32)), (.ref a1)])) ?_ (fun tX kX => XS.iloadN X2.here hx rfl (hb hby d2_35) rfl kX)
  obtain ⟨_, _, ⟨T3, L3, k3, n3⟩, -, X3, ⟨Lc3, hQ3, l3, y3, z3⟩, st3⟩ := Jvm.LawKit.callS X2 hx (y := (⟨"java/lang/StringUTF16", "compress", "([CII)[B"⟩ : MethodName)) hown (mvT hZ (hw _ (List.mem_of_getElem? (i := 102) rfl))) (mvT hZ (hw _ (List.mem_of_getElem? (i := 103) rfl))) (mvT hZ (hw _ (List.mem_of_getElem? (i := 104) rfl))) (mvT hZ (hw _ (List.mem_of_getElem? (i := 105) rfl))) (by decide) (backOf (W := 0) (rm13c1 l Z aV hw [] a1 kc ch0 h0 n0 Z0 V_a1 le0) hZ (hw _ (List.mem_of_getElem? (i := 105) rfl)) (hw _ (List.mem_of_getElem? (i := 104) rfl)) (by decide) (by decide)) (g := (mkF m 36 #[.val (.ref a0), .val (.ref a1), .val (.int (0 : Int32)), .val (.int (1 : Int32)), .val .null, .unset] [(.int (1 : Int32)), (.int (0 : Int32)), (.ref a1)])) rfl (by rw [hml]; rfl) (argsL := [(.ref a1), (.int (0 : Int32)), (.int (1 : Int32))]) (rest := []) (lenOf pd___CII__B rfl) rfl (by show 2 * 0 + _ ≤ _; exact Nat.le_of_eq rfl) (hb hby d2_36) (fun _ _ => ⟨rfl, e2, (by decide : 0 + 1 ≤ _), (by decide : 0 + 1 ≤ _)⟩)
  dsimp only [Pt.U, Pt.locs, Pt.cells, Pt.slots] at X3 l3 y3 z3 st3 hQ3
  subst l3 y3 z3
  obtain ⟨nb_3, kb_3, rfl, N3q, Kq3, sz3_nb, E_nb_3_p, V_nb_3_p⟩ := hQ3
  have N3 := Fr.app N0 N3q
  have ne_a0_nb_3 : a0 ≠ nb_3 := Nat.ne_of_lt (Nat.lt_of_lt_of_le E_a0.lt sz3_nb)
  have ne_a1_nb_3 : a1 ≠ nb_3 := Nat.ne_of_lt (Nat.lt_of_lt_of_le V_a1.lt sz3_nb)
  have S_COMPACT_STRINGS := Sta.keep0 S_COMPACT_STRINGS Kq3
  have E_a0 := E_a0.keep Kq3
  have F_value_a0 := F_value_a0.keep Kq3 nin0
  have F_coder_a0 := F_coder_a0.keep Kq3 nin0
  have V_a1 := V_a1.keep Kq3 nin0
  have g_nb_3 : n0 ≤ nb_3 := Nat.le_trans Z0 sz3_nb
  have sz_nb_3 : h0.size ≤ nb_3 := Nat.le_trans K0.1 sz3_nb
  have K3 := K0.trans Kq3 all0
  have zn3 : n0 ≤ T3.heap.size := Nat.le_trans Z0 Kq3.1
  have E_nb_3 := E_nb_3_p
  have V_nb_3 := V_nb_3_p
  refine OGo.go (B := T3.setTop (mkF m 39 #[.val (.ref a0), .val (.ref a1), .val (.int (0 : Int32)), .val (.int (1 : Int32)), .val .null, .unset] [(.ref nb_3)])) ?_ st3
  refine OGo.go (B := T3.setTop (mkF m 41 #[.val (.ref a0), .val (.ref a1), .val (.int (0 : Int32)), .val (.int (1 : Int32)), .val .null, .val (.ref nb_3)] [])) ?_ (fun tX kX => XS.astore X3.here hx rfl (hb hby d2_39) rfl rfl (l' := #[.val (.ref a0), .val (.ref a1), .val (.int (0 : Int32)), .val (.int (1 : Int32)), .val .null, .val (.ref nb_3)]) rfl kX)
  refine OGo.go (B := T3.setTop (mkF m 42 #[.val (.ref a0), .val (.ref a1), .val (.int (0 : Int32)), .val (.int (1 : Int32)), .val .null, .val (.ref nb_3)] [(.ref a0)])) ?_ (fun tX kX => XS.aloadN X3.here hx rfl (hb hby d2_41) rfl rfl kX)
  refine OGo.go (B := T3.setTop (mkF m 44 #[.val (.ref a0), .val (.ref a1), .val (.int (0 : Int32)), .val (.int (1 : Int32)), .val .null, .val (.ref nb_3)] [(.ref nb_3), (.ref a0)])) ?_ (fun tX kX => XS.aload X3.here hx rfl (hb hby d2_42) rfl rfl kX)
  refine OGo.go (B := T3.setTop (mkF m 45 #[.val (.ref a0), .val (.ref a1), .val (.int (0 : Int32)), .val (.int (1 : Int32)), .val .null, .val (.ref nb_3)] [(.int (1 : Int32)), (.ref nb_3), (.ref a0)])) ?_ (fun tX kX => XS.iloadN X3.here hx rfl (hb hby d2_44) rfl kX)
  obtain ⟨_, _, ⟨T4, L4, k4, n4⟩, -, X4, ⟨Lc4, hQ4, l4, y4, z4⟩, st4⟩ := Jvm.LawKit.callS X3 hx (y := (⟨"java/lang/StringUTF16", "coderFromArrayLen", "([BI)B"⟩ : MethodName)) hown (mvT hZ (hw _ (List.mem_of_getElem? (i := 109) rfl))) (mvT hZ (hw _ (List.mem_of_getElem? (i := 110) rfl))) (mvT hZ (hw _ (List.mem_of_getElem? (i := 104) rfl))) (mvT hZ (hw _ (List.mem_of_getElem? (i := 111) rfl))) (by decide) (backOf (W := 1) (rm15 l Z aV hw [] nb_3 (1 : Int32) kb_3 [(.int ((ch0.toInt8.toInt32).toInt8.toInt32))] T3.heap n0 zn3 V_nb_3) hZ (hw _ (List.mem_of_getElem? (i := 111) rfl)) (hw _ (List.mem_of_getElem? (i := 104) rfl)) (by decide) (by decide)) (g := (mkF m 45 #[.val (.ref a0), .val (.ref a1), .val (.int (0 : Int32)), .val (.int (1 : Int32)), .val .null, .val (.ref nb_3)] [(.int (1 : Int32)), (.ref nb_3), (.ref a0)])) rfl (by rw [hml]; rfl) (argsL := [(.ref nb_3), (.int (1 : Int32))]) (rest := [(.ref a0)]) (lenOf pd___BI_B rfl) rfl (by show 2 * 0 + _ ≤ _; exact Nat.le_of_eq rfl) (hb hby d2_45) (fun _ _ => ⟨rfl, rfl, (by decide : 1 + 0 ≤ _), (by decide : 1 + 0 ≤ _)⟩)
  dsimp only [Pt.U, Pt.locs, Pt.cells, Pt.slots] at X4 l4 y4 z4 st4 hQ4
  subst l4 y4 z4
  obtain ⟨rfl, N4q, e4⟩ := hQ4
  have N4 := Fr.app N3 N4q
  refine OGo.go (B := T4.setTop (mkF m 48 #[.val (.ref a0), .val (.ref a1), .val (.int (0 : Int32)), .val (.int (1 : Int32)), .val .null, .val (.ref nb_3)] [(.int ((((((1 : Int32) - (1 : Int32)).toUInt32 >>> ((31 : Int32) &&& 31).toUInt32).toInt32).toInt8.toInt32).toInt8.toInt32)), (.ref a0)])) ?_ st4
  obtain ⟨T5, h5, X5, e5, W5, st5⟩ := putFN X4 hx hZ hown (hw _ (List.mem_of_getElem? (i := 21) rfl)) Via.refl e4 F_coder_a0 E_a0 (Or.inr ⟨(hw _ (List.mem_of_getElem? (i := 17) rfl)), rfl, hnm⟩) (hw _ (List.mem_of_getElem? (i := 2) rfl)) (ty := .byte) (v' := (.int ((((((1 : Int32) - (1 : Int32)).toUInt32 >>> ((31 : Int32) &&& 31).toUInt32).toInt32).toInt8.toInt32).toInt8.toInt32).toInt8.toInt32)) (by decide) rfl (fits_nar_byte _) (g := (mkF m 48 #[.val (.ref a0), .val (.ref a1), .val (.int (0 : Int32)), .val (.int (1 : Int32)), .val .null, .val (.ref nb_3)] [(.int ((((((1 : Int32) - (1 : Int32)).toUInt32 >>> ((31 : Int32) &&& 31).toUInt32).toInt32).toInt8.toInt32).toInt8.toInt32)), (.ref a0)])) rfl rfl (hb hby d2_48)
  have E_a0 := E_a0.wr W5
  have F_value_a0 := F_value_a0.other W5 (Or.inr (slot_ne (Or.inr (hw _ (List.mem_of_getElem? (i := 16) rfl))) (Or.inr (hw _ (List.mem_of_getElem? (i := 17) rfl))) (by decide) (t := (.array .byte)) (t' := .byte) (by decide) (by decide)))
  have F_coder_a0 := F_coder_a0.same W5
  have V_a1 := V_a1.other W5 nac
  have S_COMPACT_STRINGS := S_COMPACT_STRINGS.wr W5
  have E_nb_3 := E_nb_3.wr W5
  have V_nb_3 := V_nb_3.other W5 (Ne.symm ne_a0_nb_3)
  have K5 := K3.wr W5 (Or.inl (List.mem_of_getElem? (i := 0) rfl))
  have zn5 : n0 ≤ h5.size := Nat.le_trans zn3 (Keep.of_wr W5).1
  have N5 := Fr.snoc X5 N4 ga
  refine OGo.go (B := T5.setTop (mkF m 51 #[.val (.ref a0), .val (.ref a1), .val (.int (0 : Int32)), .val (.int (1 : Int32)), .val .null, .val (.ref nb_3)] [])) ?_ st5
  refine OGo.go (B := T5.setTop (mkF m 52 #[.val (.ref a0), .val (.ref a1), .val (.int (0 : Int32)), .val (.int (1 : Int32)), .val .null, .val (.ref nb_3)] [(.ref a0)])) ?_ (fun tX kX => XS.aloadN X5.here hx rfl (hb hby d2_51) rfl rfl kX)
  refine OGo.go (B := T5.setTop (mkF m 54 #[.val (.ref a0), .val (.ref a1), .val (.int (0 : Int32)), .val (.int (1 : Int32)), .val .null, .val (.ref nb_3)] [(.ref nb_3), (.ref a0)])) ?_ (fun tX kX => XS.aload X5.here hx rfl (hb hby d2_52) rfl rfl kX)
  obtain ⟨T6, h6, X6, e6, W6, st6⟩ := putF X5 hx hZ hown (host := "") (Or.inl (hw _ (List.mem_of_getElem? (i := 20) rfl))) Via.refl e5 F_value_a0 E_a0 (Or.inr ⟨(hw _ (List.mem_of_getElem? (i := 16) rfl)), rfl, hnm⟩) (hw _ (List.mem_of_getElem? (i := 2) rfl)) (ty := (.array .byte)) (by decide) rfl rfl (g := (mkF m 54 #[.val (.ref a0), .val (.ref a1), .val (.int (0 : Int32)), .val (.int (1 : Int32)), .val .null, .val (.ref nb_3)] [(.ref nb_3), (.ref a0)])) rfl rfl (hb hby d2_54)
  have E_a0 := E_a0.wr W6
  have F_value_a0 := F_value_a0.same W6
  have F_coder_a0 := F_coder_a0.other W6 (Or.inr (slot_ne (Or.inr (hw _ (List.mem_of_getElem? (i := 17) rfl))) (Or.inr (hw _ (List.mem_of_getElem? (i := 16) rfl))) (by decide) (t := .byte) (t' := (.array .byte)) (by decide) (by decide)))
  have V_a1 := V_a1.other W6 nac
  have S_COMPACT_STRINGS := S_COMPACT_STRINGS.wr W6
  have E_nb_3 := E_nb_3.wr W6
  have V_nb_3 := V_nb_3.other W6 (Ne.symm ne_a0_nb_3)
  have K6 := K5.wr W6 (Or.inl (List.mem_of_getElem? (i := 0) rfl))
  have zn6 : n0 ≤ h6.size := Nat.le_trans zn5 (Keep.of_wr W6).1
  have N6 := Fr.snoc X6 N5 ga
  refine OGo.go (B := T6.setTop (mkF m 57 #[.val (.ref a0), .val (.ref a1), .val (.int (0 : Int32)), .val (.int (1 : Int32)), .val .null, .val (.ref nb_3)] [])) ?_ st6
  refine OGo.ret X6 (v := none) (fun _ => rfl) (BodyLoose.notSynchronized Bd) (fun fs hr => X6.returnOut hx Bd.returns (hb hby d2_57) hr) (Q := Q2c1 Z a0 a1 u1 u2 kc cs ch0 h0 n0) ?_ (by decide) (by decide)
  show Q2c1 Z a0 a1 u1 u2 kc cs ch0 h0 n0 _ T6.heap _
  rw [e6]
  exact ⟨rfl, N6, K6, E_a0⟩
def Q1c1 (Z : State) (a0 : Addr) (a1 : Addr) (u1 : Value) (u2 : Value) (kc : ClassId) (cs : Int32) (ch0 : Int32) (h0 : Heap) (n0 : Nat) (v : Option Value) (h : Heap) (L : List Loc) : Prop := v = none ∧ Fr n0 L ∧ Keep h0 h [a0] ∧ Exa Z h a0 "java/lang/String"
def P1c1 (Z : State) (a0 : Addr) (a1 : Addr) (u1 : Value) (u2 : Value) (kc : ClassId) (cs : Int32) (ch0 : Int32) (h0 : Heap) (n0 : Nat) (s : State) (o : Outcome) (U' : State) : Prop := ∃ v L, o = .returned v ∧ Q1c1 Z a0 a1 u1 u2 kc cs ch0 h0 n0 v U'.heap L ∧ FrameEnd s o U' L ({ frames := 3, cells := 1, slots := 1, locals := 52 } : Room).cells ({ frames := 3, cells := 1, slots := 1, locals := 52 } : Room).slots
set_option maxRecDepth 65536 in
set_option maxHeartbeats 40000000 in
theorem rm1c1 (l : Launch) (Z : State) (aV : Array Value) (hw : ∀ d ∈ tables_1, d.before aV Z = true) (ws : List Jvm.Cond) (a0 : Addr) (a1 : Addr) (u1 : Value) (u2 : Value) (kc : ClassId) (cs : Int32) (ch0 : Int32) (h0 : Heap) (n0 : Nat) (Z0 : n0 ≤ h0.size) (E_a0 : Exa Z h0 a0 "java/lang/String") (F_value_a0 : Fld Z h0 a0 "java/lang/String" "value" "[B" u1) (F_coder_a0 : Fld Z h0 a0 "java/lang/String" "coder" "B" u2) (V_a1 : Arv Z h0 a1 kc .char (1 : Int32) [(.int ch0)] (.int (0 : Int32))) (S_COMPACT_STRINGS : Sta Z h0 "java/lang/String" "COMPACT_STRINGS" "Z" (.int cs)) (ga : n0 ≤ a0) (nac : a1 ≠ a0) (hcs : ¬ cs = 0) (le0 : ¬ (255 : Int32) < ch0) :
    MetFree l (⟨"java/lang/String", "<init>", "([C)V"⟩ : MethodName) (head1 (Jvm.Cond.code (⟨"java/lang/String", "<init>", "([C)V"⟩ : MethodName) jdk_42_method_3_code 2 none :: ws) ({ frames := 3, cells := 1, slots := 1, locals := 52 } : Room)) (fun a U => a = #[(.ref a0), (.ref a1)] ∧ Z.Warmed39 U.vm ∧ U.heap = h0) (fun _ _ _ _ _ => True) (fun _ U o U' => ∃ v L, o = .returned v ∧ Q1c1 Z a0 a1 u1 u2 kc cs ch0 h0 n0 v U'.heap L ∧ FrameEnd U o U' L ({ frames := 3, cells := 1, slots := 1, locals := 52 } : Room).cells ({ frames := 3, cells := 1, slots := 1, locals := 52 } : Room).slots) := by
  refine MetFree.of_bodySF (plainFor_of_name pn_java_lang_String) hisR ?_
  intro p e s m args below meth c s₁ Bd hml0 hP hK
  obtain ⟨rfl, hZ, hh⟩ := hP
  have hx := Bd.exec
  have hby := Bd.bytes
  have hml : c.maxLocals = 2 := hml0
  have hown : s.vm.findClass "java/lang/String" = some m.cls := findClass_of_methodNamed Bd.named
  have hnm := (name_of_methodNamed Bd.named Bd.method).1
  have X0 : Stand p l e ({ frames := 3, cells := 1, slots := 1, locals := 52 } : Room) s m #[(.ref a0), (.ref a1)] below meth c s₁ [] 0 0 := Stand.of_body Bd
  have e0 : s₁.heap = h0 := by rw [← hh, Bd.state]; rfl
  have efx : entryFrame m #[(.ref a0), (.ref a1)] 2 = mkF m 0 #[.val (.ref a0), .val (.ref a1)] [] := by first | (simp [entryFrame, mkF, argsToLocals, Value.category]; done) | rfl
  have N0 := Fr.nil n0
  have K0 : Keep h0 h0 [a0] := Keep.refl h0 _
  refine OGo.start (g' := mkF m 0 #[.val (.ref a0), .val (.ref a1)] []) (efx) ?_
  show OGo p.tables e below (P1c1 Z a0 a1 u1 u2 kc cs ch0 h0 n0 s) (s₁.setTop (mkF m 0 #[.val (.ref a0), .val (.ref a1)] []))
  refine OGo.go (B := s₁.setTop (mkF m 1 #[.val (.ref a0), .val (.ref a1)] [(.ref a0)])) ?_ (fun tX kX => XS.aloadN X0.here hx rfl (hb hby d1_0) rfl rfl kX)
  refine OGo.go (B := s₁.setTop (mkF m 2 #[.val (.ref a0), .val (.ref a1)] [(.ref a1), (.ref a0)])) ?_ (fun tX kX => XS.aloadN X0.here hx rfl (hb hby d1_1) rfl rfl kX)
  refine OGo.go (B := s₁.setTop (mkF m 3 #[.val (.ref a0), .val (.ref a1)] [(.int (0 : Int32)), (.ref a1), (.ref a0)])) ?_ (fun tX kX => XS.iconst X0.here hx rfl (hb hby d1_2) kX)
  refine OGo.go (B := s₁.setTop (mkF m 4 #[.val (.ref a0), .val (.ref a1)] [(.ref a1), (.int (0 : Int32)), (.ref a1), (.ref a0)])) ?_ (fun tX kX => XS.aloadN X0.here hx rfl (hb hby d1_3) rfl rfl kX)
  obtain ⟨cl1, Ar1, qa1, S1, N1', H1, G1⟩ := id V_a1
  refine OGo.go (B := s₁.setTop (mkF m 5 #[.val (.ref a0), .val (.ref a1)] [(.int (1 : Int32)), (.int (0 : Int32)), (.ref a1), (.ref a0)])) ?_ (fun tX kX => X0.arraylength hx (by rw [e0]; exact Ar1.1) (State.isArrayOf_alike hZ.alike Ar1.2.1) (g := (mkF m 4 #[.val (.ref a0), .val (.ref a1)] [(.ref a1), (.int (0 : Int32)), (.ref a1), (.ref a0)])) rfl rfl (hb hby d1_4) _ (by rw [len_of S1 N1']; exact kX))
  refine OGo.go (B := s₁.setTop (mkF m 6 #[.val (.ref a0), .val (.ref a1)] [.null, (.int (1 : Int32)), (.int (0 : Int32)), (.ref a1), (.ref a0)])) ?_ (fun tX kX => XS.aconstNull X0.here hx rfl (hb hby d1_5) kX)
  obtain ⟨_, _, ⟨T2, L2, k2, n2⟩, -, X2, ⟨Lc2, hQ2, l2, y2, z2⟩, st2⟩ := X0.specialBack hx (y := (⟨"java/lang/String", "<init>", "([CIILjava/lang/Void;)V"⟩ : MethodName)) rfl hown (mvT hZ (hw _ (List.mem_of_getElem? (i := 7) rfl))) (mvT hZ (hw _ (List.mem_of_getElem? (i := 8) rfl))) (mvT hZ (hw _ (List.mem_of_getElem? (i := 10) rfl))) (by decide) (backOf (W := 0) (rm2c1 l Z aV hw [] a0 a1 u1 u2 kc cs ch0 h0 n0 Z0 E_a0 F_value_a0 F_coder_a0 V_a1 S_COMPACT_STRINGS ga nac hcs le0) hZ (hw _ (List.mem_of_getElem? (i := 10) rfl)) (hw _ (List.mem_of_getElem? (i := 3) rfl)) (by decide) (by decide)) (g := (mkF m 6 #[.val (.ref a0), .val (.ref a1)] [.null, (.int (1 : Int32)), (.int (0 : Int32)), (.ref a1), (.ref a0)])) rfl (by rw [hml]; rfl) (Steps.refl _) (a := a0) (argsL := [(.ref a1), (.int (0 : Int32)), (.int (1 : Int32)), .null]) (rest := []) (lenOf pd___CIILjava_lang_Void__V rfl) rfl (by show 2 * 0 + _ ≤ _; exact Nat.le_of_eq rfl) (hb hby d1_6) (fun _ _ => ⟨rfl, e0, (by decide : 0 + 1 ≤ _), (by decide : 0 + 1 ≤ _)⟩)
  dsimp only [Pt.U, Pt.locs, Pt.cells, Pt.slots] at X2 l2 y2 z2 st2 hQ2
  subst l2 y2 z2
  obtain ⟨rfl, N2q, Kq2, E_a0_p⟩ := hQ2
  have N2 := Fr.app N0 N2q
  have S_COMPACT_STRINGS := Sta.keepE S_COMPACT_STRINGS Kq2 (staS E_a0.cell (fun x hx' => nomatch hx'))
  have E_a0 := E_a0.keep Kq2
  have V_a1 := V_a1.keep Kq2 (ninS nac nin0)
  have K2 := K0.trans Kq2 (allS (P := fun x => x ∈ [a0] ∨ h0.size ≤ x) (Or.inl (List.mem_of_getElem? (i := 0) rfl)) all0)
  have zn2 : n0 ≤ T2.heap.size := Nat.le_trans Z0 Kq2.1
  have E_a0 := E_a0_p
  refine OGo.go (B := T2.setTop (mkF m 9 #[.val (.ref a0), .val (.ref a1)] [])) ?_ (fun tX kX => st2.trans kX)
  refine OGo.ret X2 (v := none) (fun _ => rfl) (BodyLoose.notSynchronized Bd) (fun fs hr => X2.returnOut hx Bd.returns (hb hby d1_9) hr) (Q := Q1c1 Z a0 a1 u1 u2 kc cs ch0 h0 n0) ?_ (by decide) (by decide)
  show Q1c1 Z a0 a1 u1 u2 kc cs ch0 h0 n0 _ T2.heap _
  exact ⟨rfl, N2, K2, E_a0⟩
def Q14c2 (Z : State) (a0 : Addr) (a2 : Addr) (kc : ClassId) (kb : ClassId) (ch0 : Int32) (ch1 : Int32) (h0 : Heap) (n0 : Nat) (v : Option Value) (h : Heap) (L : List Loc) : Prop := v = some (.int (2 : Int32)) ∧ Fr n0 L ∧ Keep h0 h [a2] ∧ Exa Z h a2 "[B" ∧ Arv Z h a2 kb .byte (2 : Int32) [(.int ((ch0.toInt8.toInt32).toInt8.toInt32)), (.int ((ch1.toInt8.toInt32).toInt8.toInt32))] (.int (0 : Int32))
def P14c2 (Z : State) (a0 : Addr) (a2 : Addr) (kc : ClassId) (kb : ClassId) (ch0 : Int32) (ch1 : Int32) (h0 : Heap) (n0 : Nat) (s : State) (o : Outcome) (U' : State) : Prop := ∃ v L, o = .returned v ∧ Q14c2 Z a0 a2 kc kb ch0 ch1 h0 n0 v U'.heap L ∧ FrameEnd s o U' L ({ frames := 0, cells := 0, slots := 0, locals := 0 } : Room).cells ({ frames := 0, cells := 0, slots := 0, locals := 0 } : Room).slots
set_option maxRecDepth 65536 in
set_option maxHeartbeats 40000000 in
theorem rm14c2 (l : Launch) (Z : State) (aV : Array Value) (hw : ∀ d ∈ tables_1, d.before aV Z = true) (ws : List Jvm.Cond) (a0 : Addr) (a2 : Addr) (kc : ClassId) (kb : ClassId) (ch0 : Int32) (ch1 : Int32) (h0 : Heap) (n0 : Nat) (Z0 : n0 ≤ h0.size) (V_a0 : Arv Z h0 a0 kc .char (2 : Int32) [(.int ch0), (.int ch1)] (.int (0 : Int32))) (E_a2 : Exa Z h0 a2 "[B") (V_a2 : Arv Z h0 a2 kb .byte (2 : Int32) [(.int (0 : Int32)), (.int (0 : Int32))] (.int (0 : Int32))) (ga : n0 ≤ a2) (nab : a0 ≠ a2) (le0 : ¬ (255 : Int32) < ch0) (le1 : ¬ (255 : Int32) < ch1) :
    MetFree l (⟨"java/lang/StringUTF16", "compress", "([CI[BII)I"⟩ : MethodName) (head1 (Jvm.Cond.code (⟨"java/lang/StringUTF16", "compress", "([CI[BII)I"⟩ : MethodName) jdk_52_method_21_code 7 (some .int) :: ws) ({ frames := 0, cells := 0, slots := 0, locals := 0 } : Room)) (fun a U => a = #[(.ref a0), (.int (0 : Int32)), (.ref a2), (.int (0 : Int32)), (.int (2 : Int32))] ∧ Z.Warmed39 U.vm ∧ U.heap = h0) (fun _ _ _ _ _ => True) (fun _ U o U' => ∃ v L, o = .returned v ∧ Q14c2 Z a0 a2 kc kb ch0 ch1 h0 n0 v U'.heap L ∧ FrameEnd U o U' L ({ frames := 0, cells := 0, slots := 0, locals := 0 } : Room).cells ({ frames := 0, cells := 0, slots := 0, locals := 0 } : Room).slots) := by
  refine MetFree.of_bodySF (plainFor_of_name pn_java_lang_StringUTF16) hisR ?_
  intro p e s m args below meth c s₁ Bd hml0 hP hK
  obtain ⟨rfl, hZ, hh⟩ := hP
  have hx := Bd.exec
  have hby := Bd.bytes
  have hml : c.maxLocals = 7 := hml0
  have hown : s.vm.findClass "java/lang/StringUTF16" = some m.cls := findClass_of_methodNamed Bd.named
  have hnm := (name_of_methodNamed Bd.named Bd.method).1
  have X0 : Stand p l e ({ frames := 0, cells := 0, slots := 0, locals := 0 } : Room) s m #[(.ref a0), (.int (0 : Int32)), (.ref a2), (.int (0 : Int32)), (.int (2 : Int32))] below meth c s₁ [] 0 0 := Stand.of_body Bd
  have e0 : s₁.heap = h0 := by rw [← hh, Bd.state]; rfl
  have efx : entryFrame m #[(.ref a0), (.int (0 : Int32)), (.ref a2), (.int (0 : Int32)), (.int (2 : Int32))] 7 = mkF m 0 #[.val (.ref a0), .val (.int (0 : Int32)), .val (.ref a2), .val (.int (0 : Int32)), .val (.int (2 : Int32)), .unset, .unset] [] := by first | (simp [entryFrame, mkF, argsToLocals, Value.category]; done) | rfl
  have N0 := Fr.nil n0
  have K0 : Keep h0 h0 [a2] := Keep.refl h0 _
  refine OGo.start (g' := mkF m 0 #[.val (.ref a0), .val (.int (0 : Int32)), .val (.ref a2), .val (.int (0 : Int32)), .val (.int (2 : Int32)), .unset, .unset] []) (efx) ?_
  show OGo p.tables e below (P14c2 Z a0 a2 kc kb ch0 ch1 h0 n0 s) (s₁.setTop (mkF m 0 #[.val (.ref a0), .val (.int (0 : Int32)), .val (.ref a2), .val (.int (0 : Int32)), .val (.int (2 : Int32)), .unset, .unset] []))
  refine OGo.go (B := s₁.setTop (mkF m 1 #[.val (.ref a0), .val (.int (0 : Int32)), .val (.ref a2), .val (.int (0 : Int32)), .val (.int (2 : Int32)), .unset, .unset] [(.int (0 : Int32))])) ?_ (fun tX kX => XS.iconst X0.here hx rfl (hb hby d14_0) kX)
  refine OGo.go (B := s₁.setTop (mkF m 3 #[.val (.ref a0), .val (.int (0 : Int32)), .val (.ref a2), .val (.int (0 : Int32)), .val (.int (2 : Int32)), .val (.int (0 : Int32)), .unset] [])) ?_ (fun tX kX => XS.istore X0.here hx rfl (hb hby d14_1) rfl (l' := #[.val (.ref a0), .val (.int (0 : Int32)), .val (.ref a2), .val (.int (0 : Int32)), .val (.int (2 : Int32)), .val (.int (0 : Int32)), .unset]) rfl kX)
  refine OGo.go (B := s₁.setTop (mkF m 5 #[.val (.ref a0), .val (.int (0 : Int32)), .val (.ref a2), .val (.int (0 : Int32)), .val (.int (2 : Int32)), .val (.int (0 : Int32)), .unset] [(.int (0 : Int32))])) ?_ (fun tX kX => XS.iload X0.here hx rfl (hb hby d14_3) rfl kX)
  refine OGo.go (B := s₁.setTop (mkF m 7 #[.val (.ref a0), .val (.int (0 : Int32)), .val (.ref a2), .val (.int (0 : Int32)), .val (.int (2 : Int32)), .val (.int (0 : Int32)), .unset] [(.int (2 : Int32)), (.int (0 : Int32))])) ?_ (fun tX kX => XS.iload X0.here hx rfl (hb hby d14_5) rfl kX)
  refine OGo.go (B := s₁.setTop (mkF m 10 #[.val (.ref a0), .val (.int (0 : Int32)), .val (.ref a2), .val (.int (0 : Int32)), .val (.int (2 : Int32)), .val (.int (0 : Int32)), .unset] [])) ?_ (fun tX kX => XS.icmpNo X0.here hx rfl (hb hby d14_7) rfl (tlt (by decide)).2.1 kX)
  refine OGo.go (B := s₁.setTop (mkF m 11 #[.val (.ref a0), .val (.int (0 : Int32)), .val (.ref a2), .val (.int (0 : Int32)), .val (.int (2 : Int32)), .val (.int (0 : Int32)), .unset] [(.ref a0)])) ?_ (fun tX kX => XS.aloadN X0.here hx rfl (hb hby d14_10) rfl rfl kX)
  refine OGo.go (B := s₁.setTop (mkF m 12 #[.val (.ref a0), .val (.int (0 : Int32)), .val (.ref a2), .val (.int (0 : Int32)), .val (.int (2 : Int32)), .val (.int (0 : Int32)), .unset] [(.int (0 : Int32)), (.ref a0)])) ?_ (fun tX kX => XS.iloadN X0.here hx rfl (hb hby d14_11) rfl kX)
  obtain ⟨cl1, Ar1, qa1, S1, N1', H1, G1⟩ := id V_a0
  have hin1 := inb_of (j := (0 : Int32)) S1 ⟨by decide, by decide⟩
  have hat1 := H1.at (v := (.int ch0)) hin1 rfl
  refine OGo.go (B := s₁.setTop (mkF m 13 #[.val (.ref a0), .val (.int (0 : Int32)), .val (.ref a2), .val (.int (0 : Int32)), .val (.int (2 : Int32)), .val (.int (0 : Int32)), .unset] [(.int ch0)])) ?_ (fun tX kX => X0.caload hx (j := (0 : Int32)) (v := (.int ch0)) (by rw [e0]; exact Ar1.1) (State.isArrayOf_alike hZ.alike Ar1.2.1) Ar1.2.2 hin1 hat1 (g := (mkF m 12 #[.val (.ref a0), .val (.int (0 : Int32)), .val (.ref a2), .val (.int (0 : Int32)), .val (.int (2 : Int32)), .val (.int (0 : Int32)), .unset] [(.int (0 : Int32)), (.ref a0)])) rfl rfl (hb hby d14_12) _ kX)
  refine OGo.go (B := s₁.setTop (mkF m 15 #[.val (.ref a0), .val (.int (0 : Int32)), .val (.ref a2), .val (.int (0 : Int32)), .val (.int (2 : Int32)), .val (.int (0 : Int32)), .val (.int ch0)] [])) ?_ (fun tX kX => XS.istore X0.here hx rfl (hb hby d14_13) rfl (l' := #[.val (.ref a0), .val (.int (0 : Int32)), .val (.ref a2), .val (.int (0 : Int32)), .val (.int (2 : Int32)), .val (.int (0 : Int32)), .val (.int ch0)]) rfl kX)
  refine OGo.go (B := s₁.setTop (mkF m 17 #[.val (.ref a0), .val (.int (0 : Int32)), .val (.ref a2), .val (.int (0 : Int32)), .val (.int (2 : Int32)), .val (.int (0 : Int32)), .val (.int ch0)] [(.int ch0)])) ?_ (fun tX kX => XS.iload X0.here hx rfl (hb hby d14_15) rfl kX)
  refine OGo.go (B := s₁.setTop (mkF m 20 #[.val (.ref a0), .val (.int (0 : Int32)), .val (.ref a2), .val (.int (0 : Int32)), .val (.int (2 : Int32)), .val (.int (0 : Int32)), .val (.int ch0)] [(.int (255 : Int32)), (.int ch0)])) ?_ (fun tX kX => XS.sipush X0.here hx rfl (hb hby d14_17) kX)
  refine OGo.go (B := s₁.setTop (mkF m 26 #[.val (.ref a0), .val (.int (0 : Int32)), .val (.ref a2), .val (.int (0 : Int32)), .val (.int (2 : Int32)), .val (.int (0 : Int32)), .val (.int ch0)] [])) ?_ (fun tX kX => XS.icmpYes X0.here hx rfl (pc0 := 20) (pc' := 26) rfl (hb hby d14_20) rfl (flt le0).2.2.2 (by decide) (by decide) kX)
  refine OGo.go (B := s₁.setTop (mkF m 27 #[.val (.ref a0), .val (.int (0 : Int32)), .val (.ref a2), .val (.int (0 : Int32)), .val (.int (2 : Int32)), .val (.int (0 : Int32)), .val (.int ch0)] [(.ref a2)])) ?_ (fun tX kX => XS.aloadN X0.here hx rfl (hb hby d14_26) rfl rfl kX)
  refine OGo.go (B := s₁.setTop (mkF m 28 #[.val (.ref a0), .val (.int (0 : Int32)), .val (.ref a2), .val (.int (0 : Int32)), .val (.int (2 : Int32)), .val (.int (0 : Int32)), .val (.int ch0)] [(.int (0 : Int32)), (.ref a2)])) ?_ (fun tX kX => XS.iloadN X0.here hx rfl (hb hby d14_27) rfl kX)
  refine OGo.go (B := s₁.setTop (mkF m 30 #[.val (.ref a0), .val (.int (0 : Int32)), .val (.ref a2), .val (.int (0 : Int32)), .val (.int (2 : Int32)), .val (.int (0 : Int32)), .val (.int ch0)] [(.int ch0), (.int (0 : Int32)), (.ref a2)])) ?_ (fun tX kX => XS.iload X0.here hx rfl (hb hby d14_28) rfl kX)
  refine OGo.go (B := s₁.setTop (mkF m 31 #[.val (.ref a0), .val (.int (0 : Int32)), .val (.ref a2), .val (.int (0 : Int32)), .val (.int (2 : Int32)), .val (.int (0 : Int32)), .val (.int ch0)] [(.int (ch0.toInt8.toInt32)), (.int (0 : Int32)), (.ref a2)])) ?_ (fun tX kX => XS.i2b X0.here hx rfl (hb hby d14_30) rfl kX)
  obtain ⟨cl2, Ar2, qa2, S2, N2', H2, G2⟩ := id V_a2
  have hin2 := inb_of (j := (0 : Int32)) S2 ⟨by decide, by decide⟩
  obtain ⟨T2, h2, X2, e2, W2, st2⟩ := stB X0 hx hZ e0 Ar2 (j := (0 : Int32)) hin2 (g := (mkF m 31 #[.val (.ref a0), .val (.int (0 : Int32)), .val (.ref a2), .val (.int (0 : Int32)), .val (.int (2 : Int32)), .val (.int (0 : Int32)), .val (.int ch0)] [(.int (ch0.toInt8.toInt32)), (.int (0 : Int32)), (.ref a2)])) rfl rfl (hb hby d14_31)
  have V_a2_2 := Arv.set Ar2 qa2 S2 N2' H2 G2 (fits_nar_byte _) W2 0 rfl (Nat.le_of_ble_eq_true rfl)
  have V_a0 := V_a0.other W2 nab
  have E_a2 := E_a2.wr W2
  have K2 := K0.wr W2 (Or.inl (List.mem_of_getElem? (i := 0) rfl))
  have zn2 : n0 ≤ h2.size := Nat.le_trans Z0 (Keep.of_wr W2).1
  have N2 := Fr.snoc X2 N0 ga
  have V_a2 : Arv Z h2 a2 kb .byte (2 : Int32) [(.int ((ch0.toInt8.toInt32).toInt8.toInt32)), (.int (0 : Int32))] (.int (0 : Int32)) := V_a2_2
  refine OGo.go (B := T2.setTop (mkF m 32 #[.val (.ref a0), .val (.int (0 : Int32)), .val (.ref a2), .val (.int (0 : Int32)), .val (.int (2 : Int32)), .val (.int (0 : Int32)), .val (.int ch0)] [])) ?_ st2
  refine OGo.go (B := T2.setTop (mkF m 35 #[.val (.ref a0), .val (.int (1 : Int32)), .val (.ref a2), .val (.int (0 : Int32)), .val (.int (2 : Int32)), .val (.int (0 : Int32)), .val (.int ch0)] [])) ?_ (fun tX kX => XS.iinc X2.here hx rfl (hb hby d14_32) rfl (l' := #[.val (.ref a0), .val (.int (1 : Int32)), .val (.ref a2), .val (.int (0 : Int32)), .val (.int (2 : Int32)), .val (.int (0 : Int32)), .val (.int ch0)]) rfl kX)
  refine OGo.go (B := T2.setTop (mkF m 38 #[.val (.ref a0), .val (.int (1 : Int32)), .val (.ref a2), .val (.int (1 : Int32)), .val (.int (2 : Int32)), .val (.int (0 : Int32)), .val (.int ch0)] [])) ?_ (fun tX kX => XS.iinc X2.here hx rfl (hb hby d14_35) rfl (l' := #[.val (.ref a0), .val (.int (1 : Int32)), .val (.ref a2), .val (.int (1 : Int32)), .val (.int (2 : Int32)), .val (.int (0 : Int32)), .val (.int ch0)]) rfl kX)
  refine OGo.go (B := T2.setTop (mkF m 41 #[.val (.ref a0), .val (.int (1 : Int32)), .val (.ref a2), .val (.int (1 : Int32)), .val (.int (2 : Int32)), .val (.int (1 : Int32)), .val (.int ch0)] [])) ?_ (fun tX kX => XS.iinc X2.here hx rfl (hb hby d14_38) rfl (l' := #[.val (.ref a0), .val (.int (1 : Int32)), .val (.ref a2), .val (.int (1 : Int32)), .val (.int (2 : Int32)), .val (.int (1 : Int32)), .val (.int ch0)]) rfl kX)
  refine OGo.go (B := T2.setTop (mkF m 3 #[.val (.ref a0), .val (.int (1 : Int32)), .val (.ref a2), .val (.int (1 : Int32)), .val (.int (2 : Int32)), .val (.int (1 : Int32)), .val (.int ch0)] [])) ?_ (fun tX kX => XS.goto X2.here hx rfl (pc0 := 41) (pc' := 3) rfl (hb hby d14_41) (by decide) (by decide) kX)
  refine OGo.go (B := T2.setTop (mkF m 5 #[.val (.ref a0), .val (.int (1 : Int32)), .val (.ref a2), .val (.int (1 : Int32)), .val (.int (2 : Int32)), .val (.int (1 : Int32)), .val (.int ch0)] [(.int (1 : Int32))])) ?_ (fun tX kX => XS.iload X2.here hx rfl (hb hby d14_3) rfl kX)
  refine OGo.go (B := T2.setTop (mkF m 7 #[.val (.ref a0), .val (.int (1 : Int32)), .val (.ref a2), .val (.int (1 : Int32)), .val (.int (2 : Int32)), .val (.int (1 : Int32)), .val (.int ch0)] [(.int (2 : Int32)), (.int (1 : Int32))])) ?_ (fun tX kX => XS.iload X2.here hx rfl (hb hby d14_5) rfl kX)
  refine OGo.go (B := T2.setTop (mkF m 10 #[.val (.ref a0), .val (.int (1 : Int32)), .val (.ref a2), .val (.int (1 : Int32)), .val (.int (2 : Int32)), .val (.int (1 : Int32)), .val (.int ch0)] [])) ?_ (fun tX kX => XS.icmpNo X2.here hx rfl (hb hby d14_7) rfl (tlt (by decide)).2.1 kX)
  refine OGo.go (B := T2.setTop (mkF m 11 #[.val (.ref a0), .val (.int (1 : Int32)), .val (.ref a2), .val (.int (1 : Int32)), .val (.int (2 : Int32)), .val (.int (1 : Int32)), .val (.int ch0)] [(.ref a0)])) ?_ (fun tX kX => XS.aloadN X2.here hx rfl (hb hby d14_10) rfl rfl kX)
  refine OGo.go (B := T2.setTop (mkF m 12 #[.val (.ref a0), .val (.int (1 : Int32)), .val (.ref a2), .val (.int (1 : Int32)), .val (.int (2 : Int32)), .val (.int (1 : Int32)), .val (.int ch0)] [(.int (1 : Int32)), (.ref a0)])) ?_ (fun tX kX => XS.iloadN X2.here hx rfl (hb hby d14_11) rfl kX)
  obtain ⟨cl3, Ar3, qa3, S3, N3', H3, G3⟩ := id V_a0
  have hin3 := inb_of (j := (1 : Int32)) S3 ⟨by decide, by decide⟩
  have hat3 := H3.at (v := (.int ch1)) hin3 rfl
  refine OGo.go (B := T2.setTop (mkF m 13 #[.val (.ref a0), .val (.int (1 : Int32)), .val (.ref a2), .val (.int (1 : Int32)), .val (.int (2 : Int32)), .val (.int (1 : Int32)), .val (.int ch0)] [(.int ch1)])) ?_ (fun tX kX => X2.caload hx (j := (1 : Int32)) (v := (.int ch1)) (by rw [e2]; exact Ar3.1) (State.isArrayOf_alike hZ.alike Ar3.2.1) Ar3.2.2 hin3 hat3 (g := (mkF m 12 #[.val (.ref a0), .val (.int (1 : Int32)), .val (.ref a2), .val (.int (1 : Int32)), .val (.int (2 : Int32)), .val (.int (1 : Int32)), .val (.int ch0)] [(.int (1 : Int32)), (.ref a0)])) rfl rfl (hb hby d14_12) _ kX)
  refine OGo.go (B := T2.setTop (mkF m 15 #[.val (.ref a0), .val (.int (1 : Int32)), .val (.ref a2), .val (.int (1 : Int32)), .val (.int (2 : Int32)), .val (.int (1 : Int32)), .val (.int ch1)] [])) ?_ (fun tX kX => XS.istore X2.here hx rfl (hb hby d14_13) rfl (l' := #[.val (.ref a0), .val (.int (1 : Int32)), .val (.ref a2), .val (.int (1 : Int32)), .val (.int (2 : Int32)), .val (.int (1 : Int32)), .val (.int ch1)]) rfl kX)
  refine OGo.go (B := T2.setTop (mkF m 17 #[.val (.ref a0), .val (.int (1 : Int32)), .val (.ref a2), .val (.int (1 : Int32)), .val (.int (2 : Int32)), .val (.int (1 : Int32)), .val (.int ch1)] [(.int ch1)])) ?_ (fun tX kX => XS.iload X2.here hx rfl (hb hby d14_15) rfl kX)
  refine OGo.go (B := T2.setTop (mkF m 20 #[.val (.ref a0), .val (.int (1 : Int32)), .val (.ref a2), .val (.int (1 : Int32)), .val (.int (2 : Int32)), .val (.int (1 : Int32)), .val (.int ch1)] [(.int (255 : Int32)), (.int ch1)])) ?_ (fun tX kX => XS.sipush X2.here hx rfl (hb hby d14_17) kX)
  refine OGo.go (B := T2.setTop (mkF m 26 #[.val (.ref a0), .val (.int (1 : Int32)), .val (.ref a2), .val (.int (1 : Int32)), .val (.int (2 : Int32)), .val (.int (1 : Int32)), .val (.int ch1)] [])) ?_ (fun tX kX => XS.icmpYes X2.here hx rfl (pc0 := 20) (pc' := 26) rfl (hb hby d14_20) rfl (flt le1).2.2.2 (by decide) (by decide) kX)
  refine OGo.go (B := T2.setTop (mkF m 27 #[.val (.ref a0), .val (.int (1 : Int32)), .val (.ref a2), .val (.int (1 : Int32)), .val (.int (2 : Int32)), .val (.int (1 : Int32)), .val (.int ch1)] [(.ref a2)])) ?_ (fun tX kX => XS.aloadN X2.here hx rfl (hb hby d14_26) rfl rfl kX)
  refine OGo.go (B := T2.setTop (mkF m 28 #[.val (.ref a0), .val (.int (1 : Int32)), .val (.ref a2), .val (.int (1 : Int32)), .val (.int (2 : Int32)), .val (.int (1 : Int32)), .val (.int ch1)] [(.int (1 : Int32)), (.ref a2)])) ?_ (fun tX kX => XS.iloadN X2.here hx rfl (hb hby d14_27) rfl kX)
  refine OGo.go (B := T2.setTop (mkF m 30 #[.val (.ref a0), .val (.int (1 : Int32)), .val (.ref a2), .val (.int (1 : Int32)), .val (.int (2 : Int32)), .val (.int (1 : Int32)), .val (.int ch1)] [(.int ch1), (.int (1 : Int32)), (.ref a2)])) ?_ (fun tX kX => XS.iload X2.here hx rfl (hb hby d14_28) rfl kX)
  refine OGo.go (B := T2.setTop (mkF m 31 #[.val (.ref a0), .val (.int (1 : Int32)), .val (.ref a2), .val (.int (1 : Int32)), .val (.int (2 : Int32)), .val (.int (1 : Int32)), .val (.int ch1)] [(.int (ch1.toInt8.toInt32)), (.int (1 : Int32)), (.ref a2)])) ?_ (fun tX kX => XS.i2b X2.here hx rfl (hb hby d14_30) rfl kX)
  obtain ⟨cl4, Ar4, qa4, S4, N4', H4, G4⟩ := id V_a2
  have hin4 := inb_of (j := (1 : Int32)) S4 ⟨by decide, by decide⟩
  obtain ⟨T4, h4, X4, e4, W4, st4⟩ := stB X2 hx hZ e2 Ar4 (j := (1 : Int32)) hin4 (g := (mkF m 31 #[.val (.ref a0), .val (.int (1 : Int32)), .val (.ref a2), .val (.int (1 : Int32)), .val (.int (2 : Int32)), .val (.int (1 : Int32)), .val (.int ch1)] [(.int (ch1.toInt8.toInt32)), (.int (1 : Int32)), (.ref a2)])) rfl rfl (hb hby d14_31)
  have V_a2_4 := Arv.set Ar4 qa4 S4 N4' H4 G4 (fits_nar_byte _) W4 1 rfl (Nat.le_of_ble_eq_true rfl)
  have V_a0 := V_a0.other W4 nab
  have E_a2 := E_a2.wr W4
  have K4 := K2.wr W4 (Or.inl (List.mem_of_getElem? (i := 0) rfl))
  have zn4 : n0 ≤ h4.size := Nat.le_trans zn2 (Keep.of_wr W4).1
  have N4 := Fr.snoc X4 N2 ga
  have V_a2 : Arv Z h4 a2 kb .byte (2 : Int32) [(.int ((ch0.toInt8.toInt32).toInt8.toInt32)), (.int ((ch1.toInt8.toInt32).toInt8.toInt32))] (.int (0 : Int32)) := V_a2_4
  refine OGo.go (B := T4.setTop (mkF m 32 #[.val (.ref a0), .val (.int (1 : Int32)), .val (.ref a2), .val (.int (1 : Int32)), .val (.int (2 : Int32)), .val (.int (1 : Int32)), .val (.int ch1)] [])) ?_ st4
  refine OGo.go (B := T4.setTop (mkF m 35 #[.val (.ref a0), .val (.int (2 : Int32)), .val (.ref a2), .val (.int (1 : Int32)), .val (.int (2 : Int32)), .val (.int (1 : Int32)), .val (.int ch1)] [])) ?_ (fun tX kX => XS.iinc X4.here hx rfl (hb hby d14_32) rfl (l' := #[.val (.ref a0), .val (.int (2 : Int32)), .val (.ref a2), .val (.int (1 : Int32)), .val (.int (2 : Int32)), .val (.int (1 : Int32)), .val (.int ch1)]) rfl kX)
  refine OGo.go (B := T4.setTop (mkF m 38 #[.val (.ref a0), .val (.int (2 : Int32)), .val (.ref a2), .val (.int (2 : Int32)), .val (.int (2 : Int32)), .val (.int (1 : Int32)), .val (.int ch1)] [])) ?_ (fun tX kX => XS.iinc X4.here hx rfl (hb hby d14_35) rfl (l' := #[.val (.ref a0), .val (.int (2 : Int32)), .val (.ref a2), .val (.int (2 : Int32)), .val (.int (2 : Int32)), .val (.int (1 : Int32)), .val (.int ch1)]) rfl kX)
  refine OGo.go (B := T4.setTop (mkF m 41 #[.val (.ref a0), .val (.int (2 : Int32)), .val (.ref a2), .val (.int (2 : Int32)), .val (.int (2 : Int32)), .val (.int (2 : Int32)), .val (.int ch1)] [])) ?_ (fun tX kX => XS.iinc X4.here hx rfl (hb hby d14_38) rfl (l' := #[.val (.ref a0), .val (.int (2 : Int32)), .val (.ref a2), .val (.int (2 : Int32)), .val (.int (2 : Int32)), .val (.int (2 : Int32)), .val (.int ch1)]) rfl kX)
  refine OGo.go (B := T4.setTop (mkF m 3 #[.val (.ref a0), .val (.int (2 : Int32)), .val (.ref a2), .val (.int (2 : Int32)), .val (.int (2 : Int32)), .val (.int (2 : Int32)), .val (.int ch1)] [])) ?_ (fun tX kX => XS.goto X4.here hx rfl (pc0 := 41) (pc' := 3) rfl (hb hby d14_41) (by decide) (by decide) kX)
  refine OGo.go (B := T4.setTop (mkF m 5 #[.val (.ref a0), .val (.int (2 : Int32)), .val (.ref a2), .val (.int (2 : Int32)), .val (.int (2 : Int32)), .val (.int (2 : Int32)), .val (.int ch1)] [(.int (2 : Int32))])) ?_ (fun tX kX => XS.iload X4.here hx rfl (hb hby d14_3) rfl kX)
  refine OGo.go (B := T4.setTop (mkF m 7 #[.val (.ref a0), .val (.int (2 : Int32)), .val (.ref a2), .val (.int (2 : Int32)), .val (.int (2 : Int32)), .val (.int (2 : Int32)), .val (.int ch1)] [(.int (2 : Int32)), (.int (2 : Int32))])) ?_ (fun tX kX => XS.iload X4.here hx rfl (hb hby d14_5) rfl kX)
  refine OGo.go (B := T4.setTop (mkF m 44 #[.val (.ref a0), .val (.int (2 : Int32)), .val (.ref a2), .val (.int (2 : Int32)), .val (.int (2 : Int32)), .val (.int (2 : Int32)), .val (.int ch1)] [])) ?_ (fun tX kX => XS.icmpYes X4.here hx rfl (pc0 := 7) (pc' := 44) rfl (hb hby d14_7) rfl (flt (by decide)).2.1 (by decide) (by decide) kX)
  refine OGo.go (B := T4.setTop (mkF m 46 #[.val (.ref a0), .val (.int (2 : Int32)), .val (.ref a2), .val (.int (2 : Int32)), .val (.int (2 : Int32)), .val (.int (2 : Int32)), .val (.int ch1)] [(.int (2 : Int32))])) ?_ (fun tX kX => XS.iload X4.here hx rfl (hb hby d14_44) rfl kX)
  refine OGo.ret X4 (v := (some (.int (2 : Int32)))) (fun h => by rw [Bd.returns] at h; cases h) (BodyLoose.notSynchronized Bd) (fun fs hr => retOut X4 hx Bd.returns rfl (Or.inl ⟨rfl, Or.inl rfl, _, rfl⟩) (hb hby d14_46) hr) (Q := Q14c2 Z a0 a2 kc kb ch0 ch1 h0 n0) ?_ (by decide) (by decide)
  show Q14c2 Z a0 a2 kc kb ch0 ch1 h0 n0 _ T4.heap _
  rw [e4]
  exact ⟨rfl, N4, K4, E_a2, V_a2⟩
def Q13c2 (Z : State) (a0 : Addr) (kc : ClassId) (ch0 : Int32) (ch1 : Int32) (h0 : Heap) (n0 : Nat) (v : Option Value) (h : Heap) (L : List Loc) : Prop := ∃ (nb : Addr) (kb : ClassId), v = some (.ref nb) ∧ Fr n0 L ∧ Keep h0 h [] ∧ h0.size ≤ nb ∧ Exa Z h nb "[B" ∧ Arv Z h nb kb .byte (2 : Int32) [(.int ((ch0.toInt8.toInt32).toInt8.toInt32)), (.int ((ch1.toInt8.toInt32).toInt8.toInt32))] (.int (0 : Int32))
def P13c2 (Z : State) (a0 : Addr) (kc : ClassId) (ch0 : Int32) (ch1 : Int32) (h0 : Heap) (n0 : Nat) (s : State) (o : Outcome) (U' : State) : Prop := ∃ v L, o = .returned v ∧ Q13c2 Z a0 kc ch0 ch1 h0 n0 v U'.heap L ∧ FrameEnd s o U' L ({ frames := 1, cells := 1, slots := 2, locals := 18 } : Room).cells ({ frames := 1, cells := 1, slots := 2, locals := 18 } : Room).slots
set_option maxRecDepth 65536 in
set_option maxHeartbeats 40000000 in
theorem rm13c2 (l : Launch) (Z : State) (aV : Array Value) (hw : ∀ d ∈ tables_1, d.before aV Z = true) (ws : List Jvm.Cond) (a0 : Addr) (kc : ClassId) (ch0 : Int32) (ch1 : Int32) (h0 : Heap) (n0 : Nat) (Z0 : n0 ≤ h0.size) (V_a0 : Arv Z h0 a0 kc .char (2 : Int32) [(.int ch0), (.int ch1)] (.int (0 : Int32))) (le0 : ¬ (255 : Int32) < ch0) (le1 : ¬ (255 : Int32) < ch1) :
    MetFree l (⟨"java/lang/StringUTF16", "compress", "([CII)[B"⟩ : MethodName) (head1 (Jvm.Cond.code (⟨"java/lang/StringUTF16", "compress", "([CII)[B"⟩ : MethodName) jdk_52_method_16_code 6 (some (.array .byte)) :: ws) ({ frames := 1, cells := 1, slots := 2, locals := 18 } : Room)) (fun a U => a = #[(.ref a0), (.int (0 : Int32)), (.int (2 : Int32))] ∧ Z.Warmed39 U.vm ∧ U.heap = h0) (fun _ _ _ _ _ => True) (fun _ U o U' => ∃ v L, o = .returned v ∧ Q13c2 Z a0 kc ch0 ch1 h0 n0 v U'.heap L ∧ FrameEnd U o U' L ({ frames := 1, cells := 1, slots := 2, locals := 18 } : Room).cells ({ frames := 1, cells := 1, slots := 2, locals := 18 } : Room).slots) := by
  refine MetFree.of_bodySF (plainFor_of_name pn_java_lang_StringUTF16) hisR ?_
  intro p e s m args below meth c s₁ Bd hml0 hP hK
  obtain ⟨rfl, hZ, hh⟩ := hP
  have hx := Bd.exec
  have hby := Bd.bytes
  have hml : c.maxLocals = 6 := hml0
  have hown : s.vm.findClass "java/lang/StringUTF16" = some m.cls := findClass_of_methodNamed Bd.named
  have hnm := (name_of_methodNamed Bd.named Bd.method).1
  have X0 : Stand p l e ({ frames := 1, cells := 1, slots := 2, locals := 18 } : Room) s m #[(.ref a0), (.int (0 : Int32)), (.int (2 : Int32))] below meth c s₁ [] 0 0 := Stand.of_body Bd
  have e0 : s₁.heap = h0 := by rw [← hh, Bd.state]; rfl
  have efx : entryFrame m #[(.ref a0), (.int (0 : Int32)), (.int (2 : Int32))] 6 = mkF m 0 #[.val (.ref a0), .val (.int (0 : Int32)), .val (.int (2 : Int32)), .unset, .unset, .unset] [] := by first | (simp [entryFrame, mkF, argsToLocals, Value.category]; done) | rfl
  have N0 := Fr.nil n0
  have K0 : Keep h0 h0 [] := Keep.refl h0 _
  refine OGo.start (g' := mkF m 0 #[.val (.ref a0), .val (.int (0 : Int32)), .val (.int (2 : Int32)), .unset, .unset, .unset] []) (efx) ?_
  show OGo p.tables e below (P13c2 Z a0 kc ch0 ch1 h0 n0 s) (s₁.setTop (mkF m 0 #[.val (.ref a0), .val (.int (0 : Int32)), .val (.int (2 : Int32)), .unset, .unset, .unset] []))
  refine OGo.go (B := s₁.setTop (mkF m 1 #[.val (.ref a0), .val (.int (0 : Int32)), .val (.int (2 : Int32)), .unset, .unset, .unset] [(.int (2 : Int32))])) ?_ (fun tX kX => XS.iloadN X0.here hx rfl (hb hby d13_0) rfl kX)
  obtain ⟨T1, h1, k1, X1, e1, E1, A1, EA1, st1⟩ := newPE X0 hx hZ (hw _ (List.mem_of_getElem? (i := 15) rfl)) e0 (g := (mkF m 1 #[.val (.ref a0), .val (.int (0 : Int32)), .val (.int (2 : Int32)), .unset, .unset, .unset] [(.int (2 : Int32))])) rfl (hb hby d13_1) rfl (by decide) (cap := 2) (by decide) (by decide) (by decide) (by decide) (ad := "[B") (by decide)
  obtain ⟨b1, g1⟩ : ∃ z, z = h0.size := ⟨_, rfl⟩
  rw [← g1] at A1 EA1 st1
  have ne_a0_b1 : a0 ≠ b1 := Nat.ne_of_lt (Nat.lt_of_lt_of_le V_a0.lt (Nat.le_of_eq g1.symm))
  have V_a0 := V_a0.ext E1
  have g_b1 : n0 ≤ b1 := Nat.le_trans Z0 (Nat.le_of_eq g1.symm)
  have sz_b1 : h0.size ≤ b1 := Nat.le_trans K0.1 (Nat.le_of_eq g1.symm)
  have zn1 : n0 ≤ h1.size := Nat.le_trans Z0 E1.1
  have K1 := K0.ext E1
  have E_b1 := EA1
  have V_b1 : Arv Z h1 b1 k1 .byte (2 : Int32) [(.int (0 : Int32)), (.int (0 : Int32))] (.int (0 : Int32)) := (Arv.new A1 (by decide)).pad (pad_rep [] (.int (0 : Int32)) 2)
  refine OGo.go (B := T1.setTop (mkF m 3 #[.val (.ref a0), .val (.int (0 : Int32)), .val (.int (2 : Int32)), .unset, .unset, .unset] [(.ref b1)])) ?_ st1
  refine OGo.go (B := T1.setTop (mkF m 4 #[.val (.ref a0), .val (.int (0 : Int32)), .val (.int (2 : Int32)), .val (.ref b1), .unset, .unset] [])) ?_ (fun tX kX => XS.astoreN X1.here hx rfl (hb hby d13_3) rfl rfl (l' := #[.val (.ref a0), .val (.int (0 : Int32)), .val (.int (2 : Int32)), .val (.ref b1), .unset, .unset]) rfl kX)
  refine OGo.go (B := T1.setTop (mkF m 5 #[.val (.ref a0), .val (.int (0 : Int32)), .val (.int (2 : Int32)), .val (.ref b1), .unset, .unset] [(.ref a0)])) ?_ (fun tX kX => XS.aloadN X1.here hx rfl (hb hby d13_4) rfl rfl kX)
  refine OGo.go (B := T1.setTop (mkF m 6 #[.val (.ref a0), .val (.int (0 : Int32)), .val (.int (2 : Int32)), .val (.ref b1), .unset, .unset] [(.int (0 : Int32)), (.ref a0)])) ?_ (fun tX kX => XS.iloadN X1.here hx rfl (hb hby d13_5) rfl kX)
  refine OGo.go (B := T1.setTop (mkF m 7 #[.val (.ref a0), .val (.int (0 : Int32)), .val (.int (2 : Int32)), .val (.ref b1), .unset, .unset] [(.ref b1), (.int (0 : Int32)), (.ref a0)])) ?_ (fun tX kX => XS.aloadN X1.here hx rfl (hb hby d13_6) rfl rfl kX)
  refine OGo.go (B := T1.setTop (mkF m 8 #[.val (.ref a0), .val (.int (0 : Int32)), .val (.int (2 : Int32)), .val (.ref b1), .unset, .unset] [(.int (0 : Int32)), (.ref b1), (.int (0 : Int32)), (.ref a0)])) ?_ (fun tX kX => XS.iconst X1.here hx rfl (hb hby d13_7) kX)
  refine OGo.go (B := T1.setTop (mkF m 9 #[.val (.ref a0), .val (.int (0 : Int32)), .val (.int (2 : Int32)), .val (.ref b1), .unset, .unset] [(.int (2 : Int32)), (.int (0 : Int32)), (.ref b1), (.int (0 : Int32)), (.ref a0)])) ?_ (fun tX kX => XS.iloadN X1.here hx rfl (hb hby d13_8) rfl kX)
  obtain ⟨_, _, ⟨T2, L2, k2, n2⟩, -, X2, ⟨Lc2, hQ2, l2, y2, z2⟩, st2⟩ := Jvm.LawKit.callS X1 hx (y := (⟨"java/lang/StringUTF16", "compress", "([CI[BII)I"⟩ : MethodName)) hown (mvT hZ (hw _ (List.mem_of_getElem? (i := 106) rfl))) (mvT hZ (hw _ (List.mem_of_getElem? (i := 107) rfl))) (mvT hZ (hw _ (List.mem_of_getElem? (i := 104) rfl))) (mvT hZ (hw _ (List.mem_of_getElem? (i := 108) rfl))) (by decide) (backOf (W := 0) (rm14c2 l Z aV hw [] a0 b1 kc k1 ch0 ch1 h1 n0 zn1 V_a0 E_b1 V_b1 g_b1 ne_a0_b1 le0 le1) hZ (hw _ (List.mem_of_getElem? (i := 108) rfl)) (hw _ (List.mem_of_getElem? (i := 104) rfl)) (by decide) (by decide)) (g := (mkF m 9 #[.val (.ref a0), .val (.int (0 : Int32)), .val (.int (2 : Int32)), .val (.ref b1), .unset, .unset] [(.int (2 : Int32)), (.int (0 : Int32)), (.ref b1), (.int (0 : Int32)), (.ref a0)])) rfl (by rw [hml]; rfl) (argsL := [(.ref a0), (.int (0 : Int32)), (.ref b1), (.int (0 : Int32)), (.int (2 : Int32))]) (rest := []) (lenOf pd___CI_BII_I rfl) rfl (by show 2 * 0 + _ ≤ _; exact Nat.le_of_eq rfl) (hb hby d13_9) (fun _ _ => ⟨rfl, e1, (by decide : 1 + 0 ≤ _), (by decide : 2 + 0 ≤ _)⟩)
  dsimp only [Pt.U, Pt.locs, Pt.cells, Pt.slots] at X2 l2 y2 z2 st2 hQ2
  subst l2 y2 z2
  obtain ⟨rfl, N2q, Kq2, E_b1_p, V_b1_p⟩ := hQ2
  have N2 := Fr.app N0 N2q
  have V_a0 := V_a0.keep Kq2 (ninS ne_a0_b1 nin0)
  have E_b1 := E_b1.keep Kq2
  have K2 := K1.trans Kq2 (allS (P := fun x => x ∈ ([] : List Addr) ∨ h0.size ≤ x) (Or.inr sz_b1) all0)
  have zn2 : n0 ≤ T2.heap.size := Nat.le_trans zn1 Kq2.1
  have E_b1 := E_b1_p
  have V_b1 := V_b1_p
  refine OGo.go (B := T2.setTop (mkF m 12 #[.val (.ref a0), .val (.int (0 : Int32)), .val (.int (2 : Int32)), .val (.ref b1), .unset, .unset] [(.int (2 : Int32))])) ?_ st2
  refine OGo.go (B := T2.setTop (mkF m 14 #[.val (.ref a0), .val (.int (0 : Int32)), .val (.int (2 : Int32)), .val (.ref b1), .val (.int (2 : Int32)), .unset] [])) ?_ (fun tX kX => XS.istore X2.here hx rfl (hb hby d13_12) rfl (l' := #[.val (.ref a0), .val (.int (0 : Int32)), .val (.int (2 : Int32)), .val (.ref b1), .val (.int (2 : Int32)), .unset]) rfl kX)
  refine OGo.go (B := T2.setTop (mkF m 16 #[.val (.ref a0), .val (.int (0 : Int32)), .val (.int (2 : Int32)), .val (.ref b1), .val (.int (2 : Int32)), .unset] [(.int (2 : Int32))])) ?_ (fun tX kX => XS.iload X2.here hx rfl (hb hby d13_14) rfl kX)
  refine OGo.go (B := T2.setTop (mkF m 17 #[.val (.ref a0), .val (.int (0 : Int32)), .val (.int (2 : Int32)), .val (.ref b1), .val (.int (2 : Int32)), .unset] [(.int (2 : Int32)), (.int (2 : Int32))])) ?_ (fun tX kX => XS.iloadN X2.here hx rfl (hb hby d13_16) rfl kX)
  refine OGo.go (B := T2.setTop (mkF m 57 #[.val (.ref a0), .val (.int (0 : Int32)), .val (.int (2 : Int32)), .val (.ref b1), .val (.int (2 : Int32)), .unset] [])) ?_ (fun tX kX => XS.icmpYes X2.here hx rfl (pc0 := 17) (pc' := 57) rfl (hb hby d13_17) rfl (teq (by decide)).1 (by decide) (by decide) kX)
  refine OGo.go (B := T2.setTop (mkF m 58 #[.val (.ref a0), .val (.int (0 : Int32)), .val (.int (2 : Int32)), .val (.ref b1), .val (.int (2 : Int32)), .unset] [(.ref b1)])) ?_ (fun tX kX => XS.aloadN X2.here hx rfl (hb hby d13_57) rfl rfl kX)
  refine OGo.ret X2 (v := (some (.ref b1))) (fun h => by rw [Bd.returns] at h; cases h) (BodyLoose.notSynchronized Bd) (fun fs hr => retOut X2 hx Bd.returns rfl (Or.inr (Or.inr (Or.inr (Or.inr ⟨rfl, rfl, rfl⟩)))) (hb hby d13_58) hr) (Q := Q13c2 Z a0 kc ch0 ch1 h0 n0) ?_ (by decide) (by decide)
  show Q13c2 Z a0 kc ch0 ch1 h0 n0 _ T2.heap _
  exact ⟨b1, k1, rfl, N2, K2, sz_b1, E_b1, V_b1⟩
def Q2c2 (Z : State) (a0 : Addr) (a1 : Addr) (u1 : Value) (u2 : Value) (kc : ClassId) (cs : Int32) (ch0 : Int32) (ch1 : Int32) (h0 : Heap) (n0 : Nat) (v : Option Value) (h : Heap) (L : List Loc) : Prop := v = none ∧ Fr n0 L ∧ Keep h0 h [a0] ∧ Exa Z h a0 "java/lang/String"
def P2c2 (Z : State) (a0 : Addr) (a1 : Addr) (u1 : Value) (u2 : Value) (kc : ClassId) (cs : Int32) (ch0 : Int32) (ch1 : Int32) (h0 : Heap) (n0 : Nat) (s : State) (o : Outcome) (U' : State) : Prop := ∃ v L, o = .returned v ∧ Q2c2 Z a0 a1 u1 u2 kc cs ch0 ch1 h0 n0 v U'.heap L ∧ FrameEnd s o U' L ({ frames := 2, cells := 1, slots := 2, locals := 35 } : Room).cells ({ frames := 2, cells := 1, slots := 2, locals := 35 } : Room).slots
set_option maxRecDepth 65536 in
set_option maxHeartbeats 40000000 in
theorem rm2c2 (l : Launch) (Z : State) (aV : Array Value) (hw : ∀ d ∈ tables_1, d.before aV Z = true) (ws : List Jvm.Cond) (a0 : Addr) (a1 : Addr) (u1 : Value) (u2 : Value) (kc : ClassId) (cs : Int32) (ch0 : Int32) (ch1 : Int32) (h0 : Heap) (n0 : Nat) (Z0 : n0 ≤ h0.size) (E_a0 : Exa Z h0 a0 "java/lang/String") (F_value_a0 : Fld Z h0 a0 "java/lang/String" "value" "[B" u1) (F_coder_a0 : Fld Z h0 a0 "java/lang/String" "coder" "B" u2) (V_a1 : Arv Z h0 a1 kc .char (2 : Int32) [(.int ch0), (.int ch1)] (.int (0 : Int32))) (S_COMPACT_STRINGS : Sta Z h0 "java/lang/String" "COMPACT_STRINGS" "Z" (.int cs)) (ga : n0 ≤ a0) (nac : a1 ≠ a0) (hcs : ¬ cs = 0) (le0 : ¬ (255 : Int32) < ch0) (le1 : ¬ (255 : Int32) < ch1) :
    MetFree l (⟨"java/lang/String", "<init>", "([CIILjava/lang/Void;)V"⟩ : MethodName) (head1 (Jvm.Cond.code (⟨"java/lang/String", "<init>", "([CIILjava/lang/Void;)V"⟩ : MethodName) jdk_42_method_149_code 6 none :: ws) ({ frames := 2, cells := 1, slots := 2, locals := 35 } : Room)) (fun a U => a = #[(.ref a0), (.ref a1), (.int (0 : Int32)), (.int (2 : Int32)), .null] ∧ Z.Warmed39 U.vm ∧ U.heap = h0) (fun _ _ _ _ _ => True) (fun _ U o U' => ∃ v L, o = .returned v ∧ Q2c2 Z a0 a1 u1 u2 kc cs ch0 ch1 h0 n0 v U'.heap L ∧ FrameEnd U o U' L ({ frames := 2, cells := 1, slots := 2, locals := 35 } : Room).cells ({ frames := 2, cells := 1, slots := 2, locals := 35 } : Room).slots) := by
  refine MetFree.of_bodySF (plainFor_of_name pn_java_lang_String) hisR ?_
  intro p e s m args below meth c s₁ Bd hml0 hP hK
  obtain ⟨rfl, hZ, hh⟩ := hP
  have hx := Bd.exec
  have hby := Bd.bytes
  have hml : c.maxLocals = 6 := hml0
  have hown : s.vm.findClass "java/lang/String" = some m.cls := findClass_of_methodNamed Bd.named
  have hnm := (name_of_methodNamed Bd.named Bd.method).1
  have X0 : Stand p l e ({ frames := 2, cells := 1, slots := 2, locals := 35 } : Room) s m #[(.ref a0), (.ref a1), (.int (0 : Int32)), (.int (2 : Int32)), .null] below meth c s₁ [] 0 0 := Stand.of_body Bd
  have e0 : s₁.heap = h0 := by rw [← hh, Bd.state]; rfl
  have efx : entryFrame m #[(.ref a0), (.ref a1), (.int (0 : Int32)), (.int (2 : Int32)), .null] 6 = mkF m 0 #[.val (.ref a0), .val (.ref a1), .val (.int (0 : Int32)), .val (.int (2 : Int32)), .val .null, .unset] [] := by first | (simp [entryFrame, mkF, argsToLocals, Value.category]; done) | rfl
  have N0 := Fr.nil n0
  have K0 : Keep h0 h0 [a0] := Keep.refl h0 _
  refine OGo.start (g' := mkF m 0 #[.val (.ref a0), .val (.ref a1), .val (.int (0 : Int32)), .val (.int (2 : Int32)), .val .null, .unset] []) (efx) ?_
  show OGo p.tables e below (P2c2 Z a0 a1 u1 u2 kc cs ch0 ch1 h0 n0 s) (s₁.setTop (mkF m 0 #[.val (.ref a0), .val (.ref a1), .val (.int (0 : Int32)), .val (.int (2 : Int32)), .val .null, .unset] []))
  refine OGo.go (B := s₁.setTop (mkF m 1 #[.val (.ref a0), .val (.ref a1), .val (.int (0 : Int32)), .val (.int (2 : Int32)), .val .null, .unset] [(.ref a0)])) ?_ (fun tX kX => XS.aloadN X0.here hx rfl (hb hby d2_0) rfl rfl kX)
  obtain ⟨T1, X1, e1, st1⟩ := initO X0 hx hZ hown (hw _ (List.mem_of_getElem? (i := 11) rfl)) (hw _ (List.mem_of_getElem? (i := 12) rfl)) (hw _ (List.mem_of_getElem? (i := 13) rfl)) e0 (g := (mkF m 1 #[.val (.ref a0), .val (.ref a1), .val (.int (0 : Int32)), .val (.int (2 : Int32)), .val .null, .unset] [(.ref a0)])) rfl (by rw [hml]; rfl) rfl (hb hby d2_1) (by decide) (W := 0) (by show 2 * 0 + _ ≤ _; exact Nat.le_of_eq rfl) (by decide)
  refine OGo.go (B := T1.setTop (mkF m 4 #[.val (.ref a0), .val (.ref a1), .val (.int (0 : Int32)), .val (.int (2 : Int32)), .val .null, .unset] [])) ?_ st1
  refine OGo.go (B := T1.setTop (mkF m 5 #[.val (.ref a0), .val (.ref a1), .val (.int (0 : Int32)), .val (.int (2 : Int32)), .val .null, .unset] [(.int (2 : Int32))])) ?_ (fun tX kX => XS.iloadN X1.here hx rfl (hb hby d2_4) rfl kX)
  refine OGo.go (B := T1.setTop (mkF m 27 #[.val (.ref a0), .val (.ref a1), .val (.int (0 : Int32)), .val (.int (2 : Int32)), .val .null, .unset] [])) ?_ (fun tX kX => XS.ifYes X1.here hx rfl (pc0 := 5) (pc' := 27) rfl (hb hby d2_5) rfl ((if0 _ _).trans (feq (by decide)).2) (by decide) (by decide) kX)
  obtain ⟨T2, X2, e2, st2⟩ := getS2 X1 hx hZ hown (host := "") (Or.inl (hw _ (List.mem_of_getElem? (i := 101) rfl))) Via.refl e1 S_COMPACT_STRINGS (g := (mkF m 27 #[.val (.ref a0), .val (.ref a1), .val (.int (0 : Int32)), .val (.int (2 : Int32)), .val .null, .unset] [])) rfl (hb hby d2_27)
  refine OGo.go (B := T2.setTop (mkF m 30 #[.val (.ref a0), .val (.ref a1), .val (.int (0 : Int32)), .val (.int (2 : Int32)), .val .null, .unset] [(.int cs)])) ?_ st2
  refine OGo.go (B := T2.setTop (mkF m 33 #[.val (.ref a0), .val (.ref a1), .val (.int (0 : Int32)), .val (.int (2 : Int32)), .val .null, .unset] [])) ?_ (fun tX kX => XS.ifNo X2.here hx rfl (hb hby d2_30) rfl ((if0 _ _).trans (feq hcs).1) kX)
  refine OGo.go (B := T2.setTop (mkF m 34 #[.val (.ref a0), .val (.ref a1), .val (.int (0 : Int32)), .val (.int (2 : Int32)), .val .null, .unset] [(.ref a1)])) ?_ (fun tX kX => XS.aloadN X2.here hx rfl (hb hby d2_33) rfl rfl kX)
  refine OGo.go (B := T2.setTop (mkF m 35 #[.val (.ref a0), .val (.ref a1), .val (.int (0 : Int32)), .val (.int (2 : Int32)), .val .null, .unset] [(.int (0 : Int32)), (.ref a1)])) ?_ (fun tX kX => XS.iloadN X2.here hx rfl (hb hby d2_34) rfl kX)
  refine OGo.go (B := T2.setTop (mkF m 36 #[.val (.ref a0), .val (.ref a1), .val (.int (0 : Int32)), .val (.int (2 : Int32)), .val .null, .unset] [(.int (2 : Int32)), (.int (0 : Int32)), (.ref a1)])) ?_ (fun tX kX => XS.iloadN X2.here hx rfl (hb hby d2_35) rfl kX)
  obtain ⟨_, _, ⟨T3, L3, k3, n3⟩, -, X3, ⟨Lc3, hQ3, l3, y3, z3⟩, st3⟩ := Jvm.LawKit.callS X2 hx (y := (⟨"java/lang/StringUTF16", "compress", "([CII)[B"⟩ : MethodName)) hown (mvT hZ (hw _ (List.mem_of_getElem? (i := 102) rfl))) (mvT hZ (hw _ (List.mem_of_getElem? (i := 103) rfl))) (mvT hZ (hw _ (List.mem_of_getElem? (i := 104) rfl))) (mvT hZ (hw _ (List.mem_of_getElem? (i := 105) rfl))) (by decide) (backOf (W := 0) (rm13c2 l Z aV hw [] a1 kc ch0 ch1 h0 n0 Z0 V_a1 le0 le1) hZ (hw _ (List.mem_of_getElem? (i := 105) rfl)) (hw _ (List.mem_of_getElem? (i := 104) rfl)) (by decide) (by decide)) (g := (mkF m 36 #[.val (.ref a0), .val (.ref a1), .val (.int (0 : Int32)), .val (.int (2 : Int32)), .val .null, .unset] [(.int (2 : Int32)), (.int (0 : Int32)), (.ref a1)])) rfl (by rw [hml]; rfl) (argsL := [(.ref a1), (.int (0 : Int32)), (.int (2 : Int32))]) (rest := []) (lenOf pd___CII__B rfl) rfl (by show 2 * 0 + _ ≤ _; exact Nat.le_of_eq rfl) (hb hby d2_36) (fun _ _ => ⟨rfl, e2, (by decide : 0 + 1 ≤ _), (by decide : 0 + 2 ≤ _)⟩)
  dsimp only [Pt.U, Pt.locs, Pt.cells, Pt.slots] at X3 l3 y3 z3 st3 hQ3
  subst l3 y3 z3
  obtain ⟨nb_3, kb_3, rfl, N3q, Kq3, sz3_nb, E_nb_3_p, V_nb_3_p⟩ := hQ3
  have N3 := Fr.app N0 N3q
  have ne_a0_nb_3 : a0 ≠ nb_3 := Nat.ne_of_lt (Nat.lt_of_lt_of_le E_a0.lt sz3_nb)
  have ne_a1_nb_3 : a1 ≠ nb_3 := Nat.ne_of_lt (Nat.lt_of_lt_of_le V_a1.lt sz3_nb)
  have S_COMPACT_STRINGS := Sta.keep0 S_COMPACT_STRINGS Kq3
  have E_a0 := E_a0.keep Kq3
  have F_value_a0 := F_value_a0.keep Kq3 nin0
  have F_coder_a0 := F_coder_a0.keep Kq3 nin0
  have V_a1 := V_a1.keep Kq3 nin0
  have g_nb_3 : n0 ≤ nb_3 := Nat.le_trans Z0 sz3_nb
  have sz_nb_3 : h0.size ≤ nb_3 := Nat.le_trans K0.1 sz3_nb
  have K3 := K0.trans Kq3 all0
  have zn3 : n0 ≤ T3.heap.size := Nat.le_trans Z0 Kq3.1
  have E_nb_3 := E_nb_3_p
  have V_nb_3 := V_nb_3_p
  refine OGo.go (B := T3.setTop (mkF m 39 #[.val (.ref a0), .val (.ref a1), .val (.int (0 : Int32)), .val (.int (2 : Int32)), .val .null, .unset] [(.ref nb_3)])) ?_ st3
  refine OGo.go (B := T3.setTop (mkF m 41 #[.val (.ref a0), .val (.ref a1), .val (.int (0 : Int32)), .val (.int (2 : Int32)), .val .null, .val (.ref nb_3)] [])) ?_ (fun tX kX => XS.astore X3.here hx rfl (hb hby d2_39) rfl rfl (l' := #[.val (.ref a0), .val (.ref a1), .val (.int (0 : Int32)), .val (.int (2 : Int32)), .val .null, .val (.ref nb_3)]) rfl kX)
  refine OGo.go (B := T3.setTop (mkF m 42 #[.val (.ref a0), .val (.ref a1), .val (.int (0 : Int32)), .val (.int (2 : Int32)), .val .null, .val (.ref nb_3)] [(.ref a0)])) ?_ (fun tX kX => XS.aloadN X3.here hx rfl (hb hby d2_41) rfl rfl kX)
  refine OGo.go (B := T3.setTop (mkF m 44 #[.val (.ref a0), .val (.ref a1), .val (.int (0 : Int32)), .val (.int (2 : Int32)), .val .null, .val (.ref nb_3)] [(.ref nb_3), (.ref a0)])) ?_ (fun tX kX => XS.aload X3.here hx rfl (hb hby d2_42) rfl rfl kX)
  refine OGo.go (B := T3.setTop (mkF m 45 #[.val (.ref a0), .val (.ref a1), .val (.int (0 : Int32)), .val (.int (2 : Int32)), .val .null, .val (.ref nb_3)] [(.int (2 : Int32)), (.ref nb_3), (.ref a0)])) ?_ (fun tX kX => XS.iloadN X3.here hx rfl (hb hby d2_44) rfl kX)
  obtain ⟨_, _, ⟨T4, L4, k4, n4⟩, -, X4, ⟨Lc4, hQ4, l4, y4, z4⟩, st4⟩ := Jvm.LawKit.callS X3 hx (y := (⟨"java/lang/StringUTF16", "coderFromArrayLen", "([BI)B"⟩ : MethodName)) hown (mvT hZ (hw _ (List.mem_of_getElem? (i := 109) rfl))) (mvT hZ (hw _ (List.mem_of_getElem? (i := 110) rfl))) (mvT hZ (hw _ (List.mem_of_getElem? (i := 104) rfl))) (mvT hZ (hw _ (List.mem_of_getElem? (i := 111) rfl))) (by decide) (backOf (W := 1) (rm15 l Z aV hw [] nb_3 (2 : Int32) kb_3 [(.int ((ch0.toInt8.toInt32).toInt8.toInt32)), (.int ((ch1.toInt8.toInt32).toInt8.toInt32))] T3.heap n0 zn3 V_nb_3) hZ (hw _ (List.mem_of_getElem? (i := 111) rfl)) (hw _ (List.mem_of_getElem? (i := 104) rfl)) (by decide) (by decide)) (g := (mkF m 45 #[.val (.ref a0), .val (.ref a1), .val (.int (0 : Int32)), .val (.int (2 : Int32)), .val .null, .val (.ref nb_3)] [(.int (2 : Int32)), (.ref nb_3), (.ref a0)])) rfl (by rw [hml]; rfl) (argsL := [(.ref nb_3), (.int (2 : Int32))]) (rest := [(.ref a0)]) (lenOf pd___BI_B rfl) rfl (by show 2 * 0 + _ ≤ _; exact Nat.le_of_eq rfl) (hb hby d2_45) (fun _ _ => ⟨rfl, rfl, (by decide : 1 + 0 ≤ _), (by decide : 2 + 0 ≤ _)⟩)
  dsimp only [Pt.U, Pt.locs, Pt.cells, Pt.slots] at X4 l4 y4 z4 st4 hQ4
  subst l4 y4 z4
  obtain ⟨rfl, N4q, e4⟩ := hQ4
  have N4 := Fr.app N3 N4q
  refine OGo.go (B := T4.setTop (mkF m 48 #[.val (.ref a0), .val (.ref a1), .val (.int (0 : Int32)), .val (.int (2 : Int32)), .val .null, .val (.ref nb_3)] [(.int ((((((2 : Int32) - (2 : Int32)).toUInt32 >>> ((31 : Int32) &&& 31).toUInt32).toInt32).toInt8.toInt32).toInt8.toInt32)), (.ref a0)])) ?_ st4
  obtain ⟨T5, h5, X5, e5, W5, st5⟩ := putFN X4 hx hZ hown (hw _ (List.mem_of_getElem? (i := 21) rfl)) Via.refl e4 F_coder_a0 E_a0 (Or.inr ⟨(hw _ (List.mem_of_getElem? (i := 17) rfl)), rfl, hnm⟩) (hw _ (List.mem_of_getElem? (i := 2) rfl)) (ty := .byte) (v' := (.int ((((((2 : Int32) - (2 : Int32)).toUInt32 >>> ((31 : Int32) &&& 31).toUInt32).toInt32).toInt8.toInt32).toInt8.toInt32).toInt8.toInt32)) (by decide) rfl (fits_nar_byte _) (g := (mkF m 48 #[.val (.ref a0), .val (.ref a1), .val (.int (0 : Int32)), .val (.int (2 : Int32)), .val .null, .val (.ref nb_3)] [(.int ((((((2 : Int32) - (2 : Int32)).toUInt32 >>> ((31 : Int32) &&& 31).toUInt32).toInt32).toInt8.toInt32).toInt8.toInt32)), (.ref a0)])) rfl rfl (hb hby d2_48)
  have E_a0 := E_a0.wr W5
  have F_value_a0 := F_value_a0.other W5 (Or.inr (slot_ne (Or.inr (hw _ (List.mem_of_getElem? (i := 16) rfl))) (Or.inr (hw _ (List.mem_of_getElem? (i := 17) rfl))) (by decide) (t := (.array .byte)) (t' := .byte) (by decide) (by decide)))
  have F_coder_a0 := F_coder_a0.same W5
  have V_a1 := V_a1.other W5 nac
  have S_COMPACT_STRINGS := S_COMPACT_STRINGS.wr W5
  have E_nb_3 := E_nb_3.wr W5
  have V_nb_3 := V_nb_3.other W5 (Ne.symm ne_a0_nb_3)
  have K5 := K3.wr W5 (Or.inl (List.mem_of_getElem? (i := 0) rfl))
  have zn5 : n0 ≤ h5.size := Nat.le_trans zn3 (Keep.of_wr W5).1
  have N5 := Fr.snoc X5 N4 ga
  refine OGo.go (B := T5.setTop (mkF m 51 #[.val (.ref a0), .val (.ref a1), .val (.int (0 : Int32)), .val (.int (2 : Int32)), .val .null, .val (.ref nb_3)] [])) ?_ st5
  refine OGo.go (B := T5.setTop (mkF m 52 #[.val (.ref a0), .val (.ref a1), .val (.int (0 : Int32)), .val (.int (2 : Int32)), .val .null, .val (.ref nb_3)] [(.ref a0)])) ?_ (fun tX kX => XS.aloadN X5.here hx rfl (hb hby d2_51) rfl rfl kX)
  refine OGo.go (B := T5.setTop (mkF m 54 #[.val (.ref a0), .val (.ref a1), .val (.int (0 : Int32)), .val (.int (2 : Int32)), .val .null, .val (.ref nb_3)] [(.ref nb_3), (.ref a0)])) ?_ (fun tX kX => XS.aload X5.here hx rfl (hb hby d2_52) rfl rfl kX)
  obtain ⟨T6, h6, X6, e6, W6, st6⟩ := putF X5 hx hZ hown (host := "") (Or.inl (hw _ (List.mem_of_getElem? (i := 20) rfl))) Via.refl e5 F_value_a0 E_a0 (Or.inr ⟨(hw _ (List.mem_of_getElem? (i := 16) rfl)), rfl, hnm⟩) (hw _ (List.mem_of_getElem? (i := 2) rfl)) (ty := (.array .byte)) (by decide) rfl rfl (g := (mkF m 54 #[.val (.ref a0), .val (.ref a1), .val (.int (0 : Int32)), .val (.int (2 : Int32)), .val .null, .val (.ref nb_3)] [(.ref nb_3), (.ref a0)])) rfl rfl (hb hby d2_54)
  have E_a0 := E_a0.wr W6
  have F_value_a0 := F_value_a0.same W6
  have F_coder_a0 := F_coder_a0.other W6 (Or.inr (slot_ne (Or.inr (hw _ (List.mem_of_getElem? (i := 17) rfl))) (Or.inr (hw _ (List.mem_of_getElem? (i := 16) rfl))) (by decide) (t := .byte) (t' := (.array .byte)) (by decide) (by decide)))
  have V_a1 := V_a1.other W6 nac
  have S_COMPACT_STRINGS := S_COMPACT_STRINGS.wr W6
  have E_nb_3 := E_nb_3.wr W6
  have V_nb_3 := V_nb_3.other W6 (Ne.symm ne_a0_nb_3)
  have K6 := K5.wr W6 (Or.inl (List.mem_of_getElem? (i := 0) rfl))
  have zn6 : n0 ≤ h6.size := Nat.le_trans zn5 (Keep.of_wr W6).1
  have N6 := Fr.snoc X6 N5 ga
  refine OGo.go (B := T6.setTop (mkF m 57 #[.val (.ref a0), .val (.ref a1), .val (.int (0 : Int32)), .val (.int (2 : Int32)), .val .null, .val (.ref nb_3)] [])) ?_ st6
  refine OGo.ret X6 (v := none) (fun _ => rfl) (BodyLoose.notSynchronized Bd) (fun fs hr => X6.returnOut hx Bd.returns (hb hby d2_57) hr) (Q := Q2c2 Z a0 a1 u1 u2 kc cs ch0 ch1 h0 n0) ?_ (by decide) (by decide)
  show Q2c2 Z a0 a1 u1 u2 kc cs ch0 ch1 h0 n0 _ T6.heap _
  rw [e6]
  exact ⟨rfl, N6, K6, E_a0⟩
def Q1c2 (Z : State) (a0 : Addr) (a1 : Addr) (u1 : Value) (u2 : Value) (kc : ClassId) (cs : Int32) (ch0 : Int32) (ch1 : Int32) (h0 : Heap) (n0 : Nat) (v : Option Value) (h : Heap) (L : List Loc) : Prop := v = none ∧ Fr n0 L ∧ Keep h0 h [a0] ∧ Exa Z h a0 "java/lang/String"
def P1c2 (Z : State) (a0 : Addr) (a1 : Addr) (u1 : Value) (u2 : Value) (kc : ClassId) (cs : Int32) (ch0 : Int32) (ch1 : Int32) (h0 : Heap) (n0 : Nat) (s : State) (o : Outcome) (U' : State) : Prop := ∃ v L, o = .returned v ∧ Q1c2 Z a0 a1 u1 u2 kc cs ch0 ch1 h0 n0 v U'.heap L ∧ FrameEnd s o U' L ({ frames := 3, cells := 1, slots := 2, locals := 52 } : Room).cells ({ frames := 3, cells := 1, slots := 2, locals := 52 } : Room).slots
set_option maxRecDepth 65536 in
set_option maxHeartbeats 40000000 in
theorem rm1c2 (l : Launch) (Z : State) (aV : Array Value) (hw : ∀ d ∈ tables_1, d.before aV Z = true) (ws : List Jvm.Cond) (a0 : Addr) (a1 : Addr) (u1 : Value) (u2 : Value) (kc : ClassId) (cs : Int32) (ch0 : Int32) (ch1 : Int32) (h0 : Heap) (n0 : Nat) (Z0 : n0 ≤ h0.size) (E_a0 : Exa Z h0 a0 "java/lang/String") (F_value_a0 : Fld Z h0 a0 "java/lang/String" "value" "[B" u1) (F_coder_a0 : Fld Z h0 a0 "java/lang/String" "coder" "B" u2) (V_a1 : Arv Z h0 a1 kc .char (2 : Int32) [(.int ch0), (.int ch1)] (.int (0 : Int32))) (S_COMPACT_STRINGS : Sta Z h0 "java/lang/String" "COMPACT_STRINGS" "Z" (.int cs)) (ga : n0 ≤ a0) (nac : a1 ≠ a0) (hcs : ¬ cs = 0) (le0 : ¬ (255 : Int32) < ch0) (le1 : ¬ (255 : Int32) < ch1) :
    MetFree l (⟨"java/lang/String", "<init>", "([C)V"⟩ : MethodName) (head1 (Jvm.Cond.code (⟨"java/lang/String", "<init>", "([C)V"⟩ : MethodName) jdk_42_method_3_code 2 none :: ws) ({ frames := 3, cells := 1, slots := 2, locals := 52 } : Room)) (fun a U => a = #[(.ref a0), (.ref a1)] ∧ Z.Warmed39 U.vm ∧ U.heap = h0) (fun _ _ _ _ _ => True) (fun _ U o U' => ∃ v L, o = .returned v ∧ Q1c2 Z a0 a1 u1 u2 kc cs ch0 ch1 h0 n0 v U'.heap L ∧ FrameEnd U o U' L ({ frames := 3, cells := 1, slots := 2, locals := 52 } : Room).cells ({ frames := 3, cells := 1, slots := 2, locals := 52 } : Room).slots) := by
  refine MetFree.of_bodySF (plainFor_of_name pn_java_lang_String) hisR ?_
  intro p e s m args below meth c s₁ Bd hml0 hP hK
  obtain ⟨rfl, hZ, hh⟩ := hP
  have hx := Bd.exec
  have hby := Bd.bytes
  have hml : c.maxLocals = 2 := hml0
  have hown : s.vm.findClass "java/lang/String" = some m.cls := findClass_of_methodNamed Bd.named
  have hnm := (name_of_methodNamed Bd.named Bd.method).1
  have X0 : Stand p l e ({ frames := 3, cells := 1, slots := 2, locals := 52 } : Room) s m #[(.ref a0), (.ref a1)] below meth c s₁ [] 0 0 := Stand.of_body Bd
  have e0 : s₁.heap = h0 := by rw [← hh, Bd.state]; rfl
  have efx : entryFrame m #[(.ref a0), (.ref a1)] 2 = mkF m 0 #[.val (.ref a0), .val (.ref a1)] [] := by first | (simp [entryFrame, mkF, argsToLocals, Value.category]; done) | rfl
  have N0 := Fr.nil n0
  have K0 : Keep h0 h0 [a0] := Keep.refl h0 _
  refine OGo.start (g' := mkF m 0 #[.val (.ref a0), .val (.ref a1)] []) (efx) ?_
  show OGo p.tables e below (P1c2 Z a0 a1 u1 u2 kc cs ch0 ch1 h0 n0 s) (s₁.setTop (mkF m 0 #[.val (.ref a0), .val (.ref a1)] []))
  refine OGo.go (B := s₁.setTop (mkF m 1 #[.val (.ref a0), .val (.ref a1)] [(.ref a0)])) ?_ (fun tX kX => XS.aloadN X0.here hx rfl (hb hby d1_0) rfl rfl kX)
  refine OGo.go (B := s₁.setTop (mkF m 2 #[.val (.ref a0), .val (.ref a1)] [(.ref a1), (.ref a0)])) ?_ (fun tX kX => XS.aloadN X0.here hx rfl (hb hby d1_1) rfl rfl kX)
  refine OGo.go (B := s₁.setTop (mkF m 3 #[.val (.ref a0), .val (.ref a1)] [(.int (0 : Int32)), (.ref a1), (.ref a0)])) ?_ (fun tX kX => XS.iconst X0.here hx rfl (hb hby d1_2) kX)
  refine OGo.go (B := s₁.setTop (mkF m 4 #[.val (.ref a0), .val (.ref a1)] [(.ref a1), (.int (0 : Int32)), (.ref a1), (.ref a0)])) ?_ (fun tX kX => XS.aloadN X0.here hx rfl (hb hby d1_3) rfl rfl kX)
  obtain ⟨cl1, Ar1, qa1, S1, N1', H1, G1⟩ := id V_a1
  refine OGo.go (B := s₁.setTop (mkF m 5 #[.val (.ref a0), .val (.ref a1)] [(.int (2 : Int32)), (.int (0 : Int32)), (.ref a1), (.ref a0)])) ?_ (fun tX kX => X0.arraylength hx (by rw [e0]; exact Ar1.1) (State.isArrayOf_alike hZ.alike Ar1.2.1) (g := (mkF m 4 #[.val (.ref a0), .val (.ref a1)] [(.ref a1), (.int (0 : Int32)), (.ref a1), (.ref a0)])) rfl rfl (hb hby d1_4) _ (by rw [len_of S1 N1']; exact kX))
  refine OGo.go (B := s₁.setTop (mkF m 6 #[.val (.ref a0), .val (.ref a1)] [.null, (.int (2 : Int32)), (.int (0 : Int32)), (.ref a1), (.ref a0)])) ?_ (fun tX kX => XS.aconstNull X0.here hx rfl (hb hby d1_5) kX)
  obtain ⟨_, _, ⟨T2, L2, k2, n2⟩, -, X2, ⟨Lc2, hQ2, l2, y2, z2⟩, st2⟩ := X0.specialBack hx (y := (⟨"java/lang/String", "<init>", "([CIILjava/lang/Void;)V"⟩ : MethodName)) rfl hown (mvT hZ (hw _ (List.mem_of_getElem? (i := 7) rfl))) (mvT hZ (hw _ (List.mem_of_getElem? (i := 8) rfl))) (mvT hZ (hw _ (List.mem_of_getElem? (i := 10) rfl))) (by decide) (backOf (W := 0) (rm2c2 l Z aV hw [] a0 a1 u1 u2 kc cs ch0 ch1 h0 n0 Z0 E_a0 F_value_a0 F_coder_a0 V_a1 S_COMPACT_STRINGS ga nac hcs le0 le1) hZ (hw _ (List.mem_of_getElem? (i := 10) rfl)) (hw _ (List.mem_of_getElem? (i := 3) rfl)) (by decide) (by decide)) (g := (mkF m 6 #[.val (.ref a0), .val (.ref a1)] [.null, (.int (2 : Int32)), (.int (0 : Int32)), (.ref a1), (.ref a0)])) rfl (by rw [hml]; rfl) (Steps.refl _) (a := a0) (argsL := [(.ref a1), (.int (0 : Int32)), (.int (2 : Int32)), .null]) (rest := []) (lenOf pd___CIILjava_lang_Void__V rfl) rfl (by show 2 * 0 + _ ≤ _; exact Nat.le_of_eq rfl) (hb hby d1_6) (fun _ _ => ⟨rfl, e0, (by decide : 0 + 1 ≤ _), (by decide : 0 + 2 ≤ _)⟩)
  dsimp only [Pt.U, Pt.locs, Pt.cells, Pt.slots] at X2 l2 y2 z2 st2 hQ2
  subst l2 y2 z2
  obtain ⟨rfl, N2q, Kq2, E_a0_p⟩ := hQ2
  have N2 := Fr.app N0 N2q
  have S_COMPACT_STRINGS := Sta.keepE S_COMPACT_STRINGS Kq2 (staS E_a0.cell (fun x hx' => nomatch hx'))
  have E_a0 := E_a0.keep Kq2
  have V_a1 := V_a1.keep Kq2 (ninS nac nin0)
  have K2 := K0.trans Kq2 (allS (P := fun x => x ∈ [a0] ∨ h0.size ≤ x) (Or.inl (List.mem_of_getElem? (i := 0) rfl)) all0)
  have zn2 : n0 ≤ T2.heap.size := Nat.le_trans Z0 Kq2.1
  have E_a0 := E_a0_p
  refine OGo.go (B := T2.setTop (mkF m 9 #[.val (.ref a0), .val (.ref a1)] [])) ?_ (fun tX kX => st2.trans kX)
  refine OGo.ret X2 (v := none) (fun _ => rfl) (BodyLoose.notSynchronized Bd) (fun fs hr => X2.returnOut hx Bd.returns (hb hby d1_9) hr) (Q := Q1c2 Z a0 a1 u1 u2 kc cs ch0 ch1 h0 n0) ?_ (by decide) (by decide)
  show Q1c2 Z a0 a1 u1 u2 kc cs ch0 ch1 h0 n0 _ T2.heap _
  exact ⟨rfl, N2, K2, E_a0⟩
def Q14c3 (Z : State) (a0 : Addr) (a2 : Addr) (kc : ClassId) (kb : ClassId) (ch0 : Int32) (ch1 : Int32) (ch2 : Int32) (h0 : Heap) (n0 : Nat) (v : Option Value) (h : Heap) (L : List Loc) : Prop := v = some (.int (3 : Int32)) ∧ Fr n0 L ∧ Keep h0 h [a2] ∧ Exa Z h a2 "[B" ∧ Arv Z h a2 kb .byte (3 : Int32) [(.int ((ch0.toInt8.toInt32).toInt8.toInt32)), (.int ((ch1.toInt8.toInt32).toInt8.toInt32)), (.int ((ch2.toInt8.toInt32).toInt8.toInt32))] (.int (0 : Int32))
def P14c3 (Z : State) (a0 : Addr) (a2 : Addr) (kc : ClassId) (kb : ClassId) (ch0 : Int32) (ch1 : Int32) (ch2 : Int32) (h0 : Heap) (n0 : Nat) (s : State) (o : Outcome) (U' : State) : Prop := ∃ v L, o = .returned v ∧ Q14c3 Z a0 a2 kc kb ch0 ch1 ch2 h0 n0 v U'.heap L ∧ FrameEnd s o U' L ({ frames := 0, cells := 0, slots := 0, locals := 0 } : Room).cells ({ frames := 0, cells := 0, slots := 0, locals := 0 } : Room).slots
set_option maxRecDepth 65536 in
set_option maxHeartbeats 40000000 in
theorem rm14c3 (l : Launch) (Z : State) (aV : Array Value) (hw : ∀ d ∈ tables_1, d.before aV Z = true) (ws : List Jvm.Cond) (a0 : Addr) (a2 : Addr) (kc : ClassId) (kb : ClassId) (ch0 : Int32) (ch1 : Int32) (ch2 : Int32) (h0 : Heap) (n0 : Nat) (Z0 : n0 ≤ h0.size) (V_a0 : Arv Z h0 a0 kc .char (3 : Int32) [(.int ch0), (.int ch1), (.int ch2)] (.int (0 : Int32))) (E_a2 : Exa Z h0 a2 "[B") (V_a2 : Arv Z h0 a2 kb .byte (3 : Int32) [(.int (0 : Int32)), (.int (0 : Int32)), (.int (0 : Int32))] (.int (0 : Int32))) (ga : n0 ≤ a2) (nab : a0 ≠ a2) (le0 : ¬ (255 : Int32) < ch0) (le1 : ¬ (255 : Int32) < ch1) (le2 : ¬ (255 : Int32) < ch2) :
    MetFree l (⟨"java/lang/StringUTF16", "compress", "([CI[BII)I"⟩ : MethodName) (head1 (Jvm.Cond.code (⟨"java/lang/StringUTF16", "compress", "([CI[BII)I"⟩ : MethodName) jdk_52_method_21_code 7 (some .int) :: ws) ({ frames := 0, cells := 0, slots := 0, locals := 0 } : Room)) (fun a U => a = #[(.ref a0), (.int (0 : Int32)), (.ref a2), (.int (0 : Int32)), (.int (3 : Int32))] ∧ Z.Warmed39 U.vm ∧ U.heap = h0) (fun _ _ _ _ _ => True) (fun _ U o U' => ∃ v L, o = .returned v ∧ Q14c3 Z a0 a2 kc kb ch0 ch1 ch2 h0 n0 v U'.heap L ∧ FrameEnd U o U' L ({ frames := 0, cells := 0, slots := 0, locals := 0 } : Room).cells ({ frames := 0, cells := 0, slots := 0, locals := 0 } : Room).slots) := by
  refine MetFree.of_bodySF (plainFor_of_name pn_java_lang_StringUTF16) hisR ?_
  intro p e s m args below meth c s₁ Bd hml0 hP hK
  obtain ⟨rfl, hZ, hh⟩ := hP
  have hx := Bd.exec
  have hby := Bd.bytes
  have hml : c.maxLocals = 7 := hml0
  have hown : s.vm.findClass "java/lang/StringUTF16" = some m.cls := findClass_of_methodNamed Bd.named
  have hnm := (name_of_methodNamed Bd.named Bd.method).1
  have X0 : Stand p l e ({ frames := 0, cells := 0, slots := 0, locals := 0 } : Room) s m #[(.ref a0), (.int (0 : Int32)), (.ref a2), (.int (0 : Int32)), (.int (3 : Int32))] below meth c s₁ [] 0 0 := Stand.of_body Bd
  have e0 : s₁.heap = h0 := by rw [← hh, Bd.state]; rfl
  have efx : entryFrame m #[(.ref a0), (.int (0 : Int32)), (.ref a2), (.int (0 : Int32)), (.int (3 : Int32))] 7 = mkF m 0 #[.val (.ref a0), .val (.int (0 : Int32)), .val (.ref a2), .val (.int (0 : Int32)), .val (.int (3 : Int32)), .unset, .unset] [] := by first | (simp [entryFrame, mkF, argsToLocals, Value.category]; done) | rfl
  have N0 := Fr.nil n0
  have K0 : Keep h0 h0 [a2] := Keep.refl h0 _
  refine OGo.start (g' := mkF m 0 #[.val (.ref a0), .val (.int (0 : Int32)), .val (.ref a2), .val (.int (0 : Int32)), .val (.int (3 : Int32)), .unset, .unset] []) (efx) ?_
  show OGo p.tables e below (P14c3 Z a0 a2 kc kb ch0 ch1 ch2 h0 n0 s) (s₁.setTop (mkF m 0 #[.val (.ref a0), .val (.int (0 : Int32)), .val (.ref a2), .val (.int (0 : Int32)), .val (.int (3 : Int32)), .unset, .unset] []))
  refine OGo.go (B := s₁.setTop (mkF m 1 #[.val (.ref a0), .val (.int (0 : Int32)), .val (.ref a2), .val (.int (0 : Int32)), .val (.int (3 : Int32)), .unset, .unset] [(.int (0 : Int32))])) ?_ (fun tX kX => XS.iconst X0.here hx rfl (hb hby d14_0) kX)
  refine OGo.go (B := s₁.setTop (mkF m 3 #[.val (.ref a0), .val (.int (0 : Int32)), .val (.ref a2), .val (.int (0 : Int32)), .val (.int (3 : Int32)), .val (.int (0 : Int32)), .unset] [])) ?_ (fun tX kX => XS.istore X0.here hx rfl (hb hby d14_1) rfl (l' := #[.val (.ref a0), .val (.int (0 : Int32)), .val (.ref a2), .val (.int (0 : Int32)), .val (.int (3 : Int32)), .val (.int (0 : Int32)), .unset]) rfl kX)
  refine OGo.go (B := s₁.setTop (mkF m 5 #[.val (.ref a0), .val (.int (0 : Int32)), .val (.ref a2), .val (.int (0 : Int32)), .val (.int (3 : Int32)), .val (.int (0 : Int32)), .unset] [(.int (0 : Int32))])) ?_ (fun tX kX => XS.iload X0.here hx rfl (hb hby d14_3) rfl kX)
  refine OGo.go (B := s₁.setTop (mkF m 7 #[.val (.ref a0), .val (.int (0 : Int32)), .val (.ref a2), .val (.int (0 : Int32)), .val (.int (3 : Int32)), .val (.int (0 : Int32)), .unset] [(.int (3 : Int32)), (.int (0 : Int32))])) ?_ (fun tX kX => XS.iload X0.here hx rfl (hb hby d14_5) rfl kX)
  refine OGo.go (B := s₁.setTop (mkF m 10 #[.val (.ref a0), .val (.int (0 : Int32)), .val (.ref a2), .val (.int (0 : Int32)), .val (.int (3 : Int32)), .val (.int (0 : Int32)), .unset] [])) ?_ (fun tX kX => XS.icmpNo X0.here hx rfl (hb hby d14_7) rfl (tlt (by decide)).2.1 kX)
  refine OGo.go (B := s₁.setTop (mkF m 11 #[.val (.ref a0), .val (.int (0 : Int32)), .val (.ref a2), .val (.int (0 : Int32)), .val (.int (3 : Int32)), .val (.int (0 : Int32)), .unset] [(.ref a0)])) ?_ (fun tX kX => XS.aloadN X0.here hx rfl (hb hby d14_10) rfl rfl kX)
  refine OGo.go (B := s₁.setTop (mkF m 12 #[.val (.ref a0), .val (.int (0 : Int32)), .val (.ref a2), .val (.int (0 : Int32)), .val (.int (3 : Int32)), .val (.int (0 : Int32)), .unset] [(.int (0 : Int32)), (.ref a0)])) ?_ (fun tX kX => XS.iloadN X0.here hx rfl (hb hby d14_11) rfl kX)
  obtain ⟨cl1, Ar1, qa1, S1, N1', H1, G1⟩ := id V_a0
  have hin1 := inb_of (j := (0 : Int32)) S1 ⟨by decide, by decide⟩
  have hat1 := H1.at (v := (.int ch0)) hin1 rfl
  refine OGo.go (B := s₁.setTop (mkF m 13 #[.val (.ref a0), .val (.int (0 : Int32)), .val (.ref a2), .val (.int (0 : Int32)), .val (.int (3 : Int32)), .val (.int (0 : Int32)), .unset] [(.int ch0)])) ?_ (fun tX kX => X0.caload hx (j := (0 : Int32)) (v := (.int ch0)) (by rw [e0]; exact Ar1.1) (State.isArrayOf_alike hZ.alike Ar1.2.1) Ar1.2.2 hin1 hat1 (g := (mkF m 12 #[.val (.ref a0), .val (.int (0 : Int32)), .val (.ref a2), .val (.int (0 : Int32)), .val (.int (3 : Int32)), .val (.int (0 : Int32)), .unset] [(.int (0 : Int32)), (.ref a0)])) rfl rfl (hb hby d14_12) _ kX)
  refine OGo.go (B := s₁.setTop (mkF m 15 #[.val (.ref a0), .val (.int (0 : Int32)), .val (.ref a2), .val (.int (0 : Int32)), .val (.int (3 : Int32)), .val (.int (0 : Int32)), .val (.int ch0)] [])) ?_ (fun tX kX => XS.istore X0.here hx rfl (hb hby d14_13) rfl (l' := #[.val (.ref a0), .val (.int (0 : Int32)), .val (.ref a2), .val (.int (0 : Int32)), .val (.int (3 : Int32)), .val (.int (0 : Int32)), .val (.int ch0)]) rfl kX)
  refine OGo.go (B := s₁.setTop (mkF m 17 #[.val (.ref a0), .val (.int (0 : Int32)), .val (.ref a2), .val (.int (0 : Int32)), .val (.int (3 : Int32)), .val (.int (0 : Int32)), .val (.int ch0)] [(.int ch0)])) ?_ (fun tX kX => XS.iload X0.here hx rfl (hb hby d14_15) rfl kX)
  refine OGo.go (B := s₁.setTop (mkF m 20 #[.val (.ref a0), .val (.int (0 : Int32)), .val (.ref a2), .val (.int (0 : Int32)), .val (.int (3 : Int32)), .val (.int (0 : Int32)), .val (.int ch0)] [(.int (255 : Int32)), (.int ch0)])) ?_ (fun tX kX => XS.sipush X0.here hx rfl (hb hby d14_17) kX)
  refine OGo.go (B := s₁.setTop (mkF m 26 #[.val (.ref a0), .val (.int (0 : Int32)), .val (.ref a2), .val (.int (0 : Int32)), .val (.int (3 : Int32)), .val (.int (0 : Int32)), .val (.int ch0)] [])) ?_ (fun tX kX => XS.icmpYes X0.here hx rfl (pc0 := 20) (pc' := 26) rfl (hb hby d14_20) rfl (flt le0).2.2.2 (by decide) (by decide) kX)
  refine OGo.go (B := s₁.setTop (mkF m 27 #[.val (.ref a0), .val (.int (0 : Int32)), .val (.ref a2), .val (.int (0 : Int32)), .val (.int (3 : Int32)), .val (.int (0 : Int32)), .val (.int ch0)] [(.ref a2)])) ?_ (fun tX kX => XS.aloadN X0.here hx rfl (hb hby d14_26) rfl rfl kX)
  refine OGo.go (B := s₁.setTop (mkF m 28 #[.val (.ref a0), .val (.int (0 : Int32)), .val (.ref a2), .val (.int (0 : Int32)), .val (.int (3 : Int32)), .val (.int (0 : Int32)), .val (.int ch0)] [(.int (0 : Int32)), (.ref a2)])) ?_ (fun tX kX => XS.iloadN X0.here hx rfl (hb hby d14_27) rfl kX)
  refine OGo.go (B := s₁.setTop (mkF m 30 #[.val (.ref a0), .val (.int (0 : Int32)), .val (.ref a2), .val (.int (0 : Int32)), .val (.int (3 : Int32)), .val (.int (0 : Int32)), .val (.int ch0)] [(.int ch0), (.int (0 : Int32)), (.ref a2)])) ?_ (fun tX kX => XS.iload X0.here hx rfl (hb hby d14_28) rfl kX)
  refine OGo.go (B := s₁.setTop (mkF m 31 #[.val (.ref a0), .val (.int (0 : Int32)), .val (.ref a2), .val (.int (0 : Int32)), .val (.int (3 : Int32)), .val (.int (0 : Int32)), .val (.int ch0)] [(.int (ch0.toInt8.toInt32)), (.int (0 : Int32)), (.ref a2)])) ?_ (fun tX kX => XS.i2b X0.here hx rfl (hb hby d14_30) rfl kX)
  obtain ⟨cl2, Ar2, qa2, S2, N2', H2, G2⟩ := id V_a2
  have hin2 := inb_of (j := (0 : Int32)) S2 ⟨by decide, by decide⟩
  obtain ⟨T2, h2, X2, e2, W2, st2⟩ := stB X0 hx hZ e0 Ar2 (j := (0 : Int32)) hin2 (g := (mkF m 31 #[.val (.ref a0), .val (.int (0 : Int32)), .val (.ref a2), .val (.int (0 : Int32)), .val (.int (3 : Int32)), .val (.int (0 : Int32)), .val (.int ch0)] [(.int (ch0.toInt8.toInt32)), (.int (0 : Int32)), (.ref a2)])) rfl rfl (hb hby d14_31)
  have V_a2_2 := Arv.set Ar2 qa2 S2 N2' H2 G2 (fits_nar_byte _) W2 0 rfl (Nat.le_of_ble_eq_true rfl)
  have V_a0 := V_a0.other W2 nab
  have E_a2 := E_a2.wr W2
  have K2 := K0.wr W2 (Or.inl (List.mem_of_getElem? (i := 0) rfl))
  have zn2 : n0 ≤ h2.size := Nat.le_trans Z0 (Keep.of_wr W2).1
  have N2 := Fr.snoc X2 N0 ga
  have V_a2 : Arv Z h2 a2 kb .byte (3 : Int32) [(.int ((ch0.toInt8.toInt32).toInt8.toInt32)), (.int (0 : Int32)), (.int (0 : Int32))] (.int (0 : Int32)) := V_a2_2
  refine OGo.go (B := T2.setTop (mkF m 32 #[.val (.ref a0), .val (.int (0 : Int32)), .val (.ref a2), .val (.int (0 : Int32)), .val (.int (3 : Int32)), .val (.int (0 : Int32)), .val (.int ch0)] [])) ?_ st2
  refine OGo.go (B := T2.setTop (mkF m 35 #[.val (.ref a0), .val (.int (1 : Int32)), .val (.ref a2), .val (.int (0 : Int32)), .val (.int (3 : Int32)), .val (.int (0 : Int32)), .val (.int ch0)] [])) ?_ (fun tX kX => XS.iinc X2.here hx rfl (hb hby d14_32) rfl (l' := #[.val (.ref a0), .val (.int (1 : Int32)), .val (.ref a2), .val (.int (0 : Int32)), .val (.int (3 : Int32)), .val (.int (0 : Int32)), .val (.int ch0)]) rfl kX)
  refine OGo.go (B := T2.setTop (mkF m 38 #[.val (.ref a0), .val (.int (1 : Int32)), .val (.ref a2), .val (.int (1 : Int32)), .val (.int (3 : Int32)), .val (.int (0 : Int32)), .val (.int ch0)] [])) ?_ (fun tX kX => XS.iinc X2.here hx rfl (hb hby d14_35) rfl (l' := #[.val (.ref a0), .val (.int (1 : Int32)), .val (.ref a2), .val (.int (1 : Int32)), .val (.int (3 : Int32)), .val (.int (0 : Int32)), .val (.int ch0)]) rfl kX)
  refine OGo.go (B := T2.setTop (mkF m 41 #[.val (.ref a0), .val (.int (1 : Int32)), .val (.ref a2), .val (.int (1 : Int32)), .val (.int (3 : Int32)), .val (.int (1 : Int32)), .val (.int ch0)] [])) ?_ (fun tX kX => XS.iinc X2.here hx rfl (hb hby d14_38) rfl (l' := #[.val (.ref a0), .val (.int (1 : Int32)), .val (.ref a2), .val (.int (1 : Int32)), .val (.int (3 : Int32)), .val (.int (1 : Int32)), .val (.int ch0)]) rfl kX)
  refine OGo.go (B := T2.setTop (mkF m 3 #[.val (.ref a0), .val (.int (1 : Int32)), .val (.ref a2), .val (.int (1 : Int32)), .val (.int (3 : Int32)), .val (.int (1 : Int32)), .val (.int ch0)] [])) ?_ (fun tX kX => XS.goto X2.here hx rfl (pc0 := 41) (pc' := 3) rfl (hb hby d14_41) (by decide) (by decide) kX)
  refine OGo.go (B := T2.setTop (mkF m 5 #[.val (.ref a0), .val (.int (1 : Int32)), .val (.ref a2), .val (.int (1 : Int32)), .val (.int (3 : Int32)), .val (.int (1 : Int32)), .val (.int ch0)] [(.int (1 : Int32))])) ?_ (fun tX kX => XS.iload X2.here hx rfl (hb hby d14_3) rfl kX)
  refine OGo.go (B := T2.setTop (mkF m 7 #[.val (.ref a0), .val (.int (1 : Int32)), .val (.ref a2), .val (.int (1 : Int32)), .val (.int (3 : Int32)), .val (.int (1 : Int32)), .val (.int ch0)] [(.int (3 : Int32)), (.int (1 : Int32))])) ?_ (fun tX kX => XS.iload X2.here hx rfl (hb hby d14_5) rfl kX)
  refine OGo.go (B := T2.setTop (mkF m 10 #[.val (.ref a0), .val (.int (1 : Int32)), .val (.ref a2), .val (.int (1 : Int32)), .val (.int (3 : Int32)), .val (.int (1 : Int32)), .val (.int ch0)] [])) ?_ (fun tX kX => XS.icmpNo X2.here hx rfl (hb hby d14_7) rfl (tlt (by decide)).2.1 kX)
  refine OGo.go (B := T2.setTop (mkF m 11 #[.val (.ref a0), .val (.int (1 : Int32)), .val (.ref a2), .val (.int (1 : Int32)), .val (.int (3 : Int32)), .val (.int (1 : Int32)), .val (.int ch0)] [(.ref a0)])) ?_ (fun tX kX => XS.aloadN X2.here hx rfl (hb hby d14_10) rfl rfl kX)
  refine OGo.go (B := T2.setTop (mkF m 12 #[.val (.ref a0), .val (.int (1 : Int32)), .val (.ref a2), .val (.int (1 : Int32)), .val (.int (3 : Int32)), .val (.int (1 : Int32)), .val (.int ch0)] [(.int (1 : Int32)), (.ref a0)])) ?_ (fun tX kX => XS.iloadN X2.here hx rfl (hb hby d14_11) rfl kX)
  obtain ⟨cl3, Ar3, qa3, S3, N3', H3, G3⟩ := id V_a0
  have hin3 := inb_of (j := (1 : Int32)) S3 ⟨by decide, by decide⟩
  have hat3 := H3.at (v := (.int ch1)) hin3 rfl
  refine OGo.go (B := T2.setTop (mkF m 13 #[.val (.ref a0), .val (.int (1 : Int32)), .val (.ref a2), .val (.int (1 : Int32)), .val (.int (3 : Int32)), .val (.int (1 : Int32)), .val (.int ch0)] [(.int ch1)])) ?_ (fun tX kX => X2.caload hx (j := (1 : Int32)) (v := (.int ch1)) (by rw [e2]; exact Ar3.1) (State.isArrayOf_alike hZ.alike Ar3.2.1) Ar3.2.2 hin3 hat3 (g := (mkF m 12 #[.val (.ref a0), .val (.int (1 : Int32)), .val (.ref a2), .val (.int (1 : Int32)), .val (.int (3 : Int32)), .val (.int (1 : Int32)), .val (.int ch0)] [(.int (1 : Int32)), (.ref a0)])) rfl rfl (hb hby d14_12) _ kX)
  refine OGo.go (B := T2.setTop (mkF m 15 #[.val (.ref a0), .val (.int (1 : Int32)), .val (.ref a2), .val (.int (1 : Int32)), .val (.int (3 : Int32)), .val (.int (1 : Int32)), .val (.int ch1)] [])) ?_ (fun tX kX => XS.istore X2.here hx rfl (hb hby d14_13) rfl (l' := #[.val (.ref a0), .val (.int (1 : Int32)), .val (.ref a2), .val (.int (1 : Int32)), .val (.int (3 : Int32)), .val (.int (1 : Int32)), .val (.int ch1)]) rfl kX)
  refine OGo.go (B := T2.setTop (mkF m 17 #[.val (.ref a0), .val (.int (1 : Int32)), .val (.ref a2), .val (.int (1 : Int32)), .val (.int (3 : Int32)), .val (.int (1 : Int32)), .val (.int ch1)] [(.int ch1)])) ?_ (fun tX kX => XS.iload X2.here hx rfl (hb hby d14_15) rfl kX)
  refine OGo.go (B := T2.setTop (mkF m 20 #[.val (.ref a0), .val (.int (1 : Int32)), .val (.ref a2), .val (.int (1 : Int32)), .val (.int (3 : Int32)), .val (.int (1 : Int32)), .val (.int ch1)] [(.int (255 : Int32)), (.int ch1)])) ?_ (fun tX kX => XS.sipush X2.here hx rfl (hb hby d14_17) kX)
  refine OGo.go (B := T2.setTop (mkF m 26 #[.val (.ref a0), .val (.int (1 : Int32)), .val (.ref a2), .val (.int (1 : Int32)), .val (.int (3 : Int32)), .val (.int (1 : Int32)), .val (.int ch1)] [])) ?_ (fun tX kX => XS.icmpYes X2.here hx rfl (pc0 := 20) (pc' := 26) rfl (hb hby d14_20) rfl (flt le1).2.2.2 (by decide) (by decide) kX)
  refine OGo.go (B := T2.setTop (mkF m 27 #[.val (.ref a0), .val (.int (1 : Int32)), .val (.ref a2), .val (.int (1 : Int32)), .val (.int (3 : Int32)), .val (.int (1 : Int32)), .val (.int ch1)] [(.ref a2)])) ?_ (fun tX kX => XS.aloadN X2.here hx rfl (hb hby d14_26) rfl rfl kX)
  refine OGo.go (B := T2.setTop (mkF m 28 #[.val (.ref a0), .val (.int (1 : Int32)), .val (.ref a2), .val (.int (1 : Int32)), .val (.int (3 : Int32)), .val (.int (1 : Int32)), .val (.int ch1)] [(.int (1 : Int32)), (.ref a2)])) ?_ (fun tX kX => XS.iloadN X2.here hx rfl (hb hby d14_27) rfl kX)
  refine OGo.go (B := T2.setTop (mkF m 30 #[.val (.ref a0), .val (.int (1 : Int32)), .val (.ref a2), .val (.int (1 : Int32)), .val (.int (3 : Int32)), .val (.int (1 : Int32)), .val (.int ch1)] [(.int ch1), (.int (1 : Int32)), (.ref a2)])) ?_ (fun tX kX => XS.iload X2.here hx rfl (hb hby d14_28) rfl kX)
  refine OGo.go (B := T2.setTop (mkF m 31 #[.val (.ref a0), .val (.int (1 : Int32)), .val (.ref a2), .val (.int (1 : Int32)), .val (.int (3 : Int32)), .val (.int (1 : Int32)), .val (.int ch1)] [(.int (ch1.toInt8.toInt32)), (.int (1 : Int32)), (.ref a2)])) ?_ (fun tX kX => XS.i2b X2.here hx rfl (hb hby d14_30) rfl kX)
  obtain ⟨cl4, Ar4, qa4, S4, N4', H4, G4⟩ := id V_a2
  have hin4 := inb_of (j := (1 : Int32)) S4 ⟨by decide, by decide⟩
  obtain ⟨T4, h4, X4, e4, W4, st4⟩ := stB X2 hx hZ e2 Ar4 (j := (1 : Int32)) hin4 (g := (mkF m 31 #[.val (.ref a0), .val (.int (1 : Int32)), .val (.ref a2), .val (.int (1 : Int32)), .val (.int (3 : Int32)), .val (.int (1 : Int32)), .val (.int ch1)] [(.int (ch1.toInt8.toInt32)), (.int (1 : Int32)), (.ref a2)])) rfl rfl (hb hby d14_31)
  have V_a2_4 := Arv.set Ar4 qa4 S4 N4' H4 G4 (fits_nar_byte _) W4 1 rfl (Nat.le_of_ble_eq_true rfl)
  have V_a0 := V_a0.other W4 nab
  have E_a2 := E_a2.wr W4
  have K4 := K2.wr W4 (Or.inl (List.mem_of_getElem? (i := 0) rfl))
  have zn4 : n0 ≤ h4.size := Nat.le_trans zn2 (Keep.of_wr W4).1
  have N4 := Fr.snoc X4 N2 ga
  have V_a2 : Arv Z h4 a2 kb .byte (3 : Int32) [(.int ((ch0.toInt8.toInt32).toInt8.toInt32)), (.int ((ch1.toInt8.toInt32).toInt8.toInt32)), (.int (0 : Int32))] (.int (0 : Int32)) := V_a2_4
  refine OGo.go (B := T4.setTop (mkF m 32 #[.val (.ref a0), .val (.int (1 : Int32)), .val (.ref a2), .val (.int (1 : Int32)), .val (.int (3 : Int32)), .val (.int (1 : Int32)), .val (.int ch1)] [])) ?_ st4
  refine OGo.go (B := T4.setTop (mkF m 35 #[.val (.ref a0), .val (.int (2 : Int32)), .val (.ref a2), .val (.int (1 : Int32)), .val (.int (3 : Int32)), .val (.int (1 : Int32)), .val (.int ch1)] [])) ?_ (fun tX kX => XS.iinc X4.here hx rfl (hb hby d14_32) rfl (l' := #[.val (.ref a0), .val (.int (2 : Int32)), .val (.ref a2), .val (.int (1 : Int32)), .val (.int (3 : Int32)), .val (.int (1 : Int32)), .val (.int ch1)]) rfl kX)
  refine OGo.go (B := T4.setTop (mkF m 38 #[.val (.ref a0), .val (.int (2 : Int32)), .val (.ref a2), .val (.int (2 : Int32)), .val (.int (3 : Int32)), .val (.int (1 : Int32)), .val (.int ch1)] [])) ?_ (fun tX kX => XS.iinc X4.here hx rfl (hb hby d14_35) rfl (l' := #[.val (.ref a0), .val (.int (2 : Int32)), .val (.ref a2), .val (.int (2 : Int32)), .val (.int (3 : Int32)), .val (.int (1 : Int32)), .val (.int ch1)]) rfl kX)
  refine OGo.go (B := T4.setTop (mkF m 41 #[.val (.ref a0), .val (.int (2 : Int32)), .val (.ref a2), .val (.int (2 : Int32)), .val (.int (3 : Int32)), .val (.int (2 : Int32)), .val (.int ch1)] [])) ?_ (fun tX kX => XS.iinc X4.here hx rfl (hb hby d14_38) rfl (l' := #[.val (.ref a0), .val (.int (2 : Int32)), .val (.ref a2), .val (.int (2 : Int32)), .val (.int (3 : Int32)), .val (.int (2 : Int32)), .val (.int ch1)]) rfl kX)
  refine OGo.go (B := T4.setTop (mkF m 3 #[.val (.ref a0), .val (.int (2 : Int32)), .val (.ref a2), .val (.int (2 : Int32)), .val (.int (3 : Int32)), .val (.int (2 : Int32)), .val (.int ch1)] [])) ?_ (fun tX kX => XS.goto X4.here hx rfl (pc0 := 41) (pc' := 3) rfl (hb hby d14_41) (by decide) (by decide) kX)
  refine OGo.go (B := T4.setTop (mkF m 5 #[.val (.ref a0), .val (.int (2 : Int32)), .val (.ref a2), .val (.int (2 : Int32)), .val (.int (3 : Int32)), .val (.int (2 : Int32)), .val (.int ch1)] [(.int (2 : Int32))])) ?_ (fun tX kX => XS.iload X4.here hx rfl (hb hby d14_3) rfl kX)
  refine OGo.go (B := T4.setTop (mkF m 7 #[.val (.ref a0), .val (.int (2 : Int32)), .val (.ref a2), .val (.int (2 : Int32)), .val (.int (3 : Int32)), .val (.int (2 : Int32)), .val (.int ch1)] [(.int (3 : Int32)), (.int (2 : Int32))])) ?_ (fun tX kX => XS.iload X4.here hx rfl (hb hby d14_5) rfl kX)
  refine OGo.go (B := T4.setTop (mkF m 10 #[.val (.ref a0), .val (.int (2 : Int32)), .val (.ref a2), .val (.int (2 : Int32)), .val (.int (3 : Int32)), .val (.int (2 : Int32)), .val (.int ch1)] [])) ?_ (fun tX kX => XS.icmpNo X4.here hx rfl (hb hby d14_7) rfl (tlt (by decide)).2.1 kX)
  refine OGo.go (B := T4.setTop (mkF m 11 #[.val (.ref a0), .val (.int (2 : Int32)), .val (.ref a2), .val (.int (2 : Int32)), .val (.int (3 : Int32)), .val (.int (2 : Int32)), .val (.int ch1)] [(.ref a0)])) ?_ (fun tX kX => XS.aloadN X4.here hx rfl (hb hby d14_10) rfl rfl kX)
  refine OGo.go (B := T4.setTop (mkF m 12 #[.val (.ref a0), .val (.int (2 : Int32)), .val (.ref a2), .val (.int (2 : Int32)), .val (.int (3 : Int32)), .val (.int (2 : Int32)), .val (.int ch1)] [(.int (2 : Int32)), (.ref a0)])) ?_ (fun tX kX => XS.iloadN X4.here hx rfl (hb hby d14_11) rfl kX)
  obtain ⟨cl5, Ar5, qa5, S5, N5', H5, G5⟩ := id V_a0
  have hin5 := inb_of (j := (2 : Int32)) S5 ⟨by decide, by decide⟩
  have hat5 := H5.at (v := (.int ch2)) hin5 rfl
  refine OGo.go (B := T4.setTop (mkF m 13 #[.val (.ref a0), .val (.int (2 : Int32)), .val (.ref a2), .val (.int (2 : Int32)), .val (.int (3 : Int32)), .val (.int (2 : Int32)), .val (.int ch1)] [(.int ch2)])) ?_ (fun tX kX => X4.caload hx (j := (2 : Int32)) (v := (.int ch2)) (by rw [e4]; exact Ar5.1) (State.isArrayOf_alike hZ.alike Ar5.2.1) Ar5.2.2 hin5 hat5 (g := (mkF m 12 #[.val (.ref a0), .val (.int (2 : Int32)), .val (.ref a2), .val (.int (2 : Int32)), .val (.int (3 : Int32)), .val (.int (2 : Int32)), .val (.int ch1)] [(.int (2 : Int32)), (.ref a0)])) rfl rfl (hb hby d14_12) _ kX)
  refine OGo.go (B := T4.setTop (mkF m 15 #[.val (.ref a0), .val (.int (2 : Int32)), .val (.ref a2), .val (.int (2 : Int32)), .val (.int (3 : Int32)), .val (.int (2 : Int32)), .val (.int ch2)] [])) ?_ (fun tX kX => XS.istore X4.here hx rfl (hb hby d14_13) rfl (l' := #[.val (.ref a0), .val (.int (2 : Int32)), .val (.ref a2), .val (.int (2 : Int32)), .val (.int (3 : Int32)), .val (.int (2 : Int32)), .val (.int ch2)]) rfl kX)
  refine OGo.go (B := T4.setTop (mkF m 17 #[.val (.ref a0), .val (.int (2 : Int32)), .val (.ref a2), .val (.int (2 : Int32)), .val (.int (3 : Int32)), .val (.int (2 : Int32)), .val (.int ch2)] [(.int ch2)])) ?_ (fun tX kX => XS.iload X4.here hx rfl (hb hby d14_15) rfl kX)
  refine OGo.go (B := T4.setTop (mkF m 20 #[.val (.ref a0), .val (.int (2 : Int32)), .val (.ref a2), .val (.int (2 : Int32)), .val (.int (3 : Int32)), .val (.int (2 : Int32)), .val (.int ch2)] [(.int (255 : Int32)), (.int ch2)])) ?_ (fun tX kX => XS.sipush X4.here hx rfl (hb hby d14_17) kX)
  refine OGo.go (B := T4.setTop (mkF m 26 #[.val (.ref a0), .val (.int (2 : Int32)), .val (.ref a2), .val (.int (2 : Int32)), .val (.int (3 : Int32)), .val (.int (2 : Int32)), .val (.int ch2)] [])) ?_ (fun tX kX => XS.icmpYes X4.here hx rfl (pc0 := 20) (pc' := 26) rfl (hb hby d14_20) rfl (flt le2).2.2.2 (by decide) (by decide) kX)
  refine OGo.go (B := T4.setTop (mkF m 27 #[.val (.ref a0), .val (.int (2 : Int32)), .val (.ref a2), .val (.int (2 : Int32)), .val (.int (3 : Int32)), .val (.int (2 : Int32)), .val (.int ch2)] [(.ref a2)])) ?_ (fun tX kX => XS.aloadN X4.here hx rfl (hb hby d14_26) rfl rfl kX)
  refine OGo.go (B := T4.setTop (mkF m 28 #[.val (.ref a0), .val (.int (2 : Int32)), .val (.ref a2), .val (.int (2 : Int32)), .val (.int (3 : Int32)), .val (.int (2 : Int32)), .val (.int ch2)] [(.int (2 : Int32)), (.ref a2)])) ?_ (fun tX kX => XS.iloadN X4.here hx rfl (hb hby d14_27) rfl kX)
  refine OGo.go (B := T4.setTop (mkF m 30 #[.val (.ref a0), .val (.int (2 : Int32)), .val (.ref a2), .val (.int (2 : Int32)), .val (.int (3 : Int32)), .val (.int (2 : Int32)), .val (.int ch2)] [(.int ch2), (.int (2 : Int32)), (.ref a2)])) ?_ (fun tX kX => XS.iload X4.here hx rfl (hb hby d14_28) rfl kX)
  refine OGo.go (B := T4.setTop (mkF m 31 #[.val (.ref a0), .val (.int (2 : Int32)), .val (.ref a2), .val (.int (2 : Int32)), .val (.int (3 : Int32)), .val (.int (2 : Int32)), .val (.int ch2)] [(.int (ch2.toInt8.toInt32)), (.int (2 : Int32)), (.ref a2)])) ?_ (fun tX kX => XS.i2b X4.here hx rfl (hb hby d14_30) rfl kX)
  obtain ⟨cl6, Ar6, qa6, S6, N6', H6, G6⟩ := id V_a2
  have hin6 := inb_of (j := (2 : Int32)) S6 ⟨by decide, by decide⟩
  obtain ⟨T6, h6, X6, e6, W6, st6⟩ := stB X4 hx hZ e4 Ar6 (j := (2 : Int32)) hin6 (g := (mkF m 31 #[.val (.ref a0), .val (.int (2 : Int32)), .val (.ref a2), .val (.int (2 : Int32)), .val (.int (3 : Int32)), .val (.int (2 : Int32)), .val (.int ch2)] [(.int (ch2.toInt8.toInt32)), (.int (2 : Int32)), (.ref a2)])) rfl rfl (hb hby d14_31)
  have V_a2_6 := Arv.set Ar6 qa6 S6 N6' H6 G6 (fits_nar_byte _) W6 2 rfl (Nat.le_of_ble_eq_true rfl)
  have V_a0 := V_a0.other W6 nab
  have E_a2 := E_a2.wr W6
  have K6 := K4.wr W6 (Or.inl (List.mem_of_getElem? (i := 0) rfl))
  have zn6 : n0 ≤ h6.size := Nat.le_trans zn4 (Keep.of_wr W6).1
  have N6 := Fr.snoc X6 N4 ga
  have V_a2 : Arv Z h6 a2 kb .byte (3 : Int32) [(.int ((ch0.toInt8.toInt32).toInt8.toInt32)), (.int ((ch1.toInt8.toInt32).toInt8.toInt32)), (.int ((ch2.toInt8.toInt32).toInt8.toInt32))] (.int (0 : Int32)) := V_a2_6
  refine OGo.go (B := T6.setTop (mkF m 32 #[.val (.ref a0), .val (.int (2 : Int32)), .val (.ref a2), .val (.int (2 : Int32)), .val (.int (3 : Int32)), .val (.int (2 : Int32)), .val (.int ch2)] [])) ?_ st6
  refine OGo.go (B := T6.setTop (mkF m 35 #[.val (.ref a0), .val (.int (3 : Int32)), .val (.ref a2), .val (.int (2 : Int32)), .val (.int (3 : Int32)), .val (.int (2 : Int32)), .val (.int ch2)] [])) ?_ (fun tX kX => XS.iinc X6.here hx rfl (hb hby d14_32) rfl (l' := #[.val (.ref a0), .val (.int (3 : Int32)), .val (.ref a2), .val (.int (2 : Int32)), .val (.int (3 : Int32)), .val (.int (2 : Int32)), .val (.int ch2)]) rfl kX)
  refine OGo.go (B := T6.setTop (mkF m 38 #[.val (.ref a0), .val (.int (3 : Int32)), .val (.ref a2), .val (.int (3 : Int32)), .val (.int (3 : Int32)), .val (.int (2 : Int32)), .val (.int ch2)] [])) ?_ (fun tX kX => XS.iinc X6.here hx rfl (hb hby d14_35) rfl (l' := #[.val (.ref a0), .val (.int (3 : Int32)), .val (.ref a2), .val (.int (3 : Int32)), .val (.int (3 : Int32)), .val (.int (2 : Int32)), .val (.int ch2)]) rfl kX)
  refine OGo.go (B := T6.setTop (mkF m 41 #[.val (.ref a0), .val (.int (3 : Int32)), .val (.ref a2), .val (.int (3 : Int32)), .val (.int (3 : Int32)), .val (.int (3 : Int32)), .val (.int ch2)] [])) ?_ (fun tX kX => XS.iinc X6.here hx rfl (hb hby d14_38) rfl (l' := #[.val (.ref a0), .val (.int (3 : Int32)), .val (.ref a2), .val (.int (3 : Int32)), .val (.int (3 : Int32)), .val (.int (3 : Int32)), .val (.int ch2)]) rfl kX)
  refine OGo.go (B := T6.setTop (mkF m 3 #[.val (.ref a0), .val (.int (3 : Int32)), .val (.ref a2), .val (.int (3 : Int32)), .val (.int (3 : Int32)), .val (.int (3 : Int32)), .val (.int ch2)] [])) ?_ (fun tX kX => XS.goto X6.here hx rfl (pc0 := 41) (pc' := 3) rfl (hb hby d14_41) (by decide) (by decide) kX)
  refine OGo.go (B := T6.setTop (mkF m 5 #[.val (.ref a0), .val (.int (3 : Int32)), .val (.ref a2), .val (.int (3 : Int32)), .val (.int (3 : Int32)), .val (.int (3 : Int32)), .val (.int ch2)] [(.int (3 : Int32))])) ?_ (fun tX kX => XS.iload X6.here hx rfl (hb hby d14_3) rfl kX)
  refine OGo.go (B := T6.setTop (mkF m 7 #[.val (.ref a0), .val (.int (3 : Int32)), .val (.ref a2), .val (.int (3 : Int32)), .val (.int (3 : Int32)), .val (.int (3 : Int32)), .val (.int ch2)] [(.int (3 : Int32)), (.int (3 : Int32))])) ?_ (fun tX kX => XS.iload X6.here hx rfl (hb hby d14_5) rfl kX)
  refine OGo.go (B := T6.setTop (mkF m 44 #[.val (.ref a0), .val (.int (3 : Int32)), .val (.ref a2), .val (.int (3 : Int32)), .val (.int (3 : Int32)), .val (.int (3 : Int32)), .val (.int ch2)] [])) ?_ (fun tX kX => XS.icmpYes X6.here hx rfl (pc0 := 7) (pc' := 44) rfl (hb hby d14_7) rfl (flt (by decide)).2.1 (by decide) (by decide) kX)
  refine OGo.go (B := T6.setTop (mkF m 46 #[.val (.ref a0), .val (.int (3 : Int32)), .val (.ref a2), .val (.int (3 : Int32)), .val (.int (3 : Int32)), .val (.int (3 : Int32)), .val (.int ch2)] [(.int (3 : Int32))])) ?_ (fun tX kX => XS.iload X6.here hx rfl (hb hby d14_44) rfl kX)
  refine OGo.ret X6 (v := (some (.int (3 : Int32)))) (fun h => by rw [Bd.returns] at h; cases h) (BodyLoose.notSynchronized Bd) (fun fs hr => retOut X6 hx Bd.returns rfl (Or.inl ⟨rfl, Or.inl rfl, _, rfl⟩) (hb hby d14_46) hr) (Q := Q14c3 Z a0 a2 kc kb ch0 ch1 ch2 h0 n0) ?_ (by decide) (by decide)
  show Q14c3 Z a0 a2 kc kb ch0 ch1 ch2 h0 n0 _ T6.heap _
  rw [e6]
  exact ⟨rfl, N6, K6, E_a2, V_a2⟩
def Q13c3 (Z : State) (a0 : Addr) (kc : ClassId) (ch0 : Int32) (ch1 : Int32) (ch2 : Int32) (h0 : Heap) (n0 : Nat) (v : Option Value) (h : Heap) (L : List Loc) : Prop := ∃ (nb : Addr) (kb : ClassId), v = some (.ref nb) ∧ Fr n0 L ∧ Keep h0 h [] ∧ h0.size ≤ nb ∧ Exa Z h nb "[B" ∧ Arv Z h nb kb .byte (3 : Int32) [(.int ((ch0.toInt8.toInt32).toInt8.toInt32)), (.int ((ch1.toInt8.toInt32).toInt8.toInt32)), (.int ((ch2.toInt8.toInt32).toInt8.toInt32))] (.int (0 : Int32))
def P13c3 (Z : State) (a0 : Addr) (kc : ClassId) (ch0 : Int32) (ch1 : Int32) (ch2 : Int32) (h0 : Heap) (n0 : Nat) (s : State) (o : Outcome) (U' : State) : Prop := ∃ v L, o = .returned v ∧ Q13c3 Z a0 kc ch0 ch1 ch2 h0 n0 v U'.heap L ∧ FrameEnd s o U' L ({ frames := 1, cells := 1, slots := 3, locals := 18 } : Room).cells ({ frames := 1, cells := 1, slots := 3, locals := 18 } : Room).slots
set_option maxRecDepth 65536 in
set_option maxHeartbeats 40000000 in
theorem rm13c3 (l : Launch) (Z : State) (aV : Array Value) (hw : ∀ d ∈ tables_1, d.before aV Z = true) (ws : List Jvm.Cond) (a0 : Addr) (kc : ClassId) (ch0 : Int32) (ch1 : Int32) (ch2 : Int32) (h0 : Heap) (n0 : Nat) (Z0 : n0 ≤ h0.size) (V_a0 : Arv Z h0 a0 kc .char (3 : Int32) [(.int ch0), (.int ch1), (.int ch2)] (.int (0 : Int32))) (le0 : ¬ (255 : Int32) < ch0) (le1 : ¬ (255 : Int32) < ch1) (le2 : ¬ (255 : Int32) < ch2) :
    MetFree l (⟨"java/lang/StringUTF16", "compress", "([CII)[B"⟩ : MethodName) (head1 (Jvm.Cond.code (⟨"java/lang/StringUTF16", "compress", "([CII)[B"⟩ : MethodName) jdk_52_method_16_code 6 (some (.array .byte)) :: ws) ({ frames := 1, cells := 1, slots := 3, locals := 18 } : Room)) (fun a U => a = #[(.ref a0), (.int (0 : Int32)), (.int (3 : Int32))] ∧ Z.Warmed39 U.vm ∧ U.heap = h0) (fun _ _ _ _ _ => True) (fun _ U o U' => ∃ v L, o = .returned v ∧ Q13c3 Z a0 kc ch0 ch1 ch2 h0 n0 v U'.heap L ∧ FrameEnd U o U' L ({ frames := 1, cells := 1, slots := 3, locals := 18 } : Room).cells ({ frames := 1, cells := 1, slots := 3, locals := 18 } : Room).slots) := by
  refine MetFree.of_bodySF (plainFor_of_name pn_java_lang_StringUTF16) hisR ?_
  intro p e s m args below meth c s₁ Bd hml0 hP hK
  obtain ⟨rfl, hZ, hh⟩ := hP
  have hx := Bd.exec
  have hby := Bd.bytes
  have hml : c.maxLocals = 6 := hml0
  have hown : s.vm.findClass "java/lang/StringUTF16" = some m.cls := findClass_of_methodNamed Bd.named
  have hnm := (name_of_methodNamed Bd.named Bd.method).1
  have X0 : Stand p l e ({ frames := 1, cells := 1, slots := 3, locals := 18 } : Room) s m #[(.ref a0), (.int (0 : Int32)), (.int (3 : Int32))] below meth c s₁ [] 0 0 := Stand.of_body Bd
  have e0 : s₁.heap = h0 := by rw [← hh, Bd.state]; rfl
  have efx : entryFrame m #[(.ref a0), (.int (0 : Int32)), (.int (3 : Int32))] 6 = mkF m 0 #[.val (.ref a0), .val (.int (0 : Int32)), .val (.int (3 : Int32)), .unset, .unset, .unset] [] := by first | (simp [entryFrame, mkF, argsToLocals, Value.category]; done) | rfl
  have N0 := Fr.nil n0
  have K0 : Keep h0 h0 [] := Keep.refl h0 _
  refine OGo.start (g' := mkF m 0 #[.val (.ref a0), .val (.int (0 : Int32)), .val (.int (3 : Int32)), .unset, .unset, .unset] []) (efx) ?_
  show OGo p.tables e below (P13c3 Z a0 kc ch0 ch1 ch2 h0 n0 s) (s₁.setTop (mkF m 0 #[.val (.ref a0), .val (.int (0 : Int32)), .val (.int (3 : Int32)), .unset, .unset, .unset] []))
  refine OGo.go (B := s₁.setTop (mkF m 1 #[.val (.ref a0), .val (.int (0 : Int32)), .val (.int (3 : Int32)), .unset, .unset, .unset] [(.int (3 : Int32))])) ?_ (fun tX kX => XS.iloadN X0.here hx rfl (hb hby d13_0) rfl kX)
  obtain ⟨T1, h1, k1, X1, e1, E1, A1, EA1, st1⟩ := newPE X0 hx hZ (hw _ (List.mem_of_getElem? (i := 15) rfl)) e0 (g := (mkF m 1 #[.val (.ref a0), .val (.int (0 : Int32)), .val (.int (3 : Int32)), .unset, .unset, .unset] [(.int (3 : Int32))])) rfl (hb hby d13_1) rfl (by decide) (cap := 3) (by decide) (by decide) (by decide) (by decide) (ad := "[B") (by decide)
  obtain ⟨b1, g1⟩ : ∃ z, z = h0.size := ⟨_, rfl⟩
  rw [← g1] at A1 EA1 st1
  have ne_a0_b1 : a0 ≠ b1 := Nat.ne_of_lt (Nat.lt_of_lt_of_le V_a0.lt (Nat.le_of_eq g1.symm))
  have V_a0 := V_a0.ext E1
  have g_b1 : n0 ≤ b1 := Nat.le_trans Z0 (Nat.le_of_eq g1.symm)
  have sz_b1 : h0.size ≤ b1 := Nat.le_trans K0.1 (Nat.le_of_eq g1.symm)
  have zn1 : n0 ≤ h1.size := Nat.le_trans Z0 E1.1
  have K1 := K0.ext E1
  have E_b1 := EA1
  have V_b1 : Arv Z h1 b1 k1 .byte (3 : Int32) [(.int (0 : Int32)), (.int (0 : Int32)), (.int (0 : Int32))] (.int (0 : Int32)) := (Arv.new A1 (by decide)).pad (pad_rep [] (.int (0 : Int32)) 3)
  refine OGo.go (B := T1.setTop (mkF m 3 #[.val (.ref a0), .val (.int (0 : Int32)), .val (.int (3 : Int32)), .unset, .unset, .unset] [(.ref b1)])) ?_ st1
  refine OGo.go (B := T1.setTop (mkF m 4 #[.val (.ref a0), .val (.int (0 : Int32)), .val (.int (3 : Int32)), .val (.ref b1), .unset, .unset] [])) ?_ (fun tX kX => XS.astoreN X1.here hx rfl (hb hby d13_3) rfl rfl (l' := #[.val (.ref a0), .val (.int (0 : Int32)), .val (.int (3 : Int32)), .val (.ref b1), .unset, .unset]) rfl kX)
  refine OGo.go (B := T1.setTop (mkF m 5 #[.val (.ref a0), .val (.int (0 : Int32)), .val (.int (3 : Int32)), .val (.ref b1), .unset, .unset] [(.ref a0)])) ?_ (fun tX kX => XS.aloadN X1.here hx rfl (hb hby d13_4) rfl rfl kX)
  refine OGo.go (B := T1.setTop (mkF m 6 #[.val (.ref a0), .val (.int (0 : Int32)), .val (.int (3 : Int32)), .val (.ref b1), .unset, .unset] [(.int (0 : Int32)), (.ref a0)])) ?_ (fun tX kX => XS.iloadN X1.here hx rfl (hb hby d13_5) rfl kX)
  refine OGo.go (B := T1.setTop (mkF m 7 #[.val (.ref a0), .val (.int (0 : Int32)), .val (.int (3 : Int32)), .val (.ref b1), .unset, .unset] [(.ref b1), (.int (0 : Int32)), (.ref a0)])) ?_ (fun tX kX => XS.aloadN X1.here hx rfl (hb hby d13_6) rfl rfl kX)
  refine OGo.go (B := T1.setTop (mkF m 8 #[.val (.ref a0), .val (.int (0 : Int32)), .val (.int (3 : Int32)), .val (.ref b1), .unset, .unset] [(.int (0 : Int32)), (.ref b1), (.int (0 : Int32)), (.ref a0)])) ?_ (fun tX kX => XS.iconst X1.here hx rfl (hb hby d13_7) kX)
  refine OGo.go (B := T1.setTop (mkF m 9 #[.val (.ref a0), .val (.int (0 : Int32)), .val (.int (3 : Int32)), .val (.ref b1), .unset, .unset] [(.int (3 : Int32)), (.int (0 : Int32)), (.ref b1), (.int (0 : Int32)), (.ref a0)])) ?_ (fun tX kX => XS.iloadN X1.here hx rfl (hb hby d13_8) rfl kX)
  obtain ⟨_, _, ⟨T2, L2, k2, n2⟩, -, X2, ⟨Lc2, hQ2, l2, y2, z2⟩, st2⟩ := Jvm.LawKit.callS X1 hx (y := (⟨"java/lang/StringUTF16", "compress", "([CI[BII)I"⟩ : MethodName)) hown (mvT hZ (hw _ (List.mem_of_getElem? (i := 106) rfl))) (mvT hZ (hw _ (List.mem_of_getElem? (i := 107) rfl))) (mvT hZ (hw _ (List.mem_of_getElem? (i := 104) rfl))) (mvT hZ (hw _ (List.mem_of_getElem? (i := 108) rfl))) (by decide) (backOf (W := 0) (rm14c3 l Z aV hw [] a0 b1 kc k1 ch0 ch1 ch2 h1 n0 zn1 V_a0 E_b1 V_b1 g_b1 ne_a0_b1 le0 le1 le2) hZ (hw _ (List.mem_of_getElem? (i := 108) rfl)) (hw _ (List.mem_of_getElem? (i := 104) rfl)) (by decide) (by decide)) (g := (mkF m 9 #[.val (.ref a0), .val (.int (0 : Int32)), .val (.int (3 : Int32)), .val (.ref b1), .unset, .unset] [(.int (3 : Int32)), (.int (0 : Int32)), (.ref b1), (.int (0 : Int32)), (.ref a0)])) rfl (by rw [hml]; rfl) (argsL := [(.ref a0), (.int (0 : Int32)), (.ref b1), (.int (0 : Int32)), (.int (3 : Int32))]) (rest := []) (lenOf pd___CI_BII_I rfl) rfl (by show 2 * 0 + _ ≤ _; exact Nat.le_of_eq rfl) (hb hby d13_9) (fun _ _ => ⟨rfl, e1, (by decide : 1 + 0 ≤ _), (by decide : 3 + 0 ≤ _)⟩)
  dsimp only [Pt.U, Pt.locs, Pt.cells, Pt.slots] at X2 l2 y2 z2 st2 hQ2
  subst l2 y2 z2
  obtain ⟨rfl, N2q, Kq2, E_b1_p, V_b1_p⟩ := hQ2
  have N2 := Fr.app N0 N2q
  have V_a0 := V_a0.keep Kq2 (ninS ne_a0_b1 nin0)
  have E_b1 := E_b1.keep Kq2
  have K2 := K1.trans Kq2 (allS (P := fun x => x ∈ ([] : List Addr) ∨ h0.size ≤ x) (Or.inr sz_b1) all0)
  have zn2 : n0 ≤ T2.heap.size := Nat.le_trans zn1 Kq2.1
  have E_b1 := E_b1_p
  have V_b1 := V_b1_p
  refine OGo.go (B := T2.setTop (mkF m 12 #[.val (.ref a0), .val (.int (0 : Int32)), .val (.int (3 : Int32)), .val (.ref b1), .unset, .unset] [(.int (3 : Int32))])) ?_ st2
  refine OGo.go (B := T2.setTop (mkF m 14 #[.val (.ref a0), .val (.int (0 : Int32)), .val (.int (3 : Int32)), .val (.ref b1), .val (.int (3 : Int32)), .unset] [])) ?_ (fun tX kX => XS.istore X2.here hx rfl (hb hby d13_12) rfl (l' := #[.val (.ref a0), .val (.int (0 : Int32)), .val (.int (3 : Int32)), .val (.ref b1), .val (.int (3 : Int32)), .unset]) rfl kX)
  refine OGo.go (B := T2.setTop (mkF m 16 #[.val (.ref a0), .val (.int (0 : Int32)), .val (.int (3 : Int32)), .val (.ref b1), .val (.int (3 : Int32)), .unset] [(.int (3 : Int32))])) ?_ (fun tX kX => XS.iload X2.here hx rfl (hb hby d13_14) rfl kX)
  refine OGo.go (B := T2.setTop (mkF m 17 #[.val (.ref a0), .val (.int (0 : Int32)), .val (.int (3 : Int32)), .val (.ref b1), .val (.int (3 : Int32)), .unset] [(.int (3 : Int32)), (.int (3 : Int32))])) ?_ (fun tX kX => XS.iloadN X2.here hx rfl (hb hby d13_16) rfl kX)
  refine OGo.go (B := T2.setTop (mkF m 57 #[.val (.ref a0), .val (.int (0 : Int32)), .val (.int (3 : Int32)), .val (.ref b1), .val (.int (3 : Int32)), .unset] [])) ?_ (fun tX kX => XS.icmpYes X2.here hx rfl (pc0 := 17) (pc' := 57) rfl (hb hby d13_17) rfl (teq (by decide)).1 (by decide) (by decide) kX)
  refine OGo.go (B := T2.setTop (mkF m 58 #[.val (.ref a0), .val (.int (0 : Int32)), .val (.int (3 : Int32)), .val (.ref b1), .val (.int (3 : Int32)), .unset] [(.ref b1)])) ?_ (fun tX kX => XS.aloadN X2.here hx rfl (hb hby d13_57) rfl rfl kX)
  refine OGo.ret X2 (v := (some (.ref b1))) (fun h => by rw [Bd.returns] at h; cases h) (BodyLoose.notSynchronized Bd) (fun fs hr => retOut X2 hx Bd.returns rfl (Or.inr (Or.inr (Or.inr (Or.inr ⟨rfl, rfl, rfl⟩)))) (hb hby d13_58) hr) (Q := Q13c3 Z a0 kc ch0 ch1 ch2 h0 n0) ?_ (by decide) (by decide)
  show Q13c3 Z a0 kc ch0 ch1 ch2 h0 n0 _ T2.heap _
  exact ⟨b1, k1, rfl, N2, K2, sz_b1, E_b1, V_b1⟩
def Q2c3 (Z : State) (a0 : Addr) (a1 : Addr) (u1 : Value) (u2 : Value) (kc : ClassId) (cs : Int32) (ch0 : Int32) (ch1 : Int32) (ch2 : Int32) (h0 : Heap) (n0 : Nat) (v : Option Value) (h : Heap) (L : List Loc) : Prop := v = none ∧ Fr n0 L ∧ Keep h0 h [a0] ∧ Exa Z h a0 "java/lang/String"
def P2c3 (Z : State) (a0 : Addr) (a1 : Addr) (u1 : Value) (u2 : Value) (kc : ClassId) (cs : Int32) (ch0 : Int32) (ch1 : Int32) (ch2 : Int32) (h0 : Heap) (n0 : Nat) (s : State) (o : Outcome) (U' : State) : Prop := ∃ v L, o = .returned v ∧ Q2c3 Z a0 a1 u1 u2 kc cs ch0 ch1 ch2 h0 n0 v U'.heap L ∧ FrameEnd s o U' L ({ frames := 2, cells := 1, slots := 3, locals := 35 } : Room).cells ({ frames := 2, cells := 1, slots := 3, locals := 35 } : Room).slots
set_option maxRecDepth 65536 in
set_option maxHeartbeats 40000000 in
theorem rm2c3 (l : Launch) (Z : State) (aV : Array Value) (hw : ∀ d ∈ tables_1, d.before aV Z = true) (ws : List Jvm.Cond) (a0 : Addr) (a1 : Addr) (u1 : Value) (u2 : Value) (kc : ClassId) (cs : Int32) (ch0 : Int32) (ch1 : Int32) (ch2 : Int32) (h0 : Heap) (n0 : Nat) (Z0 : n0 ≤ h0.size) (E_a0 : Exa Z h0 a0 "java/lang/String") (F_value_a0 : Fld Z h0 a0 "java/lang/String" "value" "[B" u1) (F_coder_a0 : Fld Z h0 a0 "java/lang/String" "coder" "B" u2) (V_a1 : Arv Z h0 a1 kc .char (3 : Int32) [(.int ch0), (.int ch1), (.int ch2)] (.int (0 : Int32))) (S_COMPACT_STRINGS : Sta Z h0 "java/lang/String" "COMPACT_STRINGS" "Z" (.int cs)) (ga : n0 ≤ a0) (nac : a1 ≠ a0) (hcs : ¬ cs = 0) (le0 : ¬ (255 : Int32) < ch0) (le1 : ¬ (255 : Int32) < ch1) (le2 : ¬ (255 : Int32) < ch2) :
    MetFree l (⟨"java/lang/String", "<init>", "([CIILjava/lang/Void;)V"⟩ : MethodName) (head1 (Jvm.Cond.code (⟨"java/lang/String", "<init>", "([CIILjava/lang/Void;)V"⟩ : MethodName) jdk_42_method_149_code 6 none :: ws) ({ frames := 2, cells := 1, slots := 3, locals := 35 } : Room)) (fun a U => a = #[(.ref a0), (.ref a1), (.int (0 : Int32)), (.int (3 : Int32)), .null] ∧ Z.Warmed39 U.vm ∧ U.heap = h0) (fun _ _ _ _ _ => True) (fun _ U o U' => ∃ v L, o = .returned v ∧ Q2c3 Z a0 a1 u1 u2 kc cs ch0 ch1 ch2 h0 n0 v U'.heap L ∧ FrameEnd U o U' L ({ frames := 2, cells := 1, slots := 3, locals := 35 } : Room).cells ({ frames := 2, cells := 1, slots := 3, locals := 35 } : Room).slots) := by
  refine MetFree.of_bodySF (plainFor_of_name pn_java_lang_String) hisR ?_
  intro p e s m args below meth c s₁ Bd hml0 hP hK
  obtain ⟨rfl, hZ, hh⟩ := hP
  have hx := Bd.exec
  have hby := Bd.bytes
  have hml : c.maxLocals = 6 := hml0
  have hown : s.vm.findClass "java/lang/String" = some m.cls := findClass_of_methodNamed Bd.named
  have hnm := (name_of_methodNamed Bd.named Bd.method).1
  have X0 : Stand p l e ({ frames := 2, cells := 1, slots := 3, locals := 35 } : Room) s m #[(.ref a0), (.ref a1), (.int (0 : Int32)), (.int (3 : Int32)), .null] below meth c s₁ [] 0 0 := Stand.of_body Bd
  have e0 : s₁.heap = h0 := by rw [← hh, Bd.state]; rfl
  have efx : entryFrame m #[(.ref a0), (.ref a1), (.int (0 : Int32)), (.int (3 : Int32)), .null] 6 = mkF m 0 #[.val (.ref a0), .val (.ref a1), .val (.int (0 : Int32)), .val (.int (3 : Int32)), .val .null, .unset] [] := by first | (simp [entryFrame, mkF, argsToLocals, Value.category]; done) | rfl
  have N0 := Fr.nil n0
  have K0 : Keep h0 h0 [a0] := Keep.refl h0 _
  refine OGo.start (g' := mkF m 0 #[.val (.ref a0), .val (.ref a1), .val (.int (0 : Int32)), .val (.int (3 : Int32)), .val .null, .unset] []) (efx) ?_
  show OGo p.tables e below (P2c3 Z a0 a1 u1 u2 kc cs ch0 ch1 ch2 h0 n0 s) (s₁.setTop (mkF m 0 #[.val (.ref a0), .val (.ref a1), .val (.int (0 : Int32)), .val (.int (3 : Int32)), .val .null, .unset] []))
  refine OGo.go (B := s₁.setTop (mkF m 1 #[.val (.ref a0), .val (.ref a1), .val (.int (0 : Int32)), .val (.int (3 : Int32)), .val .null, .unset] [(.ref a0)])) ?_ (fun tX kX => XS.aloadN X0.here hx rfl (hb hby d2_0) rfl rfl kX)
  obtain ⟨T1, X1, e1, st1⟩ := initO X0 hx hZ hown (hw _ (List.mem_of_getElem? (i := 11) rfl)) (hw _ (List.mem_of_getElem? (i := 12) rfl)) (hw _ (List.mem_of_getElem? (i := 13) rfl)) e0 (g := (mkF m 1 #[.val (.ref a0), .val (.ref a1), .val (.int (0 : Int32)), .val (.int (3 : Int32)), .val .null, .unset] [(.ref a0)])) rfl (by rw [hml]; rfl) rfl (hb hby d2_1) (by decide) (W := 0) (by show 2 * 0 + _ ≤ _; exact Nat.le_of_eq rfl) (by decide)
  refine OGo.go (B := T1.setTop (mkF m 4 #[.val (.ref a0), .val (.ref a1), .val (.int (0 : Int32)), .val (.int (3 : Int32)), .val .null, .unset] [])) ?_ st1
  refine OGo.go (B := T1.setTop (mkF m 5 #[.val (.ref a0), .val (.ref a1), .val (.int (0 : Int32)), .val (.int (3 : Int32)), .val .null, .unset] [(.int (3 : Int32))])) ?_ (fun tX kX => XS.iloadN X1.here hx rfl (hb hby d2_4) rfl kX)
  refine OGo.go (B := T1.setTop (mkF m 27 #[.val (.ref a0), .val (.ref a1), .val (.int (0 : Int32)), .val (.int (3 : Int32)), .val .null, .unset] [])) ?_ (fun tX kX => XS.ifYes X1.here hx rfl (pc0 := 5) (pc' := 27) rfl (hb hby d2_5) rfl ((if0 _ _).trans (feq (by decide)).2) (by decide) (by decide) kX)
  obtain ⟨T2, X2, e2, st2⟩ := getS2 X1 hx hZ hown (host := "") (Or.inl (hw _ (List.mem_of_getElem? (i := 101) rfl))) Via.refl e1 S_COMPACT_STRINGS (g := (mkF m 27 #[.val (.ref a0), .val (.ref a1), .val (.int (0 : Int32)), .val (.int (3 : Int32)), .val .null, .unset] [])) rfl (hb hby d2_27)
  refine OGo.go (B := T2.setTop (mkF m 30 #[.val (.ref a0), .val (.ref a1), .val (.int (0 : Int32)), .val (.int (3 : Int32)), .val .null, .unset] [(.int cs)])) ?_ st2
  refine OGo.go (B := T2.setTop (mkF m 33 #[.val (.ref a0), .val (.ref a1), .val (.int (0 : Int32)), .val (.int (3 : Int32)), .val .null, .unset] [])) ?_ (fun tX kX => XS.ifNo X2.here hx rfl (hb hby d2_30) rfl ((if0 _ _).trans (feq hcs).1) kX)
  refine OGo.go (B := T2.setTop (mkF m 34 #[.val (.ref a0), .val (.ref a1), .val (.int (0 : Int32)), .val (.int (3 : Int32)), .val .null, .unset] [(.ref a1)])) ?_ (fun tX kX => XS.aloadN X2.here hx rfl (hb hby d2_33) rfl rfl kX)
  refine OGo.go (B := T2.setTop (mkF m 35 #[.val (.ref a0), .val (.ref a1), .val (.int (0 : Int32)), .val (.int (3 : Int32)), .val .null, .unset] [(.int (0 : Int32)), (.ref a1)])) ?_ (fun tX kX => XS.iloadN X2.here hx rfl (hb hby d2_34) rfl kX)
  refine OGo.go (B := T2.setTop (mkF m 36 #[.val (.ref a0), .val (.ref a1), .val (.int (0 : Int32)), .val (.int (3 : Int32)), .val .null, .unset] [(.int (3 : Int32)), (.int (0 : Int32)), (.ref a1)])) ?_ (fun tX kX => XS.iloadN X2.here hx rfl (hb hby d2_35) rfl kX)
  obtain ⟨_, _, ⟨T3, L3, k3, n3⟩, -, X3, ⟨Lc3, hQ3, l3, y3, z3⟩, st3⟩ := Jvm.LawKit.callS X2 hx (y := (⟨"java/lang/StringUTF16", "compress", "([CII)[B"⟩ : MethodName)) hown (mvT hZ (hw _ (List.mem_of_getElem? (i := 102) rfl))) (mvT hZ (hw _ (List.mem_of_getElem? (i := 103) rfl))) (mvT hZ (hw _ (List.mem_of_getElem? (i := 104) rfl))) (mvT hZ (hw _ (List.mem_of_getElem? (i := 105) rfl))) (by decide) (backOf (W := 0) (rm13c3 l Z aV hw [] a1 kc ch0 ch1 ch2 h0 n0 Z0 V_a1 le0 le1 le2) hZ (hw _ (List.mem_of_getElem? (i := 105) rfl)) (hw _ (List.mem_of_getElem? (i := 104) rfl)) (by decide) (by decide)) (g := (mkF m 36 #[.val (.ref a0), .val (.ref a1), .val (.int (0 : Int32)), .val (.int (3 : Int32)), .val .null, .unset] [(.int (3 : Int32)), (.int (0 : Int32)), (.ref a1)])) rfl (by rw [hml]; rfl) (argsL := [(.ref a1), (.int (0 : Int32)), (.int (3 : Int32))]) (rest := []) (lenOf pd___CII__B rfl) rfl (by show 2 * 0 + _ ≤ _; exact Nat.le_of_eq rfl) (hb hby d2_36) (fun _ _ => ⟨rfl, e2, (by decide : 0 + 1 ≤ _), (by decide : 0 + 3 ≤ _)⟩)
  dsimp only [Pt.U, Pt.locs, Pt.cells, Pt.slots] at X3 l3 y3 z3 st3 hQ3
  subst l3 y3 z3
  obtain ⟨nb_3, kb_3, rfl, N3q, Kq3, sz3_nb, E_nb_3_p, V_nb_3_p⟩ := hQ3
  have N3 := Fr.app N0 N3q
  have ne_a0_nb_3 : a0 ≠ nb_3 := Nat.ne_of_lt (Nat.lt_of_lt_of_le E_a0.lt sz3_nb)
  have ne_a1_nb_3 : a1 ≠ nb_3 := Nat.ne_of_lt (Nat.lt_of_lt_of_le V_a1.lt sz3_nb)
  have S_COMPACT_STRINGS := Sta.keep0 S_COMPACT_STRINGS Kq3
  have E_a0 := E_a0.keep Kq3
  have F_value_a0 := F_value_a0.keep Kq3 nin0
  have F_coder_a0 := F_coder_a0.keep Kq3 nin0
  have V_a1 := V_a1.keep Kq3 nin0
  have g_nb_3 : n0 ≤ nb_3 := Nat.le_trans Z0 sz3_nb
  have sz_nb_3 : h0.size ≤ nb_3 := Nat.le_trans K0.1 sz3_nb
  have K3 := K0.trans Kq3 all0
  have zn3 : n0 ≤ T3.heap.size := Nat.le_trans Z0 Kq3.1
  have E_nb_3 := E_nb_3_p
  have V_nb_3 := V_nb_3_p
  refine OGo.go (B := T3.setTop (mkF m 39 #[.val (.ref a0), .val (.ref a1), .val (.int (0 : Int32)), .val (.int (3 : Int32)), .val .null, .unset] [(.ref nb_3)])) ?_ st3
  refine OGo.go (B := T3.setTop (mkF m 41 #[.val (.ref a0), .val (.ref a1), .val (.int (0 : Int32)), .val (.int (3 : Int32)), .val .null, .val (.ref nb_3)] [])) ?_ (fun tX kX => XS.astore X3.here hx rfl (hb hby d2_39) rfl rfl (l' := #[.val (.ref a0), .val (.ref a1), .val (.int (0 : Int32)), .val (.int (3 : Int32)), .val .null, .val (.ref nb_3)]) rfl kX)
  refine OGo.go (B := T3.setTop (mkF m 42 #[.val (.ref a0), .val (.ref a1), .val (.int (0 : Int32)), .val (.int (3 : Int32)), .val .null, .val (.ref nb_3)] [(.ref a0)])) ?_ (fun tX kX => XS.aloadN X3.here hx rfl (hb hby d2_41) rfl rfl kX)
  refine OGo.go (B := T3.setTop (mkF m 44 #[.val (.ref a0), .val (.ref a1), .val (.int (0 : Int32)), .val (.int (3 : Int32)), .val .null, .val (.ref nb_3)] [(.ref nb_3), (.ref a0)])) ?_ (fun tX kX => XS.aload X3.here hx rfl (hb hby d2_42) rfl rfl kX)
  refine OGo.go (B := T3.setTop (mkF m 45 #[.val (.ref a0), .val (.ref a1), .val (.int (0 : Int32)), .val (.int (3 : Int32)), .val .null, .val (.ref nb_3)] [(.int (3 : Int32)), (.ref nb_3), (.ref a0)])) ?_ (fun tX kX => XS.iloadN X3.here hx rfl (hb hby d2_44) rfl kX)
  obtain ⟨_, _, ⟨T4, L4, k4, n4⟩, -, X4, ⟨Lc4, hQ4, l4, y4, z4⟩, st4⟩ := Jvm.LawKit.callS X3 hx (y := (⟨"java/lang/StringUTF16", "coderFromArrayLen", "([BI)B"⟩ : MethodName)) hown (mvT hZ (hw _ (List.mem_of_getElem? (i := 109) rfl))) (mvT hZ (hw _ (List.mem_of_getElem? (i := 110) rfl))) (mvT hZ (hw _ (List.mem_of_getElem? (i := 104) rfl))) (mvT hZ (hw _ (List.mem_of_getElem? (i := 111) rfl))) (by decide) (backOf (W := 1) (rm15 l Z aV hw [] nb_3 (3 : Int32) kb_3 [(.int ((ch0.toInt8.toInt32).toInt8.toInt32)), (.int ((ch1.toInt8.toInt32).toInt8.toInt32)), (.int ((ch2.toInt8.toInt32).toInt8.toInt32))] T3.heap n0 zn3 V_nb_3) hZ (hw _ (List.mem_of_getElem? (i := 111) rfl)) (hw _ (List.mem_of_getElem? (i := 104) rfl)) (by decide) (by decide)) (g := (mkF m 45 #[.val (.ref a0), .val (.ref a1), .val (.int (0 : Int32)), .val (.int (3 : Int32)), .val .null, .val (.ref nb_3)] [(.int (3 : Int32)), (.ref nb_3), (.ref a0)])) rfl (by rw [hml]; rfl) (argsL := [(.ref nb_3), (.int (3 : Int32))]) (rest := [(.ref a0)]) (lenOf pd___BI_B rfl) rfl (by show 2 * 0 + _ ≤ _; exact Nat.le_of_eq rfl) (hb hby d2_45) (fun _ _ => ⟨rfl, rfl, (by decide : 1 + 0 ≤ _), (by decide : 3 + 0 ≤ _)⟩)
  dsimp only [Pt.U, Pt.locs, Pt.cells, Pt.slots] at X4 l4 y4 z4 st4 hQ4
  subst l4 y4 z4
  obtain ⟨rfl, N4q, e4⟩ := hQ4
  have N4 := Fr.app N3 N4q
  refine OGo.go (B := T4.setTop (mkF m 48 #[.val (.ref a0), .val (.ref a1), .val (.int (0 : Int32)), .val (.int (3 : Int32)), .val .null, .val (.ref nb_3)] [(.int ((((((3 : Int32) - (3 : Int32)).toUInt32 >>> ((31 : Int32) &&& 31).toUInt32).toInt32).toInt8.toInt32).toInt8.toInt32)), (.ref a0)])) ?_ st4
  obtain ⟨T5, h5, X5, e5, W5, st5⟩ := putFN X4 hx hZ hown (hw _ (List.mem_of_getElem? (i := 21) rfl)) Via.refl e4 F_coder_a0 E_a0 (Or.inr ⟨(hw _ (List.mem_of_getElem? (i := 17) rfl)), rfl, hnm⟩) (hw _ (List.mem_of_getElem? (i := 2) rfl)) (ty := .byte) (v' := (.int ((((((3 : Int32) - (3 : Int32)).toUInt32 >>> ((31 : Int32) &&& 31).toUInt32).toInt32).toInt8.toInt32).toInt8.toInt32).toInt8.toInt32)) (by decide) rfl (fits_nar_byte _) (g := (mkF m 48 #[.val (.ref a0), .val (.ref a1), .val (.int (0 : Int32)), .val (.int (3 : Int32)), .val .null, .val (.ref nb_3)] [(.int ((((((3 : Int32) - (3 : Int32)).toUInt32 >>> ((31 : Int32) &&& 31).toUInt32).toInt32).toInt8.toInt32).toInt8.toInt32)), (.ref a0)])) rfl rfl (hb hby d2_48)
  have E_a0 := E_a0.wr W5
  have F_value_a0 := F_value_a0.other W5 (Or.inr (slot_ne (Or.inr (hw _ (List.mem_of_getElem? (i := 16) rfl))) (Or.inr (hw _ (List.mem_of_getElem? (i := 17) rfl))) (by decide) (t := (.array .byte)) (t' := .byte) (by decide) (by decide)))
  have F_coder_a0 := F_coder_a0.same W5
  have V_a1 := V_a1.other W5 nac
  have S_COMPACT_STRINGS := S_COMPACT_STRINGS.wr W5
  have E_nb_3 := E_nb_3.wr W5
  have V_nb_3 := V_nb_3.other W5 (Ne.symm ne_a0_nb_3)
  have K5 := K3.wr W5 (Or.inl (List.mem_of_getElem? (i := 0) rfl))
  have zn5 : n0 ≤ h5.size := Nat.le_trans zn3 (Keep.of_wr W5).1
  have N5 := Fr.snoc X5 N4 ga
  refine OGo.go (B := T5.setTop (mkF m 51 #[.val (.ref a0), .val (.ref a1), .val (.int (0 : Int32)), .val (.int (3 : Int32)), .val .null, .val (.ref nb_3)] [])) ?_ st5
  refine OGo.go (B := T5.setTop (mkF m 52 #[.val (.ref a0), .val (.ref a1), .val (.int (0 : Int32)), .val (.int (3 : Int32)), .val .null, .val (.ref nb_3)] [(.ref a0)])) ?_ (fun tX kX => XS.aloadN X5.here hx rfl (hb hby d2_51) rfl rfl kX)
  refine OGo.go (B := T5.setTop (mkF m 54 #[.val (.ref a0), .val (.ref a1), .val (.int (0 : Int32)), .val (.int (3 : Int32)), .val .null, .val (.ref nb_3)] [(.ref nb_3), (.ref a0)])) ?_ (fun tX kX => XS.aload X5.here hx rfl (hb hby d2_52) rfl rfl kX)
  obtain ⟨T6, h6, X6, e6, W6, st6⟩ := putF X5 hx hZ hown (host := "") (Or.inl (hw _ (List.mem_of_getElem? (i := 20) rfl))) Via.refl e5 F_value_a0 E_a0 (Or.inr ⟨(hw _ (List.mem_of_getElem? (i := 16) rfl)), rfl, hnm⟩) (hw _ (List.mem_of_getElem? (i := 2) rfl)) (ty := (.array .byte)) (by decide) rfl rfl (g := (mkF m 54 #[.val (.ref a0), .val (.ref a1), .val (.int (0 : Int32)), .val (.int (3 : Int32)), .val .null, .val (.ref nb_3)] [(.ref nb_3), (.ref a0)])) rfl rfl (hb hby d2_54)
  have E_a0 := E_a0.wr W6
  have F_value_a0 := F_value_a0.same W6
  have F_coder_a0 := F_coder_a0.other W6 (Or.inr (slot_ne (Or.inr (hw _ (List.mem_of_getElem? (i := 17) rfl))) (Or.inr (hw _ (List.mem_of_getElem? (i := 16) rfl))) (by decide) (t := .byte) (t' := (.array .byte)) (by decide) (by decide)))
  have V_a1 := V_a1.other W6 nac
  have S_COMPACT_STRINGS := S_COMPACT_STRINGS.wr W6
  have E_nb_3 := E_nb_3.wr W6
  have V_nb_3 := V_nb_3.other W6 (Ne.symm ne_a0_nb_3)
  have K6 := K5.wr W6 (Or.inl (List.mem_of_getElem? (i := 0) rfl))
  have zn6 : n0 ≤ h6.size := Nat.le_trans zn5 (Keep.of_wr W6).1
  have N6 := Fr.snoc X6 N5 ga
  refine OGo.go (B := T6.setTop (mkF m 57 #[.val (.ref a0), .val (.ref a1), .val (.int (0 : Int32)), .val (.int (3 : Int32)), .val .null, .val (.ref nb_3)] [])) ?_ st6
  refine OGo.ret X6 (v := none) (fun _ => rfl) (BodyLoose.notSynchronized Bd) (fun fs hr => X6.returnOut hx Bd.returns (hb hby d2_57) hr) (Q := Q2c3 Z a0 a1 u1 u2 kc cs ch0 ch1 ch2 h0 n0) ?_ (by decide) (by decide)
  show Q2c3 Z a0 a1 u1 u2 kc cs ch0 ch1 ch2 h0 n0 _ T6.heap _
  rw [e6]
  exact ⟨rfl, N6, K6, E_a0⟩
def Q1c3 (Z : State) (a0 : Addr) (a1 : Addr) (u1 : Value) (u2 : Value) (kc : ClassId) (cs : Int32) (ch0 : Int32) (ch1 : Int32) (ch2 : Int32) (h0 : Heap) (n0 : Nat) (v : Option Value) (h : Heap) (L : List Loc) : Prop := v = none ∧ Fr n0 L ∧ Keep h0 h [a0] ∧ Exa Z h a0 "java/lang/String"
def P1c3 (Z : State) (a0 : Addr) (a1 : Addr) (u1 : Value) (u2 : Value) (kc : ClassId) (cs : Int32) (ch0 : Int32) (ch1 : Int32) (ch2 : Int32) (h0 : Heap) (n0 : Nat) (s : State) (o : Outcome) (U' : State) : Prop := ∃ v L, o = .returned v ∧ Q1c3 Z a0 a1 u1 u2 kc cs ch0 ch1 ch2 h0 n0 v U'.heap L ∧ FrameEnd s o U' L ({ frames := 3, cells := 1, slots := 3, locals := 52 } : Room).cells ({ frames := 3, cells := 1, slots := 3, locals := 52 } : Room).slots
set_option maxRecDepth 65536 in
set_option maxHeartbeats 40000000 in
theorem rm1c3 (l : Launch) (Z : State) (aV : Array Value) (hw : ∀ d ∈ tables_1, d.before aV Z = true) (ws : List Jvm.Cond) (a0 : Addr) (a1 : Addr) (u1 : Value) (u2 : Value) (kc : ClassId) (cs : Int32) (ch0 : Int32) (ch1 : Int32) (ch2 : Int32) (h0 : Heap) (n0 : Nat) (Z0 : n0 ≤ h0.size) (E_a0 : Exa Z h0 a0 "java/lang/String") (F_value_a0 : Fld Z h0 a0 "java/lang/String" "value" "[B" u1) (F_coder_a0 : Fld Z h0 a0 "java/lang/String" "coder" "B" u2) (V_a1 : Arv Z h0 a1 kc .char (3 : Int32) [(.int ch0), (.int ch1), (.int ch2)] (.int (0 : Int32))) (S_COMPACT_STRINGS : Sta Z h0 "java/lang/String" "COMPACT_STRINGS" "Z" (.int cs)) (ga : n0 ≤ a0) (nac : a1 ≠ a0) (hcs : ¬ cs = 0) (le0 : ¬ (255 : Int32) < ch0) (le1 : ¬ (255 : Int32) < ch1) (le2 : ¬ (255 : Int32) < ch2) :
    MetFree l (⟨"java/lang/String", "<init>", "([C)V"⟩ : MethodName) (head1 (Jvm.Cond.code (⟨"java/lang/String", "<init>", "([C)V"⟩ : MethodName) jdk_42_method_3_code 2 none :: ws) ({ frames := 3, cells := 1, slots := 3, locals := 52 } : Room)) (fun a U => a = #[(.ref a0), (.ref a1)] ∧ Z.Warmed39 U.vm ∧ U.heap = h0) (fun _ _ _ _ _ => True) (fun _ U o U' => ∃ v L, o = .returned v ∧ Q1c3 Z a0 a1 u1 u2 kc cs ch0 ch1 ch2 h0 n0 v U'.heap L ∧ FrameEnd U o U' L ({ frames := 3, cells := 1, slots := 3, locals := 52 } : Room).cells ({ frames := 3, cells := 1, slots := 3, locals := 52 } : Room).slots) := by
  refine MetFree.of_bodySF (plainFor_of_name pn_java_lang_String) hisR ?_
  intro p e s m args below meth c s₁ Bd hml0 hP hK
  obtain ⟨rfl, hZ, hh⟩ := hP
  have hx := Bd.exec
  have hby := Bd.bytes
  have hml : c.maxLocals = 2 := hml0
  have hown : s.vm.findClass "java/lang/String" = some m.cls := findClass_of_methodNamed Bd.named
  have hnm := (name_of_methodNamed Bd.named Bd.method).1
  have X0 : Stand p l e ({ frames := 3, cells := 1, slots := 3, locals := 52 } : Room) s m #[(.ref a0), (.ref a1)] below meth c s₁ [] 0 0 := Stand.of_body Bd
  have e0 : s₁.heap = h0 := by rw [← hh, Bd.state]; rfl
  have efx : entryFrame m #[(.ref a0), (.ref a1)] 2 = mkF m 0 #[.val (.ref a0), .val (.ref a1)] [] := by first | (simp [entryFrame, mkF, argsToLocals, Value.category]; done) | rfl
  have N0 := Fr.nil n0
  have K0 : Keep h0 h0 [a0] := Keep.refl h0 _
  refine OGo.start (g' := mkF m 0 #[.val (.ref a0), .val (.ref a1)] []) (efx) ?_
  show OGo p.tables e below (P1c3 Z a0 a1 u1 u2 kc cs ch0 ch1 ch2 h0 n0 s) (s₁.setTop (mkF m 0 #[.val (.ref a0), .val (.ref a1)] []))
  refine OGo.go (B := s₁.setTop (mkF m 1 #[.val (.ref a0), .val (.ref a1)] [(.ref a0)])) ?_ (fun tX kX => XS.aloadN X0.here hx rfl (hb hby d1_0) rfl rfl kX)
  refine OGo.go (B := s₁.setTop (mkF m 2 #[.val (.ref a0), .val (.ref a1)] [(.ref a1), (.ref a0)])) ?_ (fun tX kX => XS.aloadN X0.here hx rfl (hb hby d1_1) rfl rfl kX)
  refine OGo.go (B := s₁.setTop (mkF m 3 #[.val (.ref a0), .val (.ref a1)] [(.int (0 : Int32)), (.ref a1), (.ref a0)])) ?_ (fun tX kX => XS.iconst X0.here hx rfl (hb hby d1_2) kX)
  refine OGo.go (B := s₁.setTop (mkF m 4 #[.val (.ref a0), .val (.ref a1)] [(.ref a1), (.int (0 : Int32)), (.ref a1), (.ref a0)])) ?_ (fun tX kX => XS.aloadN X0.here hx rfl (hb hby d1_3) rfl rfl kX)
  obtain ⟨cl1, Ar1, qa1, S1, N1', H1, G1⟩ := id V_a1
  refine OGo.go (B := s₁.setTop (mkF m 5 #[.val (.ref a0), .val (.ref a1)] [(.int (3 : Int32)), (.int (0 : Int32)), (.ref a1), (.ref a0)])) ?_ (fun tX kX => X0.arraylength hx (by rw [e0]; exact Ar1.1) (State.isArrayOf_alike hZ.alike Ar1.2.1) (g := (mkF m 4 #[.val (.ref a0), .val (.ref a1)] [(.ref a1), (.int (0 : Int32)), (.ref a1), (.ref a0)])) rfl rfl (hb hby d1_4) _ (by rw [len_of S1 N1']; exact kX))
  refine OGo.go (B := s₁.setTop (mkF m 6 #[.val (.ref a0), .val (.ref a1)] [.null, (.int (3 : Int32)), (.int (0 : Int32)), (.ref a1), (.ref a0)])) ?_ (fun tX kX => XS.aconstNull X0.here hx rfl (hb hby d1_5) kX)
  obtain ⟨_, _, ⟨T2, L2, k2, n2⟩, -, X2, ⟨Lc2, hQ2, l2, y2, z2⟩, st2⟩ := X0.specialBack hx (y := (⟨"java/lang/String", "<init>", "([CIILjava/lang/Void;)V"⟩ : MethodName)) rfl hown (mvT hZ (hw _ (List.mem_of_getElem? (i := 7) rfl))) (mvT hZ (hw _ (List.mem_of_getElem? (i := 8) rfl))) (mvT hZ (hw _ (List.mem_of_getElem? (i := 10) rfl))) (by decide) (backOf (W := 0) (rm2c3 l Z aV hw [] a0 a1 u1 u2 kc cs ch0 ch1 ch2 h0 n0 Z0 E_a0 F_value_a0 F_coder_a0 V_a1 S_COMPACT_STRINGS ga nac hcs le0 le1 le2) hZ (hw _ (List.mem_of_getElem? (i := 10) rfl)) (hw _ (List.mem_of_getElem? (i := 3) rfl)) (by decide) (by decide)) (g := (mkF m 6 #[.val (.ref a0), .val (.ref a1)] [.null, (.int (3 : Int32)), (.int (0 : Int32)), (.ref a1), (.ref a0)])) rfl (by rw [hml]; rfl) (Steps.refl _) (a := a0) (argsL := [(.ref a1), (.int (0 : Int32)), (.int (3 : Int32)), .null]) (rest := []) (lenOf pd___CIILjava_lang_Void__V rfl) rfl (by show 2 * 0 + _ ≤ _; exact Nat.le_of_eq rfl) (hb hby d1_6) (fun _ _ => ⟨rfl, e0, (by decide : 0 + 1 ≤ _), (by decide : 0 + 3 ≤ _)⟩)
  dsimp only [Pt.U, Pt.locs, Pt.cells, Pt.slots] at X2 l2 y2 z2 st2 hQ2
  subst l2 y2 z2
  obtain ⟨rfl, N2q, Kq2, E_a0_p⟩ := hQ2
  have N2 := Fr.app N0 N2q
  have S_COMPACT_STRINGS := Sta.keepE S_COMPACT_STRINGS Kq2 (staS E_a0.cell (fun x hx' => nomatch hx'))
  have E_a0 := E_a0.keep Kq2
  have V_a1 := V_a1.keep Kq2 (ninS nac nin0)
  have K2 := K0.trans Kq2 (allS (P := fun x => x ∈ [a0] ∨ h0.size ≤ x) (Or.inl (List.mem_of_getElem? (i := 0) rfl)) all0)
  have zn2 : n0 ≤ T2.heap.size := Nat.le_trans Z0 Kq2.1
  have E_a0 := E_a0_p
  refine OGo.go (B := T2.setTop (mkF m 9 #[.val (.ref a0), .val (.ref a1)] [])) ?_ (fun tX kX => st2.trans kX)
  refine OGo.ret X2 (v := none) (fun _ => rfl) (BodyLoose.notSynchronized Bd) (fun fs hr => X2.returnOut hx Bd.returns (hb hby d1_9) hr) (Q := Q1c3 Z a0 a1 u1 u2 kc cs ch0 ch1 ch2 h0 n0) ?_ (by decide) (by decide)
  show Q1c3 Z a0 a1 u1 u2 kc cs ch0 ch1 ch2 h0 n0 _ T2.heap _
  exact ⟨rfl, N2, K2, E_a0⟩
theorem d7_0 : decode jdk_78_method_2_code 0 = .ok (.aload_n 0, 1) := by decide +kernel
theorem d7_1 : decode jdk_78_method_2_code 1 = .ok (.invokespecial 1, 3) := by decide +kernel
theorem d7_4 : decode jdk_78_method_2_code 4 = .ok (.aload_n 0, 1) := by decide +kernel
theorem d7_5 : decode jdk_78_method_2_code 5 = .ok (.aload_n 0, 1) := by decide +kernel
theorem d7_6 : decode jdk_78_method_2_code 6 = .ok (.putfield 7, 3) := by decide +kernel
theorem d7_9 : decode jdk_78_method_2_code 9 = .ok (.aload_n 0, 1) := by decide +kernel
theorem d7_10 : decode jdk_78_method_2_code 10 = .ok (.getstatic 13, 3) := by decide +kernel
theorem d7_13 : decode jdk_78_method_2_code 13 = .ok (.putfield 17, 3) := by decide +kernel
theorem d7_16 : decode jdk_78_method_2_code 16 = .ok (.aload_n 0, 1) := by decide +kernel
theorem d7_17 : decode jdk_78_method_2_code 17 = .ok (.getstatic 20, 3) := by decide +kernel
theorem d7_20 : decode jdk_78_method_2_code 20 = .ok (.putfield 24, 3) := by decide +kernel
theorem d7_23 : decode jdk_78_method_2_code 23 = .ok (.aload_n 0, 1) := by decide +kernel
theorem d7_24 : decode jdk_78_method_2_code 24 = .ok (.invokevirtual 27, 3) := by decide +kernel
theorem d7_27 : decode jdk_78_method_2_code 27 = .ok (.pop, 1) := by decide +kernel
theorem d7_28 : decode jdk_78_method_2_code 28 = .ok (.aload_n 0, 1) := by decide +kernel
theorem d7_29 : decode jdk_78_method_2_code 29 = .ok (.aload_n 1, 1) := by decide +kernel
theorem d7_30 : decode jdk_78_method_2_code 30 = .ok (.putfield 31, 3) := by decide +kernel
theorem d7_33 : decode jdk_78_method_2_code 33 = .ok (.return_, 1) := by decide +kernel
theorem pn_java_lang_Throwable : plainName "java/lang/Throwable" = true := by first | (simp [plainName, overriddenIn]; done) | decide +kernel
def Q7n (Z : State) (a0 : Addr) (u1 : Value) (o1 : Value) (o2 : Value) (o3 : Value) (us : Value) (sn : Value) (h0 : Heap) (n0 : Nat) (v : Option Value) (h : Heap) (L : List Loc) : Prop := v = none ∧ Fr n0 L ∧ Keep h0 h [a0] ∧ Exa Z h a0 "com/example/hushlist/hushlist/engine/StanzaException" ∧ Fld Z h a0 "com/example/hushlist/hushlist/engine/StanzaException" "condition" "Lcom/example/hushlist/hushlist/engine/Condition;" u1 ∧ Fld Z h a0 "java/lang/Throwable" "detailMessage" "Ljava/lang/String;" .null
def P7n (Z : State) (a0 : Addr) (u1 : Value) (o1 : Value) (o2 : Value) (o3 : Value) (us : Value) (sn : Value) (h0 : Heap) (n0 : Nat) (s : State) (o : Outcome) (U' : State) : Prop := ∃ v L, o = .returned v ∧ Q7n Z a0 u1 o1 o2 o3 us sn h0 n0 v U'.heap L ∧ FrameEnd s o U' L ({ frames := 3, cells := 1, slots := 2752, locals := 42 } : Room).cells ({ frames := 3, cells := 1, slots := 2752, locals := 42 } : Room).slots
set_option maxRecDepth 65536 in
set_option maxHeartbeats 40000000 in
theorem rm7n (l : Launch) (Z : State) (aV : Array Value) (hw : ∀ d ∈ tables_1, d.before aV Z = true) (ws : List Jvm.Cond) (a0 : Addr) (u1 : Value) (o1 : Value) (o2 : Value) (o3 : Value) (us : Value) (sn : Value) (h0 : Heap) (n0 : Nat) (Z0 : n0 ≤ h0.size) (E_a0 : Exa Z h0 a0 "com/example/hushlist/hushlist/engine/StanzaException") (U_a0 : Unt h0 a0) (F_condition_a0 : Fld Z h0 a0 "com/example/hushlist/hushlist/engine/StanzaException" "condition" "Lcom/example/hushlist/hushlist/engine/Condition;" u1) (F_cause_a0 : Fld Z h0 a0 "java/lang/Throwable" "cause" "Ljava/lang/Throwable;" o1) (F_stackTrace_a0 : Fld Z h0 a0 "java/lang/Throwable" "stackTrace" "[Ljava/lang/StackTraceElement;" o2) (F_suppressedExceptions_a0 : Fld Z h0 a0 "java/lang/Throwable" "suppressedExceptions" "Ljava/util/List;" o3) (F_backtrace_a0 : Fld Z h0 a0 "java/lang/Throwable" "backtrace" "Ljava/lang/Object;" .null) (F_detailMessage_a0 : Fld Z h0 a0 "java/lang/Throwable" "detailMessage" "Ljava/lang/String;" .null) (S_UNASSIGNED_STACK : Sta Z h0 "java/lang/Throwable" "UNASSIGNED_STACK" "[Ljava/lang/StackTraceElement;" us) (S_SUPPRESSED_SENTINEL : Sta Z h0 "java/lang/Throwable" "SUPPRESSED_SENTINEL" "Ljava/util/List;" sn) (hThS : ThS Z h0) (ga : n0 ≤ a0) (hl : l.stackTraces = true) (hus : us.isRef = true) (hsn : sn.isRef = true) :
    MetFree l (⟨"java/lang/Throwable", "<init>", "(Ljava/lang/String;)V"⟩ : MethodName) (head1 (Jvm.Cond.code (⟨"java/lang/Throwable", "<init>", "(Ljava/lang/String;)V"⟩ : MethodName) jdk_78_method_2_code 2 none :: ws) ({ frames := 3, cells := 1, slots := 2752, locals := 42 } : Room)) (fun a U => a = #[(.ref a0), .null] ∧ Z.Warmed39 U.vm ∧ U.heap = h0) (fun _ _ bl s _ => s.vm.MethodsKnown ∧ s.vm.FramesKnown bl) (fun _ U o U' => ∃ v L, o = .returned v ∧ Q7n Z a0 u1 o1 o2 o3 us sn h0 n0 v U'.heap L ∧ FrameEnd U o U' L ({ frames := 3, cells := 1, slots := 2752, locals := 42 } : Room).cells ({ frames := 3, cells := 1, slots := 2752, locals := 42 } : Room).slots) := by
  refine MetFree.of_bodySF (plainFor_of_name pn_java_lang_Throwable) hisR ?_
  intro p e s m args below meth c s₁ Bd hml0 hP hK
  obtain ⟨rfl, hZ, hh⟩ := hP
  have hx := Bd.exec
  have hby := Bd.bytes
  have hml : c.maxLocals = 2 := hml0
  have hown : s.vm.findClass "java/lang/Throwable" = some m.cls := findClass_of_methodNamed Bd.named
  have hnm := (name_of_methodNamed Bd.named Bd.method).1
  have X0 : Stand p l e ({ frames := 3, cells := 1, slots := 2752, locals := 42 } : Room) s m #[(.ref a0), .null] below meth c s₁ [] 0 0 := Stand.of_body Bd
  have e0 : s₁.heap = h0 := by rw [← hh, Bd.state]; rfl
  have hTK := hK.1
  have hBelow := hK.2
  have efx : entryFrame m #[(.ref a0), .null] 2 = mkF m 0 #[.val (.ref a0), .val .null] [] := by first | (simp [entryFrame, mkF, argsToLocals, Value.category]; done) | rfl
  have N0 := Fr.nil n0
  have K0 : Keep h0 h0 [a0] := Keep.refl h0 _
  refine OGo.start (g' := mkF m 0 #[.val (.ref a0), .val .null] []) (efx) ?_
  show OGo p.tables e below (P7n Z a0 u1 o1 o2 o3 us sn h0 n0 s) (s₁.setTop (mkF m 0 #[.val (.ref a0), .val .null] []))
  have hThS0 := hThS
  rcases ref_cases hus with hu13 | ⟨u13, hu13⟩
  ·
    rw [hu13] at S_UNASSIGNED_STACK
    rcases ref_cases hsn with hu20 | ⟨u20, hu20⟩
    ·
      rw [hu20] at S_SUPPRESSED_SENTINEL
      refine OGo.go (B := s₁.setTop (mkF m 1 #[.val (.ref a0), .val .null] [(.ref a0)])) ?_ (fun tX kX => XS.aloadN X0.here hx rfl (hb hby d7_0) rfl rfl kX)
      obtain ⟨T1, X1, e1, st1⟩ := initO X0 hx hZ hown (hw _ (List.mem_of_getElem? (i := 45) rfl)) (hw _ (List.mem_of_getElem? (i := 12) rfl)) (hw _ (List.mem_of_getElem? (i := 13) rfl)) e0 (g := (mkF m 1 #[.val (.ref a0), .val .null] [(.ref a0)])) rfl (by rw [hml]; rfl) rfl (hb hby d7_1) (by decide) (W := 0) (by show 2 * 0 + _ ≤ _; exact Nat.le_of_eq rfl) (by decide)
      refine OGo.go (B := T1.setTop (mkF m 4 #[.val (.ref a0), .val .null] [])) ?_ st1
      refine OGo.go (B := T1.setTop (mkF m 5 #[.val (.ref a0), .val .null] [(.ref a0)])) ?_ (fun tX kX => XS.aloadN X1.here hx rfl (hb hby d7_4) rfl rfl kX)
      refine OGo.go (B := T1.setTop (mkF m 6 #[.val (.ref a0), .val .null] [(.ref a0), (.ref a0)])) ?_ (fun tX kX => XS.aloadN X1.here hx rfl (hb hby d7_5) rfl rfl kX)
      obtain ⟨T2, h2, X2, e2, W2, st2⟩ := putF X1 hx hZ hown (host := "") (Or.inl (hw _ (List.mem_of_getElem? (i := 46) rfl))) Via.refl e1 F_cause_a0 E_a0 (Or.inl (hw _ (List.mem_of_getElem? (i := 47) rfl))) (hw _ (List.mem_of_getElem? (i := 27) rfl)) (ty := (.object "java/lang/Throwable")) (by decide) rfl rfl (g := (mkF m 6 #[.val (.ref a0), .val .null] [(.ref a0), (.ref a0)])) rfl rfl (hb hby d7_6)
      have E_a0 := E_a0.wr W2
      have U_a0 := U_a0.wr W2
      have F_condition_a0 := F_condition_a0.other W2 (Or.inr (slot_ne (Or.inr (hw _ (List.mem_of_getElem? (i := 83) rfl))) (Or.inl (hw _ (List.mem_of_getElem? (i := 47) rfl))) (by decide) (t := (.object "com/example/hushlist/hushlist/engine/Condition")) (t' := (.object "java/lang/Throwable")) (by decide) (by decide)))
      have F_cause_a0 := F_cause_a0.same W2
      have F_stackTrace_a0 := F_stackTrace_a0.other W2 (Or.inr (slot_ne (Or.inl (hw _ (List.mem_of_getElem? (i := 50) rfl))) (Or.inl (hw _ (List.mem_of_getElem? (i := 47) rfl))) (by decide) (t := (.array (.object "java/lang/StackTraceElement"))) (t' := (.object "java/lang/Throwable")) (by decide) (by decide)))
      have F_suppressedExceptions_a0 := F_suppressedExceptions_a0.other W2 (Or.inr (slot_ne (Or.inl (hw _ (List.mem_of_getElem? (i := 53) rfl))) (Or.inl (hw _ (List.mem_of_getElem? (i := 47) rfl))) (by decide) (t := (.object "java/util/List")) (t' := (.object "java/lang/Throwable")) (by decide) (by decide)))
      have F_backtrace_a0 := F_backtrace_a0.other W2 (Or.inr (slot_ne (Or.inl (hw _ (List.mem_of_getElem? (i := 78) rfl))) (Or.inl (hw _ (List.mem_of_getElem? (i := 47) rfl))) (by decide) (t := (.object "java/lang/Object")) (t' := (.object "java/lang/Throwable")) (by decide) (by decide)))
      have F_detailMessage_a0 := F_detailMessage_a0.other W2 (Or.inr (slot_ne (Or.inl (hw _ (List.mem_of_getElem? (i := 77) rfl))) (Or.inl (hw _ (List.mem_of_getElem? (i := 47) rfl))) (by decide) (t := (.object "java/lang/String")) (t' := (.object "java/lang/Throwable")) (by decide) (by decide)))
      have S_UNASSIGNED_STACK := S_UNASSIGNED_STACK.wr W2
      have S_SUPPRESSED_SENTINEL := S_SUPPRESSED_SENTINEL.wr W2
      have hThS := hThS.wr W2
      have K2 := K0.wr W2 (Or.inl (List.mem_of_getElem? (i := 0) rfl))
      have zn2 : n0 ≤ h2.size := Nat.le_trans Z0 (Keep.of_wr W2).1
      have N2 := Fr.snoc X2 N0 ga
      refine OGo.go (B := T2.setTop (mkF m 9 #[.val (.ref a0), .val .null] [])) ?_ st2
      refine OGo.go (B := T2.setTop (mkF m 10 #[.val (.ref a0), .val .null] [(.ref a0)])) ?_ (fun tX kX => XS.aloadN X2.here hx rfl (hb hby d7_9) rfl rfl kX)
      obtain ⟨T3, X3, e3, st3⟩ := getS2 X2 hx hZ hown (host := "") (Or.inl (hw _ (List.mem_of_getElem? (i := 48) rfl))) Via.refl e2 S_UNASSIGNED_STACK (g := (mkF m 10 #[.val (.ref a0), .val .null] [(.ref a0)])) rfl (hb hby d7_10)
      refine OGo.go (B := T3.setTop (mkF m 13 #[.val (.ref a0), .val .null] [.null, (.ref a0)])) ?_ st3
      obtain ⟨T4, h4, X4, e4, W4, st4⟩ := putF X3 hx hZ hown (host := "") (Or.inl (hw _ (List.mem_of_getElem? (i := 49) rfl))) Via.refl e3 F_stackTrace_a0 E_a0 (Or.inl (hw _ (List.mem_of_getElem? (i := 50) rfl))) (hw _ (List.mem_of_getElem? (i := 27) rfl)) (ty := (.array (.object "java/lang/StackTraceElement"))) (by decide) rfl rfl (g := (mkF m 13 #[.val (.ref a0), .val .null] [.null, (.ref a0)])) rfl rfl (hb hby d7_13)
      have E_a0 := E_a0.wr W4
      have U_a0 := U_a0.wr W4
      have F_condition_a0 := F_condition_a0.other W4 (Or.inr (slot_ne (Or.inr (hw _ (List.mem_of_getElem? (i := 83) rfl))) (Or.inl (hw _ (List.mem_of_getElem? (i := 50) rfl))) (by decide) (t := (.object "com/example/hushlist/hushlist/engine/Condition")) (t' := (.array (.object "java/lang/StackTraceElement"))) (by decide) (by decide)))
      have F_cause_a0 := F_cause_a0.other W4 (Or.inr (slot_ne (Or.inl (hw _ (List.mem_of_getElem? (i := 47) rfl))) (Or.inl (hw _ (List.mem_of_getElem? (i := 50) rfl))) (by decide) (t := (.object "java/lang/Throwable")) (t' := (.array (.object "java/lang/StackTraceElement"))) (by decide) (by decide)))
      have F_stackTrace_a0 := F_stackTrace_a0.same W4
      have F_suppressedExceptions_a0 := F_suppressedExceptions_a0.other W4 (Or.inr (slot_ne (Or.inl (hw _ (List.mem_of_getElem? (i := 53) rfl))) (Or.inl (hw _ (List.mem_of_getElem? (i := 50) rfl))) (by decide) (t := (.object "java/util/List")) (t' := (.array (.object "java/lang/StackTraceElement"))) (by decide) (by decide)))
      have F_backtrace_a0 := F_backtrace_a0.other W4 (Or.inr (slot_ne (Or.inl (hw _ (List.mem_of_getElem? (i := 78) rfl))) (Or.inl (hw _ (List.mem_of_getElem? (i := 50) rfl))) (by decide) (t := (.object "java/lang/Object")) (t' := (.array (.object "java/lang/StackTraceElement"))) (by decide) (by decide)))
      have F_detailMessage_a0 := F_detailMessage_a0.other W4 (Or.inr (slot_ne (Or.inl (hw _ (List.mem_of_getElem? (i := 77) rfl))) (Or.inl (hw _ (List.mem_of_getElem? (i := 50) rfl))) (by decide) (t := (.object "java/lang/String")) (t' := (.array (.object "java/lang/StackTraceElement"))) (by decide) (by decide)))
      have S_UNASSIGNED_STACK := S_UNASSIGNED_STACK.wr W4
      have S_SUPPRESSED_SENTINEL := S_SUPPRESSED_SENTINEL.wr W4
      have hThS := hThS.wr W4
      have K4 := K2.wr W4 (Or.inl (List.mem_of_getElem? (i := 0) rfl))
      have zn4 : n0 ≤ h4.size := Nat.le_trans zn2 (Keep.of_wr W4).1
      have N4 := Fr.snoc X4 N2 ga
      refine OGo.go (B := T4.setTop (mkF m 16 #[.val (.ref a0), .val .null] [])) ?_ st4
      refine OGo.go (B := T4.setTop (mkF m 17 #[.val (.ref a0), .val .null] [(.ref a0)])) ?_ (fun tX kX => XS.aloadN X4.here hx rfl (hb hby d7_16) rfl rfl kX)
      obtain ⟨T5, X5, e5, st5⟩ := getS2 X4 hx hZ hown (host := "") (Or.inl (hw _ (List.mem_of_getElem? (i := 51) rfl))) Via.refl e4 S_SUPPRESSED_SENTINEL (g := (mkF m 17 #[.val (.ref a0), .val .null] [(.ref a0)])) rfl (hb hby d7_17)
      refine OGo.go (B := T5.setTop (mkF m 20 #[.val (.ref a0), .val .null] [.null, (.ref a0)])) ?_ st5
      obtain ⟨T6, h6, X6, e6, W6, st6⟩ := putF X5 hx hZ hown (host := "") (Or.inl (hw _ (List.mem_of_getElem? (i := 52) rfl))) Via.refl e5 F_suppressedExceptions_a0 E_a0 (Or.inl (hw _ (List.mem_of_getElem? (i := 53) rfl))) (hw _ (List.mem_of_getElem? (i := 27) rfl)) (ty := (.object "java/util/List")) (by decide) rfl rfl (g := (mkF m 20 #[.val (.ref a0), .val .null] [.null, (.ref a0)])) rfl rfl (hb hby d7_20)
      have E_a0 := E_a0.wr W6
      have U_a0 := U_a0.wr W6
      have F_condition_a0 := F_condition_a0.other W6 (Or.inr (slot_ne (Or.inr (hw _ (List.mem_of_getElem? (i := 83) rfl))) (Or.inl (hw _ (List.mem_of_getElem? (i := 53) rfl))) (by decide) (t := (.object "com/example/hushlist/hushlist/engine/Condition")) (t' := (.object "java/util/List")) (by decide) (by decide)))
      have F_cause_a0 := F_cause_a0.other W6 (Or.inr (slot_ne (Or.inl (hw _ (List.mem_of_getElem? (i := 47) rfl))) (Or.inl (hw _ (List.mem_of_getElem? (i := 53) rfl))) (by decide) (t := (.object "java/lang/Throwable")) (t' := (.object "java/util/List")) (by decide) (by decide)))
      have F_stackTrace_a0 := F_stackTrace_a0.other W6 (Or.inr (slot_ne (Or.inl (hw _ (List.mem_of_getElem? (i := 50) rfl))) (Or.inl (hw _ (List.mem_of_getElem? (i := 53) rfl))) (by decide) (t := (.array (.object "java/lang/StackTraceElement"))) (t' := (.object "java/util/List")) (by decide) (by decide)))
      have F_suppressedExceptions_a0 := F_suppressedExceptions_a0.same W6
      have F_backtrace_a0 := F_backtrace_a0.other W6 (Or.inr (slot_ne (Or.inl (hw _ (List.mem_of_getElem? (i := 78) rfl))) (Or.inl (hw _ (List.mem_of_getElem? (i := 53) rfl))) (by decide) (t := (.object "java/lang/Object")) (t' := (.object "java/util/List")) (by decide) (by decide)))
      have F_detailMessage_a0 := F_detailMessage_a0.other W6 (Or.inr (slot_ne (Or.inl (hw _ (List.mem_of_getElem? (i := 77) rfl))) (Or.inl (hw _ (List.mem_of_getElem? (i := 53) rfl))) (by decide) (t := (.object "java/lang/String")) (t' := (.object "java/util/List")) (by decide) (by decide)))
      have S_UNASSIGNED_STACK := S_UNASSIGNED_STACK.wr W6
      have S_SUPPRESSED_SENTINEL := S_SUPPRESSED_SENTINEL.wr W6
      have hThS := hThS.wr W6
      have K6 := K4.wr W6 (Or.inl (List.mem_of_getElem? (i := 0) rfl))
      have zn6 : n0 ≤ h6.size := Nat.le_trans zn4 (Keep.of_wr W6).1
      have N6 := Fr.snoc X6 N4 ga
      refine OGo.go (B := T6.setTop (mkF m 23 #[.val (.ref a0), .val .null] [])) ?_ st6
      refine OGo.go (B := T6.setTop (mkF m 24 #[.val (.ref a0), .val .null] [(.ref a0)])) ?_ (fun tX kX => XS.aloadN X6.here hx rfl (hb hby d7_23) rfl rfl kX)
      obtain ⟨T7, h7, L7, X7, e7, lb7, EA7, FK7, st7⟩ := own_fill X6 hx hl hZ hown (rc := "com/example/hushlist/hushlist/engine/StanzaException") (own_w hw) (hw _ (List.mem_of_getElem? (i := 27) rfl)) (by rw [hh]; exact hThS0) hThS hTK hBelow e6 E_a0 U_a0 F_backtrace_a0 F_stackTrace_a0 S_UNASSIGNED_STACK rfl (g := (mkF m 24 #[.val (.ref a0), .val .null] [(.ref a0)])) rfl (by rw [hml]; rfl) rfl (hb hby d7_24) (by decide) (by show 2 * 0 + _ + _ ≤ _; decide) (by decide) (by decide)
      have K7 : Keep h0 h7 [a0] := own_keep X7 hh e7 (fun y hy => by simp only [List.nil_append, List.mem_append, List.mem_cons, List.not_mem_nil, or_false, false_or] at hy; rcases hy with ((hy | hy) | hy) | hy <;> first | exact lb7 _ hy | (rw [hy]))
      have F_condition_a0 := FK7 (Or.inr (hw _ (List.mem_of_getElem? (i := 83) rfl))) (t := (.object "com/example/hushlist/hushlist/engine/Condition")) (by decide) (by decide) (by decide) (by decide) F_condition_a0
      have F_detailMessage_a0 := FK7 (Or.inl (hw _ (List.mem_of_getElem? (i := 77) rfl))) (t := (.object "java/lang/String")) (by decide) (by decide) (by decide) (by decide) F_detailMessage_a0
      have E_a0 := EA7
      have zn7 : n0 ≤ h7.size := Nat.le_trans Z0 K7.1
      have N7 := N6.app (fun y hy => by rw [lb7 y hy]; exact ga : Fr n0 L7)
      refine OGo.go (B := T7.setTop (mkF m 27 #[.val (.ref a0), .val .null] [(.ref a0)])) ?_ st7
      refine OGo.go (B := T7.setTop (mkF m 28 #[.val (.ref a0), .val .null] [])) ?_ (fun tX kX => XS.pop X7.here hx rfl (hb hby d7_27) rfl rfl kX)
      refine OGo.go (B := T7.setTop (mkF m 29 #[.val (.ref a0), .val .null] [(.ref a0)])) ?_ (fun tX kX => XS.aloadN X7.here hx rfl (hb hby d7_28) rfl rfl kX)
      refine OGo.go (B := T7.setTop (mkF m 30 #[.val (.ref a0), .val .null] [.null, (.ref a0)])) ?_ (fun tX kX => XS.aloadN X7.here hx rfl (hb hby d7_29) rfl rfl kX)
      obtain ⟨T8, h8, X8, e8, W8, st8⟩ := putF X7 hx hZ hown (host := "") (Or.inl (hw _ (List.mem_of_getElem? (i := 81) rfl))) Via.refl e7 F_detailMessage_a0 E_a0 (Or.inl (hw _ (List.mem_of_getElem? (i := 77) rfl))) (hw _ (List.mem_of_getElem? (i := 27) rfl)) (ty := (.object "java/lang/String")) (by decide) rfl rfl (g := (mkF m 30 #[.val (.ref a0), .val .null] [.null, (.ref a0)])) rfl rfl (hb hby d7_30)
      have E_a0 := E_a0.wr W8
      have F_condition_a0 := F_condition_a0.other W8 (Or.inr (slot_ne (Or.inr (hw _ (List.mem_of_getElem? (i := 83) rfl))) (Or.inl (hw _ (List.mem_of_getElem? (i := 77) rfl))) (by decide) (t := (.object "com/example/hushlist/hushlist/engine/Condition")) (t' := (.object "java/lang/String")) (by decide) (by decide)))
      have F_detailMessage_a0 := F_detailMessage_a0.same W8
      have K8 := K7.wr W8 (Or.inl (List.mem_of_getElem? (i := 0) rfl))
      have zn8 : n0 ≤ h8.size := Nat.le_trans zn7 (Keep.of_wr W8).1
      have N8 := Fr.snoc X8 N7 ga
      refine OGo.go (B := T8.setTop (mkF m 33 #[.val (.ref a0), .val .null] [])) ?_ st8
      refine OGo.ret X8 (v := none) (fun _ => rfl) (BodyLoose.notSynchronized Bd) (fun fs hr => X8.returnOut hx Bd.returns (hb hby d7_33) hr) (Q := Q7n Z a0 u1 o1 o2 o3 us sn h0 n0) ?_ (by decide) (by decide)
      show Q7n Z a0 u1 o1 o2 o3 us sn h0 n0 _ T8.heap _
      rw [e8]
      exact ⟨rfl, N8, K8, E_a0, F_condition_a0, F_detailMessage_a0⟩
    ·
      rw [hu20] at S_SUPPRESSED_SENTINEL
      refine OGo.go (B := s₁.setTop (mkF m 1 #[.val (.ref a0), .val .null] [(.ref a0)])) ?_ (fun tX kX => XS.aloadN X0.here hx rfl (hb hby d7_0) rfl rfl kX)
      obtain ⟨T9, X9, e9, st9⟩ := initO X0 hx hZ hown (hw _ (List.mem_of_getElem? (i := 45) rfl)) (hw _ (List.mem_of_getElem? (i := 12) rfl)) (hw _ (List.mem_of_getElem? (i := 13) rfl)) e0 (g := (mkF m 1 #[.val (.ref a0), .val .null] [(.ref a0)])) rfl (by rw [hml]; rfl) rfl (hb hby d7_1) (by decide) (W := 0) (by show 2 * 0 + _ ≤ _; exact Nat.le_of_eq rfl) (by decide)
      refine OGo.go (B := T9.setTop (mkF m 4 #[.val (.ref a0), .val .null] [])) ?_ st9
      refine OGo.go (B := T9.setTop (mkF m 5 #[.val (.ref a0), .val .null] [(.ref a0)])) ?_ (fun tX kX => XS.aloadN X9.here hx rfl (hb hby d7_4) rfl rfl kX)
      refine OGo.go (B := T9.setTop (mkF m 6 #[.val (.ref a0), .val .null] [(.ref a0), (.ref a0)])) ?_ (fun tX kX => XS.aloadN X9.here hx rfl (hb hby d7_5) rfl rfl kX)
      obtain ⟨T10, h10, X10, e10, W10, st10⟩ := putF X9 hx hZ hown (host := "") (Or.inl (hw _ (List.mem_of_getElem? (i := 46) rfl))) Via.refl e9 F_cause_a0 E_a0 (Or.inl (hw _ (List.mem_of_getElem? (i := 47) rfl))) (hw _ (List.mem_of_getElem? (i := 27) rfl)) (ty := (.object "java/lang/Throwable")) (by decide) rfl rfl (g := (mkF m 6 #[.val (.ref a0), .val .null] [(.ref a0), (.ref a0)])) rfl rfl (hb hby d7_6)
      have E_a0 := E_a0.wr W10
      have U_a0 := U_a0.wr W10
      have F_condition_a0 := F_condition_a0.other W10 (Or.inr (slot_ne (Or.inr (hw _ (List.mem_of_getElem? (i := 83) rfl))) (Or.inl (hw _ (List.mem_of_getElem? (i := 47) rfl))) (by decide) (t := (.object "com/example/hushlist/hushlist/engine/Condition")) (t' := (.object "java/lang/Throwable")) (by decide) (by decide)))
      have F_cause_a0 := F_cause_a0.same W10
      have F_stackTrace_a0 := F_stackTrace_a0.other W10 (Or.inr (slot_ne (Or.inl (hw _ (List.mem_of_getElem? (i := 50) rfl))) (Or.inl (hw _ (List.mem_of_getElem? (i := 47) rfl))) (by decide) (t := (.array (.object "java/lang/StackTraceElement"))) (t' := (.object "java/lang/Throwable")) (by decide) (by decide)))
      have F_suppressedExceptions_a0 := F_suppressedExceptions_a0.other W10 (Or.inr (slot_ne (Or.inl (hw _ (List.mem_of_getElem? (i := 53) rfl))) (Or.inl (hw _ (List.mem_of_getElem? (i := 47) rfl))) (by decide) (t := (.object "java/util/List")) (t' := (.object "java/lang/Throwable")) (by decide) (by decide)))
      have F_backtrace_a0 := F_backtrace_a0.other W10 (Or.inr (slot_ne (Or.inl (hw _ (List.mem_of_getElem? (i := 78) rfl))) (Or.inl (hw _ (List.mem_of_getElem? (i := 47) rfl))) (by decide) (t := (.object "java/lang/Object")) (t' := (.object "java/lang/Throwable")) (by decide) (by decide)))
      have F_detailMessage_a0 := F_detailMessage_a0.other W10 (Or.inr (slot_ne (Or.inl (hw _ (List.mem_of_getElem? (i := 77) rfl))) (Or.inl (hw _ (List.mem_of_getElem? (i := 47) rfl))) (by decide) (t := (.object "java/lang/String")) (t' := (.object "java/lang/Throwable")) (by decide) (by decide)))
      have S_UNASSIGNED_STACK := S_UNASSIGNED_STACK.wr W10
      have S_SUPPRESSED_SENTINEL := S_SUPPRESSED_SENTINEL.wr W10
      have hThS := hThS.wr W10
      have K10 := K0.wr W10 (Or.inl (List.mem_of_getElem? (i := 0) rfl))
      have zn10 : n0 ≤ h10.size := Nat.le_trans Z0 (Keep.of_wr W10).1
      have N10 := Fr.snoc X10 N0 ga
      refine OGo.go (B := T10.setTop (mkF m 9 #[.val (.ref a0), .val .null] [])) ?_ st10
      refine OGo.go (B := T10.setTop (mkF m 10 #[.val (.ref a0), .val .null] [(.ref a0)])) ?_ (fun tX kX => XS.aloadN X10.here hx rfl (hb hby d7_9) rfl rfl kX)
      obtain ⟨T11, X11, e11, st11⟩ := getS2 X10 hx hZ hown (host := "") (Or.inl (hw _ (List.mem_of_getElem? (i := 48) rfl))) Via.refl e10 S_UNASSIGNED_STACK (g := (mkF m 10 #[.val (.ref a0), .val .null] [(.ref a0)])) rfl (hb hby d7_10)
      refine OGo.go (B := T11.setTop (mkF m 13 #[.val (.ref a0), .val .null] [.null, (.ref a0)])) ?_ st11
      obtain ⟨T12, h12, X12, e12, W12, st12⟩ := putF X11 hx hZ hown (host := "") (Or.inl (hw _ (List.mem_of_getElem? (i := 49) rfl))) Via.refl e11 F_stackTrace_a0 E_a0 (Or.inl (hw _ (List.mem_of_getElem? (i := 50) rfl))) (hw _ (List.mem_of_getElem? (i := 27) rfl)) (ty := (.array (.object "java/lang/StackTraceElement"))) (by decide) rfl rfl (g := (mkF m 13 #[.val (.ref a0), .val .null] [.null, (.ref a0)])) rfl rfl (hb hby d7_13)
      have E_a0 := E_a0.wr W12
      have U_a0 := U_a0.wr W12
      have F_condition_a0 := F_condition_a0.other W12 (Or.inr (slot_ne (Or.inr (hw _ (List.mem_of_getElem? (i := 83) rfl))) (Or.inl (hw _ (List.mem_of_getElem? (i := 50) rfl))) (by decide) (t := (.object "com/example/hushlist/hushlist/engine/Condition")) (t' := (.array (.object "java/lang/StackTraceElement"))) (by decide) (by decide)))
      have F_cause_a0 := F_cause_a0.other W12 (Or.inr (slot_ne (Or.inl (hw _ (List.mem_of_getElem? (i := 47) rfl))) (Or.inl (hw _ (List.mem_of_getElem? (i := 50) rfl))) (by decide) (t := (.object "java/lang/Throwable")) (t' := (.array (.object "java/lang/StackTraceElement"))) (by decide) (by decide)))
      have F_stackTrace_a0 := F_stackTrace_a0.same W12
      have F_suppressedExceptions_a0 := F_suppressedExceptions_a0.other W12 (Or.inr (slot_ne (Or.inl (hw _ (List.mem_of_getElem? (i := 53) rfl))) (Or.inl (hw _ (List.mem_of_getElem? (i := 50) rfl))) (by decide) (t := (.object "java/util/List")) (t' := (.array (.object "java/lang/StackTraceElement"))) (by decide) (by decide)))
      have F_backtrace_a0 := F_backtrace_a0.other W12 (Or.inr (slot_ne (Or.inl (hw _ (List.mem_of_getElem? (i := 78) rfl))) (Or.inl (hw _ (List.mem_of_getElem? (i := 50) rfl))) (by decide) (t := (.object "java/lang/Object")) (t' := (.array (.object "java/lang/StackTraceElement"))) (by decide) (by decide)))
      have F_detailMessage_a0 := F_detailMessage_a0.other W12 (Or.inr (slot_ne (Or.inl (hw _ (List.mem_of_getElem? (i := 77) rfl))) (Or.inl (hw _ (List.mem_of_getElem? (i := 50) rfl))) (by decide) (t := (.object "java/lang/String")) (t' := (.array (.object "java/lang/StackTraceElement"))) (by decide) (by decide)))
      have S_UNASSIGNED_STACK := S_UNASSIGNED_STACK.wr W12
      have S_SUPPRESSED_SENTINEL := S_SUPPRESSED_SENTINEL.wr W12
      have hThS := hThS.wr W12
      have K12 := K10.wr W12 (Or.inl (List.mem_of_getElem? (i := 0) rfl))
      have zn12 : n0 ≤ h12.size := Nat.le_trans zn10 (Keep.of_wr W12).1
      have N12 := Fr.snoc X12 N10 ga
      refine OGo.go (B := T12.setTop (mkF m 16 #[.val (.ref a0), .val .null] [])) ?_ st12
      refine OGo.go (B := T12.setTop (mkF m 17 #[.val (.ref a0), .val .null] [(.ref a0)])) ?_ (fun tX kX => XS.aloadN X12.here hx rfl (hb hby d7_16) rfl rfl kX)
      obtain ⟨T13, X13, e13, st13⟩ := getS2 X12 hx hZ hown (host := "") (Or.inl (hw _ (List.mem_of_getElem? (i := 51) rfl))) Via.refl e12 S_SUPPRESSED_SENTINEL (g := (mkF m 17 #[.val (.ref a0), .val .null] [(.ref a0)])) rfl (hb hby d7_17)
      refine OGo.go (B := T13.setTop (mkF m 20 #[.val (.ref a0), .val .null] [(.ref u20), (.ref a0)])) ?_ st13
      obtain ⟨T14, h14, X14, e14, W14, st14⟩ := putF X13 hx hZ hown (host := "") (Or.inl (hw _ (List.mem_of_getElem? (i := 52) rfl))) Via.refl e13 F_suppressedExceptions_a0 E_a0 (Or.inl (hw _ (List.mem_of_getElem? (i := 53) rfl))) (hw _ (List.mem_of_getElem? (i := 27) rfl)) (ty := (.object "java/util/List")) (by decide) rfl rfl (g := (mkF m 20 #[.val (.ref a0), .val .null] [(.ref u20), (.ref a0)])) rfl rfl (hb hby d7_20)
      have E_a0 := E_a0.wr W14
      have U_a0 := U_a0.wr W14
      have F_condition_a0 := F_condition_a0.other W14 (Or.inr (slot_ne (Or.inr (hw _ (List.mem_of_getElem? (i := 83) rfl))) (Or.inl (hw _ (List.mem_of_getElem? (i := 53) rfl))) (by decide) (t := (.object "com/example/hushlist/hushlist/engine/Condition")) (t' := (.object "java/util/List")) (by decide) (by decide)))
      have F_cause_a0 := F_cause_a0.other W14 (Or.inr (slot_ne (Or.inl (hw _ (List.mem_of_getElem? (i := 47) rfl))) (Or.inl (hw _ (List.mem_of_getElem? (i := 53) rfl))) (by decide) (t := (.object "java/lang/Throwable")) (t' := (.object "java/util/List")) (by decide) (by decide)))
      have F_stackTrace_a0 := F_stackTrace_a0.other W14 (Or.inr (slot_ne (Or.inl (hw _ (List.mem_of_getElem? (i := 50) rfl))) (Or.inl (hw _ (List.mem_of_getElem? (i := 53) rfl))) (by decide) (t := (.array (.object "java/lang/StackTraceElement"))) (t' := (.object "java/util/List")) (by decide) (by decide)))
      have F_suppressedExceptions_a0 := F_suppressedExceptions_a0.same W14
      have F_backtrace_a0 := F_backtrace_a0.other W14 (Or.inr (slot_ne (Or.inl (hw _ (List.mem_of_getElem? (i := 78) rfl))) (Or.inl (hw _ (List.mem_of_getElem? (i := 53) rfl))) (by decide) (t := (.object "java/lang/Object")) (t' := (.object "java/util/List")) (by decide) (by decide)))
      have F_detailMessage_a0 := F_detailMessage_a0.other W14 (Or.inr (slot_ne (Or.inl (hw _ (List.mem_of_getElem? (i := 77) rfl))) (Or.inl (hw _ (List.mem_of_getElem? (i := 53) rfl))) (by decide) (t := (.object "java/lang/String")) (t' := (.object "java/util/List")) (by decide) (by decide)))
      have S_UNASSIGNED_STACK := S_UNASSIGNED_STACK.wr W14
      have S_SUPPRESSED_SENTINEL := S_SUPPRESSED_SENTINEL.wr W14
      have hThS := hThS.wr W14
      have K14 := K12.wr W14 (Or.inl (List.mem_of_getElem? (i := 0) rfl))
      have zn14 : n0 ≤ h14.size := Nat.le_trans zn12 (Keep.of_wr W14).1
      have N14 := Fr.snoc X14 N12 ga
      refine OGo.go (B := T14.setTop (mkF m 23 #[.val (.ref a0), .val .null] [])) ?_ st14
      refine OGo.go (B := T14.setTop (mkF m 24 #[.val (.ref a0), .val .null] [(.ref a0)])) ?_ (fun tX kX => XS.aloadN X14.here hx rfl (hb hby d7_23) rfl rfl kX)
      obtain ⟨T15, h15, L15, X15, e15, lb15, EA15, FK15, st15⟩ := own_fill X14 hx hl hZ hown (rc := "com/example/hushlist/hushlist/engine/StanzaException") (own_w hw) (hw _ (List.mem_of_getElem? (i := 27) rfl)) (by rw [hh]; exact hThS0) hThS hTK hBelow e14 E_a0 U_a0 F_backtrace_a0 F_stackTrace_a0 S_UNASSIGNED_STACK rfl (g := (mkF m 24 #[.val (.ref a0), .val .null] [(.ref a0)])) rfl (by rw [hml]; rfl) rfl (hb hby d7_24) (by decide) (by show 2 * 0 + _ + _ ≤ _; decide) (by decide) (by decide)
      have K15 : Keep h0 h15 [a0] := own_keep X15 hh e15 (fun y hy => by simp only [List.nil_append, List.mem_append, List.mem_cons, List.not_mem_nil, or_false, false_or] at hy; rcases hy with ((hy | hy) | hy) | hy <;> first | exact lb15 _ hy | (rw [hy]))
      have F_condition_a0 := FK15 (Or.inr (hw _ (List.mem_of_getElem? (i := 83) rfl))) (t := (.object "com/example/hushlist/hushlist/engine/Condition")) (by decide) (by decide) (by decide) (by decide) F_condition_a0
      have F_detailMessage_a0 := FK15 (Or.inl (hw _ (List.mem_of_getElem? (i := 77) rfl))) (t := (.object "java/lang/String")) (by decide) (by decide) (by decide) (by decide) F_detailMessage_a0
      have E_a0 := EA15
      have zn15 : n0 ≤ h15.size := Nat.le_trans Z0 K15.1
      have N15 := N14.app (fun y hy => by rw [lb15 y hy]; exact ga : Fr n0 L15)
      refine OGo.go (B := T15.setTop (mkF m 27 #[.val (.ref a0), .val .null] [(.ref a0)])) ?_ st15
      refine OGo.go (B := T15.setTop (mkF m 28 #[.val (.ref a0), .val .null] [])) ?_ (fun tX kX => XS.pop X15.here hx rfl (hb hby d7_27) rfl rfl kX)
      refine OGo.go (B := T15.setTop (mkF m 29 #[.val (.ref a0), .val .null] [(.ref a0)])) ?_ (fun tX kX => XS.aloadN X15.here hx rfl (hb hby d7_28) rfl rfl kX)
      refine OGo.go (B := T15.setTop (mkF m 30 #[.val (.ref a0), .val .null] [.null, (.ref a0)])) ?_ (fun tX kX => XS.aloadN X15.here hx rfl (hb hby d7_29) rfl rfl kX)
      obtain ⟨T16, h16, X16, e16, W16, st16⟩ := putF X15 hx hZ hown (host := "") (Or.inl (hw _ (List.mem_of_getElem? (i := 81) rfl))) Via.refl e15 F_detailMessage_a0 E_a0 (Or.inl (hw _ (List.mem_of_getElem? (i := 77) rfl))) (hw _ (List.mem_of_getElem? (i := 27) rfl)) (ty := (.object "java/lang/String")) (by decide) rfl rfl (g := (mkF m 30 #[.val (.ref a0), .val .null] [.null, (.ref a0)])) rfl rfl (hb hby d7_30)
      have E_a0 := E_a0.wr W16
      have F_condition_a0 := F_condition_a0.other W16 (Or.inr (slot_ne (Or.inr (hw _ (List.mem_of_getElem? (i := 83) rfl))) (Or.inl (hw _ (List.mem_of_getElem? (i := 77) rfl))) (by decide) (t := (.object "com/example/hushlist/hushlist/engine/Condition")) (t' := (.object "java/lang/String")) (by decide) (by decide)))
      have F_detailMessage_a0 := F_detailMessage_a0.same W16
      have K16 := K15.wr W16 (Or.inl (List.mem_of_getElem? (i := 0) rfl))
      have zn16 : n0 ≤ h16.size := Nat.le_trans zn15 (Keep.of_wr W16).1
      have N16 := Fr.snoc X16 N15 ga
      refine OGo.go (B := T16.setTop (mkF m 33 #[.val (.ref a0), .val .null] [])) ?_ st16
      refine OGo.ret X16 (v := none) (fun _ => rfl) (BodyLoose.notSynchronized Bd) (fun fs hr => X16.returnOut hx Bd.returns (hb hby d7_33) hr) (Q := Q7n Z a0 u1 o1 o2 o3 us sn h0 n0) ?_ (by decide) (by decide)
      show Q7n Z a0 u1 o1 o2 o3 us sn h0 n0 _ T16.heap _
      rw [e16]
      exact ⟨rfl, N16, K16, E_a0, F_condition_a0, F_detailMessage_a0⟩
  ·
    rw [hu13] at S_UNASSIGNED_STACK
    rcases ref_cases hsn with hu20 | ⟨u20, hu20⟩
    ·
      rw [hu20] at S_SUPPRESSED_SENTINEL
      refine OGo.go (B := s₁.setTop (mkF m 1 #[.val (.ref a0), .val .null] [(.ref a0)])) ?_ (fun tX kX => XS.aloadN X0.here hx rfl (hb hby d7_0) rfl rfl kX)
      obtain ⟨T17, X17, e17, st17⟩ := initO X0 hx hZ hown (hw _ (List.mem_of_getElem? (i := 45) rfl)) (hw _ (List.mem_of_getElem? (i := 12) rfl)) (hw _ (List.mem_of_getElem? (i := 13) rfl)) e0 (g := (mkF m 1 #[.val (.ref a0), .val .null] [(.ref a0)])) rfl (by rw [hml]; rfl) rfl (hb hby d7_1) (by decide) (W := 0) (by show 2 * 0 + _ ≤ _; exact Nat.le_of_eq rfl) (by decide)
      refine OGo.go (B := T17.setTop (mkF m 4 #[.val (.ref a0), .val .null] [])) ?_ st17
      refine OGo.go (B := T17.setTop (mkF m 5 #[.val (.ref a0), .val .null] [(.ref a0)])) ?_ (fun tX kX => XS.aloadN X17.here hx rfl (hb hby d7_4) rfl rfl kX)
      refine OGo.go (B := T17.setTop (mkF m 6 #[.val (.ref a0), .val .null] [(.ref a0), (.ref a0)])) ?_ (fun tX kX => XS.aloadN X17.here hx rfl (hb hby d7_5) rfl rfl kX)
      obtain ⟨T18, h18, X18, e18, W18, st18⟩ := putF X17 hx hZ hown (host := "") (Or.inl (hw _ (List.mem_of_getElem? (i := 46) rfl))) Via.refl e17 F_cause_a0 E_a0 (Or.inl (hw _ (List.mem_of_getElem? (i := 47) rfl))) (hw _ (List.mem_of_getElem? (i := 27) rfl)) (ty := (.object "java/lang/Throwable")) (by decide) rfl rfl (g := (mkF m 6 #[.val (.ref a0), .val .null] [(.ref a0), (.ref a0)])) rfl rfl (hb hby d7_6)
      have E_a0 := E_a0.wr W18
      have U_a0 := U_a0.wr W18
      have F_condition_a0 := F_condition_a0.other W18 (Or.inr (slot_ne (Or.inr (hw _ (List.mem_of_getElem? (i := 83) rfl))) (Or.inl (hw _ (List.mem_of_getElem? (i := 47) rfl))) (by decide) (t := (.object "com/example/hushlist/hushlist/engine/Condition")) (t' := (.object "java/lang/Throwable")) (by decide) (by decide)))
      have F_cause_a0 := F_cause_a0.same W18
      have F_stackTrace_a0 := F_stackTrace_a0.other W18 (Or.inr (slot_ne (Or.inl (hw _ (List.mem_of_getElem? (i := 50) rfl))) (Or.inl (hw _ (List.mem_of_getElem? (i := 47) rfl))) (by decide) (t := (.array (.object "java/lang/StackTraceElement"))) (t' := (.object "java/lang/Throwable")) (by decide) (by decide)))
      have F_suppressedExceptions_a0 := F_suppressedExceptions_a0.other W18 (Or.inr (slot_ne (Or.inl (hw _ (List.mem_of_getElem? (i := 53) rfl))) (Or.inl (hw _ (List.mem_of_getElem? (i := 47) rfl))) (by decide) (t := (.object "java/util/List")) (t' := (.object "java/lang/Throwable")) (by decide) (by decide)))
      have F_backtrace_a0 := F_backtrace_a0.other W18 (Or.inr (slot_ne (Or.inl (hw _ (List.mem_of_getElem? (i := 78) rfl))) (Or.inl (hw _ (List.mem_of_getElem? (i := 47) rfl))) (by decide) (t := (.object "java/lang/Object")) (t' := (.object "java/lang/Throwable")) (by decide) (by decide)))
      have F_detailMessage_a0 := F_detailMessage_a0.other W18 (Or.inr (slot_ne (Or.inl (hw _ (List.mem_of_getElem? (i := 77) rfl))) (Or.inl (hw _ (List.mem_of_getElem? (i := 47) rfl))) (by decide) (t := (.object "java/lang/String")) (t' := (.object "java/lang/Throwable")) (by decide) (by decide)))
      have S_UNASSIGNED_STACK := S_UNASSIGNED_STACK.wr W18
      have S_SUPPRESSED_SENTINEL := S_SUPPRESSED_SENTINEL.wr W18
      have hThS := hThS.wr W18
      have K18 := K0.wr W18 (Or.inl (List.mem_of_getElem? (i := 0) rfl))
      have zn18 : n0 ≤ h18.size := Nat.le_trans Z0 (Keep.of_wr W18).1
      have N18 := Fr.snoc X18 N0 ga
      refine OGo.go (B := T18.setTop (mkF m 9 #[.val (.ref a0), .val .null] [])) ?_ st18
      refine OGo.go (B := T18.setTop (mkF m 10 #[.val (.ref a0), .val .null] [(.ref a0)])) ?_ (fun tX kX => XS.aloadN X18.here hx rfl (hb hby d7_9) rfl rfl kX)
      obtain ⟨T19, X19, e19, st19⟩ := getS2 X18 hx hZ hown (host := "") (Or.inl (hw _ (List.mem_of_getElem? (i := 48) rfl))) Via.refl e18 S_UNASSIGNED_STACK (g := (mkF m 10 #[.val (.ref a0), .val .null] [(.ref a0)])) rfl (hb hby d7_10)
      refine OGo.go (B := T19.setTop (mkF m 13 #[.val (.ref a0), .val .null] [(.ref u13), (.ref a0)])) ?_ st19
      obtain ⟨T20, h20, X20, e20, W20, st20⟩ := putF X19 hx hZ hown (host := "") (Or.inl (hw _ (List.mem_of_getElem? (i := 49) rfl))) Via.refl e19 F_stackTrace_a0 E_a0 (Or.inl (hw _ (List.mem_of_getElem? (i := 50) rfl))) (hw _ (List.mem_of_getElem? (i := 27) rfl)) (ty := (.array (.object "java/lang/StackTraceElement"))) (by decide) rfl rfl (g := (mkF m 13 #[.val (.ref a0), .val .null] [(.ref u13), (.ref a0)])) rfl rfl (hb hby d7_13)
      have E_a0 := E_a0.wr W20
      have U_a0 := U_a0.wr W20
      have F_condition_a0 := F_condition_a0.other W20 (Or.inr (slot_ne (Or.inr (hw _ (List.mem_of_getElem? (i := 83) rfl))) (Or.inl (hw _ (List.mem_of_getElem? (i := 50) rfl))) (by decide) (t := (.object "com/example/hushlist/hushlist/engine/Condition")) (t' := (.array (.object "java/lang/StackTraceElement"))) (by decide) (by decide)))
      have F_cause_a0 := F_cause_a0.other W20 (Or.inr (slot_ne (Or.inl (hw _ (List.mem_of_getElem? (i := 47) rfl))) (Or.inl (hw _ (List.mem_of_getElem? (i := 50) rfl))) (by decide) (t := (.object "java/lang/Throwable")) (t' := (.array (.object "java/lang/StackTraceElement"))) (by decide) (by decide)))
      have F_stackTrace_a0 := F_stackTrace_a0.same W20
      have F_suppressedExceptions_a0 := F_suppressedExceptions_a0.other W20 (Or.inr (slot_ne (Or.inl (hw _ (List.mem_of_getElem? (i := 53) rfl))) (Or.inl (hw _ (List.mem_of_getElem? (i := 50) rfl))) (by decide) (t := (.object "java/util/List")) (t' := (.array (.object "java/lang/StackTraceElement"))) (by decide) (by decide)))
      have F_backtrace_a0 := F_backtrace_a0.other W20 (Or.inr (slot_ne (Or.inl (hw _ (List.mem_of_getElem? (i := 78) rfl))) (Or.inl (hw _ (List.mem_of_getElem? (i := 50) rfl))) (by decide) (t := (.object "java/lang/Object")) (t' := (.array (.object "java/lang/StackTraceElement"))) (by decide) (by decide)))
      have F_detailMessage_a0 := F_detailMessage_a0.other W20 (Or.inr (slot_ne (Or.inl (hw _ (List.mem_of_getElem? (i := 77) rfl))) (Or.inl (hw _ (List.mem_of_getElem? (i := 50) rfl))) (by decide) (t := (.object "java/lang/String")) (t' := (.array (.object "java/lang/StackTraceElement"))) (by decide) (by decide)))
      have S_UNASSIGNED_STACK := S_UNASSIGNED_STACK.wr W20
      have S_SUPPRESSED_SENTINEL := S_SUPPRESSED_SENTINEL.wr W20
      have hThS := hThS.wr W20
      have K20 := K18.wr W20 (Or.inl (List.mem_of_getElem? (i := 0) rfl))
      have zn20 : n0 ≤ h20.size := Nat.le_trans zn18 (Keep.of_wr W20).1
      have N20 := Fr.snoc X20 N18 ga
      refine OGo.go (B := T20.setTop (mkF m 16 #[.val (.ref a0), .val .null] [])) ?_ st20
      refine OGo.go (B := T20.setTop (mkF m 17 #[.val (.ref a0), .val .null] [(.ref a0)])) ?_ (fun tX kX => XS.aloadN X20.here hx rfl (hb hby d7_16) rfl rfl kX)
      obtain ⟨T21, X21, e21, st21⟩ := getS2 X20 hx hZ hown (host := "") (Or.inl (hw _ (List.mem_of_getElem? (i := 51) rfl))) Via.refl e20 S_SUPPRESSED_SENTINEL (g := (mkF m 17 #[.val (.ref a0), .val .null] [(.ref a0)])) rfl (hb hby d7_17)
      refine OGo.go (B := T21.setTop (mkF m 20 #[.val (.ref a0), .val .null] [.null, (.ref a0)])) ?_ st21
      obtain ⟨T22, h22, X22, e22, W22, st22⟩ := putF X21 hx hZ hown (host := "") (Or.inl (hw _ (List.mem_of_getElem? (i := 52) rfl))) Via.refl e21 F_suppressedExceptions_a0 E_a0 (Or.inl (hw _ (List.mem_of_getElem? (i := 53) rfl))) (hw _ (List.mem_of_getElem? (i := 27) rfl)) (ty := (.object "java/util/List")) (by decide) rfl rfl (g := (mkF m 20 #[.val (.ref a0), .val .null] [.null, (.ref a0)])) rfl rfl (hb hby d7_20)
      have E_a0 := E_a0.wr W22
      have U_a0 := U_a0.wr W22
      have F_condition_a0 := F_condition_a0.other W22 (Or.inr (slot_ne (Or.inr (hw _ (List.mem_of_getElem? (i := 83) rfl))) (Or.inl (hw _ (List.mem_of_getElem? (i := 53) rfl))) (by decide) (t := (.object "com/example/hushlist/hushlist/engine/Condition")) (t' := (.object "java/util/List")) (by decide) (by decide)))
      have F_cause_a0 := F_cause_a0.other W22 (Or.inr (slot_ne (Or.inl (hw _ (List.mem_of_getElem? (i := 47) rfl))) (Or.inl (hw _ (List.mem_of_getElem? (i := 53) rfl))) (by decide) (t := (.object "java/lang/Throwable")) (t' := (.object "java/util/List")) (by decide) (by decide)))
      have F_stackTrace_a0 := F_stackTrace_a0.other W22 (Or.inr (slot_ne (Or.inl (hw _ (List.mem_of_getElem? (i := 50) rfl))) (Or.inl (hw _ (List.mem_of_getElem? (i := 53) rfl))) (by decide) (t := (.array (.object "java/lang/StackTraceElement"))) (t' := (.object "java/util/List")) (by decide) (by decide)))
      have F_suppressedExceptions_a0 := F_suppressedExceptions_a0.same W22
      have F_backtrace_a0 := F_backtrace_a0.other W22 (Or.inr (slot_ne (Or.inl (hw _ (List.mem_of_getElem? (i := 78) rfl))) (Or.inl (hw _ (List.mem_of_getElem? (i := 53) rfl))) (by decide) (t := (.object "java/lang/Object")) (t' := (.object "java/util/List")) (by decide) (by decide)))
      have F_detailMessage_a0 := F_detailMessage_a0.other W22 (Or.inr (slot_ne (Or.inl (hw _ (List.mem_of_getElem? (i := 77) rfl))) (Or.inl (hw _ (List.mem_of_getElem? (i := 53) rfl))) (by decide) (t := (.object "java/lang/String")) (t' := (.object "java/util/List")) (by decide) (by decide)))
      have S_UNASSIGNED_STACK := S_UNASSIGNED_STACK.wr W22
      have S_SUPPRESSED_SENTINEL := S_SUPPRESSED_SENTINEL.wr W22
      have hThS := hThS.wr W22
      have K22 := K20.wr W22 (Or.inl (List.mem_of_getElem? (i := 0) rfl))
      have zn22 : n0 ≤ h22.size := Nat.le_trans zn20 (Keep.of_wr W22).1
      have N22 := Fr.snoc X22 N20 ga
      refine OGo.go (B := T22.setTop (mkF m 23 #[.val (.ref a0), .val .null] [])) ?_ st22
      refine OGo.go (B := T22.setTop (mkF m 24 #[.val (.ref a0), .val .null] [(.ref a0)])) ?_ (fun tX kX => XS.aloadN X22.here hx rfl (hb hby d7_23) rfl rfl kX)
      obtain ⟨T23, h23, L23, X23, e23, lb23, EA23, FK23, st23⟩ := own_fill X22 hx hl hZ hown (rc := "com/example/hushlist/hushlist/engine/StanzaException") (own_w hw) (hw _ (List.mem_of_getElem? (i := 27) rfl)) (by rw [hh]; exact hThS0) hThS hTK hBelow e22 E_a0 U_a0 F_backtrace_a0 F_stackTrace_a0 S_UNASSIGNED_STACK rfl (g := (mkF m 24 #[.val (.ref a0), .val .null] [(.ref a0)])) rfl (by rw [hml]; rfl) rfl (hb hby d7_24) (by decide) (by show 2 * 0 + _ + _ ≤ _; decide) (by decide) (by decide)
      have K23 : Keep h0 h23 [a0] := own_keep X23 hh e23 (fun y hy => by simp only [List.nil_append, List.mem_append, List.mem_cons, List.not_mem_nil, or_false, false_or] at hy; rcases hy with ((hy | hy) | hy) | hy <;> first | exact lb23 _ hy | (rw [hy]))
      have F_condition_a0 := FK23 (Or.inr (hw _ (List.mem_of_getElem? (i := 83) rfl))) (t := (.object "com/example/hushlist/hushlist/engine/Condition")) (by decide) (by decide) (by decide) (by decide) F_condition_a0
      have F_detailMessage_a0 := FK23 (Or.inl (hw _ (List.mem_of_getElem? (i := 77) rfl))) (t := (.object "java/lang/String")) (by decide) (by decide) (by decide) (by decide) F_detailMessage_a0
      have E_a0 := EA23
      have zn23 : n0 ≤ h23.size := Nat.le_trans Z0 K23.1
      have N23 := N22.app (fun y hy => by rw [lb23 y hy]; exact ga : Fr n0 L23)
      refine OGo.go (B := T23.setTop (mkF m 27 #[.val (.ref a0), .val .null] [(.ref a0)])) ?_ st23
      refine OGo.go (B := T23.setTop (mkF m 28 #[.val (.ref a0), .val .null] [])) ?_ (fun tX kX => XS.pop X23.here hx rfl (hb hby d7_27) rfl rfl kX)
      refine OGo.go (B := T23.setTop (mkF m 29 #[.val (.ref a0), .val .null] [(.ref a0)])) ?_ (fun tX kX => XS.aloadN X23.here hx rfl (hb hby d7_28) rfl rfl kX)
      refine OGo.go (B := T23.setTop (mkF m 30 #[.val (.ref a0), .val .null] [.null, (.ref a0)])) ?_ (fun tX kX => XS.aloadN X23.here hx rfl (hb hby d7_29) rfl rfl kX)
      obtain ⟨T24, h24, X24, e24, W24, st24⟩ := putF X23 hx hZ hown (host := "") (Or.inl (hw _ (List.mem_of_getElem? (i := 81) rfl))) Via.refl e23 F_detailMessage_a0 E_a0 (Or.inl (hw _ (List.mem_of_getElem? (i := 77) rfl))) (hw _ (List.mem_of_getElem? (i := 27) rfl)) (ty := (.object "java/lang/String")) (by decide) rfl rfl (g := (mkF m 30 #[.val (.ref a0), .val .null] [.null, (.ref a0)])) rfl rfl (hb hby d7_30)
      have E_a0 := E_a0.wr W24
      have F_condition_a0 := F_condition_a0.other W24 (Or.inr (slot_ne (Or.inr (hw _ (List.mem_of_getElem? (i := 83) rfl))) (Or.inl (hw _ (List.mem_of_getElem? (i := 77) rfl))) (by decide) (t := (.object "com/example/hushlist/hushlist/engine/Condition")) (t' := (.object "java/lang/String")) (by decide) (by decide)))
      have F_detailMessage_a0 := F_detailMessage_a0.same W24
      have K24 := K23.wr W24 (Or.inl (List.mem_of_getElem? (i := 0) rfl))
      have zn24 : n0 ≤ h24.size := Nat.le_trans zn23 (Keep.of_wr W24).1
      have N24 := Fr.snoc X24 N23 ga
      refine OGo.go (B := T24.setTop (mkF m 33 #[.val (.ref a0), .val .null] [])) ?_ st24
      refine OGo.ret X24 (v := none) (fun _ => rfl) (BodyLoose.notSynchronized Bd) (fun fs hr => X24.returnOut hx Bd.returns (hb hby d7_33) hr) (Q := Q7n Z a0 u1 o1 o2 o3 us sn h0 n0) ?_ (by decide) (by decide)
      show Q7n Z a0 u1 o1 o2 o3 us sn h0 n0 _ T24.heap _
      rw [e24]
      exact ⟨rfl, N24, K24, E_a0, F_condition_a0, F_detailMessage_a0⟩
    ·
      rw [hu20] at S_SUPPRESSED_SENTINEL
      refine OGo.go (B := s₁.setTop (mkF m 1 #[.val (.ref a0), .val .null] [(.ref a0)])) ?_ (fun tX kX => XS.aloadN X0.here hx rfl (hb hby d7_0) rfl rfl kX)
      obtain ⟨T25, X25, e25, st25⟩ := initO X0 hx hZ hown (hw _ (List.mem_of_getElem? (i := 45) rfl)) (hw _ (List.mem_of_getElem? (i := 12) rfl)) (hw _ (List.mem_of_getElem? (i := 13) rfl)) e0 (g := (mkF m 1 #[.val (.ref a0), .val .null] [(.ref a0)])) rfl (by rw [hml]; rfl) rfl (hb hby d7_1) (by decide) (W := 0) (by show 2 * 0 + _ ≤ _; exact Nat.le_of_eq rfl) (by decide)
      refine OGo.go (B := T25.setTop (mkF m 4 #[.val (.ref a0), .val .null] [])) ?_ st25
      refine OGo.go (B := T25.setTop (mkF m 5 #[.val (.ref a0), .val .null] [(.ref a0)])) ?_ (fun tX kX => XS.aloadN X25.here hx rfl (hb hby d7_4) rfl rfl kX)
      refine OGo.go (B := T25.setTop (mkF m 6 #[.val (.ref a0), .val .null] [(.ref a0), (.ref a0)])) ?_ (fun tX kX => XS.aloadN X25.here hx rfl (hb hby d7_5) rfl rfl kX)
      obtain ⟨T26, h26, X26, e26, W26, st26⟩ := putF X25 hx hZ hown (host := "") (Or.inl (hw _ (List.mem_of_getElem? (i := 46) rfl))) Via.refl e25 F_cause_a0 E_a0 (Or.inl (hw _ (List.mem_of_getElem? (i := 47) rfl))) (hw _ (List.mem_of_getElem? (i := 27) rfl)) (ty := (.object "java/lang/Throwable")) (by decide) rfl rfl (g := (mkF m 6 #[.val (.ref a0), .val .null] [(.ref a0), (.ref a0)])) rfl rfl (hb hby d7_6)
      have E_a0 := E_a0.wr W26
      have U_a0 := U_a0.wr W26
      have F_condition_a0 := F_condition_a0.other W26 (Or.inr (slot_ne (Or.inr (hw _ (List.mem_of_getElem? (i := 83) rfl))) (Or.inl (hw _ (List.mem_of_getElem? (i := 47) rfl))) (by decide) (t := (.object "com/example/hushlist/hushlist/engine/Condition")) (t' := (.object "java/lang/Throwable")) (by decide) (by decide)))
      have F_cause_a0 := F_cause_a0.same W26
      have F_stackTrace_a0 := F_stackTrace_a0.other W26 (Or.inr (slot_ne (Or.inl (hw _ (List.mem_of_getElem? (i := 50) rfl))) (Or.inl (hw _ (List.mem_of_getElem? (i := 47) rfl))) (by decide) (t := (.array (.object "java/lang/StackTraceElement"))) (t' := (.object "java/lang/Throwable")) (by decide) (by decide)))
      have F_suppressedExceptions_a0 := F_suppressedExceptions_a0.other W26 (Or.inr (slot_ne (Or.inl (hw _ (List.mem_of_getElem? (i := 53) rfl))) (Or.inl (hw _ (List.mem_of_getElem? (i := 47) rfl))) (by decide) (t := (.object "java/util/List")) (t' := (.object "java/lang/Throwable")) (by decide) (by decide)))
      have F_backtrace_a0 := F_backtrace_a0.other W26 (Or.inr (slot_ne (Or.inl (hw _ (List.mem_of_getElem? (i := 78) rfl))) (Or.inl (hw _ (List.mem_of_getElem? (i := 47) rfl))) (by decide) (t := (.object "java/lang/Object")) (t' := (.object "java/lang/Throwable")) (by decide) (by decide)))
      have F_detailMessage_a0 := F_detailMessage_a0.other W26 (Or.inr (slot_ne (Or.inl (hw _ (List.mem_of_getElem? (i := 77) rfl))) (Or.inl (hw _ (List.mem_of_getElem? (i := 47) rfl))) (by decide) (t := (.object "java/lang/String")) (t' := (.object "java/lang/Throwable")) (by decide) (by decide)))
      have S_UNASSIGNED_STACK := S_UNASSIGNED_STACK.wr W26
      have S_SUPPRESSED_SENTINEL := S_SUPPRESSED_SENTINEL.wr W26
      have hThS := hThS.wr W26
      have K26 := K0.wr W26 (Or.inl (List.mem_of_getElem? (i := 0) rfl))
      have zn26 : n0 ≤ h26.size := Nat.le_trans Z0 (Keep.of_wr W26).1
      have N26 := Fr.snoc X26 N0 ga
      refine OGo.go (B := T26.setTop (mkF m 9 #[.val (.ref a0), .val .null] [])) ?_ st26
      refine OGo.go (B := T26.setTop (mkF m 10 #[.val (.ref a0), .val .null] [(.ref a0)])) ?_ (fun tX kX => XS.aloadN X26.here hx rfl (hb hby d7_9) rfl rfl kX)
      obtain ⟨T27, X27, e27, st27⟩ := getS2 X26 hx hZ hown (host := "") (Or.inl (hw _ (List.mem_of_getElem? (i := 48) rfl))) Via.refl e26 S_UNASSIGNED_STACK (g := (mkF m 10 #[.val (.ref a0), .val .null] [(.ref a0)])) rfl (hb hby d7_10)
      refine OGo.go (B := T27.setTop (mkF m 13 #[.val (.ref a0), .val .null] [(.ref u13), (.ref a0)])) ?_ st27
      obtain ⟨T28, h28, X28, e28, W28, st28⟩ := putF X27 hx hZ hown (host := "") (Or.inl (hw _ (List.mem_of_getElem? (i := 49) rfl))) Via.refl e27 F_stackTrace_a0 E_a0 (Or.inl (hw _ (List.mem_of_getElem? (i := 50) rfl))) (hw _ (List.mem_of_getElem? (i := 27) rfl)) (ty := (.array (.object "java/lang/StackTraceElement"))) (by decide) rfl rfl (g := (mkF m 13 #[.val (.ref a0), .val .null] [(.ref u13), (.ref a0)])) rfl rfl (hb hby d7_13)
      have E_a0 := E_a0.wr W28
      have U_a0 := U_a0.wr W28
      have F_condition_a0 := F_condition_a0.other W28 (Or.inr (slot_ne (Or.inr (hw _ (List.mem_of_getElem? (i := 83) rfl))) (Or.inl (hw _ (List.mem_of_getElem? (i := 50) rfl))) (by decide) (t := (.object "com/example/hushlist/hushlist/engine/Condition")) (t' := (.array (.object "java/lang/StackTraceElement"))) (by decide) (by decide)))
      have F_cause_a0 := F_cause_a0.other W28 (Or.inr (slot_ne (Or.inl (hw _ (List.mem_of_getElem? (i := 47) rfl))) (Or.inl (hw _ (List.mem_of_getElem? (i := 50) rfl))) (by decide) (t := (.object "java/lang/Throwable")) (t' := (.array (.object "java/lang/StackTraceElement"))) (by decide) (by decide)))
      have F_stackTrace_a0 := F_stackTrace_a0.same W28
      have F_suppressedExceptions_a0 := F_suppressedExceptions_a0.other W28 (Or.inr (slot_ne (Or.inl (hw _ (List.mem_of_getElem? (i := 53) rfl))) (Or.inl (hw _ (List.mem_of_getElem? (i := 50) rfl))) (by decide) (t := (.object "java/util/List")) (t' := (.array (.object "java/lang/StackTraceElement"))) (by decide) (by decide)))
      have F_backtrace_a0 := F_backtrace_a0.other W28 (Or.inr (slot_ne (Or.inl (hw _ (List.mem_of_getElem? (i := 78) rfl))) (Or.inl (hw _ (List.mem_of_getElem? (i := 50) rfl))) (by decide) (t := (.object "java/lang/Object")) (t' := (.array (.object "java/lang/StackTraceElement"))) (by decide) (by decide)))
      have F_detailMessage_a0 := F_detailMessage_a0.other W28 (Or.inr (slot_ne (Or.inl (hw _ (List.mem_of_getElem? (i := 77) rfl))) (Or.inl (hw _ (List.mem_of_getElem? (i := 50) rfl))) (by decide) (t := (.object "java/lang/String")) (t' := (.array (.object "java/lang/StackTraceElement"))) (by decide) (by decide)))
      have S_UNASSIGNED_STACK := S_UNASSIGNED_STACK.wr W28
      have S_SUPPRESSED_SENTINEL := S_SUPPRESSED_SENTINEL.wr W28
      have hThS := hThS.wr W28
      have K28 := K26.wr W28 (Or.inl (List.mem_of_getElem? (i := 0) rfl))
      have zn28 : n0 ≤ h28.size := Nat.le_trans zn26 (Keep.of_wr W28).1
      have N28 := Fr.snoc X28 N26 ga
      refine OGo.go (B := T28.setTop (mkF m 16 #[.val (.ref a0), .val .null] [])) ?_ st28
      refine OGo.go (B := T28.setTop (mkF m 17 #[.val (.ref a0), .val .null] [(.ref a0)])) ?_ (fun tX kX => XS.aloadN X28.here hx rfl (hb hby d7_16) rfl rfl kX)
      obtain ⟨T29, X29, e29, st29⟩ := getS2 X28 hx hZ hown (host := "") (Or.inl (hw _ (List.mem_of_getElem? (i := 51) rfl))) Via.refl e28 S_SUPPRESSED_SENTINEL (g := (mkF m 17 #[.val (.ref a0), .val .null] [(.ref a0)])) rfl (hb hby d7_17)
      refine OGo.go (B := T29.setTop (mkF m 20 #[.val (.ref a0), .val .null] [(.ref u20), (.ref a0)])) ?_ st29
      obtain ⟨T30, h30, X30, e30, W30, st30⟩ := putF X29 hx hZ hown (host := "") (Or.inl (hw _ (List.mem_of_getElem? (i := 52) rfl))) Via.refl e29 F_suppressedExceptions_a0 E_a0 (Or.inl (hw _ (List.mem_of_getElem? (i := 53) rfl))) (hw _ (List.mem_of_getElem? (i := 27) rfl)) (ty := (.object "java/util/List")) (by decide) rfl rfl (g := (mkF m 20 #[.val (.ref a0), .val .null] [(.ref u20), (.ref a0)])) rfl rfl (hb hby d7_20)
      have E_a0 := E_a0.wr W30
      have U_a0 := U_a0.wr W30
      have F_condition_a0 := F_condition_a0.other W30 (Or.inr (slot_ne (Or.inr (hw _ (List.mem_of_getElem? (i := 83) rfl))) (Or.inl (hw _ (List.mem_of_getElem? (i := 53) rfl))) (by decide) (t := (.object "com/example/hushlist/hushlist/engine/Condition")) (t' := (.object "java/util/List")) (by decide) (by decide)))
      have F_cause_a0 := F_cause_a0.other W30 (Or.inr (slot_ne (Or.inl (hw _ (List.mem_of_getElem? (i := 47) rfl))) (Or.inl (hw _ (List.mem_of_getElem? (i := 53) rfl))) (by decide) (t := (.object "java/lang/Throwable")) (t' := (.object "java/util/List")) (by decide) (by decide)))
      have F_stackTrace_a0 := F_stackTrace_a0.other W30 (Or.inr (slot_ne (Or.inl (hw _ (List.mem_of_getElem? (i := 50) rfl))) (Or.inl (hw _ (List.mem_of_getElem? (i := 53) rfl))) (by decide) (t := (.array (.object "java/lang/StackTraceElement"))) (t' := (.object "java/util/List")) (by decide) (by decide)))
      have F_suppressedExceptions_a0 := F_suppressedExceptions_a0.same W30
      have F_backtrace_a0 := F_backtrace_a0.other W30 (Or.inr (slot_ne (Or.inl (hw _ (List.mem_of_getElem? (i := 78) rfl))) (Or.inl (hw _ (List.mem_of_getElem? (i := 53) rfl))) (by decide) (t := (.object "java/lang/Object")) (t' := (.object "java/util/List")) (by decide) (by decide)))
      have F_detailMessage_a0 := F_detailMessage_a0.other W30 (Or.inr (slot_ne (Or.inl (hw _ (List.mem_of_getElem? (i := 77) rfl))) (Or.inl (hw _ (List.mem_of_getElem? (i := 53) rfl))) (by decide) (t := (.object "java/lang/String")) (t' := (.object "java/util/List")) (by decide) (by decide)))
      have S_UNASSIGNED_STACK := S_UNASSIGNED_STACK.wr W30
      have S_SUPPRESSED_SENTINEL := S_SUPPRESSED_SENTINEL.wr W30
      have hThS := hThS.wr W30
      have K30 := K28.wr W30 (Or.inl (List.mem_of_getElem? (i := 0) rfl))
      have zn30 : n0 ≤ h30.size := Nat.le_trans zn28 (Keep.of_wr W30).1
      have N30 := Fr.snoc X30 N28 ga
      refine OGo.go (B := T30.setTop (mkF m 23 #[.val (.ref a0), .val .null] [])) ?_ st30
      refine OGo.go (B := T30.setTop (mkF m 24 #[.val (.ref a0), .val .null] [(.ref a0)])) ?_ (fun tX kX => XS.aloadN X30.here hx rfl (hb hby d7_23) rfl rfl kX)
      obtain ⟨T31, h31, L31, X31, e31, lb31, EA31, FK31, st31⟩ := own_fill X30 hx hl hZ hown (rc := "com/example/hushlist/hushlist/engine/StanzaException") (own_w hw) (hw _ (List.mem_of_getElem? (i := 27) rfl)) (by rw [hh]; exact hThS0) hThS hTK hBelow e30 E_a0 U_a0 F_backtrace_a0 F_stackTrace_a0 S_UNASSIGNED_STACK rfl (g := (mkF m 24 #[.val (.ref a0), .val .null] [(.ref a0)])) rfl (by rw [hml]; rfl) rfl (hb hby d7_24) (by decide) (by show 2 * 0 + _ + _ ≤ _; decide) (by decide) (by decide)
      have K31 : Keep h0 h31 [a0] := own_keep X31 hh e31 (fun y hy => by simp only [List.nil_append, List.mem_append, List.mem_cons, List.not_mem_nil, or_false, false_or] at hy; rcases hy with ((hy | hy) | hy) | hy <;> first | exact lb31 _ hy | (rw [hy]))
      have F_condition_a0 := FK31 (Or.inr (hw _ (List.mem_of_getElem? (i := 83) rfl))) (t := (.object "com/example/hushlist/hushlist/engine/Condition")) (by decide) (by decide) (by decide) (by decide) F_condition_a0
      have F_detailMessage_a0 := FK31 (Or.inl (hw _ (List.mem_of_getElem? (i := 77) rfl))) (t := (.object "java/lang/String")) (by decide) (by decide) (by decide) (by decide) F_detailMessage_a0
      have E_a0 := EA31
      have zn31 : n0 ≤ h31.size := Nat.le_trans Z0 K31.1
      have N31 := N30.app (fun y hy => by rw [lb31 y hy]; exact ga : Fr n0 L31)
      refine OGo.go (B := T31.setTop (mkF m 27 #[.val (.ref a0), .val .null] [(.ref a0)])) ?_ st31
      refine OGo.go (B := T31.setTop (mkF m 28 #[.val (.ref a0), .val .null] [])) ?_ (fun tX kX => XS.pop X31.here hx rfl (hb hby d7_27) rfl rfl kX)
      refine OGo.go (B := T31.setTop (mkF m 29 #[.val (.ref a0), .val .null] [(.ref a0)])) ?_ (fun tX kX => XS.aloadN X31.here hx rfl (hb hby d7_28) rfl rfl kX)
      refine OGo.go (B := T31.setTop (mkF m 30 #[.val (.ref a0), .val .null] [.null, (.ref a0)])) ?_ (fun tX kX => XS.aloadN X31.here hx rfl (hb hby d7_29) rfl rfl kX)
      obtain ⟨T32, h32, X32, e32, W32, st32⟩ := putF X31 hx hZ hown (host := "") (Or.inl (hw _ (List.mem_of_getElem? (i := 81) rfl))) Via.refl e31 F_detailMessage_a0 E_a0 (Or.inl (hw _ (List.mem_of_getElem? (i := 77) rfl))) (hw _ (List.mem_of_getElem? (i := 27) rfl)) (ty := (.object "java/lang/String")) (by decide) rfl rfl (g := (mkF m 30 #[.val (.ref a0), .val .null] [.null, (.ref a0)])) rfl rfl (hb hby d7_30)
      have E_a0 := E_a0.wr W32
      have F_condition_a0 := F_condition_a0.other W32 (Or.inr (slot_ne (Or.inr (hw _ (List.mem_of_getElem? (i := 83) rfl))) (Or.inl (hw _ (List.mem_of_getElem? (i := 77) rfl))) (by decide) (t := (.object "com/example/hushlist/hushlist/engine/Condition")) (t' := (.object "java/lang/String")) (by decide) (by decide)))
      have F_detailMessage_a0 := F_detailMessage_a0.same W32
      have K32 := K31.wr W32 (Or.inl (List.mem_of_getElem? (i := 0) rfl))
      have zn32 : n0 ≤ h32.size := Nat.le_trans zn31 (Keep.of_wr W32).1
      have N32 := Fr.snoc X32 N31 ga
      refine OGo.go (B := T32.setTop (mkF m 33 #[.val (.ref a0), .val .null] [])) ?_ st32
      refine OGo.ret X32 (v := none) (fun _ => rfl) (BodyLoose.notSynchronized Bd) (fun fs hr => X32.returnOut hx Bd.returns (hb hby d7_33) hr) (Q := Q7n Z a0 u1 o1 o2 o3 us sn h0 n0) ?_ (by decide) (by decide)
      show Q7n Z a0 u1 o1 o2 o3 us sn h0 n0 _ T32.heap _
      rw [e32]
      exact ⟨rfl, N32, K32, E_a0, F_condition_a0, F_detailMessage_a0⟩
theorem d6_0 : decode jdk_59_method_2_code 0 = .ok (.aload_n 0, 1) := by decide +kernel
theorem d6_1 : decode jdk_59_method_2_code 1 = .ok (.aload_n 1, 1) := by decide +kernel
theorem d6_2 : decode jdk_59_method_2_code 2 = .ok (.invokespecial 7, 3) := by decide +kernel
theorem pd__Ljava_lang_String__V : parseMethodDescriptor "(Ljava/lang/String;)V" = some ⟨[(.object "java/lang/String")], none⟩ := by decide +kernel
theorem d6_5 : decode jdk_59_method_2_code 5 = .ok (.return_, 1) := by decide +kernel
theorem pn_java_lang_Exception : plainName "java/lang/Exception" = true := by first | (simp [plainName, overriddenIn]; done) | decide +kernel
def Q6n (Z : State) (a0 : Addr) (u1 : Value) (o1 : Value) (o2 : Value) (o3 : Value) (us : Value) (sn : Value) (h0 : Heap) (n0 : Nat) (v : Option Value) (h : Heap) (L : List Loc) : Prop := v = none ∧ Fr n0 L ∧ Keep h0 h [a0] ∧ Exa Z h a0 "com/example/hushlist/hushlist/engine/StanzaException" ∧ Fld Z h a0 "com/example/hushlist/hushlist/engine/StanzaException" "condition" "Lcom/example/hushlist/hushlist/engine/Condition;" u1 ∧ Fld Z h a0 "java/lang/Throwable" "detailMessage" "Ljava/lang/String;" .null
def P6n (Z : State) (a0 : Addr) (u1 : Value) (o1 : Value) (o2 : Value) (o3 : Value) (us : Value) (sn : Value) (h0 : Heap) (n0 : Nat) (s : State) (o : Outcome) (U' : State) : Prop := ∃ v L, o = .returned v ∧ Q6n Z a0 u1 o1 o2 o3 us sn h0 n0 v U'.heap L ∧ FrameEnd s o U' L ({ frames := 4, cells := 1, slots := 2752, locals := 55 } : Room).cells ({ frames := 4, cells := 1, slots := 2752, locals := 55 } : Room).slots
set_option maxRecDepth 65536 in
set_option maxHeartbeats 40000000 in
theorem rm6n (l : Launch) (Z : State) (aV : Array Value) (hw : ∀ d ∈ tables_1, d.before aV Z = true) (ws : List Jvm.Cond) (a0 : Addr) (u1 : Value) (o1 : Value) (o2 : Value) (o3 : Value) (us : Value) (sn : Value) (h0 : Heap) (n0 : Nat) (Z0 : n0 ≤ h0.size) (E_a0 : Exa Z h0 a0 "com/example/hushlist/hushlist/engine/StanzaException") (U_a0 : Unt h0 a0) (F_condition_a0 : Fld Z h0 a0 "com/example/hushlist/hushlist/engine/StanzaException" "condition" "Lcom/example/hushlist/hushlist/engine/Condition;" u1) (F_cause_a0 : Fld Z h0 a0 "java/lang/Throwable" "cause" "Ljava/lang/Throwable;" o1) (F_stackTrace_a0 : Fld Z h0 a0 "java/lang/Throwable" "stackTrace" "[Ljava/lang/StackTraceElement;" o2) (F_suppressedExceptions_a0 : Fld Z h0 a0 "java/lang/Throwable" "suppressedExceptions" "Ljava/util/List;" o3) (F_backtrace_a0 : Fld Z h0 a0 "java/lang/Throwable" "backtrace" "Ljava/lang/Object;" .null) (F_detailMessage_a0 : Fld Z h0 a0 "java/lang/Throwable" "detailMessage" "Ljava/lang/String;" .null) (S_UNASSIGNED_STACK : Sta Z h0 "java/lang/Throwable" "UNASSIGNED_STACK" "[Ljava/lang/StackTraceElement;" us) (S_SUPPRESSED_SENTINEL : Sta Z h0 "java/lang/Throwable" "SUPPRESSED_SENTINEL" "Ljava/util/List;" sn) (hThS : ThS Z h0) (ga : n0 ≤ a0) (hl : l.stackTraces = true) (hus : us.isRef = true) (hsn : sn.isRef = true) :
    MetFree l (⟨"java/lang/Exception", "<init>", "(Ljava/lang/String;)V"⟩ : MethodName) (head1 (Jvm.Cond.code (⟨"java/lang/Exception", "<init>", "(Ljava/lang/String;)V"⟩ : MethodName) jdk_59_method_2_code 2 none :: ws) ({ frames := 4, cells := 1, slots := 2752, locals := 55 } : Room)) (fun a U => a = #[(.ref a0), .null] ∧ Z.Warmed39 U.vm ∧ U.heap = h0) (fun _ _ bl s _ => s.vm.MethodsKnown ∧ s.vm.FramesKnown bl) (fun _ U o U' => ∃ v L, o = .returned v ∧ Q6n Z a0 u1 o1 o2 o3 us sn h0 n0 v U'.heap L ∧ FrameEnd U o U' L ({ frames := 4, cells := 1, slots := 2752, locals := 55 } : Room).cells ({ frames := 4, cells := 1, slots := 2752, locals := 55 } : Room).slots) := by
  refine MetFree.of_bodySF (plainFor_of_name pn_java_lang_Exception) hisR ?_
  intro p e s m args below meth c s₁ Bd hml0 hP hK
  obtain ⟨rfl, hZ, hh⟩ := hP
  have hx := Bd.exec
  have hby := Bd.bytes
  have hml : c.maxLocals = 2 := hml0
  have hown : s.vm.findClass "java/lang/Exception" = some m.cls := findClass_of_methodNamed Bd.named
  have hnm := (name_of_methodNamed Bd.named Bd.method).1
  have X0 : Stand p l e ({ frames := 4, cells := 1, slots := 2752, locals := 55 } : Room) s m #[(.ref a0), .null] below meth c s₁ [] 0 0 := Stand.of_body Bd
  have e0 : s₁.heap = h0 := by rw [← hh, Bd.state]; rfl
  have hTK := hK.1
  have hBelow := hK.2
  have efx : entryFrame m #[(.ref a0), .null] 2 = mkF m 0 #[.val (.ref a0), .val .null] [] := by first | (simp [entryFrame, mkF, argsToLocals, Value.category]; done) | rfl
  have N0 := Fr.nil n0
  have K0 : Keep h0 h0 [a0] := Keep.refl h0 _
  refine OGo.start (g' := mkF m 0 #[.val (.ref a0), .val .null] []) (efx) ?_
  show OGo p.tables e below (P6n Z a0 u1 o1 o2 o3 us sn h0 n0 s) (s₁.setTop (mkF m 0 #[.val (.ref a0), .val .null] []))
  refine OGo.go (B := s₁.setTop (mkF m 1 #[.val (.ref a0), .val .null] [(.ref a0)])) ?_ (fun tX kX => XS.aloadN X0.here hx rfl (hb hby d6_0) rfl rfl kX)
  refine OGo.go (B := s₁.setTop (mkF m 2 #[.val (.ref a0), .val .null] [.null, (.ref a0)])) ?_ (fun tX kX => XS.aloadN X0.here hx rfl (hb hby d6_1) rfl rfl kX)
  obtain ⟨_, _, ⟨T1, L1, k1, n1⟩, -, X1, ⟨Lc1, hQ1, l1, y1, z1⟩, st1⟩ := X0.specialBack hx (y := (⟨"java/lang/Throwable", "<init>", "(Ljava/lang/String;)V"⟩ : MethodName)) rfl hown (mvT hZ (hw _ (List.mem_of_getElem? (i := 39) rfl))) (mvT hZ (hw _ (List.mem_of_getElem? (i := 40) rfl))) (mvT hZ (hw _ (List.mem_of_getElem? (i := 44) rfl))) (by decide) (backOfKL (W := 0) (rm7n l Z aV hw [] a0 u1 o1 o2 o3 us sn h0 n0 Z0 E_a0 U_a0 F_condition_a0 F_cause_a0 F_stackTrace_a0 F_suppressedExceptions_a0 F_backtrace_a0 F_detailMessage_a0 S_UNASSIGNED_STACK S_SUPPRESSED_SENTINEL hThS ga hl hus hsn) hZ (hw _ (List.mem_of_getElem? (i := 44) rfl)) (hw _ (List.mem_of_getElem? (i := 43) rfl)) (by decide) (by decide) hTK hBelow) (g := (mkF m 2 #[.val (.ref a0), .val .null] [.null, (.ref a0)])) rfl (by rw [hml]; rfl) (Steps.refl _) (a := a0) (argsL := [.null]) (rest := []) (lenOf pd__Ljava_lang_String__V rfl) rfl (by show 2 * 0 + _ ≤ _; exact Nat.le_of_eq rfl) (hb hby d6_2) (fun _ _ => ⟨rfl, e0, (by decide : 0 + 1 ≤ _), (by decide : 0 + 2752 ≤ _)⟩)
  dsimp only [Pt.U, Pt.locs, Pt.cells, Pt.slots] at X1 l1 y1 z1 st1 hQ1
  subst l1 y1 z1
  obtain ⟨rfl, N1q, Kq1, E_a0_p, F_condition_a0_p, F_detailMessage_a0_p⟩ := hQ1
  have N1 := Fr.app N0 N1q
  have S_UNASSIGNED_STACK := Sta.keepE S_UNASSIGNED_STACK Kq1 (staS E_a0.cell (fun x hx' => nomatch hx'))
  have S_SUPPRESSED_SENTINEL := Sta.keepE S_SUPPRESSED_SENTINEL Kq1 (staS E_a0.cell (fun x hx' => nomatch hx'))
  have hThS := hThS.keep Kq1 (nsS E_a0.nostat ns0)
  have E_a0 := E_a0.keep Kq1
  have K1 := K0.trans Kq1 (allS (P := fun x => x ∈ [a0] ∨ h0.size ≤ x) (Or.inl (List.mem_of_getElem? (i := 0) rfl)) all0)
  have zn1 : n0 ≤ T1.heap.size := Nat.le_trans Z0 Kq1.1
  have E_a0 := E_a0_p
  have F_condition_a0 := F_condition_a0_p
  have F_detailMessage_a0 := F_detailMessage_a0_p
  refine OGo.go (B := T1.setTop (mkF m 5 #[.val (.ref a0), .val .null] [])) ?_ (fun tX kX => st1.trans kX)
  refine OGo.ret X1 (v := none) (fun _ => rfl) (BodyLoose.notSynchronized Bd) (fun fs hr => X1.returnOut hx Bd.returns (hb hby d6_5) hr) (Q := Q6n Z a0 u1 o1 o2 o3 us sn h0 n0) ?_ (by decide) (by decide)
  show Q6n Z a0 u1 o1 o2 o3 us sn h0 n0 _ T1.heap _
  exact ⟨rfl, N1, K1, E_a0, F_condition_a0, F_detailMessage_a0⟩
theorem d5_0 : decode prog_31_method_1_code 0 = .ok (.aload_n 0, 1) := by decide +kernel
theorem d5_1 : decode prog_31_method_1_code 1 = .ok (.aload_n 2, 1) := by decide +kernel
theorem d5_2 : decode prog_31_method_1_code 2 = .ok (.invokespecial 1, 3) := by decide +kernel
theorem d5_5 : decode prog_31_method_1_code 5 = .ok (.aload_n 0, 1) := by decide +kernel
theorem d5_6 : decode prog_31_method_1_code 6 = .ok (.aload_n 1, 1) := by decide +kernel
theorem d5_7 : decode prog_31_method_1_code 7 = .ok (.putfield 7, 3) := by decide +kernel
theorem d5_10 : decode prog_31_method_1_code 10 = .ok (.return_, 1) := by decide +kernel
theorem pn_com_example_hushlist_hushlist_engine_StanzaException : plainName "com/example/hushlist/hushlist/engine/StanzaException" = true := by first | (simp [plainName, overriddenIn]; done) | decide +kernel
def Q5n (Z : State) (a0 : Addr) (a1 : Addr) (u1 : Value) (o1 : Value) (o2 : Value) (o3 : Value) (us : Value) (sn : Value) (h0 : Heap) (n0 : Nat) (v : Option Value) (h : Heap) (L : List Loc) : Prop := v = none ∧ Fr n0 L ∧ Keep h0 h [a0] ∧ Exa Z h a0 "com/example/hushlist/hushlist/engine/StanzaException" ∧ Fld Z h a0 "com/example/hushlist/hushlist/engine/StanzaException" "condition" "Lcom/example/hushlist/hushlist/engine/Condition;" (.ref a1) ∧ Fld Z h a0 "java/lang/Throwable" "detailMessage" "Ljava/lang/String;" .null
def P5n (Z : State) (a0 : Addr) (a1 : Addr) (u1 : Value) (o1 : Value) (o2 : Value) (o3 : Value) (us : Value) (sn : Value) (h0 : Heap) (n0 : Nat) (s : State) (o : Outcome) (U' : State) : Prop := ∃ v L, o = .returned v ∧ Q5n Z a0 a1 u1 o1 o2 o3 us sn h0 n0 v U'.heap L ∧ FrameEnd s o U' L ({ frames := 5, cells := 1, slots := 2752, locals := 68 } : Room).cells ({ frames := 5, cells := 1, slots := 2752, locals := 68 } : Room).slots
set_option maxRecDepth 65536 in
set_option maxHeartbeats 40000000 in
theorem rm5n (l : Launch) (Z : State) (aV : Array Value) (hw : ∀ d ∈ tables_1, d.before aV Z = true) (ws : List Jvm.Cond) (a0 : Addr) (a1 : Addr) (u1 : Value) (o1 : Value) (o2 : Value) (o3 : Value) (us : Value) (sn : Value) (h0 : Heap) (n0 : Nat) (Z0 : n0 ≤ h0.size) (E_a0 : Exa Z h0 a0 "com/example/hushlist/hushlist/engine/StanzaException") (U_a0 : Unt h0 a0) (F_condition_a0 : Fld Z h0 a0 "com/example/hushlist/hushlist/engine/StanzaException" "condition" "Lcom/example/hushlist/hushlist/engine/Condition;" u1) (F_cause_a0 : Fld Z h0 a0 "java/lang/Throwable" "cause" "Ljava/lang/Throwable;" o1) (F_stackTrace_a0 : Fld Z h0 a0 "java/lang/Throwable" "stackTrace" "[Ljava/lang/StackTraceElement;" o2) (F_suppressedExceptions_a0 : Fld Z h0 a0 "java/lang/Throwable" "suppressedExceptions" "Ljava/util/List;" o3) (F_backtrace_a0 : Fld Z h0 a0 "java/lang/Throwable" "backtrace" "Ljava/lang/Object;" .null) (F_detailMessage_a0 : Fld Z h0 a0 "java/lang/Throwable" "detailMessage" "Ljava/lang/String;" .null) (S_UNASSIGNED_STACK : Sta Z h0 "java/lang/Throwable" "UNASSIGNED_STACK" "[Ljava/lang/StackTraceElement;" us) (S_SUPPRESSED_SENTINEL : Sta Z h0 "java/lang/Throwable" "SUPPRESSED_SENTINEL" "Ljava/util/List;" sn) (hThS : ThS Z h0) (ga : n0 ≤ a0) (hl : l.stackTraces = true) (hus : us.isRef = true) (hsn : sn.isRef = true) :
    MetFree l (⟨"com/example/hushlist/hushlist/engine/StanzaException", "<init>", "(Lcom/example/hushlist/hushlist/engine/Condition;Ljava/lang/String;)V"⟩ : MethodName) (head1 (Jvm.Cond.code (⟨"com/example/hushlist/hushlist/engine/StanzaException", "<init>", "(Lcom/example/hushlist/hushlist/engine/Condition;Ljava/lang/String;)V"⟩ : MethodName) prog_31_method_1_code 3 none :: ws) ({ frames := 5, cells := 1, slots := 2752, locals := 68 } : Room)) (fun a U => a = #[(.ref a0), (.ref a1), .null] ∧ Z.Warmed39 U.vm ∧ U.heap = h0) (fun _ _ bl s _ => s.vm.MethodsKnown ∧ s.vm.FramesKnown bl) (fun _ U o U' => ∃ v L, o = .returned v ∧ Q5n Z a0 a1 u1 o1 o2 o3 us sn h0 n0 v U'.heap L ∧ FrameEnd U o U' L ({ frames := 5, cells := 1, slots := 2752, locals := 68 } : Room).cells ({ frames := 5, cells := 1, slots := 2752, locals := 68 } : Room).slots) := by
  refine MetFree.of_bodySF (plainFor_of_name pn_com_example_hushlist_hushlist_engine_StanzaException) hisR ?_
  intro p e s m args below meth c s₁ Bd hml0 hP hK
  obtain ⟨rfl, hZ, hh⟩ := hP
  have hx := Bd.exec
  have hby := Bd.bytes
  have hml : c.maxLocals = 3 := hml0
  have hown : s.vm.findClass "com/example/hushlist/hushlist/engine/StanzaException" = some m.cls := findClass_of_methodNamed Bd.named
  have hnm := (name_of_methodNamed Bd.named Bd.method).1
  have X0 : Stand p l e ({ frames := 5, cells := 1, slots := 2752, locals := 68 } : Room) s m #[(.ref a0), (.ref a1), .null] below meth c s₁ [] 0 0 := Stand.of_body Bd
  have e0 : s₁.heap = h0 := by rw [← hh, Bd.state]; rfl
  have hTK := hK.1
  have hBelow := hK.2
  have efx : entryFrame m #[(.ref a0), (.ref a1), .null] 3 = mkF m 0 #[.val (.ref a0), .val (.ref a1), .val .null] [] := by first | (simp [entryFrame, mkF, argsToLocals, Value.category]; done) | rfl
  have N0 := Fr.nil n0
  have K0 : Keep h0 h0 [a0] := Keep.refl h0 _
  refine OGo.start (g' := mkF m 0 #[.val (.ref a0), .val (.ref a1), .val .null] []) (efx) ?_
  show OGo p.tables e below (P5n Z a0 a1 u1 o1 o2 o3 us sn h0 n0 s) (s₁.setTop (mkF m 0 #[.val (.ref a0), .val (.ref a1), .val .null] []))
  refine OGo.go (B := s₁.setTop (mkF m 1 #[.val (.ref a0), .val (.ref a1), .val .null] [(.ref a0)])) ?_ (fun tX kX => XS.aloadN X0.here hx rfl (hb hby d5_0) rfl rfl kX)
  refine OGo.go (B := s₁.setTop (mkF m 2 #[.val (.ref a0), .val (.ref a1), .val .null] [.null, (.ref a0)])) ?_ (fun tX kX => XS.aloadN X0.here hx rfl (hb hby d5_1) rfl rfl kX)
  obtain ⟨_, _, ⟨T1, L1, k1, n1⟩, -, X1, ⟨Lc1, hQ1, l1, y1, z1⟩, st1⟩ := X0.specialBack hx (y := (⟨"java/lang/Exception", "<init>", "(Ljava/lang/String;)V"⟩ : MethodName)) rfl hown (mvT hZ (hw _ (List.mem_of_getElem? (i := 34) rfl))) (mvT hZ (hw _ (List.mem_of_getElem? (i := 35) rfl))) (mvT hZ (hw _ (List.mem_of_getElem? (i := 38) rfl))) (by decide) (backOfKL (W := 0) (rm6n l Z aV hw [] a0 u1 o1 o2 o3 us sn h0 n0 Z0 E_a0 U_a0 F_condition_a0 F_cause_a0 F_stackTrace_a0 F_suppressedExceptions_a0 F_backtrace_a0 F_detailMessage_a0 S_UNASSIGNED_STACK S_SUPPRESSED_SENTINEL hThS ga hl hus hsn) hZ (hw _ (List.mem_of_getElem? (i := 38) rfl)) (hw _ (List.mem_of_getElem? (i := 37) rfl)) (by decide) (by decide) hTK hBelow) (g := (mkF m 2 #[.val (.ref a0), .val (.ref a1), .val .null] [.null, (.ref a0)])) rfl (by rw [hml]; rfl) (Steps.refl _) (a := a0) (argsL := [.null]) (rest := []) (lenOf pd__Ljava_lang_String__V rfl) rfl (by show 2 * 0 + _ ≤ _; exact Nat.le_of_eq rfl) (hb hby d5_2) (fun _ _ => ⟨rfl, e0, (by decide : 0 + 1 ≤ _), (by decide : 0 + 2752 ≤ _)⟩)
  dsimp only [Pt.U, Pt.locs, Pt.cells, Pt.slots] at X1 l1 y1 z1 st1 hQ1
  subst l1 y1 z1
  obtain ⟨rfl, N1q, Kq1, E_a0_p, F_condition_a0_p, F_detailMessage_a0_p⟩ := hQ1
  have N1 := Fr.app N0 N1q
  have S_UNASSIGNED_STACK := Sta.keepE S_UNASSIGNED_STACK Kq1 (staS E_a0.cell (fun x hx' => nomatch hx'))
  have S_SUPPRESSED_SENTINEL := Sta.keepE S_SUPPRESSED_SENTINEL Kq1 (staS E_a0.cell (fun x hx' => nomatch hx'))
  have hThS := hThS.keep Kq1 (nsS E_a0.nostat ns0)
  have E_a0 := E_a0.keep Kq1
  have K1 := K0.trans Kq1 (allS (P := fun x => x ∈ [a0] ∨ h0.size ≤ x) (Or.inl (List.mem_of_getElem? (i := 0) rfl)) all0)
  have zn1 : n0 ≤ T1.heap.size := Nat.le_trans Z0 Kq1.1
  have E_a0 := E_a0_p
  have F_condition_a0 := F_condition_a0_p
  have F_detailMessage_a0 := F_detailMessage_a0_p
  refine OGo.go (B := T1.setTop (mkF m 5 #[.val (.ref a0), .val (.ref a1), .val .null] [])) ?_ (fun tX kX => st1.trans kX)
  refine OGo.go (B := T1.setTop (mkF m 6 #[.val (.ref a0), .val (.ref a1), .val .null] [(.ref a0)])) ?_ (fun tX kX => XS.aloadN X1.here hx rfl (hb hby d5_5) rfl rfl kX)
  refine OGo.go (B := T1.setTop (mkF m 7 #[.val (.ref a0), .val (.ref a1), .val .null] [(.ref a1), (.ref a0)])) ?_ (fun tX kX => XS.aloadN X1.here hx rfl (hb hby d5_6) rfl rfl kX)
  obtain ⟨T2, h2, X2, e2, W2, st2⟩ := putF X1 hx hZ hown (host := "") (Or.inl (hw _ (List.mem_of_getElem? (i := 82) rfl))) Via.refl rfl F_condition_a0 E_a0 (Or.inr ⟨(hw _ (List.mem_of_getElem? (i := 83) rfl)), rfl, hnm⟩) (hw _ (List.mem_of_getElem? (i := 27) rfl)) (ty := (.object "com/example/hushlist/hushlist/engine/Condition")) (by decide) rfl rfl (g := (mkF m 7 #[.val (.ref a0), .val (.ref a1), .val .null] [(.ref a1), (.ref a0)])) rfl rfl (hb hby d5_7)
  have E_a0 := E_a0.wr W2
  have S_UNASSIGNED_STACK := S_UNASSIGNED_STACK.wr W2
  have S_SUPPRESSED_SENTINEL := S_SUPPRESSED_SENTINEL.wr W2
  have hThS := hThS.wr W2
  have F_condition_a0 := F_condition_a0.same W2
  have F_detailMessage_a0 := F_detailMessage_a0.other W2 (Or.inr (slot_ne (Or.inl (hw _ (List.mem_of_getElem? (i := 77) rfl))) (Or.inr (hw _ (List.mem_of_getElem? (i := 83) rfl))) (by decide) (t := (.object "java/lang/String")) (t' := (.object "com/example/hushlist/hushlist/engine/Condition")) (by decide) (by decide)))
  have K2 := K1.wr W2 (Or.inl (List.mem_of_getElem? (i := 0) rfl))
  have zn2 : n0 ≤ h2.size := Nat.le_trans zn1 (Keep.of_wr W2).1
  have N2 := Fr.snoc X2 N1 ga
  refine OGo.go (B := T2.setTop (mkF m 10 #[.val (.ref a0), .val (.ref a1), .val .null] [])) ?_ st2
  refine OGo.ret X2 (v := none) (fun _ => rfl) (BodyLoose.notSynchronized Bd) (fun fs hr => X2.returnOut hx Bd.returns (hb hby d5_10) hr) (Q := Q5n Z a0 a1 u1 o1 o2 o3 us sn h0 n0) ?_ (by decide) (by decide)
  show Q5n Z a0 a1 u1 o1 o2 o3 us sn h0 n0 _ T2.heap _
  rw [e2]
  exact ⟨rfl, N2, K2, E_a0, F_condition_a0, F_detailMessage_a0⟩
theorem d4_0 : decode prog_31_method_3_code 0 = .ok (.new 8, 3) := by decide +kernel
theorem d4_3 : decode prog_31_method_3_code 3 = .ok (.dup, 1) := by decide +kernel
theorem d4_4 : decode prog_31_method_3_code 4 = .ok (.getstatic 21, 3) := by decide +kernel
theorem d4_7 : decode prog_31_method_3_code 7 = .ok (.aload_n 0, 1) := by decide +kernel
theorem d4_8 : decode prog_31_method_3_code 8 = .ok (.invokespecial 18, 3) := by decide +kernel
theorem pd__Lcom_example_hushlist_hushlist_engine_Condition_Ljava_lang_String__V : parseMethodDescriptor "(Lcom/example/hushlist/hushlist/engine/Condition;Ljava/lang/String;)V" = some ⟨[(.object "com/example/hushlist/hushlist/engine/Condition"), (.object "java/lang/String")], none⟩ := by decide +kernel
theorem d4_11 : decode prog_31_method_3_code 11 = .ok (.areturn, 1) := by decide +kernel
def Q4n (Z : State) (uc : Addr) (us : Value) (sn : Value) (h0 : Heap) (n0 : Nat) (v : Option Value) (h : Heap) (L : List Loc) : Prop := ∃ (b : Addr), v = some (.ref b) ∧ Fr n0 L ∧ Keep h0 h [] ∧ h0.size ≤ b ∧ Exa Z h b "com/example/hushlist/hushlist/engine/StanzaException" ∧ Fld Z h b "com/example/hushlist/hushlist/engine/StanzaException" "condition" "Lcom/example/hushlist/hushlist/engine/Condition;" (.ref uc) ∧ Fld Z h b "java/lang/Throwable" "detailMessage" "Ljava/lang/String;" .null
def P4n (Z : State) (uc : Addr) (us : Value) (sn : Value) (h0 : Heap) (n0 : Nat) (s : State) (o : Outcome) (U' : State) : Prop := ∃ v L, o = .returned v ∧ Q4n Z uc us sn h0 n0 v U'.heap L ∧ FrameEnd s o U' L ({ frames := 6, cells := 2, slots := 2759, locals := 83 } : Room).cells ({ frames := 6, cells := 2, slots := 2759, locals := 83 } : Room).slots
set_option maxRecDepth 65536 in
set_option maxHeartbeats 40000000 in
theorem rm4n (l : Launch) (Z : State) (aV : Array Value) (hw : ∀ d ∈ tables_1, d.before aV Z = true) (ws : List Jvm.Cond) (uc : Addr) (us : Value) (sn : Value) (h0 : Heap) (n0 : Nat) (Z0 : n0 ≤ h0.size) (S_CONFLICT : Sta Z h0 "com/example/hushlist/hushlist/engine/Condition" "CONFLICT" "Lcom/example/hushlist/hushlist/engine/Condition;" (.ref uc)) (S_UNASSIGNED_STACK : Sta Z h0 "java/lang/Throwable" "UNASSIGNED_STACK" "[Ljava/lang/StackTraceElement;" us) (S_SUPPRESSED_SENTINEL : Sta Z h0 "java/lang/Throwable" "SUPPRESSED_SENTINEL" "Ljava/util/List;" sn) (hThS : ThS Z h0) (hl : l.stackTraces = true) (hus : us.isRef = true) (hsn : sn.isRef = true) :
    MetFree l (⟨"com/example/hushlist/hushlist/engine/StanzaException", "conflict", "(Ljava/lang/String;)Lcom/example/hushlist/hushlist/engine/StanzaException;"⟩ : MethodName) (head1 (Jvm.Cond.code (⟨"com/example/hushlist/hushlist/engine/StanzaException", "conflict", "(Ljava/lang/String;)Lcom/example/hushlist/hushlist/engine/StanzaException;"⟩ : MethodName) prog_31_method_3_code 1 (some (.object "com/example/hushlist/hushlist/engine/StanzaException")) :: ws) ({ frames := 6, cells := 2, slots := 2759, locals := 83 } : Room)) (fun a U => a = #[.null] ∧ Z.Warmed39 U.vm ∧ U.heap = h0) (fun _ _ bl s _ => s.vm.MethodsKnown ∧ s.vm.FramesKnown bl) (fun _ U o U' => ∃ v L, o = .returned v ∧ Q4n Z uc us sn h0 n0 v U'.heap L ∧ FrameEnd U o U' L ({ frames := 6, cells := 2, slots := 2759, locals := 83 } : Room).cells ({ frames := 6, cells := 2, slots := 2759, locals := 83 } : Room).slots) := by
  refine MetFree.of_bodySF (plainFor_of_name pn_com_example_hushlist_hushlist_engine_StanzaException) hisR ?_
  intro p e s m args below meth c s₁ Bd hml0 hP hK
  obtain ⟨rfl, hZ, hh⟩ := hP
  have hx := Bd.exec
  have hby := Bd.bytes
  have hml : c.maxLocals = 1 := hml0
  have hown : s.vm.findClass "com/example/hushlist/hushlist/engine/StanzaException" = some m.cls := findClass_of_methodNamed Bd.named
  have hnm := (name_of_methodNamed Bd.named Bd.method).1
  have X0 : Stand p l e ({ frames := 6, cells := 2, slots := 2759, locals := 83 } : Room) s m #[.null] below meth c s₁ [] 0 0 := Stand.of_body Bd
  have e0 : s₁.heap = h0 := by rw [← hh, Bd.state]; rfl
  have hTK := hK.1
  have hBelow := hK.2
  have efx : entryFrame m #[.null] 1 = mkF m 0 #[.val .null] [] := by first | (simp [entryFrame, mkF, argsToLocals, Value.category]; done) | rfl
  have N0 := Fr.nil n0
  have K0 : Keep h0 h0 [] := Keep.refl h0 _
  refine OGo.start (g' := mkF m 0 #[.val .null] []) (efx) ?_
  show OGo p.tables e below (P4n Z uc us sn h0 n0 s) (s₁.setTop (mkF m 0 #[.val .null] []))
  obtain ⟨T1, h1, X1, e1, E1, A1, D1, C1, st1⟩ := newO X0 hx hZ hown (hw _ (List.mem_of_getElem? (i := 26) rfl)) (hw _ (List.mem_of_getElem? (i := 27) rfl)) (hw _ (List.mem_of_getElem? (i := 24) rfl)) e0 (g := (mkF m 0 #[.val .null] [])) rfl (hb hby d4_0) (by decide) (by decide)
  obtain ⟨b1, g1⟩ : ∃ z, z = h0.size := ⟨_, rfl⟩
  rw [← g1] at A1 D1 st1 C1
  have S_CONFLICT := S_CONFLICT.ext E1
  have S_UNASSIGNED_STACK := S_UNASSIGNED_STACK.ext E1
  have S_SUPPRESSED_SENTINEL := S_SUPPRESSED_SENTINEL.ext E1
  have hThS := hThS.ext E1
  have g_b1 : n0 ≤ b1 := Nat.le_trans Z0 (Nat.le_of_eq g1.symm)
  have sz_b1 : h0.size ≤ b1 := Nat.le_trans K0.1 (Nat.le_of_eq g1.symm)
  have zn1 : n0 ≤ h1.size := Nat.le_trans Z0 E1.1
  have K1 := K0.ext E1
  have E_b1 := A1
  have U_b1 : Unt h1 b1 := C1
  have F_cause_b1 : Fld Z h1 b1 "java/lang/Throwable" "cause" "Ljava/lang/Throwable;" .null := D1 (Or.inl (hw _ (List.mem_of_getElem? (i := 47) rfl))) (ty := (.object "java/lang/Throwable")) (by decide)
  have F_stackTrace_b1 : Fld Z h1 b1 "java/lang/Throwable" "stackTrace" "[Ljava/lang/StackTraceElement;" .null := D1 (Or.inl (hw _ (List.mem_of_getElem? (i := 50) rfl))) (ty := (.array (.object "java/lang/StackTraceElement"))) (by decide)
  have F_suppressedExceptions_b1 : Fld Z h1 b1 "java/lang/Throwable" "suppressedExceptions" "Ljava/util/List;" .null := D1 (Or.inl (hw _ (List.mem_of_getElem? (i := 53) rfl))) (ty := (.object "java/util/List")) (by decide)
  have F_detailMessage_b1 : Fld Z h1 b1 "java/lang/Throwable" "detailMessage" "Ljava/lang/String;" .null := D1 (Or.inl (hw _ (List.mem_of_getElem? (i := 77) rfl))) (ty := (.object "java/lang/String")) (by decide)
  have F_backtrace_b1 : Fld Z h1 b1 "java/lang/Throwable" "backtrace" "Ljava/lang/Object;" .null := D1 (Or.inl (hw _ (List.mem_of_getElem? (i := 78) rfl))) (ty := (.object "java/lang/Object")) (by decide)
  have F_depth_b1 : Fld Z h1 b1 "java/lang/Throwable" "depth" "I" (.int (0 : Int32)) := D1 (Or.inl (hw _ (List.mem_of_getElem? (i := 79) rfl))) (ty := .int) (by decide)
  have F_condition_b1 : Fld Z h1 b1 "com/example/hushlist/hushlist/engine/StanzaException" "condition" "Lcom/example/hushlist/hushlist/engine/Condition;" .null := D1 (Or.inr (hw _ (List.mem_of_getElem? (i := 83) rfl))) (ty := (.object "com/example/hushlist/hushlist/engine/Condition")) (by decide)
  refine OGo.go (B := T1.setTop (mkF m 3 #[.val .null] [(.ref b1)])) ?_ st1
  refine OGo.go (B := T1.setTop (mkF m 4 #[.val .null] [(.ref b1), (.ref b1)])) ?_ (fun tX kX => XS.dup X1.here hx rfl (hb hby d4_3) rfl rfl kX)
  obtain ⟨T2, X2, e2, st2⟩ := getS2 X1 hx hZ hown (host := "") (Or.inl (hw _ (List.mem_of_getElem? (i := 28) rfl))) Via.refl e1 S_CONFLICT (g := (mkF m 4 #[.val .null] [(.ref b1), (.ref b1)])) rfl (hb hby d4_4)
  refine OGo.go (B := T2.setTop (mkF m 7 #[.val .null] [(.ref uc), (.ref b1), (.ref b1)])) ?_ st2
  refine OGo.go (B := T2.setTop (mkF m 8 #[.val .null] [.null, (.ref uc), (.ref b1), (.ref b1)])) ?_ (fun tX kX => XS.aloadN X2.here hx rfl (hb hby d4_7) rfl rfl kX)
  obtain ⟨_, _, ⟨T3, L3, k3, n3⟩, -, X3, ⟨Lc3, hQ3, l3, y3, z3⟩, st3⟩ := X2.specialBack hx (y := (⟨"com/example/hushlist/hushlist/engine/StanzaException", "<init>", "(Lcom/example/hushlist/hushlist/engine/Condition;Ljava/lang/String;)V"⟩ : MethodName)) rfl hown (mvT hZ (hw _ (List.mem_of_getElem? (i := 31) rfl))) (mvT hZ (hw _ (List.mem_of_getElem? (i := 32) rfl))) (mvT hZ (hw _ (List.mem_of_getElem? (i := 33) rfl))) (by decide) (backOfKL (W := 1) (rm5n l Z aV hw [] b1 uc .null .null .null .null us sn h1 n0 zn1 E_b1 U_b1 F_condition_b1 F_cause_b1 F_stackTrace_b1 F_suppressedExceptions_b1 F_backtrace_b1 F_detailMessage_b1 S_UNASSIGNED_STACK S_SUPPRESSED_SENTINEL hThS g_b1 hl hus hsn) hZ (hw _ (List.mem_of_getElem? (i := 33) rfl)) (hw _ (List.mem_of_getElem? (i := 24) rfl)) (by decide) (by decide) hTK hBelow) (g := (mkF m 8 #[.val .null] [.null, (.ref uc), (.ref b1), (.ref b1)])) rfl (by rw [hml]; rfl) (Steps.refl _) (a := b1) (argsL := [(.ref uc), .null]) (rest := [(.ref b1)]) (lenOf pd__Lcom_example_hushlist_hushlist_engine_Condition_Ljava_lang_String__V rfl) rfl (by show 2 * 0 + _ ≤ _; exact Nat.le_of_eq rfl) (hb hby d4_8) (fun _ _ => ⟨rfl, e2, (by decide : 1 + 1 ≤ _), (by decide : 7 + 2752 ≤ _)⟩)
  dsimp only [Pt.U, Pt.locs, Pt.cells, Pt.slots] at X3 l3 y3 z3 st3 hQ3
  subst l3 y3 z3
  obtain ⟨rfl, N3q, Kq3, E_b1_p, F_condition_b1_p, F_detailMessage_b1_p⟩ := hQ3
  have N3 := Fr.app N0 N3q
  have S_CONFLICT := Sta.keepE S_CONFLICT Kq3 (staS E_b1.cell (fun x hx' => nomatch hx'))
  have S_UNASSIGNED_STACK := Sta.keepE S_UNASSIGNED_STACK Kq3 (staS E_b1.cell (fun x hx' => nomatch hx'))
  have S_SUPPRESSED_SENTINEL := Sta.keepE S_SUPPRESSED_SENTINEL Kq3 (staS E_b1.cell (fun x hx' => nomatch hx'))
  have hThS := hThS.keep Kq3 (nsS E_b1.nostat ns0)
  have E_b1 := E_b1.keep Kq3
  have K3 := K1.trans Kq3 (allS (P := fun x => x ∈ ([] : List Addr) ∨ h0.size ≤ x) (Or.inr sz_b1) all0)
  have zn3 : n0 ≤ T3.heap.size := Nat.le_trans zn1 Kq3.1
  have E_b1 := E_b1_p
  have F_condition_b1 := F_condition_b1_p
  have F_detailMessage_b1 := F_detailMessage_b1_p
  refine OGo.go (B := T3.setTop (mkF m 11 #[.val .null] [(.ref b1)])) ?_ (fun tX kX => st3.trans kX)
  refine OGo.ret X3 (v := (some (.ref b1))) (fun h => by rw [Bd.returns] at h; cases h) (BodyLoose.notSynchronized Bd) (fun fs hr => retOut X3 hx Bd.returns rfl (Or.inr (Or.inr (Or.inr (Or.inr ⟨rfl, rfl, rfl⟩)))) (hb hby d4_11) hr) (Q := Q4n Z uc us sn h0 n0) ?_ (by decide) (by decide)
  show Q4n Z uc us sn h0 n0 _ T3.heap _
  exact ⟨b1, rfl, N3, K3, sz_b1, E_b1, F_condition_b1, F_detailMessage_b1⟩
def Q7r (Z : State) (a0 : Addr) (a1 : Addr) (u1 : Value) (o1 : Value) (o2 : Value) (o3 : Value) (us : Value) (sn : Value) (h0 : Heap) (n0 : Nat) (v : Option Value) (h : Heap) (L : List Loc) : Prop := v = none ∧ Fr n0 L ∧ Keep h0 h [a0] ∧ Exa Z h a0 "com/example/hushlist/hushlist/engine/StanzaException" ∧ Fld Z h a0 "com/example/hushlist/hushlist/engine/StanzaException" "condition" "Lcom/example/hushlist/hushlist/engine/Condition;" u1 ∧ Fld Z h a0 "java/lang/Throwable" "detailMessage" "Ljava/lang/String;" (.ref a1)
def P7r (Z : State) (a0 : Addr) (a1 : Addr) (u1 : Value) (o1 : Value) (o2 : Value) (o3 : Value) (us : Value) (sn : Value) (h0 : Heap) (n0 : Nat) (s : State) (o : Outcome) (U' : State) : Prop := ∃ v L, o = .returned v ∧ Q7r Z a0 a1 u1 o1 o2 o3 us sn h0 n0 v U'.heap L ∧ FrameEnd s o U' L ({ frames := 3, cells := 1, slots := 2752, locals := 42 } : Room).cells ({ frames := 3, cells := 1, slots := 2752, locals := 42 } : Room).slots
set_option maxRecDepth 65536 in
set_option maxHeartbeats 40000000 in
theorem rm7r (l : Launch) (Z : State) (aV : Array Value) (hw : ∀ d ∈ tables_1, d.before aV Z = true) (ws : List Jvm.Cond) (a0 : Addr) (a1 : Addr) (u1 : Value) (o1 : Value) (o2 : Value) (o3 : Value) (us : Value) (sn : Value) (h0 : Heap) (n0 : Nat) (Z0 : n0 ≤ h0.size) (E_a0 : Exa Z h0 a0 "com/example/hushlist/hushlist/engine/StanzaException") (U_a0 : Unt h0 a0) (F_condition_a0 : Fld Z h0 a0 "com/example/hushlist/hushlist/engine/StanzaException" "condition" "Lcom/example/hushlist/hushlist/engine/Condition;" u1) (F_cause_a0 : Fld Z h0 a0 "java/lang/Throwable" "cause" "Ljava/lang/Throwable;" o1) (F_stackTrace_a0 : Fld Z h0 a0 "java/lang/Throwable" "stackTrace" "[Ljava/lang/StackTraceElement;" o2) (F_suppressedExceptions_a0 : Fld Z h0 a0 "java/lang/Throwable" "suppressedExceptions" "Ljava/util/List;" o3) (F_backtrace_a0 : Fld Z h0 a0 "java/lang/Throwable" "backtrace" "Ljava/lang/Object;" .null) (F_detailMessage_a0 : Fld Z h0 a0 "java/lang/Throwable" "detailMessage" "Ljava/lang/String;" .null) (S_UNASSIGNED_STACK : Sta Z h0 "java/lang/Throwable" "UNASSIGNED_STACK" "[Ljava/lang/StackTraceElement;" us) (S_SUPPRESSED_SENTINEL : Sta Z h0 "java/lang/Throwable" "SUPPRESSED_SENTINEL" "Ljava/util/List;" sn) (hThS : ThS Z h0) (ga : n0 ≤ a0) (hl : l.stackTraces = true) (hus : us.isRef = true) (hsn : sn.isRef = true) :
    MetFree l (⟨"java/lang/Throwable", "<init>", "(Ljava/lang/String;)V"⟩ : MethodName) (head1 (Jvm.Cond.code (⟨"java/lang/Throwable", "<init>", "(Ljava/lang/String;)V"⟩ : MethodName) jdk_78_method_2_code 2 none :: ws) ({ frames := 3, cells := 1, slots := 2752, locals := 42 } : Room)) (fun a U => a = #[(.ref a0), (.ref a1)] ∧ Z.Warmed39 U.vm ∧ U.heap = h0) (fun _ _ bl s _ => s.vm.MethodsKnown ∧ s.vm.FramesKnown bl) (fun _ U o U' => ∃ v L, o = .returned v ∧ Q7r Z a0 a1 u1 o1 o2 o3 us sn h0 n0 v U'.heap L ∧ FrameEnd U o U' L ({ frames := 3, cells := 1, slots := 2752, locals := 42 } : Room).cells ({ frames := 3, cells := 1, slots := 2752, locals := 42 } : Room).slots) := by
  refine MetFree.of_bodySF (plainFor_of_name pn_java_lang_Throwable) hisR ?_
  intro p e s m args below meth c s₁ Bd hml0 hP hK
  obtain ⟨rfl, hZ, hh⟩ := hP
  have hx := Bd.exec
  have hby := Bd.bytes
  have hml : c.maxLocals = 2 := hml0
  have hown : s.vm.findClass "java/lang/Throwable" = some m.cls := findClass_of_methodNamed Bd.named
  have hnm := (name_of_methodNamed Bd.named Bd.method).1
  have X0 : Stand p l e ({ frames := 3, cells := 1, slots := 2752, locals := 42 } : Room) s m #[(.ref a0), (.ref a1)] below meth c s₁ [] 0 0 := Stand.of_body Bd
  have e0 : s₁.heap = h0 := by rw [← hh, Bd.state]; rfl
  have hTK := hK.1
  have hBelow := hK.2
  have efx : entryFrame m #[(.ref a0), (.ref a1)] 2 = mkF m 0 #[.val (.ref a0), .val (.ref a1)] [] := by first | (simp [entryFrame, mkF, argsToLocals, Value.category]; done) | rfl
  have N0 := Fr.nil n0
  have K0 : Keep h0 h0 [a0] := Keep.refl h0 _
  refine OGo.start (g' := mkF m 0 #[.val (.ref a0), .val (.ref a1)] []) (efx) ?_
  show OGo p.tables e below (P7r Z a0 a1 u1 o1 o2 o3 us sn h0 n0 s) (s₁.setTop (mkF m 0 #[.val (.ref a0), .val (.ref a1)] []))
  have hThS0 := hThS
  rcases ref_cases hus with hu13 | ⟨u13, hu13⟩
  ·
    rw [hu13] at S_UNASSIGNED_STACK
    rcases ref_cases hsn with hu20 | ⟨u20, hu20⟩
    ·
      rw [hu20] at S_SUPPRESSED_SENTINEL
      refine OGo.go (B := s₁.setTop (mkF m 1 #[.val (.ref a0), .val (.ref a1)] [(.ref a0)])) ?_ (fun tX kX => XS.aloadN X0.here hx rfl (hb hby d7_0) rfl rfl kX)
      obtain ⟨T1, X1, e1, st1⟩ := initO X0 hx hZ hown (hw _ (List.mem_of_getElem? (i := 45) rfl)) (hw _ (List.mem_of_getElem? (i := 12) rfl)) (hw _ (List.mem_of_getElem? (i := 13) rfl)) e0 (g := (mkF m 1 #[.val (.ref a0), .val (.ref a1)] [(.ref a0)])) rfl (by rw [hml]; rfl) rfl (hb hby d7_1) (by decide) (W := 0) (by show 2 * 0 + _ ≤ _; exact Nat.le_of_eq rfl) (by decide)
      refine OGo.go (B := T1.setTop (mkF m 4 #[.val (.ref a0), .val (.ref a1)] [])) ?_ st1
      refine OGo.go (B := T1.setTop (mkF m 5 #[.val (.ref a0), .val (.ref a1)] [(.ref a0)])) ?_ (fun tX kX => XS.aloadN X1.here hx rfl (hb hby d7_4) rfl rfl kX)
      refine OGo.go (B := T1.setTop (mkF m 6 #[.val (.ref a0), .val (.ref a1)] [(.ref a0), (.ref a0)])) ?_ (fun tX kX => XS.aloadN X1.here hx rfl (hb hby d7_5) rfl rfl kX)
      obtain ⟨T2, h2, X2, e2, W2, st2⟩ := putF X1 hx hZ hown (host := "") (Or.inl (hw _ (List.mem_of_getElem? (i := 46) rfl))) Via.refl e1 F_cause_a0 E_a0 (Or.inl (hw _ (List.mem_of_getElem? (i := 47) rfl))) (hw _ (List.mem_of_getElem? (i := 27) rfl)) (ty := (.object "java/lang/Throwable")) (by decide) rfl rfl (g := (mkF m 6 #[.val (.ref a0), .val (.ref a1)] [(.ref a0), (.ref a0)])) rfl rfl (hb hby d7_6)
      have E_a0 := E_a0.wr W2
      have U_a0 := U_a0.wr W2
      have F_condition_a0 := F_condition_a0.other W2 (Or.inr (slot_ne (Or.inr (hw _ (List.mem_of_getElem? (i := 83) rfl))) (Or.inl (hw _ (List.mem_of_getElem? (i := 47) rfl))) (by decide) (t := (.object "com/example/hushlist/hushlist/engine/Condition")) (t' := (.object "java/lang/Throwable")) (by decide) (by decide)))
      have F_cause_a0 := F_cause_a0.same W2
      have F_stackTrace_a0 := F_stackTrace_a0.other W2 (Or.inr (slot_ne (Or.inl (hw _ (List.mem_of_getElem? (i := 50) rfl))) (Or.inl (hw _ (List.mem_of_getElem? (i := 47) rfl))) (by decide) (t := (.array (.object "java/lang/StackTraceElement"))) (t' := (.object "java/lang/Throwable")) (by decide) (by decide)))
      have F_suppressedExceptions_a0 := F_suppressedExceptions_a0.other W2 (Or.inr (slot_ne (Or.inl (hw _ (List.mem_of_getElem? (i := 53) rfl))) (Or.inl (hw _ (List.mem_of_getElem? (i := 47) rfl))) (by decide) (t := (.object "java/util/List")) (t' := (.object "java/lang/Throwable")) (by decide) (by decide)))
      have F_backtrace_a0 := F_backtrace_a0.other W2 (Or.inr (slot_ne (Or.inl (hw _ (List.mem_of_getElem? (i := 78) rfl))) (Or.inl (hw _ (List.mem_of_getElem? (i := 47) rfl))) (by decide) (t := (.object "java/lang/Object")) (t' := (.object "java/lang/Throwable")) (by decide) (by decide)))
      have F_detailMessage_a0 := F_detailMessage_a0.other W2 (Or.inr (slot_ne (Or.inl (hw _ (List.mem_of_getElem? (i := 77) rfl))) (Or.inl (hw _ (List.mem_of_getElem? (i := 47) rfl))) (by decide) (t := (.object "java/lang/String")) (t' := (.object "java/lang/Throwable")) (by decide) (by decide)))
      have S_UNASSIGNED_STACK := S_UNASSIGNED_STACK.wr W2
      have S_SUPPRESSED_SENTINEL := S_SUPPRESSED_SENTINEL.wr W2
      have hThS := hThS.wr W2
      have K2 := K0.wr W2 (Or.inl (List.mem_of_getElem? (i := 0) rfl))
      have zn2 : n0 ≤ h2.size := Nat.le_trans Z0 (Keep.of_wr W2).1
      have N2 := Fr.snoc X2 N0 ga
      refine OGo.go (B := T2.setTop (mkF m 9 #[.val (.ref a0), .val (.ref a1)] [])) ?_ st2
      refine OGo.go (B := T2.setTop (mkF m 10 #[.val (.ref a0), .val (.ref a1)] [(.ref a0)])) ?_ (fun tX kX => XS.aloadN X2.here hx rfl (hb hby d7_9) rfl rfl kX)
      obtain ⟨T3, X3, e3, st3⟩ := getS2 X2 hx hZ hown (host := "") (Or.inl (hw _ (List.mem_of_getElem? (i := 48) rfl))) Via.refl e2 S_UNASSIGNED_STACK (g := (mkF m 10 #[.val (.ref a0), .val (.ref a1)] [(.ref a0)])) rfl (hb hby d7_10)
      refine OGo.go (B := T3.setTop (mkF m 13 #[.val (.ref a0), .val (.ref a1)] [.null, (.ref a0)])) ?_ st3
      obtain ⟨T4, h4, X4, e4, W4, st4⟩ := putF X3 hx hZ hown (host := "") (Or.inl (hw _ (List.mem_of_getElem? (i := 49) rfl))) Via.refl e3 F_stackTrace_a0 E_a0 (Or.inl (hw _ (List.mem_of_getElem? (i := 50) rfl))) (hw _ (List.mem_of_getElem? (i := 27) rfl)) (ty := (.array (.object "java/lang/StackTraceElement"))) (by decide) rfl rfl (g := (mkF m 13 #[.val (.ref a0), .val (.ref a1)] [.null, (.ref a0)])) rfl rfl (hb hby d7_13)
      have E_a0 := E_a0.wr W4
      have U_a0 := U_a0.wr W4
      have F_condition_a0 := F_condition_a0.other W4 (Or.inr (slot_ne (Or.inr (hw _ (List.mem_of_getElem? (i := 83) rfl))) (Or.inl (hw _ (List.mem_of_getElem? (i := 50) rfl))) (by decide) (t := (.object "com/example/hushlist/hushlist/engine/Condition")) (t' := (.array (.object "java/lang/StackTraceElement"))) (by decide) (by decide)))
      have F_cause_a0 := F_cause_a0.other W4 (Or.inr (slot_ne (Or.inl (hw _ (List.mem_of_getElem? (i := 47) rfl))) (Or.inl (hw _ (List.mem_of_getElem? (i := 50) rfl))) (by decide) (t := (.object "java/lang/Throwable")) (t' := (.array (.object "java/lang/StackTraceElement"))) (by decide) (by decide)))
      have F_stackTrace_a0 := F_stackTrace_a0.same W4
      have F_suppressedExceptions_a0 := F_suppressedExceptions_a0.other W4 (Or.inr (slot_ne (Or.inl (hw _ (List.mem_of_getElem? (i := 53) rfl))) (Or.inl (hw _ (List.mem_of_getElem? (i := 50) rfl))) (by decide) (t := (.object "java/util/List")) (t' := (.array (.object "java/lang/StackTraceElement"))) (by decide) (by decide)))
      have F_backtrace_a0 := F_backtrace_a0.other W4 (Or.inr (slot_ne (Or.inl (hw _ (List.mem_of_getElem? (i := 78) rfl))) (Or.inl (hw _ (List.mem_of_getElem? (i := 50) rfl))) (by decide) (t := (.object "java/lang/Object")) (t' := (.array (.object "java/lang/StackTraceElement"))) (by decide) (by decide)))
      have F_detailMessage_a0 := F_detailMessage_a0.other W4 (Or.inr (slot_ne (Or.inl (hw _ (List.mem_of_getElem? (i := 77) rfl))) (Or.inl (hw _ (List.mem_of_getElem? (i := 50) rfl))) (by decide) (t := (.object "java/lang/String")) (t' := (.array (.object "java/lang/StackTraceElement"))) (by decide) (by decide)))
      have S_UNASSIGNED_STACK := S_UNASSIGNED_STACK.wr W4
      have S_SUPPRESSED_SENTINEL := S_SUPPRESSED_SENTINEL.wr W4
      have hThS := hThS.wr W4
      have K4 := K2.wr W4 (Or.inl (List.mem_of_getElem? (i := 0) rfl))
      have zn4 : n0 ≤ h4.size := Nat.le_trans zn2 (Keep.of_wr W4).1
      have N4 := Fr.snoc X4 N2 ga
      refine OGo.go (B := T4.setTop (mkF m 16 #[.val (.ref a0), .val (.ref a1)] [])) ?_ st4
      refine OGo.go (B := T4.setTop (mkF m 17 #[.val (.ref a0), .val (.ref a1)] [(.ref a0)])) ?_ (fun tX kX => XS.aloadN X4.here hx rfl (hb hby d7_16) rfl rfl kX)
      obtain ⟨T5, X5, e5, st5⟩ := getS2 X4 hx hZ hown (host := "") (Or.inl (hw _ (List.mem_of_getElem? (i := 51) rfl))) Via.refl e4 S_SUPPRESSED_SENTINEL (g := (mkF m 17 #[.val (.ref a0), .val (.ref a1)] [(.ref a0)])) rfl (hb hby d7_17)
      refine OGo.go (B := T5.setTop (mkF m 20 #[.val (.ref a0), .val (.ref a1)] [.null, (.ref a0)])) ?_ st5
      obtain ⟨T6, h6, X6, e6, W6, st6⟩ := putF X5 hx hZ hown (host := "") (Or.inl (hw _ (List.mem_of_getElem? (i := 52) rfl))) Via.refl e5 F_suppressedExceptions_a0 E_a0 (Or.inl (hw _ (List.mem_of_getElem? (i := 53) rfl))) (hw _ (List.mem_of_getElem? (i := 27) rfl)) (ty := (.object "java/util/List")) (by decide) rfl rfl (g := (mkF m 20 #[.val (.ref a0), .val (.ref a1)] [.null, (.ref a0)])) rfl rfl (hb hby d7_20)
      have E_a0 := E_a0.wr W6
      have U_a0 := U_a0.wr W6
      have F_condition_a0 := F_condition_a0.other W6 (Or.inr (slot_ne (Or.inr (hw _ (List.mem_of_getElem? (i := 83) rfl))) (Or.inl (hw _ (List.mem_of_getElem? (i := 53) rfl))) (by decide) (t := (.object "com/example/hushlist/hushlist/engine/Condition")) (t' := (.object "java/util/List")) (by decide) (by decide)))
      have F_cause_a0 := F_cause_a0.other W6 (Or.inr (slot_ne (Or.inl (hw _ (List.mem_of_getElem? (i := 47) rfl))) (Or.inl (hw _ (List.mem_of_getElem? (i := 53) rfl))) (by decide) (t := (.object "java/lang/Throwable")) (t' := (.object "java/util/List")) (by decide) (by decide)))
      have F_stackTrace_a0 := F_stackTrace_a0.other W6 (Or.inr (slot_ne (Or.inl (hw _ (List.mem_of_getElem? (i := 50) rfl))) (Or.inl (hw _ (List.mem_of_getElem? (i := 53) rfl))) (by decide) (t := (.array (.object "java/lang/StackTraceElement"))) (t' := (.object "java/util/List")) (by decide) (by decide)))
      have F_suppressedExceptions_a0 := F_suppressedExceptions_a0.same W6
      have F_backtrace_a0 := F_backtrace_a0.other W6 (Or.inr (slot_ne (Or.inl (hw _ (List.mem_of_getElem? (i := 78) rfl))) (Or.inl (hw _ (List.mem_of_getElem? (i := 53) rfl))) (by decide) (t := (.object "java/lang/Object")) (t' := (.object "java/util/List")) (by decide) (by decide)))
      have F_detailMessage_a0 := F_detailMessage_a0.other W6 (Or.inr (slot_ne (Or.inl (hw _ (List.mem_of_getElem? (i := 77) rfl))) (Or.inl (hw _ (List.mem_of_getElem? (i := 53) rfl))) (by decide) (t := (.object "java/lang/String")) (t' := (.object "java/util/List")) (by decide) (by decide)))
      have S_UNASSIGNED_STACK := S_UNASSIGNED_STACK.wr W6
      have S_SUPPRESSED_SENTINEL := S_SUPPRESSED_SENTINEL.wr W6
      have hThS := hThS.wr W6
      have K6 := K4.wr W6 (Or.inl (List.mem_of_getElem? (i := 0) rfl))
      have zn6 : n0 ≤ h6.size := Nat.le_trans zn4 (Keep.of_wr W6).1
      have N6 := Fr.snoc X6 N4 ga
      refine OGo.go (B := T6.setTop (mkF m 23 #[.val (.ref a0), .val (.ref a1)] [])) ?_ st6
      refine OGo.go (B := T6.setTop (mkF m 24 #[.val (.ref a0), .val (.ref a1)] [(.ref a0)])) ?_ (fun tX kX => XS.aloadN X6.here hx rfl (hb hby d7_23) rfl rfl kX)
      obtain ⟨T7, h7, L7, X7, e7, lb7, EA7, FK7, st7⟩ := own_fill X6 hx hl hZ hown (rc := "com/example/hushlist/hushlist/engine/StanzaException") (own_w hw) (hw _ (List.mem_of_getElem? (i := 27) rfl)) (by rw [hh]; exact hThS0) hThS hTK hBelow e6 E_a0 U_a0 F_backtrace_a0 F_stackTrace_a0 S_UNASSIGNED_STACK rfl (g := (mkF m 24 #[.val (.ref a0), .val (.ref a1)] [(.ref a0)])) rfl (by rw [hml]; rfl) rfl (hb hby d7_24) (by decide) (by show 2 * 0 + _ + _ ≤ _; decide) (by decide) (by decide)
      have K7 : Keep h0 h7 [a0] := own_keep X7 hh e7 (fun y hy => by simp only [List.nil_append, List.mem_append, List.mem_cons, List.not_mem_nil, or_false, false_or] at hy; rcases hy with ((hy | hy) | hy) | hy <;> first | exact lb7 _ hy | (rw [hy]))
      have F_condition_a0 := FK7 (Or.inr (hw _ (List.mem_of_getElem? (i := 83) rfl))) (t := (.object "com/example/hushlist/hushlist/engine/Condition")) (by decide) (by decide) (by decide) (by decide) F_condition_a0
      have F_detailMessage_a0 := FK7 (Or.inl (hw _ (List.mem_of_getElem? (i := 77) rfl))) (t := (.object "java/lang/String")) (by decide) (by decide) (by decide) (by decide) F_detailMessage_a0
      have E_a0 := EA7
      have zn7 : n0 ≤ h7.size := Nat.le_trans Z0 K7.1
      have N7 := N6.app (fun y hy => by rw [lb7 y hy]; exact ga : Fr n0 L7)
      refine OGo.go (B := T7.setTop (mkF m 27 #[.val (.ref a0), .val (.ref a1)] [(.ref a0)])) ?_ st7
      refine OGo.go (B := T7.setTop (mkF m 28 #[.val (.ref a0), .val (.ref a1)] [])) ?_ (fun tX kX => XS.pop X7.here hx rfl (hb hby d7_27) rfl rfl kX)
      refine OGo.go (B := T7.setTop (mkF m 29 #[.val (.ref a0), .val (.ref a1)] [(.ref a0)])) ?_ (fun tX kX => XS.aloadN X7.here hx rfl (hb hby d7_28) rfl rfl kX)
      refine OGo.go (B := T7.setTop (mkF m 30 #[.val (.ref a0), .val (.ref a1)] [(.ref a1), (.ref a0)])) ?_ (fun tX kX => XS.aloadN X7.here hx rfl (hb hby d7_29) rfl rfl kX)
      obtain ⟨T8, h8, X8, e8, W8, st8⟩ := putF X7 hx hZ hown (host := "") (Or.inl (hw _ (List.mem_of_getElem? (i := 81) rfl))) Via.refl e7 F_detailMessage_a0 E_a0 (Or.inl (hw _ (List.mem_of_getElem? (i := 77) rfl))) (hw _ (List.mem_of_getElem? (i := 27) rfl)) (ty := (.object "java/lang/String")) (by decide) rfl rfl (g := (mkF m 30 #[.val (.ref a0), .val (.ref a1)] [(.ref a1), (.ref a0)])) rfl rfl (hb hby d7_30)
      have E_a0 := E_a0.wr W8
      have F_condition_a0 := F_condition_a0.other W8 (Or.inr (slot_ne (Or.inr (hw _ (List.mem_of_getElem? (i := 83) rfl))) (Or.inl (hw _ (List.mem_of_getElem? (i := 77) rfl))) (by decide) (t := (.object "com/example/hushlist/hushlist/engine/Condition")) (t' := (.object "java/lang/String")) (by decide) (by decide)))
      have F_detailMessage_a0 := F_detailMessage_a0.same W8
      have K8 := K7.wr W8 (Or.inl (List.mem_of_getElem? (i := 0) rfl))
      have zn8 : n0 ≤ h8.size := Nat.le_trans zn7 (Keep.of_wr W8).1
      have N8 := Fr.snoc X8 N7 ga
      refine OGo.go (B := T8.setTop (mkF m 33 #[.val (.ref a0), .val (.ref a1)] [])) ?_ st8
      refine OGo.ret X8 (v := none) (fun _ => rfl) (BodyLoose.notSynchronized Bd) (fun fs hr => X8.returnOut hx Bd.returns (hb hby d7_33) hr) (Q := Q7r Z a0 a1 u1 o1 o2 o3 us sn h0 n0) ?_ (by decide) (by decide)
      show Q7r Z a0 a1 u1 o1 o2 o3 us sn h0 n0 _ T8.heap _
      rw [e8]
      exact ⟨rfl, N8, K8, E_a0, F_condition_a0, F_detailMessage_a0⟩
    ·
      rw [hu20] at S_SUPPRESSED_SENTINEL
      refine OGo.go (B := s₁.setTop (mkF m 1 #[.val (.ref a0), .val (.ref a1)] [(.ref a0)])) ?_ (fun tX kX => XS.aloadN X0.here hx rfl (hb hby d7_0) rfl rfl kX)
      obtain ⟨T9, X9, e9, st9⟩ := initO X0 hx hZ hown (hw _ (List.mem_of_getElem? (i := 45) rfl)) (hw _ (List.mem_of_getElem? (i := 12) rfl)) (hw _ (List.mem_of_getElem? (i := 13) rfl)) e0 (g := (mkF m 1 #[.val (.ref a0), .val (.ref a1)] [(.ref a0)])) rfl (by rw [hml]; rfl) rfl (hb hby d7_1) (by decide) (W := 0) (by show 2 * 0 + _ ≤ _; exact Nat.le_of_eq rfl) (by decide)
      refine OGo.go (B := T9.setTop (mkF m 4 #[.val (.ref a0), .val (.ref a1)] [])) ?_ st9
      refine OGo.go (B := T9.setTop (mkF m 5 #[.val (.ref a0), .val (.ref a1)] [(.ref a0)])) ?_ (fun tX kX => XS.aloadN X9.here hx rfl (hb hby d7_4) rfl rfl kX)
      refine OGo.go (B := T9.setTop (mkF m 6 #[.val (.ref a0), .val (.ref a1)] [(.ref a0), (.ref a0)])) ?_ (fun tX kX => XS.aloadN X9.here hx rfl (hb hby d7_5) rfl rfl kX)
      obtain ⟨T10, h10, X10, e10, W10, st10⟩ := putF X9 hx hZ hown (host := "") (Or.inl (hw _ (List.mem_of_getElem? (i := 46) rfl))) Via.refl e9 F_cause_a0 E_a0 (Or.inl (hw _ (List.mem_of_getElem? (i := 47) rfl))) (hw _ (List.mem_of_getElem? (i := 27) rfl)) (ty := (.object "java/lang/Throwable")) (by decide) rfl rfl (g := (mkF m 6 #[.val (.ref a0), .val (.ref a1)] [(.ref a0), (.ref a0)])) rfl rfl (hb hby d7_6)
      have E_a0 := E_a0.wr W10
      have U_a0 := U_a0.wr W10
      have F_condition_a0 := F_condition_a0.other W10 (Or.inr (slot_ne (Or.inr (hw _ (List.mem_of_getElem? (i := 83) rfl))) (Or.inl (hw _ (List.mem_of_getElem? (i := 47) rfl))) (by decide) (t := (.object "com/example/hushlist/hushlist/engine/Condition")) (t' := (.object "java/lang/Throwable")) (by decide) (by decide)))
      have F_cause_a0 := F_cause_a0.same W10
      have F_stackTrace_a0 := F_stackTrace_a0.other W10 (Or.inr (slot_ne (Or.inl (hw _ (List.mem_of_getElem? (i := 50) rfl))) (Or.inl (hw _ (List.mem_of_getElem? (i := 47) rfl))) (by decide) (t := (.array (.object "java/lang/StackTraceElement"))) (t' := (.object "java/lang/Throwable")) (by decide) (by decide)))
      have F_suppressedExceptions_a0 := F_suppressedExceptions_a0.other W10 (Or.inr (slot_ne (Or.inl (hw _ (List.mem_of_getElem? (i := 53) rfl))) (Or.inl (hw _ (List.mem_of_getElem? (i := 47) rfl))) (by decide) (t := (.object "java/util/List")) (t' := (.object "java/lang/Throwable")) (by decide) (by decide)))
      have F_backtrace_a0 := F_backtrace_a0.other W10 (Or.inr (slot_ne (Or.inl (hw _ (List.mem_of_getElem? (i := 78) rfl))) (Or.inl (hw _ (List.mem_of_getElem? (i := 47) rfl))) (by decide) (t := (.object "java/lang/Object")) (t' := (.object "java/lang/Throwable")) (by decide) (by decide)))
      have F_detailMessage_a0 := F_detailMessage_a0.other W10 (Or.inr (slot_ne (Or.inl (hw _ (List.mem_of_getElem? (i := 77) rfl))) (Or.inl (hw _ (List.mem_of_getElem? (i := 47) rfl))) (by decide) (t := (.object "java/lang/String")) (t' := (.object "java/lang/Throwable")) (by decide) (by decide)))
      have S_UNASSIGNED_STACK := S_UNASSIGNED_STACK.wr W10
      have S_SUPPRESSED_SENTINEL := S_SUPPRESSED_SENTINEL.wr W10
      have hThS := hThS.wr W10
      have K10 := K0.wr W10 (Or.inl (List.mem_of_getElem? (i := 0) rfl))
      have zn10 : n0 ≤ h10.size := Nat.le_trans Z0 (Keep.of_wr W10).1
      have N10 := Fr.snoc X10 N0 ga
      refine OGo.go (B := T10.setTop (mkF m 9 #[.val (.ref a0), .val (.ref a1)] [])) ?_ st10
      refine OGo.go (B := T10.setTop (mkF m 10 #[.val (.ref a0), .val (.ref a1)] [(.ref a0)])) ?_ (fun tX kX => XS.aloadN X10.here hx rfl (hb hby d7_9) rfl rfl kX)
      obtain ⟨T11, X11, e11, st11⟩ := getS2 X10 hx hZ hown (host := "") (Or.inl (hw _ (List.mem_of_getElem? (i := 48) rfl))) Via.refl e10 S_UNASSIGNED_STACK (g := (mkF m 10 #[.val (.ref a0), .val (.ref a1)] [(.ref a0)])) rfl (hb hby d7_10)
      refine OGo.go (B := T11.setTop (mkF m 13 #[.val (.ref a0), .val (.ref a1)] [.null, (.ref a0)])) ?_ st11
      obtain ⟨T12, h12, X12, e12, W12, st12⟩ := putF X11 hx hZ hown (host := "") (Or.inl (hw _ (List.mem_of_getElem? (i := 49) rfl))) Via.refl e11 F_stackTrace_a0 E_a0 (Or.inl (hw _ (List.mem_of_getElem? (i := 50) rfl))) (hw _ (List.mem_of_getElem? (i := 27) rfl)) (ty := (.array (.object "java/lang/StackTraceElement"))) (by decide) rfl rfl (g := (mkF m 13 #[.val (.ref a0), .val (.ref a1)] [.null, (.ref a0)])) rfl rfl (hb hby d7_13)
      have E_a0 := E_a0.wr W12
      have U_a0 := U_a0.wr W12
      have F_condition_a0 := F_condition_a0.other W12 (Or.inr (slot_ne (Or.inr (hw _ (List.mem_of_getElem? (i := 83) rfl))) (Or.inl (hw _ (List.mem_of_getElem? (i := 50) rfl))) (by decide) (t := (.object "com/example/hushlist/hushlist/engine/Condition")) (t' := (.array (.object "java/lang/StackTraceElement"))) (by decide) (by decide)))
      have F_cause_a0 := F_cause_a0.other W12 (Or.inr (slot_ne (Or.inl (hw _ (List.mem_of_getElem? (i := 47) rfl))) (Or.inl (hw _ (List.mem_of_getElem? (i := 50) rfl))) (by decide) (t := (.object "java/lang/Throwable")) (t' := (.array (.object "java/lang/StackTraceElement"))) (by decide) (by decide)))
      have F_stackTrace_a0 := F_stackTrace_a0.same W12
      have F_suppressedExceptions_a0 := F_suppressedExceptions_a0.other W12 (Or.inr (slot_ne (Or.inl (hw _ (List.mem_of_getElem? (i := 53) rfl))) (Or.inl (hw _ (List.mem_of_getElem? (i := 50) rfl))) (by decide) (t := (.object "java/util/List")) (t' := (.array (.object "java/lang/StackTraceElement"))) (by decide) (by decide)))
      have F_backtrace_a0 := F_backtrace_a0.other W12 (Or.inr (slot_ne (Or.inl (hw _ (List.mem_of_getElem? (i := 78) rfl))) (Or.inl (hw _ (List.mem_of_getElem? (i := 50) rfl))) (by decide) (t := (.object "java/lang/Object")) (t' := (.array (.object "java/lang/StackTraceElement"))) (by decide) (by decide)))
      have F_detailMessage_a0 := F_detailMessage_a0.other W12 (Or.inr (slot_ne (Or.inl (hw _ (List.mem_of_getElem? (i := 77) rfl))) (Or.inl (hw _ (List.mem_of_getElem? (i := 50) rfl))) (by decide) (t := (.object "java/lang/String")) (t' := (.array (.object "java/lang/StackTraceElement"))) (by decide) (by decide)))
      have S_UNASSIGNED_STACK := S_UNASSIGNED_STACK.wr W12
      have S_SUPPRESSED_SENTINEL := S_SUPPRESSED_SENTINEL.wr W12
      have hThS := hThS.wr W12
      have K12 := K10.wr W12 (Or.inl (List.mem_of_getElem? (i := 0) rfl))
      have zn12 : n0 ≤ h12.size := Nat.le_trans zn10 (Keep.of_wr W12).1
      have N12 := Fr.snoc X12 N10 ga
      refine OGo.go (B := T12.setTop (mkF m 16 #[.val (.ref a0), .val (.ref a1)] [])) ?_ st12
      refine OGo.go (B := T12.setTop (mkF m 17 #[.val (.ref a0), .val (.ref a1)] [(.ref a0)])) ?_ (fun tX kX => XS.aloadN X12.here hx rfl (hb hby d7_16) rfl rfl kX)
      obtain ⟨T13, X13, e13, st13⟩ := getS2 X12 hx hZ hown (host := "") (Or.inl (hw _ (List.mem_of_getElem? (i := 51) rfl))) Via.refl e12 S_SUPPRESSED_SENTINEL (g := (mkF m 17 #[.val (.ref a0), .val (.ref a1)] [(.ref a0)])) rfl (hb hby d7_17)
      refine OGo.go (B := T13.setTop (mkF m 20 #[.val (.ref a0), .val (.ref a1)] [(.ref u20), (.ref a0)])) ?_ st13
      obtain ⟨T14, h14, X14, e14, W14, st14⟩ := putF X13 hx hZ hown (host := "") (Or.inl (hw _ (List.mem_of_getElem? (i := 52) rfl))) Via.refl e13 F_suppressedExceptions_a0 E_a0 (Or.inl (hw _ (List.mem_of_getElem? (i := 53) rfl))) (hw _ (List.mem_of_getElem? (i := 27) rfl)) (ty := (.object "java/util/List")) (by decide) rfl rfl (g := (mkF m 20 #[.val (.ref a0), .val (.ref a1)] [(.ref u20), (.ref a0)])) rfl rfl (hb hby d7_20)
      have E_a0 := E_a0.wr W14
      have U_a0 := U_a0.wr W14
      have F_condition_a0 := F_condition_a0.other W14 (Or.inr (slot_ne (Or.inr (hw _ (List.mem_of_getElem? (i := 83) rfl))) (Or.inl (hw _ (List.mem_of_getElem? (i := 53) rfl))) (by decide) (t := (.object "com/example/hushlist/hushlist/engine/Condition")) (t' := (.object "java/util/List")) (by decide) (by decide)))
      have F_cause_a0 := F_cause_a0.other W14 (Or.inr (slot_ne (Or.inl (hw _ (List.mem_of_getElem? (i := 47) rfl))) (Or.inl (hw _ (List.mem_of_getElem? (i := 53) rfl))) (by decide) (t := (.object "java/lang/Throwable")) (t' := (.object "java/util/List")) (by decide) (by decide)))
      have F_stackTrace_a0 := F_stackTrace_a0.other W14 (Or.inr (slot_ne (Or.inl (hw _ (List.mem_of_getElem? (i := 50) rfl))) (Or.inl (hw _ (List.mem_of_getElem? (i := 53) rfl))) (by decide) (t := (.array (.object "java/lang/StackTraceElement"))) (t' := (.object "java/util/List")) (by decide) (by decide)))
      have F_suppressedExceptions_a0 := F_suppressedExceptions_a0.same W14
      have F_backtrace_a0 := F_backtrace_a0.other W14 (Or.inr (slot_ne (Or.inl (hw _ (List.mem_of_getElem? (i := 78) rfl))) (Or.inl (hw _ (List.mem_of_getElem? (i := 53) rfl))) (by decide) (t := (.object "java/lang/Object")) (t' := (.object "java/util/List")) (by decide) (by decide)))
      have F_detailMessage_a0 := F_detailMessage_a0.other W14 (Or.inr (slot_ne (Or.inl (hw _ (List.mem_of_getElem? (i := 77) rfl))) (Or.inl (hw _ (List.mem_of_getElem? (i := 53) rfl))) (by decide) (t := (.object "java/lang/String")) (t' := (.object "java/util/List")) (by decide) (by decide)))
      have S_UNASSIGNED_STACK := S_UNASSIGNED_STACK.wr W14
      have S_SUPPRESSED_SENTINEL := S_SUPPRESSED_SENTINEL.wr W14
      have hThS := hThS.wr W14
      have K14 := K12.wr W14 (Or.inl (List.mem_of_getElem? (i := 0) rfl))
      have zn14 : n0 ≤ h14.size := Nat.le_trans zn12 (Keep.of_wr W14).1
      have N14 := Fr.snoc X14 N12 ga
      refine OGo.go (B := T14.setTop (mkF m 23 #[.val (.ref a0), .val (.ref a1)] [])) ?_ st14
      refine OGo.go (B := T14.setTop (mkF m 24 #[.val (.ref a0), .val (.ref a1)] [(.ref a0)])) ?_ (fun tX kX => XS.aloadN X14.here hx rfl (hb hby d7_23) rfl rfl kX)
      obtain ⟨T15, h15, L15, X15, e15, lb15, EA15, FK15, st15⟩ := own_fill X14 hx hl hZ hown (rc := "com/example/hushlist/hushlist/engine/StanzaException") (own_w hw) (hw _ (List.mem_of_getElem? (i := 27) rfl)) (by rw [hh]; exact hThS0) hThS hTK hBelow e14 E_a0 U_a0 F_backtrace_a0 F_stackTrace_a0 S_UNASSIGNED_STACK rfl (g := (mkF m 24 #[.val (.ref a0), .val (.ref a1)] [(.ref a0)])) rfl (by rw [hml]; rfl) rfl (hb hby d7_24) (by decide) (by show 2 * 0 + _ + _ ≤ _; decide) (by decide) (by decide)
      have K15 : Keep h0 h15 [a0] := own_keep X15 hh e15 (fun y hy => by simp only [List.nil_append, List.mem_append, List.mem_cons, List.not_mem_nil, or_false, false_or] at hy; rcases hy with ((hy | hy) | hy) | hy <;> first | exact lb15 _ hy | (rw [hy]))
      have F_condition_a0 := FK15 (Or.inr (hw _ (List.mem_of_getElem? (i := 83) rfl))) (t := (.object "com/example/hushlist/hushlist/engine/Condition")) (by decide) (by decide) (by decide) (by decide) F_condition_a0
      have F_detailMessage_a0 := FK15 (Or.inl (hw _ (List.mem_of_getElem? (i := 77) rfl))) (t := (.object "java/lang/String")) (by decide) (by decide) (by decide) (by decide) F_detailMessage_a0
      have E_a0 := EA15
      have zn15 : n0 ≤ h15.size := Nat.le_trans Z0 K15.1
      have N15 := N14.app (fun y hy => by rw [lb15 y hy]; exact ga : Fr n0 L15)
      refine OGo.go (B := T15.setTop (mkF m 27 #[.val (.ref a0), .val (.ref a1)] [(.ref a0)])) ?_ st15
      refine OGo.go (B := T15.setTop (mkF m 28 #[.val (.ref a0), .val (.ref a1)] [])) ?_ (fun tX kX => XS.pop X15.here hx rfl (hb hby d7_27) rfl rfl kX)
      refine OGo.go (B := T15.setTop (mkF m 29 #[.val (.ref a0), .val (.ref a1)] [(.ref a0)])) ?_ (fun tX kX => XS.aloadN X15.here hx rfl (hb hby d7_28) rfl rfl kX)
      refine OGo.go (B := T15.setTop (mkF m 30 #[.val (.ref a0), .val (.ref a1)] [(.ref a1), (.ref a0)])) ?_ (fun tX kX => XS.aloadN X15.here hx rfl (hb hby d7_29) rfl rfl kX)
      obtain ⟨T16, h16, X16, e16, W16, st16⟩ := putF X15 hx hZ hown (host := "") (Or.inl (hw _ (List.mem_of_getElem? (i := 81) rfl))) Via.refl e15 F_detailMessage_a0 E_a0 (Or.inl (hw _ (List.mem_of_getElem? (i := 77) rfl))) (hw _ (List.mem_of_getElem? (i := 27) rfl)) (ty := (.object "java/lang/String")) (by decide) rfl rfl (g := (mkF m 30 #[.val (.ref a0), .val (.ref a1)] [(.ref a1), (.ref a0)])) rfl rfl (hb hby d7_30)
      have E_a0 := E_a0.wr W16
      have F_condition_a0 := F_condition_a0.other W16 (Or.inr (slot_ne (Or.inr (hw _ (List.mem_of_getElem? (i := 83) rfl))) (Or.inl (hw _ (List.mem_of_getElem? (i := 77) rfl))) (by decide) (t := (.object "com/example/hushlist/hushlist/engine/Condition")) (t' := (.object "java/lang/String")) (by decide) (by decide)))
      have F_detailMessage_a0 := F_detailMessage_a0.same W16
      have K16 := K15.wr W16 (Or.inl (List.mem_of_getElem? (i := 0) rfl))
      have zn16 : n0 ≤ h16.size := Nat.le_trans zn15 (Keep.of_wr W16).1
      have N16 := Fr.snoc X16 N15 ga
      refine OGo.go (B := T16.setTop (mkF m 33 #[.val (.ref a0), .val (.ref a1)] [])) ?_ st16
      refine OGo.ret X16 (v := none) (fun _ => rfl) (BodyLoose.notSynchronized Bd) (fun fs hr => X16.returnOut hx Bd.returns (hb hby d7_33) hr) (Q := Q7r Z a0 a1 u1 o1 o2 o3 us sn h0 n0) ?_ (by decide) (by decide)
      show Q7r Z a0 a1 u1 o1 o2 o3 us sn h0 n0 _ T16.heap _
      rw [e16]
      exact ⟨rfl, N16, K16, E_a0, F_condition_a0, F_detailMessage_a0⟩
  ·
    rw [hu13] at S_UNASSIGNED_STACK
    rcases ref_cases hsn with hu20 | ⟨u20, hu20⟩
    ·
      rw [hu20] at S_SUPPRESSED_SENTINEL
      refine OGo.go (B := s₁.setTop (mkF m 1 #[.val (.ref a0), .val (.ref a1)] [(.ref a0)])) ?_ (fun tX kX => XS.aloadN X0.here hx rfl (hb hby d7_0) rfl rfl kX)
      obtain ⟨T17, X17, e17, st17⟩ := initO X0 hx hZ hown (hw _ (List.mem_of_getElem? (i := 45) rfl)) (hw _ (List.mem_of_getElem? (i := 12) rfl)) (hw _ (List.mem_of_getElem? (i := 13) rfl)) e0 (g := (mkF m 1 #[.val (.ref a0), .val (.ref a1)] [(.ref a0)])) rfl (by rw [hml]; rfl) rfl (hb hby d7_1) (by decide) (W := 0) (by show 2 * 0 + _ ≤ _; exact Nat.le_of_eq rfl) (by decide)
      refine OGo.go (B := T17.setTop (mkF m 4 #[.val (.ref a0), .val (.ref a1)] [])) ?_ st17
      refine OGo.go (B := T17.setTop (mkF m 5 #[.val (.ref a0), .val (.ref a1)] [(.ref a0)])) ?_ (fun tX kX => XS.aloadN X17.here hx rfl (hb hby d7_4) rfl rfl kX)
      refine OGo.go (B := T17.setTop (mkF m 6 #[.val (.ref a0), .val (.ref a1)] [(.ref a0), (.ref a0)])) ?_ (fun tX kX => XS.aloadN X17.here hx rfl (hb hby d7_5) rfl rfl kX)
      obtain ⟨T18, h18, X18, e18, W18, st18⟩ := putF X17 hx hZ hown (host := "") (Or.inl (hw _ (List.mem_of_getElem? (i := 46) rfl))) Via.refl e17 F_cause_a0 E_a0 (Or.inl (hw _ (List.mem_of_getElem? (i := 47) rfl))) (hw _ (List.mem_of_getElem? (i := 27) rfl)) (ty := (.object "java/lang/Throwable")) (by decide) rfl rfl (g := (mkF m 6 #[.val (.ref a0), .val (.ref a1)] [(.ref a0), (.ref a0)])) rfl rfl (hb hby d7_6)
      have E_a0 := E_a0.wr W18
      have U_a0 := U_a0.wr W18
      have F_condition_a0 := F_condition_a0.other W18 (Or.inr (slot_ne (Or.inr (hw _ (List.mem_of_getElem? (i := 83) rfl))) (Or.inl (hw _ (List.mem_of_getElem? (i := 47) rfl))) (by decide) (t := (.object "com/example/hushlist/hushlist/engine/Condition")) (t' := (.object "java/lang/Throwable")) (by decide) (by decide)))
      have F_cause_a0 := F_cause_a0.same W18
      have F_stackTrace_a0 := F_stackTrace_a0.other W18 (Or.inr (slot_ne (Or.inl (hw _ (List.mem_of_getElem? (i := 50) rfl))) (Or.inl (hw _ (List.mem_of_getElem? (i := 47) rfl))) (by decide) (t := (.array (.object "java/lang/StackTraceElement"))) (t' := (.object "java/lang/Throwable")) (by decide) (by decide)))
      have F_suppressedExceptions_a0 := F_suppressedExceptions_a0.other W18 (Or.inr (slot_ne (Or.inl (hw _ (List.mem_of_getElem? (i := 53) rfl))) (Or.inl (hw _ (List.mem_of_getElem? (i := 47) rfl))) (by decide) (t := (.object "java/util/List")) (t' := (.object "java/lang/Throwable")) (by decide) (by decide)))
      have F_backtrace_a0 := F_backtrace_a0.other W18 (Or.inr (slot_ne (Or.inl (hw _ (List.mem_of_getElem? (i := 78) rfl))) (Or.inl (hw _ (List.mem_of_getElem? (i := 47) rfl))) (by decide) (t := (.object "java/lang/Object")) (t' := (.object "java/lang/Throwable")) (by decide) (by decide)))
      have F_detailMessage_a0 := F_detailMessage_a0.other W18 (Or.inr (slot_ne (Or.inl (hw _ (List.mem_of_getElem? (i := 77) rfl))) (Or.inl (hw _ (List.mem_of_getElem? (i := 47) rfl))) (by decide) (t := (.object "java/lang/String")) (t' := (.object "java/lang/Throwable")) (by decide) (by decide)))
      have S_UNASSIGNED_STACK := S_UNASSIGNED_STACK.wr W18
      have S_SUPPRESSED_SENTINEL := S_SUPPRESSED_SENTINEL.wr W18
      have hThS := hThS.wr W18
      have K18 := K0.wr W18 (Or.inl (List.mem_of_getElem? (i := 0) rfl))
      have zn18 : n0 ≤ h18.size := Nat.le_trans Z0 (Keep.of_wr W18).1
      have N18 := Fr.snoc X18 N0 ga
      refine OGo.go (B := T18.setTop (mkF m 9 #[.val (.ref a0), .val (.ref a1)] [])) ?_ st18
      refine OGo.go (B := T18.setTop (mkF m 10 #[.val (.ref a0), .val (.ref a1)] [(.ref a0)])) ?_ (fun tX kX => XS.aloadN X18.here hx rfl (hb hby d7_9) rfl rfl kX)
      obtain ⟨T19, X19, e19, st19⟩ := getS2 X18 hx hZ hown (host := "") (Or.inl (hw _ (List.mem_of_getElem? (i := 48) rfl))) Via.refl e18 S_UNASSIGNED_STACK (g := (mkF m 10 #[.val (.ref a0), .val (.ref a1)] [(.ref a0)])) rfl (hb hby d7_10)
      refine OGo.go (B := T19.setTop (mkF m 13 #[.val (.ref a0), .val (.ref a1)] [(.ref u13), (.ref a0)])) ?_ st19
      obtain ⟨T20, h20, X20, e20, W20, st20⟩ := putF X19 hx hZ hown (host := "") (Or.inl (hw _ (List.mem_of_getElem? (i := 49) rfl))) Via.refl e19 F_stackTrace_a0 E_a0 (Or.inl (hw _ (List.mem_of_getElem? (i := 50) rfl))) (hw _ (List.mem_of_getElem? (i := 27) rfl)) (ty := (.array (.object "java/lang/StackTraceElement"))) (by decide) rfl rfl (g := (mkF m 13 #[.val (.ref a0), .val (.ref a1)] [(.ref u13), (.ref a0)])) rfl rfl (hb hby d7_13)
      have E_a0 := E_a0.wr W20
      have U_a0 := U_a0.wr W20
      have F_condition_a0 := F_condition_a0.other W20 (Or.inr (slot_ne (Or.inr (hw _ (List.mem_of_getElem? (i := 83) rfl))) (Or.inl (hw _ (List.mem_of_getElem? (i := 50) rfl))) (by decide) (t := (.object "com/example/hushlist/hushlist/engine/Condition")) (t' := (.array (.object "java/lang/StackTraceElement"))) (by decide) (by decide)))
      have F_cause_a0 := F_cause_a0.other W20 (Or.inr (slot_ne (Or.inl (hw _ (List.mem_of_getElem? (i := 47) rfl))) (Or.inl (hw _ (List.mem_of_getElem? (i := 50) rfl))) (by decide) (t := (.object "java/lang/Throwable")) (t' := (.array (.object "java/lang/StackTraceElement"))) (by decide) (by decide)))
      have F_stackTrace_a0 := F_stackTrace_a0.same W20
      have F_suppressedExceptions_a0 := F_suppressedExceptions_a0.other W20 (Or.inr (slot_ne (Or.inl (hw _ (List.mem_of_getElem? (i := 53) rfl))) (Or.inl (hw _ (List.mem_of_getElem? (i := 50) rfl))) (by decide) (t := (.object "java/util/List")) (t' := (.array (.object "java/lang/StackTraceElement"))) (by decide) (by decide)))
      have F_backtrace_a0 := F_backtrace_a0.other W20 (Or.inr (slot_ne (Or.inl (hw _ (List.mem_of_getElem? (i := 78) rfl))) (Or.inl (hw _ (List.mem_of_getElem? (i := 50) rfl))) (by decide) (t := (.object "java/lang/Object")) (t' := (.array (.object "java/lang/StackTraceElement"))) (by decide) (by decide)))
      have F_detailMessage_a0 := F_detailMessage_a0.other W20 (Or.inr (slot_ne (Or.inl (hw _ (List.mem_of_getElem? (i := 77) rfl))) (Or.inl (hw _ (List.mem_of_getElem? (i := 50) rfl))) (by decide) (t := (.object "java/lang/String")) (t' := (.array (.object "java/lang/StackTraceElement"))) (by decide) (by decide)))
      have S_UNASSIGNED_STACK := S_UNASSIGNED_STACK.wr W20
      have S_SUPPRESSED_SENTINEL := S_SUPPRESSED_SENTINEL.wr W20
      have hThS := hThS.wr W20
      have K20 := K18.wr W20 (Or.inl (List.mem_of_getElem? (i := 0) rfl))
      have zn20 : n0 ≤ h20.size := Nat.le_trans zn18 (Keep.of_wr W20).1
      have N20 := Fr.snoc X20 N18 ga
      refine OGo.go (B := T20.setTop (mkF m 16 #[.val (.ref a0), .val (.ref a1)] [])) ?_ st20
      refine OGo.go (B := T20.setTop (mkF m 17 #[.val (.ref a0), .val (.ref a1)] [(.ref a0)])) ?_ (fun tX kX => XS.aloadN X20.here hx rfl (hb hby d7_16) rfl rfl kX)
      obtain ⟨T21, X21, e21, st21⟩ := getS2 X20 hx hZ hown (host := "") (Or.inl (hw _ (List.mem_of_getElem? (i := 51) rfl))) Via.refl e20 S_SUPPRESSED_SENTINEL (g := (mkF m 17 #[.val (.ref a0), .val (.ref a1)] [(.ref a0)])) rfl (hb hby d7_17)
      refine OGo.go (B := T21.setTop (mkF m 20 #[.val (.ref a0), .val (.ref a1)] [.null, (.ref a0)])) ?_ st21
      obtain ⟨T22, h22, X22, e22, W22, st22⟩ := putF X21 hx hZ hown (host := "") (Or.inl (hw _ (List.mem_of_getElem? (i := 52) rfl))) Via.refl e21 F_suppressedExceptions_a0 E_a0 (Or.inl (hw _ (List.mem_of_getElem? (i := 53) rfl))) (hw _ (List.mem_of_getElem? (i := 27) rfl)) (ty := (.object "java/util/List")) (by decide) rfl rfl (g := (mkF m 20 #[.val (.ref a0), .val (.ref a1)] [.null, (.ref a0)])) rfl rfl (hb hby d7_20)
      have E_a0 := E_a0.wr W22
      have U_a0 := U_a0.wr W22
      have F_condition_a0 := F_condition_a0.other W22 (Or.inr (slot_ne (Or.inr (hw _ (List.mem_of_getElem? (i := 83) rfl))) (Or.inl (hw _ (List.mem_of_getElem? (i := 53) rfl))) (by decide) (t := (.object "com/example/hushlist/hushlist/engine/Condition")) (t' := (.object "java/util/List")) (by decide) (by decide)))
      have F_cause_a0 := F_cause_a0.other W22 (Or.inr (slot_ne (Or.inl (hw _ (List.mem_of_getElem? (i := 47) rfl))) (Or.inl (hw _ (List.mem_of_getElem? (i := 53) rfl))) (by decide) (t := (.object "java/lang/Throwable")) (t' := (.object "java/util/List")) (by decide) (by decide)))
      have F_stackTrace_a0 := F_stackTrace_a0.other W22 (Or.inr (slot_ne (Or.inl (hw _ (List.mem_of_getElem? (i := 50) rfl))) (Or.inl (hw _ (List.mem_of_getElem? (i := 53) rfl))) (by decide) (t := (.array (.object "java/lang/StackTraceElement"))) (t' := (.object "java/util/List")) (by decide) (by decide)))
      have F_suppressedExceptions_a0 := F_suppressedExceptions_a0.same W22
      have F_backtrace_a0 := F_backtrace_a0.other W22 (Or.inr (slot_ne (Or.inl (hw _ (List.mem_of_getElem? (i := 78) rfl))) (Or.inl (hw _ (List.mem_of_getElem? (i := 53) rfl))) (by decide) (t := (.object "java/lang/Object")) (t' := (.object "java/util/List")) (by decide) (by decide)))
      have F_detailMessage_a0 := F_detailMessage_a0.other W22 (Or.inr (slot_ne (Or.inl (hw _ (List.mem_of_getElem? (i := 77) rfl))) (Or.inl (hw _ (List.mem_of_getElem? (i := 53) rfl))) (by decide) (t := (.object "java/lang/String")) (t' := (.object "java/util/List")) (by decide) (by decide)))
      have S_UNASSIGNED_STACK := S_UNASSIGNED_STACK.wr W22
      have S_SUPPRESSED_SENTINEL := S_SUPPRESSED_SENTINEL.wr W22
      have hThS := hThS.wr W22
      have K22 := K20.wr W22 (Or.inl (List.mem_of_getElem? (i := 0) rfl))
      have zn22 : n0 ≤ h22.size := Nat.le_trans zn20 (Keep.of_wr W22).1
      have N22 := Fr.snoc X22 N20 ga
      refine OGo.go (B := T22.setTop (mkF m 23 #[.val (.ref a0), .val (.ref a1)] [])) ?_ st22
      refine OGo.go (B := T22.setTop (mkF m 24 #[.val (.ref a0), .val (.ref a1)] [(.ref a0)])) ?_ (fun tX kX => XS.aloadN X22.here hx rfl (hb hby d7_23) rfl rfl kX)
      obtain ⟨T23, h23, L23, X23, e23, lb23, EA23, FK23, st23⟩ := own_fill X22 hx hl hZ hown (rc := "com/example/hushlist/hushlist/engine/StanzaException") (own_w hw) (hw _ (List.mem_of_getElem? (i := 27) rfl)) (by rw [hh]; exact hThS0) hThS hTK hBelow e22 E_a0 U_a0 F_backtrace_a0 F_stackTrace_a0 S_UNASSIGNED_STACK rfl (g := (mkF m 24 #[.val (.ref a0), .val (.ref a1)] [(.ref a0)])) rfl (by rw [hml]; rfl) rfl (hb hby d7_24) (by decide) (by show 2 * 0 + _ + _ ≤ _; decide) (by decide) (by decide)
      have K23 : Keep h0 h23 [a0] := own_keep X23 hh e23 (fun y hy => by simp only [List.nil_append, List.mem_append, List.mem_cons, List.not_mem_nil, or_false, false_or] at hy; rcases hy with ((hy | hy) | hy) | hy <;> first | exact lb23 _ hy | (rw [hy]))
      have F_condition_a0 := FK23 (Or.inr (hw _ (List.mem_of_getElem? (i := 83) rfl))) (t := (.object "com/example/hushlist/hushlist/engine/Condition")) (by decide) (by decide) (by decide) (by decide) F_condition_a0
      have F_detailMessage_a0 := FK23 (Or.inl (hw _ (List.mem_of_getElem? (i := 77) rfl))) (t := (.object "java/lang/String")) (by decide) (by decide) (by decide) (by decide) F_detailMessage_a0
      have E_a0 := EA23
      have zn23 : n0 ≤ h23.size := Nat.le_trans Z0 K23.1
      have N23 := N22.app (fun y hy => by rw [lb23 y hy]; exact ga : Fr n0 L23)
      refine OGo.go (B := T23.setTop (mkF m 27 #[.val (.ref a0), .val (.ref a1)] [(.ref a0)])) ?_ st23
      refine OGo.go (B := T23.setTop (mkF m 28 #[.val (.ref a0), .val (.ref a1)] [])) ?_ (fun tX kX => XS.pop X23.here hx rfl (hb hby d7_27) rfl rfl kX)
      refine OGo.go (B := T23.setTop (mkF m 29 #[.val (.ref a0), .val (.ref a1)] [(.ref a0)])) ?_ (fun tX kX => XS.aloadN X23.here hx rfl (hb hby d7_28) rfl rfl kX)
      refine OGo.go (B := T23.setTop (mkF m 30 #[.val (.ref a0), .val (.ref a1)] [(.ref a1), (.ref a0)])) ?_ (fun tX kX => XS.aloadN X23.here hx rfl (hb hby d7_29) rfl rfl kX)
      obtain ⟨T24, h24, X24, e24, W24, st24⟩ := putF X23 hx hZ hown (host := "") (Or.inl (hw _ (List.mem_of_getElem? (i := 81) rfl))) Via.refl e23 F_detailMessage_a0 E_a0 (Or.inl (hw _ (List.mem_of_getElem? (i := 77) rfl))) (hw _ (List.mem_of_getElem? (i := 27) rfl)) (ty := (.object "java/lang/String")) (by decide) rfl rfl (g := (mkF m 30 #[.val (.ref a0), .val (.ref a1)] [(.ref a1), (.ref a0)])) rfl rfl (hb hby d7_30)
      have E_a0 := E_a0.wr W24
      have F_condition_a0 := F_condition_a0.other W24 (Or.inr (slot_ne (Or.inr (hw _ (List.mem_of_getElem? (i := 83) rfl))) (Or.inl (hw _ (List.mem_of_getElem? (i := 77) rfl))) (by decide) (t := (.object "com/example/hushlist/hushlist/engine/Condition")) (t' := (.object "java/lang/String")) (by decide) (by decide)))
      have F_detailMessage_a0 := F_detailMessage_a0.same W24
      have K24 := K23.wr W24 (Or.inl (List.mem_of_getElem? (i := 0) rfl))
      have zn24 : n0 ≤ h24.size := Nat.le_trans zn23 (Keep.of_wr W24).1
      have N24 := Fr.snoc X24 N23 ga
      refine OGo.go (B := T24.setTop (mkF m 33 #[.val (.ref a0), .val (.ref a1)] [])) ?_ st24
      refine OGo.ret X24 (v := none) (fun _ => rfl) (BodyLoose.notSynchronized Bd) (fun fs hr => X24.returnOut hx Bd.returns (hb hby d7_33) hr) (Q := Q7r Z a0 a1 u1 o1 o2 o3 us sn h0 n0) ?_ (by decide) (by decide)
      show Q7r Z a0 a1 u1 o1 o2 o3 us sn h0 n0 _ T24.heap _
      rw [e24]
      exact ⟨rfl, N24, K24, E_a0, F_condition_a0, F_detailMessage_a0⟩
    ·
      rw [hu20] at S_SUPPRESSED_SENTINEL
      refine OGo.go (B := s₁.setTop (mkF m 1 #[.val (.ref a0), .val (.ref a1)] [(.ref a0)])) ?_ (fun tX kX => XS.aloadN X0.here hx rfl (hb hby d7_0) rfl rfl kX)
      obtain ⟨T25, X25, e25, st25⟩ := initO X0 hx hZ hown (hw _ (List.mem_of_getElem? (i := 45) rfl)) (hw _ (List.mem_of_getElem? (i := 12) rfl)) (hw _ (List.mem_of_getElem? (i := 13) rfl)) e0 (g := (mkF m 1 #[.val (.ref a0), .val (.ref a1)] [(.ref a0)])) rfl (by rw [hml]; rfl) rfl (hb hby d7_1) (by decide) (W := 0) (by show 2 * 0 + _ ≤ _; exact Nat.le_of_eq rfl) (by decide)
      refine OGo.go (B := T25.setTop (mkF m 4 #[.val (.ref a0), .val (.ref a1)] [])) ?_ st25
      refine OGo.go (B := T25.setTop (mkF m 5 #[.val (.ref a0), .val (.ref a1)] [(.ref a0)])) ?_ (fun tX kX => XS.aloadN X25.here hx rfl (hb hby d7_4) rfl rfl kX)
      refine OGo.go (B := T25.setTop (mkF m 6 #[.val (.ref a0), .val (.ref a1)] [(.ref a0), (.ref a0)])) ?_ (fun tX kX => XS.aloadN X25.here hx rfl (hb hby d7_5) rfl rfl kX)
      obtain ⟨T26, h26, X26, e26, W26, st26⟩ := putF X25 hx hZ hown (host := "") (Or.inl (hw _ (List.mem_of_getElem? (i := 46) rfl))) Via.refl e25 F_cause_a0 E_a0 (Or.inl (hw _ (List.mem_of_getElem? (i := 47) rfl))) (hw _ (List.mem_of_getElem? (i := 27) rfl)) (ty := (.object "java/lang/Throwable")) (by decide) rfl rfl (g := (mkF m 6 #[.val (.ref a0), .val (.ref a1)] [(.ref a0), (.ref a0)])) rfl rfl (hb hby d7_6)
      have E_a0 := E_a0.wr W26
      have U_a0 := U_a0.wr W26
      have F_condition_a0 := F_condition_a0.other W26 (Or.inr (slot_ne (Or.inr (hw _ (List.mem_of_getElem? (i := 83) rfl))) (Or.inl (hw _ (List.mem_of_getElem? (i := 47) rfl))) (by decide) (t := (.object "com/example/hushlist/hushlist/engine/Condition")) (t' := (.object "java/lang/Throwable")) (by decide) (by decide)))
      have F_cause_a0 := F_cause_a0.same W26
      have F_stackTrace_a0 := F_stackTrace_a0.other W26 (Or.inr (slot_ne (Or.inl (hw _ (List.mem_of_getElem? (i := 50) rfl))) (Or.inl (hw _ (List.mem_of_getElem? (i := 47) rfl))) (by decide) (t := (.array (.object "java/lang/StackTraceElement"))) (t' := (.object "java/lang/Throwable")) (by decide) (by decide)))
      have F_suppressedExceptions_a0 := F_suppressedExceptions_a0.other W26 (Or.inr (slot_ne (Or.inl (hw _ (List.mem_of_getElem? (i := 53) rfl))) (Or.inl (hw _ (List.mem_of_getElem? (i := 47) rfl))) (by decide) (t := (.object "java/util/List")) (t' := (.object "java/lang/Throwable")) (by decide) (by decide)))
      have F_backtrace_a0 := F_backtrace_a0.other W26 (Or.inr (slot_ne (Or.inl (hw _ (List.mem_of_getElem? (i := 78) rfl))) (Or.inl (hw _ (List.mem_of_getElem? (i := 47) rfl))) (by decide) (t := (.object "java/lang/Object")) (t' := (.object "java/lang/Throwable")) (by decide) (by decide)))
      have F_detailMessage_a0 := F_detailMessage_a0.other W26 (Or.inr (slot_ne (Or.inl (hw _ (List.mem_of_getElem? (i := 77) rfl))) (Or.inl (hw _ (List.mem_of_getElem? (i := 47) rfl))) (by decide) (t := (.object "java/lang/String")) (t' := (.object "java/lang/Throwable")) (by decide) (by decide)))
      have S_UNASSIGNED_STACK := S_UNASSIGNED_STACK.wr W26
      have S_SUPPRESSED_SENTINEL := S_SUPPRESSED_SENTINEL.wr W26
      have hThS := hThS.wr W26
      have K26 := K0.wr W26 (Or.inl (List.mem_of_getElem? (i := 0) rfl))
      have zn26 : n0 ≤ h26.size := Nat.le_trans Z0 (Keep.of_wr W26).1
      have N26 := Fr.snoc X26 N0 ga
      refine OGo.go (B := T26.setTop (mkF m 9 #[.val (.ref a0), .val (.ref a1)] [])) ?_ st26
      refine OGo.go (B := T26.setTop (mkF m 10 #[.val (.ref a0), .val (.ref a1)] [(.ref a0)])) ?_ (fun tX kX => XS.aloadN X26.here hx rfl (hb hby d7_9) rfl rfl kX)
      obtain ⟨T27, X27, e27, st27⟩ := getS2 X26 hx hZ hown (host := "") (Or.inl (hw _ (List.mem_of_getElem? (i := 48) rfl))) Via.refl e26 S_UNASSIGNED_STACK (g := (mkF m 10 #[.val (.ref a0), .val (.ref a1)] [(.ref a0)])) rfl (hb hby d7_10)
      refine OGo.go (B := T27.setTop (mkF m 13 #[.val (.ref a0), .val (.ref a1)] [(.ref u13), (.ref a0)])) ?_ st27
      obtain ⟨T28, h28, X28, e28, W28, st28⟩ := putF X27 hx hZ hown (host := "") (Or.inl (hw _ (List.mem_of_getElem? (i := 49) rfl))) Via.refl e27 F_stackTrace_a0 E_a0 (Or.inl (hw _ (List.mem_of_getElem? (i := 50) rfl))) (hw _ (List.mem_of_getElem? (i := 27) rfl)) (ty := (.array (.object "java/lang/StackTraceElement"))) (by decide) rfl rfl (g := (mkF m 13 #[.val (.ref a0), .val (.ref a1)] [(.ref u13), (.ref a0)])) rfl rfl (hb hby d7_13)
      have E_a0 := E_a0.wr W28
      have U_a0 := U_a0.wr W28
      have F_condition_a0 := F_condition_a0.other W28 (Or.inr (slot_ne (Or.inr (hw _ (List.mem_of_getElem? (i := 83) rfl))) (Or.inl (hw _ (List.mem_of_getElem? (i := 50) rfl))) (by decide) (t := (.object "com/example/hushlist/hushlist/engine/Condition")) (t' := (.array (.object "java/lang/StackTraceElement"))) (by decide) (by decide)))
      have F_cause_a0 := F_cause_a0.other W28 (Or.inr (slot_ne (Or.inl (hw _ (List.mem_of_getElem? (i := 47) rfl))) (Or.inl (hw _ (List.mem_of_getElem? (i := 50) rfl))) (by decide) (t := (.object "java/lang/Throwable")) (t' := (.array (.object "java/lang/StackTraceElement"))) (by decide) (by decide)))
      have F_stackTrace_a0 := F_stackTrace_a0.same W28
      have F_suppressedExceptions_a0 := F_suppressedExceptions_a0.other W28 (Or.inr (slot_ne (Or.inl (hw _ (List.mem_of_getElem? (i := 53) rfl))) (Or.inl (hw _ (List.mem_of_getElem? (i := 50) rfl))) (by decide) (t := (.object "java/util/List")) (t' := (.array (.object "java/lang/StackTraceElement"))) (by decide) (by decide)))
      have F_backtrace_a0 := F_backtrace_a0.other W28 (Or.inr (slot_ne (Or.inl (hw _ (List.mem_of_getElem? (i := 78) rfl))) (Or.inl (hw _ (List.mem_of_getElem? (i := 50) rfl))) (by decide) (t := (.object "java/lang/Object")) (t' := (.array (.object "java/lang/StackTraceElement"))) (by decide) (by decide)))
      have F_detailMessage_a0 := F_detailMessage_a0.other W28 (Or.inr (slot_ne (Or.inl (hw _ (List.mem_of_getElem? (i := 77) rfl))) (Or.inl (hw _ (List.mem_of_getElem? (i := 50) rfl))) (by decide) (t := (.object "java/lang/String")) (t' := (.array (.object "java/lang/StackTraceElement"))) (by decide) (by decide)))
      have S_UNASSIGNED_STACK := S_UNASSIGNED_STACK.wr W28
      have S_SUPPRESSED_SENTINEL := S_SUPPRESSED_SENTINEL.wr W28
      have hThS := hThS.wr W28
      have K28 := K26.wr W28 (Or.inl (List.mem_of_getElem? (i := 0) rfl))
      have zn28 : n0 ≤ h28.size := Nat.le_trans zn26 (Keep.of_wr W28).1
      have N28 := Fr.snoc X28 N26 ga
      refine OGo.go (B := T28.setTop (mkF m 16 #[.val (.ref a0), .val (.ref a1)] [])) ?_ st28
      refine OGo.go (B := T28.setTop (mkF m 17 #[.val (.ref a0), .val (.ref a1)] [(.ref a0)])) ?_ (fun tX kX => XS.aloadN X28.here hx rfl (hb hby d7_16) rfl rfl kX)
      obtain ⟨T29, X29, e29, st29⟩ := getS2 X28 hx hZ hown (host := "") (Or.inl (hw _ (List.mem_of_getElem? (i := 51) rfl))) Via.refl e28 S_SUPPRESSED_SENTINEL (g := (mkF m 17 #[.val (.ref a0), .val (.ref a1)] [(.ref a0)])) rfl (hb hby d7_17)
      refine OGo.go (B := T29.setTop (mkF m 20 #[.val (.ref a0), .val (.ref a1)] [(.ref u20), (.ref a0)])) ?_ st29
      obtain ⟨T30, h30, X30, e30, W30, st30⟩ := putF X29 hx hZ hown (host := "") (Or.inl (hw _ (List.mem_of_getElem? (i := 52) rfl))) Via.refl e29 F_suppressedExceptions_a0 E_a0 (Or.inl (hw _ (List.mem_of_getElem? (i := 53) rfl))) (hw _ (List.mem_of_getElem? (i := 27) rfl)) (ty := (.object "java/util/List")) (by decide) rfl rfl (g := (mkF m 20 #[.val (.ref a0), .val (.ref a1)] [(.ref u20), (.ref a0)])) rfl rfl (hb hby d7_20)
      have E_a0 := E_a0.wr W30
      have U_a0 := U_a0.wr W30
      have F_condition_a0 := F_condition_a0.other W30 (Or.inr (slot_ne (Or.inr (hw _ (List.mem_of_getElem? (i := 83) rfl))) (Or.inl (hw _ (List.mem_of_getElem? (i := 53) rfl))) (by decide) (t := (.object "com/example/hushlist/hushlist/engine/Condition")) (t' := (.object "java/util/List")) (by decide) (by decide)))
      have F_cause_a0 := F_cause_a0.other W30 (Or.inr (slot_ne (Or.inl (hw _ (List.mem_of_getElem? (i := 47) rfl))) (Or.inl (hw _ (List.mem_of_getElem? (i := 53) rfl))) (by decide) (t := (.object "java/lang/Throwable")) (t' := (.object "java/util/List")) (by decide) (by decide)))
      have F_stackTrace_a0 := F_stackTrace_a0.other W30 (Or.inr (slot_ne (Or.inl (hw _ (List.mem_of_getElem? (i := 50) rfl))) (Or.inl (hw _ (List.mem_of_getElem? (i := 53) rfl))) (by decide) (t := (.array (.object "java/lang/StackTraceElement"))) (t' := (.object "java/util/List")) (by decide) (by decide)))
      have F_suppressedExceptions_a0 := F_suppressedExceptions_a0.same W30
      have F_backtrace_a0 := F_backtrace_a0.other W30 (Or.inr (slot_ne (Or.inl (hw _ (List.mem_of_getElem? (i := 78) rfl))) (Or.inl (hw _ (List.mem_of_getElem? (i := 53) rfl))) (by decide) (t := (.object "java/lang/Object")) (t' := (.object "java/util/List")) (by decide) (by decide)))
      have F_detailMessage_a0 := F_detailMessage_a0.other W30 (Or.inr (slot_ne (Or.inl (hw _ (List.mem_of_getElem? (i := 77) rfl))) (Or.inl (hw _ (List.mem_of_getElem? (i := 53) rfl))) (by decide) (t := (.object "java/lang/String")) (t' := (.object "java/util/List")) (by decide) (by decide)))
      have S_UNASSIGNED_STACK := S_UNASSIGNED_STACK.wr W30
      have S_SUPPRESSED_SENTINEL := S_SUPPRESSED_SENTINEL.wr W30
      have hThS := hThS.wr W30
      have K30 := K28.wr W30 (Or.inl (List.mem_of_getElem? (i := 0) rfl))
      have zn30 : n0 ≤ h30.size := Nat.le_trans zn28 (Keep.of_wr W30).1
      have N30 := Fr.snoc X30 N28 ga
      refine OGo.go (B := T30.setTop (mkF m 23 #[.val (.ref a0), .val (.ref a1)] [])) ?_ st30
      refine OGo.go (B := T30.setTop (mkF m 24 #[.val (.ref a0), .val (.ref a1)] [(.ref a0)])) ?_ (fun tX kX => XS.aloadN X30.here hx rfl (hb hby d7_23) rfl rfl kX)
      obtain ⟨T31, h31, L31, X31, e31, lb31, EA31, FK31, st31⟩ := own_fill X30 hx hl hZ hown (rc := "com/example/hushlist/hushlist/engine/StanzaException") (own_w hw) (hw _ (List.mem_of_getElem? (i := 27) rfl)) (by rw [hh]; exact hThS0) hThS hTK hBelow e30 E_a0 U_a0 F_backtrace_a0 F_stackTrace_a0 S_UNASSIGNED_STACK rfl (g := (mkF m 24 #[.val (.ref a0), .val (.ref a1)] [(.ref a0)])) rfl (by rw [hml]; rfl) rfl (hb hby d7_24) (by decide) (by show 2 * 0 + _ + _ ≤ _; decide) (by decide) (by decide)
      have K31 : Keep h0 h31 [a0] := own_keep X31 hh e31 (fun y hy => by simp only [List.nil_append, List.mem_append, List.mem_cons, List.not_mem_nil, or_false, false_or] at hy; rcases hy with ((hy | hy) | hy) | hy <;> first | exact lb31 _ hy | (rw [hy]))
      have F_condition_a0 := FK31 (Or.inr (hw _ (List.mem_of_getElem? (i := 83) rfl))) (t := (.object "com/example/hushlist/hushlist/engine/Condition")) (by decide) (by decide) (by decide) (by decide) F_condition_a0
      have F_detailMessage_a0 := FK31 (Or.inl (hw _ (List.mem_of_getElem? (i := 77) rfl))) (t := (.object "java/lang/String")) (by decide) (by decide) (by decide) (by decide) F_detailMessage_a0
      have E_a0 := EA31
      have zn31 : n0 ≤ h31.size := Nat.le_trans Z0 K31.1
      have N31 := N30.app (fun y hy => by rw [lb31 y hy]; exact ga : Fr n0 L31)
      refine OGo.go (B := T31.setTop (mkF m 27 #[.val (.ref a0), .val (.ref a1)] [(.ref a0)])) ?_ st31
      refine OGo.go (B := T31.setTop (mkF m 28 #[.val (.ref a0), .val (.ref a1)] [])) ?_ (fun tX kX => XS.pop X31.here hx rfl (hb hby d7_27) rfl rfl kX)
      refine OGo.go (B := T31.setTop (mkF m 29 #[.val (.ref a0), .val (.ref a1)] [(.ref a0)])) ?_ (fun tX kX => XS.aloadN X31.here hx rfl (hb hby d7_28) rfl rfl kX)
      refine OGo.go (B := T31.setTop (mkF m 30 #[.val (.ref a0), .val (.ref a1)] [(.ref a1), (.ref a0)])) ?_ (fun tX kX => XS.aloadN X31.here hx rfl (hb hby d7_29) rfl rfl kX)
      obtain ⟨T32, h32, X32, e32, W32, st32⟩ := putF X31 hx hZ hown (host := "") (Or.inl (hw _ (List.mem_of_getElem? (i := 81) rfl))) Via.refl e31 F_detailMessage_a0 E_a0 (Or.inl (hw _ (List.mem_of_getElem? (i := 77) rfl))) (hw _ (List.mem_of_getElem? (i := 27) rfl)) (ty := (.object "java/lang/String")) (by decide) rfl rfl (g := (mkF m 30 #[.val (.ref a0), .val (.ref a1)] [(.ref a1), (.ref a0)])) rfl rfl (hb hby d7_30)
      have E_a0 := E_a0.wr W32
      have F_condition_a0 := F_condition_a0.other W32 (Or.inr (slot_ne (Or.inr (hw _ (List.mem_of_getElem? (i := 83) rfl))) (Or.inl (hw _ (List.mem_of_getElem? (i := 77) rfl))) (by decide) (t := (.object "com/example/hushlist/hushlist/engine/Condition")) (t' := (.object "java/lang/String")) (by decide) (by decide)))
      have F_detailMessage_a0 := F_detailMessage_a0.same W32
      have K32 := K31.wr W32 (Or.inl (List.mem_of_getElem? (i := 0) rfl))
      have zn32 : n0 ≤ h32.size := Nat.le_trans zn31 (Keep.of_wr W32).1
      have N32 := Fr.snoc X32 N31 ga
      refine OGo.go (B := T32.setTop (mkF m 33 #[.val (.ref a0), .val (.ref a1)] [])) ?_ st32
      refine OGo.ret X32 (v := none) (fun _ => rfl) (BodyLoose.notSynchronized Bd) (fun fs hr => X32.returnOut hx Bd.returns (hb hby d7_33) hr) (Q := Q7r Z a0 a1 u1 o1 o2 o3 us sn h0 n0) ?_ (by decide) (by decide)
      show Q7r Z a0 a1 u1 o1 o2 o3 us sn h0 n0 _ T32.heap _
      rw [e32]
      exact ⟨rfl, N32, K32, E_a0, F_condition_a0, F_detailMessage_a0⟩
def Q6r (Z : State) (a0 : Addr) (a1 : Addr) (u1 : Value) (o1 : Value) (o2 : Value) (o3 : Value) (us : Value) (sn : Value) (h0 : Heap) (n0 : Nat) (v : Option Value) (h : Heap) (L : List Loc) : Prop := v = none ∧ Fr n0 L ∧ Keep h0 h [a0] ∧ Exa Z h a0 "com/example/hushlist/hushlist/engine/StanzaException" ∧ Fld Z h a0 "com/example/hushlist/hushlist/engine/StanzaException" "condition" "Lcom/example/hushlist/hushlist/engine/Condition;" u1 ∧ Fld Z h a0 "java/lang/Throwable" "detailMessage" "Ljava/lang/String;" (.ref a1)
def P6r (Z : State) (a0 : Addr) (a1 : Addr) (u1 : Value) (o1 : Value) (o2 : Value) (o3 : Value) (us : Value) (sn : Value) (h0 : Heap) (n0 : Nat) (s : State) (o : Outcome) (U' : State) : Prop := ∃ v L, o = .returned v ∧ Q6r Z a0 a1 u1 o1 o2 o3 us sn h0 n0 v U'.heap L ∧ FrameEnd s o U' L ({ frames := 4, cells := 1, slots := 2752, locals := 55 } : Room).cells ({ frames := 4, cells := 1, slots := 2752, locals := 55 } : Room).slots
set_option maxRecDepth 65536 in
set_option maxHeartbeats 40000000 in
theorem rm6r (l : Launch) (Z : State) (aV : Array Value) (hw : ∀ d ∈ tables_1, d.before aV Z = true) (ws : List Jvm.Cond) (a0 : Addr) (a1 : Addr) (u1 : Value) (o1 : Value) (o2 : Value) (o3 : Value) (us : Value) (sn : Value) (h0 : Heap) (n0 : Nat) (Z0 : n0 ≤ h0.size) (E_a0 : Exa Z h0 a0 "com/example/hushlist/hushlist/engine/StanzaException") (U_a0 : Unt h0 a0) (F_condition_a0 : Fld Z h0 a0 "com/example/hushlist/hushlist/engine/StanzaException" "condition" "Lcom/example/hushlist/hushlist/engine/Condition;" u1) (F_cause_a0 : Fld Z h0 a0 "java/lang/Throwable" "cause" "Ljava/lang/Throwable;" o1) (F_stackTrace_a0 : Fld Z h0 a0 "java/lang/Throwable" "stackTrace" "[Ljava/lang/StackTraceElement;" o2) (F_suppressedExceptions_a0 : Fld Z h0 a0 "java/lang/Throwable" "suppressedExceptions" "Ljava/util/List;" o3) (F_backtrace_a0 : Fld Z h0 a0 "java/lang/Throwable" "backtrace" "Ljava/lang/Object;" .null) (F_detailMessage_a0 : Fld Z h0 a0 "java/lang/Throwable" "detailMessage" "Ljava/lang/String;" .null) (S_UNASSIGNED_STACK : Sta Z h0 "java/lang/Throwable" "UNASSIGNED_STACK" "[Ljava/lang/StackTraceElement;" us) (S_SUPPRESSED_SENTINEL : Sta Z h0 "java/lang/Throwable" "SUPPRESSED_SENTINEL" "Ljava/util/List;" sn) (hThS : ThS Z h0) (ga : n0 ≤ a0) (hl : l.stackTraces = true) (hus : us.isRef = true) (hsn : sn.isRef = true) :
    MetFree l (⟨"java/lang/Exception", "<init>", "(Ljava/lang/String;)V"⟩ : MethodName) (head1 (Jvm.Cond.code (⟨"java/lang/Exception", "<init>", "(Ljava/lang/String;)V"⟩ : MethodName) jdk_59_method_2_code 2 none :: ws) ({ frames := 4, cells := 1, slots := 2752, locals := 55 } : Room)) (fun a U => a = #[(.ref a0), (.ref a1)] ∧ Z.Warmed39 U.vm ∧ U.heap = h0) (fun _ _ bl s _ => s.vm.MethodsKnown ∧ s.vm.FramesKnown bl) (fun _ U o U' => ∃ v L, o = .returned v ∧ Q6r Z a0 a1 u1 o1 o2 o3 us sn h0 n0 v U'.heap L ∧ FrameEnd U o U' L ({ frames := 4, cells := 1, slots := 2752, locals := 55 } : Room).cells ({ frames := 4, cells := 1, slots := 2752, locals := 55 } : Room).slots) := by
  refine MetFree.of_bodySF (plainFor_of_name pn_java_lang_Exception) hisR ?_
  intro p e s m args below meth c s₁ Bd hml0 hP hK
  obtain ⟨rfl, hZ, hh⟩ := hP
  have hx := Bd.exec
  have hby := Bd.bytes
  have hml : c.maxLocals = 2 := hml0
  have hown : s.vm.findClass "java/lang/Exception" = some m.cls := findClass_of_methodNamed Bd.named
  have hnm := (name_of_methodNamed Bd.named Bd.method).1
  have X0 : Stand p l e ({ frames := 4, cells := 1, slots := 2752, locals := 55 } : Room) s m #[(.ref a0), (.ref a1)] below meth c s₁ [] 0 0 := Stand.of_body Bd
  have e0 : s₁.heap = h0 := by rw [← hh, Bd.state]; rfl
  have hTK := hK.1
  have hBelow := hK.2
  have efx : entryFrame m #[(.ref a0), (.ref a1)] 2 = mkF m 0 #[.val (.ref a0), .val (.ref a1)] [] := by first | (simp [entryFrame, mkF, argsToLocals, Value.category]; done) | rfl
  have N0 := Fr.nil n0
  have K0 : Keep h0 h0 [a0] := Keep.refl h0 _
  refine OGo.start (g' := mkF m 0 #[.val (.ref a0), .val (.ref a1)] []) (efx) ?_
  show OGo p.tables e below (P6r Z a0 a1 u1 o1 o2 o3 us sn h0 n0 s) (s₁.setTop (mkF m 0 #[.val (.ref a0), .val (.ref a1)] []))
  refine OGo.go (B := s₁.setTop (mkF m 1 #[.val (.ref a0), .val (.ref a1)] [(.ref a0)])) ?_ (fun tX kX => XS.aloadN X0.here hx rfl (hb hby d6_0) rfl rfl kX)
  refine OGo.go (B := s₁.setTop (mkF m 2 #[.val (.ref a0), .val (.ref a1)] [(.ref a1), (.ref a0)])) ?_ (fun tX kX => XS.aloadN X0.here hx rfl (hb hby d6_1) rfl rfl kX)
  obtain ⟨_, _, ⟨T1, L1, k1, n1⟩, -, X1, ⟨Lc1, hQ1, l1, y1, z1⟩, st1⟩ := X0.specialBack hx (y := (⟨"java/lang/Throwable", "<init>", "(Ljava/lang/String;)V"⟩ : MethodName)) rfl hown (mvT hZ (hw _ (List.mem_of_getElem? (i := 39) rfl))) (mvT hZ (hw _ (List.mem_of_getElem? (i := 40) rfl))) (mvT hZ (hw _ (List.mem_of_getElem? (i := 44) rfl))) (by decide) (backOfKL (W := 0) (rm7r l Z aV hw [] a0 a1 u1 o1 o2 o3 us sn h0 n0 Z0 E_a0 U_a0 F_condition_a0 F_cause_a0 F_stackTrace_a0 F_suppressedExceptions_a0 F_backtrace_a0 F_detailMessage_a0 S_UNASSIGNED_STACK S_SUPPRESSED_SENTINEL hThS ga hl hus hsn) hZ (hw _ (List.mem_of_getElem? (i := 44) rfl)) (hw _ (List.mem_of_getElem? (i := 43) rfl)) (by decide) (by decide) hTK hBelow) (g := (mkF m 2 #[.val (.ref a0), .val (.ref a1)] [(.ref a1), (.ref a0)])) rfl (by rw [hml]; rfl) (Steps.refl _) (a := a0) (argsL := [(.ref a1)]) (rest := []) (lenOf pd__Ljava_lang_String__V rfl) rfl (by show 2 * 0 + _ ≤ _; exact Nat.le_of_eq rfl) (hb hby d6_2) (fun _ _ => ⟨rfl, e0, (by decide : 0 + 1 ≤ _), (by decide : 0 + 2752 ≤ _)⟩)
  dsimp only [Pt.U, Pt.locs, Pt.cells, Pt.slots] at X1 l1 y1 z1 st1 hQ1
  subst l1 y1 z1
  obtain ⟨rfl, N1q, Kq1, E_a0_p, F_condition_a0_p, F_detailMessage_a0_p⟩ := hQ1
  have N1 := Fr.app N0 N1q
  have S_UNASSIGNED_STACK := Sta.keepE S_UNASSIGNED_STACK Kq1 (staS E_a0.cell (fun x hx' => nomatch hx'))
  have S_SUPPRESSED_SENTINEL := Sta.keepE S_SUPPRESSED_SENTINEL Kq1 (staS E_a0.cell (fun x hx' => nomatch hx'))
  have hThS := hThS.keep Kq1 (nsS E_a0.nostat ns0)
  have E_a0 := E_a0.keep Kq1
  have K1 := K0.trans Kq1 (allS (P := fun x => x ∈ [a0] ∨ h0.size ≤ x) (Or.inl (List.mem_of_getElem? (i := 0) rfl)) all0)
  have zn1 : n0 ≤ T1.heap.size := Nat.le_trans Z0 Kq1.1
  have E_a0 := E_a0_p
  have F_condition_a0 := F_condition_a0_p
  have F_detailMessage_a0 := F_detailMessage_a0_p
  refine OGo.go (B := T1.setTop (mkF m 5 #[.val (.ref a0), .val (.ref a1)] [])) ?_ (fun tX kX => st1.trans kX)
  refine OGo.ret X1 (v := none) (fun _ => rfl) (BodyLoose.notSynchronized Bd) (fun fs hr => X1.returnOut hx Bd.returns (hb hby d6_5) hr) (Q := Q6r Z a0 a1 u1 o1 o2 o3 us sn h0 n0) ?_ (by decide) (by decide)
  show Q6r Z a0 a1 u1 o1 o2 o3 us sn h0 n0 _ T1.heap _
  exact ⟨rfl, N1, K1, E_a0, F_condition_a0, F_detailMessage_a0⟩
def Q5r (Z : State) (a0 : Addr) (a1 : Addr) (a2 : Addr) (u1 : Value) (o1 : Value) (o2 : Value) (o3 : Value) (us : Value) (sn : Value) (h0 : Heap) (n0 : Nat) (v : Option Value) (h : Heap) (L : List Loc) : Prop := v = none ∧ Fr n0 L ∧ Keep h0 h [a0] ∧ Exa Z h a0 "com/example/hushlist/hushlist/engine/StanzaException" ∧ Fld Z h a0 "com/example/hushlist/hushlist/engine/StanzaException" "condition" "Lcom/example/hushlist/hushlist/engine/Condition;" (.ref a1) ∧ Fld Z h a0 "java/lang/Throwable" "detailMessage" "Ljava/lang/String;" (.ref a2)
def P5r (Z : State) (a0 : Addr) (a1 : Addr) (a2 : Addr) (u1 : Value) (o1 : Value) (o2 : Value) (o3 : Value) (us : Value) (sn : Value) (h0 : Heap) (n0 : Nat) (s : State) (o : Outcome) (U' : State) : Prop := ∃ v L, o = .returned v ∧ Q5r Z a0 a1 a2 u1 o1 o2 o3 us sn h0 n0 v U'.heap L ∧ FrameEnd s o U' L ({ frames := 5, cells := 1, slots := 2752, locals := 68 } : Room).cells ({ frames := 5, cells := 1, slots := 2752, locals := 68 } : Room).slots
set_option maxRecDepth 65536 in
set_option maxHeartbeats 40000000 in
theorem rm5r (l : Launch) (Z : State) (aV : Array Value) (hw : ∀ d ∈ tables_1, d.before aV Z = true) (ws : List Jvm.Cond) (a0 : Addr) (a1 : Addr) (a2 : Addr) (u1 : Value) (o1 : Value) (o2 : Value) (o3 : Value) (us : Value) (sn : Value) (h0 : Heap) (n0 : Nat) (Z0 : n0 ≤ h0.size) (E_a0 : Exa Z h0 a0 "com/example/hushlist/hushlist/engine/StanzaException") (U_a0 : Unt h0 a0) (F_condition_a0 : Fld Z h0 a0 "com/example/hushlist/hushlist/engine/StanzaException" "condition" "Lcom/example/hushlist/hushlist/engine/Condition;" u1) (F_cause_a0 : Fld Z h0 a0 "java/lang/Throwable" "cause" "Ljava/lang/Throwable;" o1) (F_stackTrace_a0 : Fld Z h0 a0 "java/lang/Throwable" "stackTrace" "[Ljava/lang/StackTraceElement;" o2) (F_suppressedExceptions_a0 : Fld Z h0 a0 "java/lang/Throwable" "suppressedExceptions" "Ljava/util/List;" o3) (F_backtrace_a0 : Fld Z h0 a0 "java/lang/Throwable" "backtrace" "Ljava/lang/Object;" .null) (F_detailMessage_a0 : Fld Z h0 a0 "java/lang/Throwable" "detailMessage" "Ljava/lang/String;" .null) (S_UNASSIGNED_STACK : Sta Z h0 "java/lang/Throwable" "UNASSIGNED_STACK" "[Ljava/lang/StackTraceElement;" us) (S_SUPPRESSED_SENTINEL : Sta Z h0 "java/lang/Throwable" "SUPPRESSED_SENTINEL" "Ljava/util/List;" sn) (hThS : ThS Z h0) (ga : n0 ≤ a0) (hl : l.stackTraces = true) (hus : us.isRef = true) (hsn : sn.isRef = true) :
    MetFree l (⟨"com/example/hushlist/hushlist/engine/StanzaException", "<init>", "(Lcom/example/hushlist/hushlist/engine/Condition;Ljava/lang/String;)V"⟩ : MethodName) (head1 (Jvm.Cond.code (⟨"com/example/hushlist/hushlist/engine/StanzaException", "<init>", "(Lcom/example/hushlist/hushlist/engine/Condition;Ljava/lang/String;)V"⟩ : MethodName) prog_31_method_1_code 3 none :: ws) ({ frames := 5, cells := 1, slots := 2752, locals := 68 } : Room)) (fun a U => a = #[(.ref a0), (.ref a1), (.ref a2)] ∧ Z.Warmed39 U.vm ∧ U.heap = h0) (fun _ _ bl s _ => s.vm.MethodsKnown ∧ s.vm.FramesKnown bl) (fun _ U o U' => ∃ v L, o = .returned v ∧ Q5r Z a0 a1 a2 u1 o1 o2 o3 us sn h0 n0 v U'.heap L ∧ FrameEnd U o U' L ({ frames := 5, cells := 1, slots := 2752, locals := 68 } : Room).cells ({ frames := 5, cells := 1, slots := 2752, locals := 68 } : Room).slots) := by
  refine MetFree.of_bodySF (plainFor_of_name pn_com_example_hushlist_hushlist_engine_StanzaException) hisR ?_
  intro p e s m args below meth c s₁ Bd hml0 hP hK
  obtain ⟨rfl, hZ, hh⟩ := hP
  have hx := Bd.exec
  have hby := Bd.bytes
  have hml : c.maxLocals = 3 := hml0
  have hown : s.vm.findClass "com/example/hushlist/hushlist/engine/StanzaException" = some m.cls := findClass_of_methodNamed Bd.named
  have hnm := (name_of_methodNamed Bd.named Bd.method).1
  have X0 : Stand p l e ({ frames := 5, cells := 1, slots := 2752, locals := 68 } : Room) s m #[(.ref a0), (.ref a1), (.ref a2)] below meth c s₁ [] 0 0 := Stand.of_body Bd
  have e0 : s₁.heap = h0 := by rw [← hh, Bd.state]; rfl
  have hTK := hK.1
  have hBelow := hK.2
  have efx : entryFrame m #[(.ref a0), (.ref a1), (.ref a2)] 3 = mkF m 0 #[.val (.ref a0), .val (.ref a1), .val (.ref a2)] [] := by first | (simp [entryFrame, mkF, argsToLocals, Value.category]; done) | rfl
  have N0 := Fr.nil n0
  have K0 : Keep h0 h0 [a0] := Keep.refl h0 _
  refine OGo.start (g' := mkF m 0 #[.val (.ref a0), .val (.ref a1), .val (.ref a2)] []) (efx) ?_
  show OGo p.tables e below (P5r Z a0 a1 a2 u1 o1 o2 o3 us sn h0 n0 s) (s₁.setTop (mkF m 0 #[.val (.ref a0), .val (.ref a1), .val (.ref a2)] []))
  refine OGo.go (B := s₁.setTop (mkF m 1 #[.val (.ref a0), .val (.ref a1), .val (.ref a2)] [(.ref a0)])) ?_ (fun tX kX => XS.aloadN X0.here hx rfl (hb hby d5_0) rfl rfl kX)
  refine OGo.go (B := s₁.setTop (mkF m 2 #[.val (.ref a0), .val (.ref a1), .val (.ref a2)] [(.ref a2), (.ref a0)])) ?_ (fun tX kX => XS.aloadN X0.here hx rfl (hb hby d5_1) rfl rfl kX)
  obtain ⟨_, _, ⟨T1, L1, k1, n1⟩, -, X1, ⟨Lc1, hQ1, l1, y1, z1⟩, st1⟩ := X0.specialBack hx (y := (⟨"java/lang/Exception", "<init>", "(Ljava/lang/String;)V"⟩ : MethodName)) rfl hown (mvT hZ (hw _ (List.mem_of_getElem? (i := 34) rfl))) (mvT hZ (hw _ (List.mem_of_getElem? (i := 35) rfl))) (mvT hZ (hw _ (List.mem_of_getElem? (i := 38) rfl))) (by decide) (backOfKL (W := 0) (rm6r l Z aV hw [] a0 a2 u1 o1 o2 o3 us sn h0 n0 Z0 E_a0 U_a0 F_condition_a0 F_cause_a0 F_stackTrace_a0 F_suppressedExceptions_a0 F_backtrace_a0 F_detailMessage_a0 S_UNASSIGNED_STACK S_SUPPRESSED_SENTINEL hThS ga hl hus hsn) hZ (hw _ (List.mem_of_getElem? (i := 38) rfl)) (hw _ (List.mem_of_getElem? (i := 37) rfl)) (by decide) (by decide) hTK hBelow) (g := (mkF m 2 #[.val (.ref a0), .val (.ref a1), .val (.ref a2)] [(.ref a2), (.ref a0)])) rfl (by rw [hml]; rfl) (Steps.refl _) (a := a0) (argsL := [(.ref a2)]) (rest := []) (lenOf pd__Ljava_lang_String__V rfl) rfl (by show 2 * 0 + _ ≤ _; exact Nat.le_of_eq rfl) (hb hby d5_2) (fun _ _ => ⟨rfl, e0, (by decide : 0 + 1 ≤ _), (by decide : 0 + 2752 ≤ _)⟩)
  dsimp only [Pt.U, Pt.locs, Pt.cells, Pt.slots] at X1 l1 y1 z1 st1 hQ1
  subst l1 y1 z1
  obtain ⟨rfl, N1q, Kq1, E_a0_p, F_condition_a0_p, F_detailMessage_a0_p⟩ := hQ1
  have N1 := Fr.app N0 N1q
  have S_UNASSIGNED_STACK := Sta.keepE S_UNASSIGNED_STACK Kq1 (staS E_a0.cell (fun x hx' => nomatch hx'))
  have S_SUPPRESSED_SENTINEL := Sta.keepE S_SUPPRESSED_SENTINEL Kq1 (staS E_a0.cell (fun x hx' => nomatch hx'))
  have hThS := hThS.keep Kq1 (nsS E_a0.nostat ns0)
  have E_a0 := E_a0.keep Kq1
  have K1 := K0.trans Kq1 (allS (P := fun x => x ∈ [a0] ∨ h0.size ≤ x) (Or.inl (List.mem_of_getElem? (i := 0) rfl)) all0)
  have zn1 : n0 ≤ T1.heap.size := Nat.le_trans Z0 Kq1.1
  have E_a0 := E_a0_p
  have F_condition_a0 := F_condition_a0_p
  have F_detailMessage_a0 := F_detailMessage_a0_p
  refine OGo.go (B := T1.setTop (mkF m 5 #[.val (.ref a0), .val (.ref a1), .val (.ref a2)] [])) ?_ (fun tX kX => st1.trans kX)
  refine OGo.go (B := T1.setTop (mkF m 6 #[.val (.ref a0), .val (.ref a1), .val (.ref a2)] [(.ref a0)])) ?_ (fun tX kX => XS.aloadN X1.here hx rfl (hb hby d5_5) rfl rfl kX)
  refine OGo.go (B := T1.setTop (mkF m 7 #[.val (.ref a0), .val (.ref a1), .val (.ref a2)] [(.ref a1), (.ref a0)])) ?_ (fun tX kX => XS.aloadN X1.here hx rfl (hb hby d5_6) rfl rfl kX)
  obtain ⟨T2, h2, X2, e2, W2, st2⟩ := putF X1 hx hZ hown (host := "") (Or.inl (hw _ (List.mem_of_getElem? (i := 82) rfl))) Via.refl rfl F_condition_a0 E_a0 (Or.inr ⟨(hw _ (List.mem_of_getElem? (i := 83) rfl)), rfl, hnm⟩) (hw _ (List.mem_of_getElem? (i := 27) rfl)) (ty := (.object "com/example/hushlist/hushlist/engine/Condition")) (by decide) rfl rfl (g := (mkF m 7 #[.val (.ref a0), .val (.ref a1), .val (.ref a2)] [(.ref a1), (.ref a0)])) rfl rfl (hb hby d5_7)
  have E_a0 := E_a0.wr W2
  have S_UNASSIGNED_STACK := S_UNASSIGNED_STACK.wr W2
  have S_SUPPRESSED_SENTINEL := S_SUPPRESSED_SENTINEL.wr W2
  have hThS := hThS.wr W2
  have F_condition_a0 := F_condition_a0.same W2
  have F_detailMessage_a0 := F_detailMessage_a0.other W2 (Or.inr (slot_ne (Or.inl (hw _ (List.mem_of_getElem? (i := 77) rfl))) (Or.inr (hw _ (List.mem_of_getElem? (i := 83) rfl))) (by decide) (t := (.object "java/lang/String")) (t' := (.object "com/example/hushlist/hushlist/engine/Condition")) (by decide) (by decide)))
  have K2 := K1.wr W2 (Or.inl (List.mem_of_getElem? (i := 0) rfl))
  have zn2 : n0 ≤ h2.size := Nat.le_trans zn1 (Keep.of_wr W2).1
  have N2 := Fr.snoc X2 N1 ga
  refine OGo.go (B := T2.setTop (mkF m 10 #[.val (.ref a0), .val (.ref a1), .val (.ref a2)] [])) ?_ st2
  refine OGo.ret X2 (v := none) (fun _ => rfl) (BodyLoose.notSynchronized Bd) (fun fs hr => X2.returnOut hx Bd.returns (hb hby d5_10) hr) (Q := Q5r Z a0 a1 a2 u1 o1 o2 o3 us sn h0 n0) ?_ (by decide) (by decide)
  show Q5r Z a0 a1 a2 u1 o1 o2 o3 us sn h0 n0 _ T2.heap _
  rw [e2]
  exact ⟨rfl, N2, K2, E_a0, F_condition_a0, F_detailMessage_a0⟩
def Q4r (Z : State) (a0 : Addr) (uc : Addr) (us : Value) (sn : Value) (h0 : Heap) (n0 : Nat) (v : Option Value) (h : Heap) (L : List Loc) : Prop := ∃ (b : Addr), v = some (.ref b) ∧ Fr n0 L ∧ Keep h0 h [] ∧ h0.size ≤ b ∧ Exa Z h b "com/example/hushlist/hushlist/engine/StanzaException" ∧ Fld Z h b "com/example/hushlist/hushlist/engine/StanzaException" "condition" "Lcom/example/hushlist/hushlist/engine/Condition;" (.ref uc) ∧ Fld Z h b "java/lang/Throwable" "detailMessage" "Ljava/lang/String;" (.ref a0)
def P4r (Z : State) (a0 : Addr) (uc : Addr) (us : Value) (sn : Value) (h0 : Heap) (n0 : Nat) (s : State) (o : Outcome) (U' : State) : Prop := ∃ v L, o = .returned v ∧ Q4r Z a0 uc us sn h0 n0 v U'.heap L ∧ FrameEnd s o U' L ({ frames := 6, cells := 2, slots := 2759, locals := 83 } : Room).cells ({ frames := 6, cells := 2, slots := 2759, locals := 83 } : Room).slots
set_option maxRecDepth 65536 in
set_option maxHeartbeats 40000000 in
theorem rm4r (l : Launch) (Z : State) (aV : Array Value) (hw : ∀ d ∈ tables_1, d.before aV Z = true) (ws : List Jvm.Cond) (a0 : Addr) (uc : Addr) (us : Value) (sn : Value) (h0 : Heap) (n0 : Nat) (Z0 : n0 ≤ h0.size) (S_CONFLICT : Sta Z h0 "com/example/hushlist/hushlist/engine/Condition" "CONFLICT" "Lcom/example/hushlist/hushlist/engine/Condition;" (.ref uc)) (S_UNASSIGNED_STACK : Sta Z h0 "java/lang/Throwable" "UNASSIGNED_STACK" "[Ljava/lang/StackTraceElement;" us) (S_SUPPRESSED_SENTINEL : Sta Z h0 "java/lang/Throwable" "SUPPRESSED_SENTINEL" "Ljava/util/List;" sn) (hThS : ThS Z h0) (hl : l.stackTraces = true) (hus : us.isRef = true) (hsn : sn.isRef = true) :
    MetFree l (⟨"com/example/hushlist/hushlist/engine/StanzaException", "conflict", "(Ljava/lang/String;)Lcom/example/hushlist/hushlist/engine/StanzaException;"⟩ : MethodName) (head1 (Jvm.Cond.code (⟨"com/example/hushlist/hushlist/engine/StanzaException", "conflict", "(Ljava/lang/String;)Lcom/example/hushlist/hushlist/engine/StanzaException;"⟩ : MethodName) prog_31_method_3_code 1 (some (.object "com/example/hushlist/hushlist/engine/StanzaException")) :: ws) ({ frames := 6, cells := 2, slots := 2759, locals := 83 } : Room)) (fun a U => a = #[(.ref a0)] ∧ Z.Warmed39 U.vm ∧ U.heap = h0) (fun _ _ bl s _ => s.vm.MethodsKnown ∧ s.vm.FramesKnown bl) (fun _ U o U' => ∃ v L, o = .returned v ∧ Q4r Z a0 uc us sn h0 n0 v U'.heap L ∧ FrameEnd U o U' L ({ frames := 6, cells := 2, slots := 2759, locals := 83 } : Room).cells ({ frames := 6, cells := 2, slots := 2759, locals := 83 } : Room).slots) := by
  refine MetFree.of_bodySF (plainFor_of_name pn_com_example_hushlist_hushlist_engine_StanzaException) hisR ?_
  intro p e s m args below meth c s₁ Bd hml0 hP hK
  obtain ⟨rfl, hZ, hh⟩ := hP
  have hx := Bd.exec
  have hby := Bd.bytes
  have hml : c.maxLocals = 1 := hml0
  have hown : s.vm.findClass "com/example/hushlist/hushlist/engine/StanzaException" = some m.cls := findClass_of_methodNamed Bd.named
  have hnm := (name_of_methodNamed Bd.named Bd.method).1
  have X0 : Stand p l e ({ frames := 6, cells := 2, slots := 2759, locals := 83 } : Room) s m #[(.ref a0)] below meth c s₁ [] 0 0 := Stand.of_body Bd
  have e0 : s₁.heap = h0 := by rw [← hh, Bd.state]; rfl
  have hTK := hK.1
  have hBelow := hK.2
  have efx : entryFrame m #[(.ref a0)] 1 = mkF m 0 #[.val (.ref a0)] [] := by first | (simp [entryFrame, mkF, argsToLocals, Value.category]; done) | rfl
  have N0 := Fr.nil n0
  have K0 : Keep h0 h0 [] := Keep.refl h0 _
  refine OGo.start (g' := mkF m 0 #[.val (.ref a0)] []) (efx) ?_
  show OGo p.tables e below (P4r Z a0 uc us sn h0 n0 s) (s₁.setTop (mkF m 0 #[.val (.ref a0)] []))
  obtain ⟨T1, h1, X1, e1, E1, A1, D1, C1, st1⟩ := newO X0 hx hZ hown (hw _ (List.mem_of_getElem? (i := 26) rfl)) (hw _ (List.mem_of_getElem? (i := 27) rfl)) (hw _ (List.mem_of_getElem? (i := 24) rfl)) e0 (g := (mkF m 0 #[.val (.ref a0)] [])) rfl (hb hby d4_0) (by decide) (by decide)
  obtain ⟨b1, g1⟩ : ∃ z, z = h0.size := ⟨_, rfl⟩
  rw [← g1] at A1 D1 st1 C1
  have S_CONFLICT := S_CONFLICT.ext E1
  have S_UNASSIGNED_STACK := S_UNASSIGNED_STACK.ext E1
  have S_SUPPRESSED_SENTINEL := S_SUPPRESSED_SENTINEL.ext E1
  have hThS := hThS.ext E1
  have g_b1 : n0 ≤ b1 := Nat.le_trans Z0 (Nat.le_of_eq g1.symm)
  have sz_b1 : h0.size ≤ b1 := Nat.le_trans K0.1 (Nat.le_of_eq g1.symm)
  have zn1 : n0 ≤ h1.size := Nat.le_trans Z0 E1.1
  have K1 := K0.ext E1
  have E_b1 := A1
  have U_b1 : Unt h1 b1 := C1
  have F_cause_b1 : Fld Z h1 b1 "java/lang/Throwable" "cause" "Ljava/lang/Throwable;" .null := D1 (Or.inl (hw _ (List.mem_of_getElem? (i := 47) rfl))) (ty := (.object "java/lang/Throwable")) (by decide)
  have F_stackTrace_b1 : Fld Z h1 b1 "java/lang/Throwable" "stackTrace" "[Ljava/lang/StackTraceElement;" .null := D1 (Or.inl (hw _ (List.mem_of_getElem? (i := 50) rfl))) (ty := (.array (.object "java/lang/StackTraceElement"))) (by decide)
  have F_suppressedExceptions_b1 : Fld Z h1 b1 "java/lang/Throwable" "suppressedExceptions" "Ljava/util/List;" .null := D1 (Or.inl (hw _ (List.mem_of_getElem? (i := 53) rfl))) (ty := (.object "java/util/List")) (by decide)
  have F_detailMessage_b1 : Fld Z h1 b1 "java/lang/Throwable" "detailMessage" "Ljava/lang/String;" .null := D1 (Or.inl (hw _ (List.mem_of_getElem? (i := 77) rfl))) (ty := (.object "java/lang/String")) (by decide)
  have F_backtrace_b1 : Fld Z h1 b1 "java/lang/Throwable" "backtrace" "Ljava/lang/Object;" .null := D1 (Or.inl (hw _ (List.mem_of_getElem? (i := 78) rfl))) (ty := (.object "java/lang/Object")) (by decide)
  have F_depth_b1 : Fld Z h1 b1 "java/lang/Throwable" "depth" "I" (.int (0 : Int32)) := D1 (Or.inl (hw _ (List.mem_of_getElem? (i := 79) rfl))) (ty := .int) (by decide)
  have F_condition_b1 : Fld Z h1 b1 "com/example/hushlist/hushlist/engine/StanzaException" "condition" "Lcom/example/hushlist/hushlist/engine/Condition;" .null := D1 (Or.inr (hw _ (List.mem_of_getElem? (i := 83) rfl))) (ty := (.object "com/example/hushlist/hushlist/engine/Condition")) (by decide)
  refine OGo.go (B := T1.setTop (mkF m 3 #[.val (.ref a0)] [(.ref b1)])) ?_ st1
  refine OGo.go (B := T1.setTop (mkF m 4 #[.val (.ref a0)] [(.ref b1), (.ref b1)])) ?_ (fun tX kX => XS.dup X1.here hx rfl (hb hby d4_3) rfl rfl kX)
  obtain ⟨T2, X2, e2, st2⟩ := getS2 X1 hx hZ hown (host := "") (Or.inl (hw _ (List.mem_of_getElem? (i := 28) rfl))) Via.refl e1 S_CONFLICT (g := (mkF m 4 #[.val (.ref a0)] [(.ref b1), (.ref b1)])) rfl (hb hby d4_4)
  refine OGo.go (B := T2.setTop (mkF m 7 #[.val (.ref a0)] [(.ref uc), (.ref b1), (.ref b1)])) ?_ st2
  refine OGo.go (B := T2.setTop (mkF m 8 #[.val (.ref a0)] [(.ref a0), (.ref uc), (.ref b1), (.ref b1)])) ?_ (fun tX kX => XS.aloadN X2.here hx rfl (hb hby d4_7) rfl rfl kX)
  obtain ⟨_, _, ⟨T3, L3, k3, n3⟩, -, X3, ⟨Lc3, hQ3, l3, y3, z3⟩, st3⟩ := X2.specialBack hx (y := (⟨"com/example/hushlist/hushlist/engine/StanzaException", "<init>", "(Lcom/example/hushlist/hushlist/engine/Condition;Ljava/lang/String;)V"⟩ : MethodName)) rfl hown (mvT hZ (hw _ (List.mem_of_getElem? (i := 31) rfl))) (mvT hZ (hw _ (List.mem_of_getElem? (i := 32) rfl))) (mvT hZ (hw _ (List.mem_of_getElem? (i := 33) rfl))) (by decide) (backOfKL (W := 1) (rm5r l Z aV hw [] b1 uc a0 .null .null .null .null us sn h1 n0 zn1 E_b1 U_b1 F_condition_b1 F_cause_b1 F_stackTrace_b1 F_suppressedExceptions_b1 F_backtrace_b1 F_detailMessage_b1 S_UNASSIGNED_STACK S_SUPPRESSED_SENTINEL hThS g_b1 hl hus hsn) hZ (hw _ (List.mem_of_getElem? (i := 33) rfl)) (hw _ (List.mem_of_getElem? (i := 24) rfl)) (by decide) (by decide) hTK hBelow) (g := (mkF m 8 #[.val (.ref a0)] [(.ref a0), (.ref uc), (.ref b1), (.ref b1)])) rfl (by rw [hml]; rfl) (Steps.refl _) (a := b1) (argsL := [(.ref uc), (.ref a0)]) (rest := [(.ref b1)]) (lenOf pd__Lcom_example_hushlist_hushlist_engine_Condition_Ljava_lang_String__V rfl) rfl (by show 2 * 0 + _ ≤ _; exact Nat.le_of_eq rfl) (hb hby d4_8) (fun _ _ => ⟨rfl, e2, (by decide : 1 + 1 ≤ _), (by decide : 7 + 2752 ≤ _)⟩)
  dsimp only [Pt.U, Pt.locs, Pt.cells, Pt.slots] at X3 l3 y3 z3 st3 hQ3
  subst l3 y3 z3
  obtain ⟨rfl, N3q, Kq3, E_b1_p, F_condition_b1_p, F_detailMessage_b1_p⟩ := hQ3
  have N3 := Fr.app N0 N3q
  have S_CONFLICT := Sta.keepE S_CONFLICT Kq3 (staS E_b1.cell (fun x hx' => nomatch hx'))
  have S_UNASSIGNED_STACK := Sta.keepE S_UNASSIGNED_STACK Kq3 (staS E_b1.cell (fun x hx' => nomatch hx'))
  have S_SUPPRESSED_SENTINEL := Sta.keepE S_SUPPRESSED_SENTINEL Kq3 (staS E_b1.cell (fun x hx' => nomatch hx'))
  have hThS := hThS.keep Kq3 (nsS E_b1.nostat ns0)
  have E_b1 := E_b1.keep Kq3
  have K3 := K1.trans Kq3 (allS (P := fun x => x ∈ ([] : List Addr) ∨ h0.size ≤ x) (Or.inr sz_b1) all0)
  have zn3 : n0 ≤ T3.heap.size := Nat.le_trans zn1 Kq3.1
  have E_b1 := E_b1_p
  have F_condition_b1 := F_condition_b1_p
  have F_detailMessage_b1 := F_detailMessage_b1_p
  refine OGo.go (B := T3.setTop (mkF m 11 #[.val (.ref a0)] [(.ref b1)])) ?_ (fun tX kX => st3.trans kX)
  refine OGo.ret X3 (v := (some (.ref b1))) (fun h => by rw [Bd.returns] at h; cases h) (BodyLoose.notSynchronized Bd) (fun fs hr => retOut X3 hx Bd.returns rfl (Or.inr (Or.inr (Or.inr (Or.inr ⟨rfl, rfl, rfl⟩)))) (hb hby d4_11) hr) (Q := Q4r Z a0 uc us sn h0 n0) ?_ (by decide) (by decide)
  show Q4r Z a0 uc us sn h0 n0 _ T3.heap _
  exact ⟨b1, rfl, N3, K3, sz_b1, E_b1, F_condition_b1, F_detailMessage_b1⟩
theorem d10_0 : decode prog_31_method_5_code 0 = .ok (.aload_n 0, 1) := by decide +kernel
theorem d10_1 : decode prog_31_method_5_code 1 = .ok (.getfield 7, 3) := by decide +kernel
theorem d10_4 : decode prog_31_method_5_code 4 = .ok (.areturn, 1) := by decide +kernel
def Q10 (Z : State) (a0 : Addr) (u : Addr) (h0 : Heap) (n0 : Nat) (v : Option Value) (h : Heap) (L : List Loc) : Prop := v = some (.ref u) ∧ Fr n0 L ∧ h = h0
def P10 (Z : State) (a0 : Addr) (u : Addr) (h0 : Heap) (n0 : Nat) (s : State) (o : Outcome) (U' : State) : Prop := ∃ v L, o = .returned v ∧ Q10 Z a0 u h0 n0 v U'.heap L ∧ FrameEnd s o U' L ({ frames := 0, cells := 0, slots := 0, locals := 0 } : Room).cells ({ frames := 0, cells := 0, slots := 0, locals := 0 } : Room).slots
set_option maxRecDepth 65536 in
set_option maxHeartbeats 40000000 in
theorem rm10 (l : Launch) (Z : State) (aV : Array Value) (hw : ∀ d ∈ tables_1, d.before aV Z = true) (ws : List Jvm.Cond) (a0 : Addr) (u : Addr) (h0 : Heap) (n0 : Nat) (Z0 : n0 ≤ h0.size) (F_condition_a0 : Fld Z h0 a0 "com/example/hushlist/hushlist/engine/StanzaException" "condition" "Lcom/example/hushlist/hushlist/engine/Condition;" (.ref u)) :
    MetFree l (⟨"com/example/hushlist/hushlist/engine/StanzaException", "condition", "()Lcom/example/hushlist/hushlist/engine/Condition;"⟩ : MethodName) (head1 (Jvm.Cond.code (⟨"com/example/hushlist/hushlist/engine/StanzaException", "condition", "()Lcom/example/hushlist/hushlist/engine/Condition;"⟩ : MethodName) prog_31_method_5_code 1 (some (.object "com/example/hushlist/hushlist/engine/Condition")) :: ws) ({ frames := 0, cells := 0, slots := 0, locals := 0 } : Room)) (fun a U => a = #[(.ref a0)] ∧ Z.Warmed39 U.vm ∧ U.heap = h0) (fun _ _ _ _ _ => True) (fun _ U o U' => ∃ v L, o = .returned v ∧ Q10 Z a0 u h0 n0 v U'.heap L ∧ FrameEnd U o U' L ({ frames := 0, cells := 0, slots := 0, locals := 0 } : Room).cells ({ frames := 0, cells := 0, slots := 0, locals := 0 } : Room).slots) := by
  refine MetFree.of_bodySF (plainFor_of_name pn_com_example_hushlist_hushlist_engine_StanzaException) hisR ?_
  intro p e s m args below meth c s₁ Bd hml0 hP hK
  obtain ⟨rfl, hZ, hh⟩ := hP
  have hx := Bd.exec
  have hby := Bd.bytes
  have hml : c.maxLocals = 1 := hml0
  have hown : s.vm.findClass "com/example/hushlist/hushlist/engine/StanzaException" = some m.cls := findClass_of_methodNamed Bd.named
  have hnm := (name_of_methodNamed Bd.named Bd.method).1
  have X0 : Stand p l e ({ frames := 0, cells := 0, slots := 0, locals := 0 } : Room) s m #[(.ref a0)] below meth c s₁ [] 0 0 := Stand.of_body Bd
  have e0 : s₁.heap = h0 := by rw [← hh, Bd.state]; rfl
  have efx : entryFrame m #[(.ref a0)] 1 = mkF m 0 #[.val (.ref a0)] [] := by first | (simp [entryFrame, mkF, argsToLocals, Value.category]; done) | rfl
  have N0 := Fr.nil n0
  have K0 : Keep h0 h0 [] := Keep.refl h0 _
  refine OGo.start (g' := mkF m 0 #[.val (.ref a0)] []) (efx) ?_
  show OGo p.tables e below (P10 Z a0 u h0 n0 s) (s₁.setTop (mkF m 0 #[.val (.ref a0)] []))
  refine OGo.go (B := s₁.setTop (mkF m 1 #[.val (.ref a0)] [(.ref a0)])) ?_ (fun tX kX => XS.aloadN X0.here hx rfl (hb hby d10_0) rfl rfl kX)
  obtain ⟨T1, X1, e1, st1⟩ := getF X0 hx hZ hown (host := "") (Or.inl (hw _ (List.mem_of_getElem? (i := 82) rfl))) Via.refl e0 F_condition_a0 (g := (mkF m 1 #[.val (.ref a0)] [(.ref a0)])) rfl rfl (hb hby d10_1)
  refine OGo.go (B := T1.setTop (mkF m 4 #[.val (.ref a0)] [(.ref u)])) ?_ st1
  refine OGo.ret X1 (v := (some (.ref u))) (fun h => by rw [Bd.returns] at h; cases h) (BodyLoose.notSynchronized Bd) (fun fs hr => retOut X1 hx Bd.returns rfl (Or.inr (Or.inr (Or.inr (Or.inr ⟨rfl, rfl, rfl⟩)))) (hb hby d10_4) hr) (Q := Q10 Z a0 u h0 n0) ?_ (by decide) (by decide)
  show Q10 Z a0 u h0 n0 _ T1.heap _
  rw [e1]
  exact ⟨rfl, N0, rfl⟩
theorem d11_0 : decode jdk_78_method_6_code 0 = .ok (.aload_n 0, 1) := by decide +kernel
theorem d11_1 : decode jdk_78_method_6_code 1 = .ok (.getfield 31, 3) := by decide +kernel
theorem d11_4 : decode jdk_78_method_6_code 4 = .ok (.areturn, 1) := by decide +kernel
def Q11n (Z : State) (a0 : Addr) (h0 : Heap) (n0 : Nat) (v : Option Value) (h : Heap) (L : List Loc) : Prop := v = some .null ∧ Fr n0 L ∧ h = h0
def P11n (Z : State) (a0 : Addr) (h0 : Heap) (n0 : Nat) (s : State) (o : Outcome) (U' : State) : Prop := ∃ v L, o = .returned v ∧ Q11n Z a0 h0 n0 v U'.heap L ∧ FrameEnd s o U' L ({ frames := 0, cells := 0, slots := 0, locals := 0 } : Room).cells ({ frames := 0, cells := 0, slots := 0, locals := 0 } : Room).slots
set_option maxRecDepth 65536 in
set_option maxHeartbeats 40000000 in
theorem rm11n (l : Launch) (Z : State) (aV : Array Value) (hw : ∀ d ∈ tables_1, d.before aV Z = true) (ws : List Jvm.Cond) (a0 : Addr) (h0 : Heap) (n0 : Nat) (Z0 : n0 ≤ h0.size) (F_detailMessage_a0 : Fld Z h0 a0 "java/lang/Throwable" "detailMessage" "Ljava/lang/String;" .null) :
    MetFree l (⟨"java/lang/Throwable", "getMessage", "()Ljava/lang/String;"⟩ : MethodName) (head1 (Jvm.Cond.code (⟨"java/lang/Throwable", "getMessage", "()Ljava/lang/String;"⟩ : MethodName) jdk_78_method_6_code 1 (some (.object "java/lang/String")) :: ws) ({ frames := 0, cells := 0, slots := 0, locals := 0 } : Room)) (fun a U => a = #[(.ref a0)] ∧ Z.Warmed39 U.vm ∧ U.heap = h0) (fun _ _ _ _ _ => True) (fun _ U o U' => ∃ v L, o = .returned v ∧ Q11n Z a0 h0 n0 v U'.heap L ∧ FrameEnd U o U' L ({ frames := 0, cells := 0, slots := 0, locals := 0 } : Room).cells ({ frames := 0, cells := 0, slots := 0, locals := 0 } : Room).slots) := by
  refine MetFree.of_bodySF (plainFor_of_name pn_java_lang_Throwable) hisR ?_
  intro p e s m args below meth c s₁ Bd hml0 hP hK
  obtain ⟨rfl, hZ, hh⟩ := hP
  have hx := Bd.exec
  have hby := Bd.bytes
  have hml : c.maxLocals = 1 := hml0
  have hown : s.vm.findClass "java/lang/Throwable" = some m.cls := findClass_of_methodNamed Bd.named
  have hnm := (name_of_methodNamed Bd.named Bd.method).1
  have X0 : Stand p l e ({ frames := 0, cells := 0, slots := 0, locals := 0 } : Room) s m #[(.ref a0)] below meth c s₁ [] 0 0 := Stand.of_body Bd
  have e0 : s₁.heap = h0 := by rw [← hh, Bd.state]; rfl
  have efx : entryFrame m #[(.ref a0)] 1 = mkF m 0 #[.val (.ref a0)] [] := by first | (simp [entryFrame, mkF, argsToLocals, Value.category]; done) | rfl
  have N0 := Fr.nil n0
  have K0 : Keep h0 h0 [] := Keep.refl h0 _
  refine OGo.start (g' := mkF m 0 #[.val (.ref a0)] []) (efx) ?_
  show OGo p.tables e below (P11n Z a0 h0 n0 s) (s₁.setTop (mkF m 0 #[.val (.ref a0)] []))
  refine OGo.go (B := s₁.setTop (mkF m 1 #[.val (.ref a0)] [(.ref a0)])) ?_ (fun tX kX => XS.aloadN X0.here hx rfl (hb hby d11_0) rfl rfl kX)
  obtain ⟨T1, X1, e1, st1⟩ := getF X0 hx hZ hown (host := "") (Or.inl (hw _ (List.mem_of_getElem? (i := 81) rfl))) Via.refl e0 F_detailMessage_a0 (g := (mkF m 1 #[.val (.ref a0)] [(.ref a0)])) rfl rfl (hb hby d11_1)
  refine OGo.go (B := T1.setTop (mkF m 4 #[.val (.ref a0)] [.null])) ?_ st1
  refine OGo.ret X1 (v := (some .null)) (fun h => by rw [Bd.returns] at h; cases h) (BodyLoose.notSynchronized Bd) (fun fs hr => retOut X1 hx Bd.returns rfl (Or.inr (Or.inr (Or.inr (Or.inr ⟨rfl, rfl, rfl⟩)))) (hb hby d11_4) hr) (Q := Q11n Z a0 h0 n0) ?_ (by decide) (by decide)
  show Q11n Z a0 h0 n0 _ T1.heap _
  rw [e1]
  exact ⟨rfl, N0, rfl⟩
def Q11r (Z : State) (a0 : Addr) (u : Addr) (h0 : Heap) (n0 : Nat) (v : Option Value) (h : Heap) (L : List Loc) : Prop := v = some (.ref u) ∧ Fr n0 L ∧ h = h0
def P11r (Z : State) (a0 : Addr) (u : Addr) (h0 : Heap) (n0 : Nat) (s : State) (o : Outcome) (U' : State) : Prop := ∃ v L, o = .returned v ∧ Q11r Z a0 u h0 n0 v U'.heap L ∧ FrameEnd s o U' L ({ frames := 0, cells := 0, slots := 0, locals := 0 } : Room).cells ({ frames := 0, cells := 0, slots := 0, locals := 0 } : Room).slots
set_option maxRecDepth 65536 in
set_option maxHeartbeats 40000000 in
theorem rm11r (l : Launch) (Z : State) (aV : Array Value) (hw : ∀ d ∈ tables_1, d.before aV Z = true) (ws : List Jvm.Cond) (a0 : Addr) (u : Addr) (h0 : Heap) (n0 : Nat) (Z0 : n0 ≤ h0.size) (F_detailMessage_a0 : Fld Z h0 a0 "java/lang/Throwable" "detailMessage" "Ljava/lang/String;" (.ref u)) :
    MetFree l (⟨"java/lang/Throwable", "getMessage", "()Ljava/lang/String;"⟩ : MethodName) (head1 (Jvm.Cond.code (⟨"java/lang/Throwable", "getMessage", "()Ljava/lang/String;"⟩ : MethodName) jdk_78_method_6_code 1 (some (.object "java/lang/String")) :: ws) ({ frames := 0, cells := 0, slots := 0, locals := 0 } : Room)) (fun a U => a = #[(.ref a0)] ∧ Z.Warmed39 U.vm ∧ U.heap = h0) (fun _ _ _ _ _ => True) (fun _ U o U' => ∃ v L, o = .returned v ∧ Q11r Z a0 u h0 n0 v U'.heap L ∧ FrameEnd U o U' L ({ frames := 0, cells := 0, slots := 0, locals := 0 } : Room).cells ({ frames := 0, cells := 0, slots := 0, locals := 0 } : Room).slots) := by
  refine MetFree.of_bodySF (plainFor_of_name pn_java_lang_Throwable) hisR ?_
  intro p e s m args below meth c s₁ Bd hml0 hP hK
  obtain ⟨rfl, hZ, hh⟩ := hP
  have hx := Bd.exec
  have hby := Bd.bytes
  have hml : c.maxLocals = 1 := hml0
  have hown : s.vm.findClass "java/lang/Throwable" = some m.cls := findClass_of_methodNamed Bd.named
  have hnm := (name_of_methodNamed Bd.named Bd.method).1
  have X0 : Stand p l e ({ frames := 0, cells := 0, slots := 0, locals := 0 } : Room) s m #[(.ref a0)] below meth c s₁ [] 0 0 := Stand.of_body Bd
  have e0 : s₁.heap = h0 := by rw [← hh, Bd.state]; rfl
  have efx : entryFrame m #[(.ref a0)] 1 = mkF m 0 #[.val (.ref a0)] [] := by first | (simp [entryFrame, mkF, argsToLocals, Value.category]; done) | rfl
  have N0 := Fr.nil n0
  have K0 : Keep h0 h0 [] := Keep.refl h0 _
  refine OGo.start (g' := mkF m 0 #[.val (.ref a0)] []) (efx) ?_
  show OGo p.tables e below (P11r Z a0 u h0 n0 s) (s₁.setTop (mkF m 0 #[.val (.ref a0)] []))
  refine OGo.go (B := s₁.setTop (mkF m 1 #[.val (.ref a0)] [(.ref a0)])) ?_ (fun tX kX => XS.aloadN X0.here hx rfl (hb hby d11_0) rfl rfl kX)
  obtain ⟨T1, X1, e1, st1⟩ := getF X0 hx hZ hown (host := "") (Or.inl (hw _ (List.mem_of_getElem? (i := 81) rfl))) Via.refl e0 F_detailMessage_a0 (g := (mkF m 1 #[.val (.ref a0)] [(.ref a0)])) rfl rfl (hb hby d11_1)
  refine OGo.go (B := T1.setTop (mkF m 4 #[.val (.ref a0)] [(.ref u)])) ?_ st1
  refine OGo.ret X1 (v := (some (.ref u))) (fun h => by rw [Bd.returns] at h; cases h) (BodyLoose.notSynchronized Bd) (fun fs hr => retOut X1 hx Bd.returns rfl (Or.inr (Or.inr (Or.inr (Or.inr ⟨rfl, rfl, rfl⟩)))) (hb hby d11_4) hr) (Q := Q11r Z a0 u h0 n0) ?_ (by decide) (by decide)
  show Q11r Z a0 u h0 n0 _ T1.heap _
  rw [e1]
  exact ⟨rfl, N0, rfl⟩
theorem d12_0 : decode jdk_42_method_66_code 0 = .ok (.aload_n 0, 1) := by decide +kernel
theorem d12_1 : decode jdk_42_method_66_code 1 = .ok (.aload_n 1, 1) := by decide +kernel
theorem d12_2 : decode jdk_42_method_66_code 2 = .ok (.if_acmp .ne 5, 3) := by decide +kernel
theorem d12_5 : decode jdk_42_method_66_code 5 = .ok (.iconst 1, 1) := by decide +kernel
theorem d12_6 : decode jdk_42_method_66_code 6 = .ok (.ireturn, 1) := by decide +kernel
def Q12 (Z : State) (a0 : Addr) (a0 : Addr) (h0 : Heap) (n0 : Nat) (v : Option Value) (h : Heap) (L : List Loc) : Prop := v = some (.int (1 : Int32)) ∧ Fr n0 L ∧ h = h0
def P12 (Z : State) (a0 : Addr) (a0 : Addr) (h0 : Heap) (n0 : Nat) (s : State) (o : Outcome) (U' : State) : Prop := ∃ v L, o = .returned v ∧ Q12 Z a0 a0 h0 n0 v U'.heap L ∧ FrameEnd s o U' L ({ frames := 0, cells := 0, slots := 0, locals := 0 } : Room).cells ({ frames := 0, cells := 0, slots := 0, locals := 0 } : Room).slots
set_option maxRecDepth 65536 in
set_option maxHeartbeats 40000000 in
theorem rm12 (l : Launch) (Z : State) (aV : Array Value) (hw : ∀ d ∈ tables_1, d.before aV Z = true) (ws : List Jvm.Cond) (a0 : Addr) (a0 : Addr) (h0 : Heap) (n0 : Nat) (Z0 : n0 ≤ h0.size) :
    MetFree l (⟨"java/lang/String", "equals", "(Ljava/lang/Object;)Z"⟩ : MethodName) (head1 (Jvm.Cond.code (⟨"java/lang/String", "equals", "(Ljava/lang/Object;)Z"⟩ : MethodName) jdk_42_method_66_code 3 (some .boolean) :: ws) ({ frames := 0, cells := 0, slots := 0, locals := 0 } : Room)) (fun a U => a = #[(.ref a0), (.ref a0)] ∧ Z.Warmed39 U.vm ∧ U.heap = h0) (fun _ _ _ _ _ => True) (fun _ U o U' => ∃ v L, o = .returned v ∧ Q12 Z a0 a0 h0 n0 v U'.heap L ∧ FrameEnd U o U' L ({ frames := 0, cells := 0, slots := 0, locals := 0 } : Room).cells ({ frames := 0, cells := 0, slots := 0, locals := 0 } : Room).slots) := by
  refine MetFree.of_bodySF (plainFor_of_name pn_java_lang_String) hisR ?_
  intro p e s m args below meth c s₁ Bd hml0 hP hK
  obtain ⟨rfl, hZ, hh⟩ := hP
  have hx := Bd.exec
  have hby := Bd.bytes
  have hml : c.maxLocals = 3 := hml0
  have hown : s.vm.findClass "java/lang/String" = some m.cls := findClass_of_methodNamed Bd.named
  have hnm := (name_of_methodNamed Bd.named Bd.method).1
  have X0 : Stand p l e ({ frames := 0, cells := 0, slots := 0, locals := 0 } : Room) s m #[(.ref a0), (.ref a0)] below meth c s₁ [] 0 0 := Stand.of_body Bd
  have e0 : s₁.heap = h0 := by rw [← hh, Bd.state]; rfl
  have efx : entryFrame m #[(.ref a0), (.ref a0)] 3 = mkF m 0 #[.val (.ref a0), .val (.ref a0), .unset] [] := by first | (simp [entryFrame, mkF, argsToLocals, Value.category]; done) | rfl
  have N0 := Fr.nil n0
  have K0 : Keep h0 h0 [] := Keep.refl h0 _
  refine OGo.start (g' := mkF m 0 #[.val (.ref a0), .val (.ref a0), .unset] []) (efx) ?_
  show OGo p.tables e below (P12 Z a0 a0 h0 n0 s) (s₁.setTop (mkF m 0 #[.val (.ref a0), .val (.ref a0), .unset] []))
  refine OGo.go (B := s₁.setTop (mkF m 1 #[.val (.ref a0), .val (.ref a0), .unset] [(.ref a0)])) ?_ (fun tX kX => XS.aloadN X0.here hx rfl (hb hby d12_0) rfl rfl kX)
  refine OGo.go (B := s₁.setTop (mkF m 2 #[.val (.ref a0), .val (.ref a0), .unset] [(.ref a0), (.ref a0)])) ?_ (fun tX kX => XS.aloadN X0.here hx rfl (hb hby d12_1) rfl rfl kX)
  refine OGo.go (B := s₁.setTop (mkF m 5 #[.val (.ref a0), .val (.ref a0), .unset] [])) ?_ (fun tX kX => Jvm.RoadKit.acmp (g := (mkF m 2 #[.val (.ref a0), .val (.ref a0), .unset] [(.ref a0), (.ref a0)])) X0 hx rfl rfl rfl (pc0 := 2) (pc' := 5) (same := true) rfl (hb hby d12_2) rfl (decide_eq_true rfl) (by decide) (by decide) kX)
  refine OGo.go (B := s₁.setTop (mkF m 6 #[.val (.ref a0), .val (.ref a0), .unset] [(.int (1 : Int32))])) ?_ (fun tX kX => XS.iconst X0.here hx rfl (hb hby d12_5) kX)
  refine OGo.ret X0 (v := (some (.int (1 : Int32)))) (fun h => by rw [Bd.returns] at h; cases h) (BodyLoose.notSynchronized Bd) (fun fs hr => retN X0 hx (t := .boolean) (z := (1 : Int32)) Bd.returns (by simp) (hb hby d12_6) hr) (Q := Q12 Z a0 a0 h0 n0) ?_ (by decide) (by decide)
  show Q12 Z a0 a0 h0 n0 _ s₁.heap _
  rw [e0]
  exact ⟨rfl, N0, rfl⟩
theorem own_le (x : Int32) : ¬ (255 : Int32) < ((x &&& (255 : Int32)).toUInt32.toUInt16.toUInt32.toInt32).toUInt32.toUInt16.toUInt32.toInt32 := by
  have a := c_mask x 255 8 (by decide) (by decide)
  have b := c_i2c (x &&& (255 : Int32))
  have c := c_i2c ((x &&& (255 : Int32)).toUInt32.toUInt16.toUInt32.toInt32)
  have z : (255 : Int32).toInt = 255 := by decide
  rw [Int32.lt_iff_toInt_lt]; omega
theorem pd___C_V : parseMethodDescriptor "([C)V" = some ⟨[(.array .char)], none⟩ := by decide +kernel
theorem pd__Ljava_lang_String__Lcom_example_hushlist_hushlist_engine_StanzaException_ : parseMethodDescriptor "(Ljava/lang/String;)Lcom/example/hushlist/hushlist/engine/StanzaException;" = some ⟨[(.object "java/lang/String")], some (.object "com/example/hushlist/hushlist/engine/StanzaException")⟩ := by decide +kernel
theorem pd___Lcom_example_hushlist_hushlist_engine_Condition_ : parseMethodDescriptor "()Lcom/example/hushlist/hushlist/engine/Condition;" = some ⟨[], some (.object "com/example/hushlist/hushlist/engine/Condition")⟩ := by decide +kernel
theorem pd___Ljava_lang_String_ : parseMethodDescriptor "()Ljava/lang/String;" = some ⟨[], some (.object "java/lang/String")⟩ := by decide +kernel
theorem pd__Ljava_lang_Object__Z : parseMethodDescriptor "(Ljava/lang/Object;)Z" = some ⟨[(.object "java/lang/Object")], some .boolean⟩ := by decide +kernel
theorem pn_com_example_hushlist_hushlist_engine_StanzaExceptionConflictPinLaw : plainName "com/example/hushlist/hushlist/engine/StanzaExceptionConflictPinLaw" = true := by first | (simp [plainName, overriddenIn]; done) | decide +kernel
def Q0 (Z : State) (p0 : Int32) (p1 : Int32) (p2 : Int32) (p3 : Int32) (cs : Int32) (uc : Addr) (us : Value) (sn : Value) (h0 : Heap) (n0 : Nat) (v : Option Value) (h : Heap) (L : List Loc) : Prop := v = some (.int (1 : Int32)) ∧ Fr n0 L
def P0 (Z : State) (p0 : Int32) (p1 : Int32) (p2 : Int32) (p3 : Int32) (cs : Int32) (uc : Addr) (us : Value) (sn : Value) (h0 : Heap) (n0 : Nat) (s : State) (o : Outcome) (U' : State) : Prop := ∃ v L, o = .returned v ∧ Q0 Z p0 p1 p2 p3 cs uc us sn h0 n0 v U'.heap L ∧ ReturnedEndW s o U' L room_1.cells room_1.slots
set_option maxRecDepth 65536 in
set_option maxHeartbeats 40000000 in
theorem rm0 (l : Launch) (Z : State) (aV : Array Value) (hw : ∀ d ∈ tables_1, d.before aV Z = true) (ws : List Jvm.Cond) (p0 : Int32) (p1 : Int32) (p2 : Int32) (p3 : Int32) (cs : Int32) (uc : Addr) (us : Value) (sn : Value) (h0 : Heap) (n0 : Nat) (Z0 : n0 ≤ h0.size) (S_COMPACT_STRINGS : Sta Z h0 "java/lang/String" "COMPACT_STRINGS" "Z" (.int cs)) (S_CONFLICT : Sta Z h0 "com/example/hushlist/hushlist/engine/Condition" "CONFLICT" "Lcom/example/hushlist/hushlist/engine/Condition;" (.ref uc)) (S_UNASSIGNED_STACK : Sta Z h0 "java/lang/Throwable" "UNASSIGNED_STACK" "[Ljava/lang/StackTraceElement;" us) (S_SUPPRESSED_SENTINEL : Sta Z h0 "java/lang/Throwable" "SUPPRESSED_SENTINEL" "Ljava/util/List;" sn) (hThS : ThS Z h0) (hcs : ¬ cs = 0) (hl : l.stackTraces = true) (hus : us.isRef = true) (hsn : sn.isRef = true) :
    MetFree l x (head1 (Jvm.Cond.code x code maxLocals ret :: ws) room_1) (fun a U => a = #[(.int p0), (.int p1), (.int p2), (.int p3)] ∧ Z.Warmed39 U.vm ∧ U.heap = h0 ∧ CHv Z own_EL U.vm h0) (fun _ _ bl s _ => s.vm.MethodsKnown ∧ s.vm.FramesKnown bl) (fun _ U o U' => ∃ v L, o = .returned v ∧ Q0 Z p0 p1 p2 p3 cs uc us sn h0 n0 v U'.heap L ∧ ReturnedEndW U o U' L room_1.cells room_1.slots) := by
  refine MetFree.of_bodySF (plainFor_of_name pn_com_example_hushlist_hushlist_engine_StanzaExceptionConflictPinLaw) hisR ?_
  intro p e s m args below meth c s₁ Bd hml0 hP hK
  obtain ⟨rfl, hZ, hh, hCH⟩ := hP
  have hx := Bd.exec
  have hby := Bd.bytes
  have hml : c.maxLocals = 15 := hml0
  have hown : s.vm.findClass "com/example/hushlist/hushlist/engine/StanzaExceptionConflictPinLaw" = some m.cls := findClass_of_methodNamed Bd.named
  have hnm := (name_of_methodNamed Bd.named Bd.method).1
  have X0 : Stand p l e room_1 s m #[(.int p0), (.int p1), (.int p2), (.int p3)] below meth c s₁ [] 0 0 := Stand.of_body Bd
  have e0 : s₁.heap = h0 := by rw [← hh, Bd.state]; rfl
  have hTK := hK.1
  have hBelow := hK.2
  have X0 : Stand p l e room_1 (s.setVm s.vm) m #[(.int p0), (.int p1), (.int p2), (.int p3)] below meth c s₁ [] 0 0 := X0
  have hZ : Z.Warmed39 (s.setVm s.vm).vm := hZ
  have hown : (s.setVm s.vm).vm.findClass "com/example/hushlist/hushlist/engine/StanzaExceptionConflictPinLaw" = some m.cls := hown
  have hS0 : s.Since s.vm 0 := (State.WarmedH.refl s).since 0
  have hk0 : 0 ≤ h0.size := Nat.zero_le _
  have own_ew := own_ewT hw
  have own_wS := own_wST hw
  have efx : entryFrame m #[(.int p0), (.int p1), (.int p2), (.int p3)] maxLocals = mkF m 0 #[.val (.int p0), .val (.int p1), .val (.int p2), .val (.int p3), .unset, .unset, .unset, .unset, .unset, .unset, .unset, .unset, .unset, .unset, .unset] [] := by first | (simp [entryFrame, mkF, argsToLocals, Value.category, maxLocals]; done) | rfl
  have N0 := Fr.nil n0
  have K0 : Keep h0 h0 [] := Keep.refl h0 _
  refine OGo.start (g' := mkF m 0 #[.val (.int p0), .val (.int p1), .val (.int p2), .val (.int p3), .unset, .unset, .unset, .unset, .unset, .unset, .unset, .unset, .unset, .unset, .unset] []) (efx) ?_
  show OGo p.tables e below (P0 Z p0 p1 p2 p3 cs uc us sn h0 n0 s) (s₁.setTop (mkF m 0 #[.val (.int p0), .val (.int p1), .val (.int p2), .val (.int p3), .unset, .unset, .unset, .unset, .unset, .unset, .unset, .unset, .unset, .unset, .unset] []))
  refine OGo.go (B := s₁.setTop (mkF m 1 #[.val (.int p0), .val (.int p1), .val (.int p2), .val (.int p3), .unset, .unset, .unset, .unset, .unset, .unset, .unset, .unset, .unset, .unset, .unset] [(.int p1)])) ?_ (fun tX kX => XS.iloadN X0.here hx rfl (hb hby at_0) rfl kX)
  refine OGo.go (B := s₁.setTop (mkF m 4 #[.val (.int p0), .val (.int p1), .val (.int p2), .val (.int p3), .unset, .unset, .unset, .unset, .unset, .unset, .unset, .unset, .unset, .unset, .unset] [(.int (255 : Int32)), (.int p1)])) ?_ (fun tX kX => XS.sipush X0.here hx rfl (hb hby at_1) kX)
  refine OGo.go (B := s₁.setTop (mkF m 5 #[.val (.int p0), .val (.int p1), .val (.int p2), .val (.int p3), .unset, .unset, .unset, .unset, .unset, .unset, .unset, .unset, .unset, .unset, .unset] [(.int (p1 &&& (255 : Int32)))])) ?_ (fun tX kX => XS.iand X0.here hx rfl (hb hby at_4) rfl kX)
  refine OGo.go (B := s₁.setTop (mkF m 6 #[.val (.int p0), .val (.int p1), .val (.int p2), .val (.int p3), .unset, .unset, .unset, .unset, .unset, .unset, .unset, .unset, .unset, .unset, .unset] [(.int ((p1 &&& (255 : Int32)).toUInt32.toUInt16.toUInt32.toInt32))])) ?_ (fun tX kX => XS.i2c X0.here hx rfl (hb hby at_5) rfl kX)
  refine OGo.go (B := s₁.setTop (mkF m 8 #[.val (.int p0), .val (.int p1), .val (.int p2), .val (.int p3), .val (.int ((p1 &&& (255 : Int32)).toUInt32.toUInt16.toUInt32.toInt32)), .unset, .unset, .unset, .unset, .unset, .unset, .unset, .unset, .unset, .unset] [])) ?_ (fun tX kX => XS.istore X0.here hx rfl (hb hby at_6) rfl (l' := #[.val (.int p0), .val (.int p1), .val (.int p2), .val (.int p3), .val (.int ((p1 &&& (255 : Int32)).toUInt32.toUInt16.toUInt32.toInt32)), .unset, .unset, .unset, .unset, .unset, .unset, .unset, .unset, .unset, .unset]) rfl kX)
  refine OGo.go (B := s₁.setTop (mkF m 9 #[.val (.int p0), .val (.int p1), .val (.int p2), .val (.int p3), .val (.int ((p1 &&& (255 : Int32)).toUInt32.toUInt16.toUInt32.toInt32)), .unset, .unset, .unset, .unset, .unset, .unset, .unset, .unset, .unset, .unset] [(.int p2)])) ?_ (fun tX kX => XS.iloadN X0.here hx rfl (hb hby at_8) rfl kX)
  refine OGo.go (B := s₁.setTop (mkF m 12 #[.val (.int p0), .val (.int p1), .val (.int p2), .val (.int p3), .val (.int ((p1 &&& (255 : Int32)).toUInt32.toUInt16.toUInt32.toInt32)), .unset, .unset, .unset, .unset, .unset, .unset, .unset, .unset, .unset, .unset] [(.int (255 : Int32)), (.int p2)])) ?_ (fun tX kX => XS.sipush X0.here hx rfl (hb hby at_9) kX)
  refine OGo.go (B := s₁.setTop (mkF m 13 #[.val (.int p0), .val (.int p1), .val (.int p2), .val (.int p3), .val (.int ((p1 &&& (255 : Int32)).toUInt32.toUInt16.toUInt32.toInt32)), .unset, .unset, .unset, .unset, .unset, .unset, .unset, .unset, .unset, .unset] [(.int (p2 &&& (255 : Int32)))])) ?_ (fun tX kX => XS.iand X0.here hx rfl (hb hby at_12) rfl kX)
  refine OGo.go (B := s₁.setTop (mkF m 14 #[.val (.int p0), .val (.int p1), .val (.int p2), .val (.int p3), .val (.int ((p1 &&& (255 : Int32)).toUInt32.toUInt16.toUInt32.toInt32)), .unset, .unset, .unset, .unset, .unset, .unset, .unset, .unset, .unset, .unset] [(.int ((p2 &&& (255 : Int32)).toUInt32.toUInt16.toUInt32.toInt32))])) ?_ (fun tX kX => XS.i2c X0.here hx rfl (hb hby at_13) rfl kX)
  refine OGo.go (B := s₁.setTop (mkF m 16 #[.val (.int p0), .val (.int p1), .val (.int p2), .val (.int p3), .val (.int ((p1 &&& (255 : Int32)).toUInt32.toUInt16.toUInt32.toInt32)), .val (.int ((p2 &&& (255 : Int32)).toUInt32.toUInt16.toUInt32.toInt32)), .unset, .unset, .unset, .unset, .unset, .unset, .unset, .unset, .unset] [])) ?_ (fun tX kX => XS.istore X0.here hx rfl (hb hby at_14) rfl (l' := #[.val (.int p0), .val (.int p1), .val (.int p2), .val (.int p3), .val (.int ((p1 &&& (255 : Int32)).toUInt32.toUInt16.toUInt32.toInt32)), .val (.int ((p2 &&& (255 : Int32)).toUInt32.toUInt16.toUInt32.toInt32)), .unset, .unset, .unset, .unset, .unset, .unset, .unset, .unset, .unset]) rfl kX)
  refine OGo.go (B := s₁.setTop (mkF m 17 #[.val (.int p0), .val (.int p1), .val (.int p2), .val (.int p3), .val (.int ((p1 &&& (255 : Int32)).toUInt32.toUInt16.toUInt32.toInt32)), .val (.int ((p2 &&& (255 : Int32)).toUInt32.toUInt16.toUInt32.toInt32)), .unset, .unset, .unset, .unset, .unset, .unset, .unset, .unset, .unset] [(.int p3)])) ?_ (fun tX kX => XS.iloadN X0.here hx rfl (hb hby at_16) rfl kX)
  refine OGo.go (B := s₁.setTop (mkF m 20 #[.val (.int p0), .val (.int p1), .val (.int p2), .val (.int p3), .val (.int ((p1 &&& (255 : Int32)).toUInt32.toUInt16.toUInt32.toInt32)), .val (.int ((p2 &&& (255 : Int32)).toUInt32.toUInt16.toUInt32.toInt32)), .unset, .unset, .unset, .unset, .unset, .unset, .unset, .unset, .unset] [(.int (255 : Int32)), (.int p3)])) ?_ (fun tX kX => XS.sipush X0.here hx rfl (hb hby at_17) kX)
  refine OGo.go (B := s₁.setTop (mkF m 21 #[.val (.int p0), .val (.int p1), .val (.int p2), .val (.int p3), .val (.int ((p1 &&& (255 : Int32)).toUInt32.toUInt16.toUInt32.toInt32)), .val (.int ((p2 &&& (255 : Int32)).toUInt32.toUInt16.toUInt32.toInt32)), .unset, .unset, .unset, .unset, .unset, .unset, .unset, .unset, .unset] [(.int (p3 &&& (255 : Int32)))])) ?_ (fun tX kX => XS.iand X0.here hx rfl (hb hby at_20) rfl kX)
  refine OGo.go (B := s₁.setTop (mkF m 22 #[.val (.int p0), .val (.int p1), .val (.int p2), .val (.int p3), .val (.int ((p1 &&& (255 : Int32)).toUInt32.toUInt16.toUInt32.toInt32)), .val (.int ((p2 &&& (255 : Int32)).toUInt32.toUInt16.toUInt32.toInt32)), .unset, .unset, .unset, .unset, .unset, .unset, .unset, .unset, .unset] [(.int ((p3 &&& (255 : Int32)).toUInt32.toUInt16.toUInt32.toInt32))])) ?_ (fun tX kX => XS.i2c X0.here hx rfl (hb hby at_21) rfl kX)
  refine OGo.go (B := s₁.setTop (mkF m 24 #[.val (.int p0), .val (.int p1), .val (.int p2), .val (.int p3), .val (.int ((p1 &&& (255 : Int32)).toUInt32.toUInt16.toUInt32.toInt32)), .val (.int ((p2 &&& (255 : Int32)).toUInt32.toUInt16.toUInt32.toInt32)), .val (.int ((p3 &&& (255 : Int32)).toUInt32.toUInt16.toUInt32.toInt32)), .unset, .unset, .unset, .unset, .unset, .unset, .unset, .unset] [])) ?_ (fun tX kX => XS.istore X0.here hx rfl (hb hby at_22) rfl (l' := #[.val (.int p0), .val (.int p1), .val (.int p2), .val (.int p3), .val (.int ((p1 &&& (255 : Int32)).toUInt32.toUInt16.toUInt32.toInt32)), .val (.int ((p2 &&& (255 : Int32)).toUInt32.toUInt16.toUInt32.toInt32)), .val (.int ((p3 &&& (255 : Int32)).toUInt32.toUInt16.toUInt32.toInt32)), .unset, .unset, .unset, .unset, .unset, .unset, .unset, .unset]) rfl kX)
  refine OGo.go (B := s₁.setTop (mkF m 25 #[.val (.int p0), .val (.int p1), .val (.int p2), .val (.int p3), .val (.int ((p1 &&& (255 : Int32)).toUInt32.toUInt16.toUInt32.toInt32)), .val (.int ((p2 &&& (255 : Int32)).toUInt32.toUInt16.toUInt32.toInt32)), .val (.int ((p3 &&& (255 : Int32)).toUInt32.toUInt16.toUInt32.toInt32)), .unset, .unset, .unset, .unset, .unset, .unset, .unset, .unset] [(.int (0 : Int32))])) ?_ (fun tX kX => XS.iconst X0.here hx rfl (hb hby at_24) kX)
  obtain ⟨T1, h1, k1, X1, e1, E1, A1, EA1, st1⟩ := newPE X0 hx hZ (hw _ (List.mem_of_getElem? (i := 0) rfl)) e0 (g := (mkF m 25 #[.val (.int p0), .val (.int p1), .val (.int p2), .val (.int p3), .val (.int ((p1 &&& (255 : Int32)).toUInt32.toUInt16.toUInt32.toInt32)), .val (.int ((p2 &&& (255 : Int32)).toUInt32.toUInt16.toUInt32.toInt32)), .val (.int ((p3 &&& (255 : Int32)).toUInt32.toUInt16.toUInt32.toInt32)), .unset, .unset, .unset, .unset, .unset, .unset, .unset, .unset] [(.int (0 : Int32))])) rfl (hb hby at_25) rfl (by decide) (cap := 0) (by decide) (by decide) (by decide) (by decide) (ad := "[C") (by decide)
  obtain ⟨b1, g1⟩ : ∃ z, z = h0.size := ⟨_, rfl⟩
  rw [← g1] at A1 EA1 st1
  have CHo1 := hCH
  have hCH := CHv.ext E1 CHo1
  have S_COMPACT_STRINGS := S_COMPACT_STRINGS.ext E1
  have S_CONFLICT := S_CONFLICT.ext E1
  have S_UNASSIGNED_STACK := S_UNASSIGNED_STACK.ext E1
  have S_SUPPRESSED_SENTINEL := S_SUPPRESSED_SENTINEL.ext E1
  have hThS := hThS.ext E1
  have Sf_b1 : Safe Z own_EL s.vm h1 b1 := Safe.ext E1 CHo1 (Safe.new (Nat.le_of_eq g1.symm))
  have g_b1 : n0 ≤ b1 := Nat.le_trans Z0 (Nat.le_of_eq g1.symm)
  have sz_b1 : h0.size ≤ b1 := Nat.le_trans K0.1 (Nat.le_of_eq g1.symm)
  have zn1 : n0 ≤ h1.size := Nat.le_trans Z0 E1.1
  have hk1 := Nat.le_trans hk0 E1.1
  have K1 := K0.ext E1
  have E_b1 := EA1
  have V_b1 : Arv Z h1 b1 k1 .char (0 : Int32) [] (.int (0 : Int32)) := Arv.new A1 (by decide)
  refine OGo.go (B := T1.setTop (mkF m 27 #[.val (.int p0), .val (.int p1), .val (.int p2), .val (.int p3), .val (.int ((p1 &&& (255 : Int32)).toUInt32.toUInt16.toUInt32.toInt32)), .val (.int ((p2 &&& (255 : Int32)).toUInt32.toUInt16.toUInt32.toInt32)), .val (.int ((p3 &&& (255 : Int32)).toUInt32.toUInt16.toUInt32.toInt32)), .unset, .unset, .unset, .unset, .unset, .unset, .unset, .unset] [(.ref b1)])) ?_ st1
  refine OGo.go (B := T1.setTop (mkF m 29 #[.val (.int p0), .val (.int p1), .val (.int p2), .val (.int p3), .val (.int ((p1 &&& (255 : Int32)).toUInt32.toUInt16.toUInt32.toInt32)), .val (.int ((p2 &&& (255 : Int32)).toUInt32.toUInt16.toUInt32.toInt32)), .val (.int ((p3 &&& (255 : Int32)).toUInt32.toUInt16.toUInt32.toInt32)), .val (.ref b1), .unset, .unset, .unset, .unset, .unset, .unset, .unset] [])) ?_ (fun tX kX => XS.astore X1.here hx rfl (hb hby at_27) rfl rfl (l' := #[.val (.int p0), .val (.int p1), .val (.int p2), .val (.int p3), .val (.int ((p1 &&& (255 : Int32)).toUInt32.toUInt16.toUInt32.toInt32)), .val (.int ((p2 &&& (255 : Int32)).toUInt32.toUInt16.toUInt32.toInt32)), .val (.int ((p3 &&& (255 : Int32)).toUInt32.toUInt16.toUInt32.toInt32)), .val (.ref b1), .unset, .unset, .unset, .unset, .unset, .unset, .unset]) rfl kX)
  refine OGo.go (B := T1.setTop (mkF m 30 #[.val (.int p0), .val (.int p1), .val (.int p2), .val (.int p3), .val (.int ((p1 &&& (255 : Int32)).toUInt32.toUInt16.toUInt32.toInt32)), .val (.int ((p2 &&& (255 : Int32)).toUInt32.toUInt16.toUInt32.toInt32)), .val (.int ((p3 &&& (255 : Int32)).toUInt32.toUInt16.toUInt32.toInt32)), .val (.ref b1), .unset, .unset, .unset, .unset, .unset, .unset, .unset] [(.int (1 : Int32))])) ?_ (fun tX kX => XS.iconst X1.here hx rfl (hb hby at_29) kX)
  obtain ⟨T2, h2, k2, X2, e2, E2, A2, EA2, st2⟩ := newPE X1 hx hZ (hw _ (List.mem_of_getElem? (i := 0) rfl)) e1 (g := (mkF m 30 #[.val (.int p0), .val (.int p1), .val (.int p2), .val (.int p3), .val (.int ((p1 &&& (255 : Int32)).toUInt32.toUInt16.toUInt32.toInt32)), .val (.int ((p2 &&& (255 : Int32)).toUInt32.toUInt16.toUInt32.toInt32)), .val (.int ((p3 &&& (255 : Int32)).toUInt32.toUInt16.toUInt32.toInt32)), .val (.ref b1), .unset, .unset, .unset, .unset, .unset, .unset, .unset] [(.int (1 : Int32))])) rfl (hb hby at_30) rfl (by decide) (cap := 1) (by decide) (by decide) (by decide) (by decide) (ad := "[C") (by decide)
  obtain ⟨b2, g2⟩ : ∃ z, z = h1.size := ⟨_, rfl⟩
  rw [← g2] at A2 EA2 st2
  have ne_b1_b2 : b1 ≠ b2 := Nat.ne_of_lt (Nat.lt_of_lt_of_le E_b1.lt (Nat.le_of_eq g2.symm))
  have CHo2 := hCH
  have Sf_b1 := Safe.ext E2 CHo2 Sf_b1
  have hCH := CHv.ext E2 CHo2
  have S_COMPACT_STRINGS := S_COMPACT_STRINGS.ext E2
  have S_CONFLICT := S_CONFLICT.ext E2
  have S_UNASSIGNED_STACK := S_UNASSIGNED_STACK.ext E2
  have S_SUPPRESSED_SENTINEL := S_SUPPRESSED_SENTINEL.ext E2
  have hThS := hThS.ext E2
  have E_b1 := E_b1.ext E2
  have V_b1 := V_b1.ext E2
  have Sf_b2 : Safe Z own_EL s.vm h2 b2 := Safe.ext E2 CHo2 (Safe.new (Nat.le_of_eq g2.symm))
  have g_b2 : n0 ≤ b2 := Nat.le_trans zn1 (Nat.le_of_eq g2.symm)
  have sz_b2 : h0.size ≤ b2 := Nat.le_trans K1.1 (Nat.le_of_eq g2.symm)
  have zn2 : n0 ≤ h2.size := Nat.le_trans zn1 E2.1
  have hk2 := Nat.le_trans hk1 E2.1
  have K2 := K1.ext E2
  have E_b2 := EA2
  have V_b2 : Arv Z h2 b2 k2 .char (1 : Int32) [(.int (0 : Int32))] (.int (0 : Int32)) := (Arv.new A2 (by decide)).pad (pad_rep [] (.int (0 : Int32)) 1)
  refine OGo.go (B := T2.setTop (mkF m 32 #[.val (.int p0), .val (.int p1), .val (.int p2), .val (.int p3), .val (.int ((p1 &&& (255 : Int32)).toUInt32.toUInt16.toUInt32.toInt32)), .val (.int ((p2 &&& (255 : Int32)).toUInt32.toUInt16.toUInt32.toInt32)), .val (.int ((p3 &&& (255 : Int32)).toUInt32.toUInt16.toUInt32.toInt32)), .val (.ref b1), .unset, .unset, .unset, .unset, .unset, .unset, .unset] [(.ref b2)])) ?_ st2
  refine OGo.go (B := T2.setTop (mkF m 33 #[.val (.int p0), .val (.int p1), .val (.int p2), .val (.int p3), .val (.int ((p1 &&& (255 : Int32)).toUInt32.toUInt16.toUInt32.toInt32)), .val (.int ((p2 &&& (255 : Int32)).toUInt32.toUInt16.toUInt32.toInt32)), .val (.int ((p3 &&& (255 : Int32)).toUInt32.toUInt16.toUInt32.toInt32)), .val (.ref b1), .unset, .unset, .unset, .unset, .unset, .unset, .unset] [(.ref b2), (.ref b2)])) ?_ (fun tX kX => XS.dup X2.here hx rfl (hb hby at_32) rfl rfl kX)
  refine OGo.go (B := T2.setTop (mkF m 34 #[.val (.int p0), .val (.int p1), .val (.int p2), .val (.int p3), .val (.int ((p1 &&& (255 : Int32)).toUInt32.toUInt16.toUInt32.toInt32)), .val (.int ((p2 &&& (255 : Int32)).toUInt32.toUInt16.toUInt32.toInt32)), .val (.int ((p3 &&& (255 : Int32)).toUInt32.toUInt16.toUInt32.toInt32)), .val (.ref b1), .unset, .unset, .unset, .unset, .unset, .unset, .unset] [(.int (0 : Int32)), (.ref b2), (.ref b2)])) ?_ (fun tX kX => XS.iconst X2.here hx rfl (hb hby at_33) kX)
  refine OGo.go (B := T2.setTop (mkF m 36 #[.val (.int p0), .val (.int p1), .val (.int p2), .val (.int p3), .val (.int ((p1 &&& (255 : Int32)).toUInt32.toUInt16.toUInt32.toInt32)), .val (.int ((p2 &&& (255 : Int32)).toUInt32.toUInt16.toUInt32.toInt32)), .val (.int ((p3 &&& (255 : Int32)).toUInt32.toUInt16.toUInt32.toInt32)), .val (.ref b1), .unset, .unset, .unset, .unset, .unset, .unset, .unset] [(.int ((p1 &&& (255 : Int32)).toUInt32.toUInt16.toUInt32.toInt32)), (.int (0 : Int32)), (.ref b2), (.ref b2)])) ?_ (fun tX kX => XS.iload X2.here hx rfl (hb hby at_34) rfl kX)
  obtain ⟨cl3, Ar3, qa3, S3, N3', H3, G3⟩ := id V_b2
  have hin3 := inb_of (j := (0 : Int32)) S3 ⟨by decide, by decide⟩
  obtain ⟨T3, h3, X3, e3, W3, st3⟩ := stC X2 hx hZ e2 Ar3 (j := (0 : Int32)) hin3 (g := (mkF m 36 #[.val (.int p0), .val (.int p1), .val (.int p2), .val (.int p3), .val (.int ((p1 &&& (255 : Int32)).toUInt32.toUInt16.toUInt32.toInt32)), .val (.int ((p2 &&& (255 : Int32)).toUInt32.toUInt16.toUInt32.toInt32)), .val (.int ((p3 &&& (255 : Int32)).toUInt32.toUInt16.toUInt32.toInt32)), .val (.ref b1), .unset, .unset, .unset, .unset, .unset, .unset, .unset] [(.int ((p1 &&& (255 : Int32)).toUInt32.toUInt16.toUInt32.toInt32)), (.int (0 : Int32)), (.ref b2), (.ref b2)])) rfl rfl (hb hby at_36)
  have V_b2_3 := Arv.set Ar3 qa3 S3 N3' H3 G3 (fits_nar_char _) W3 0 rfl (Nat.le_of_ble_eq_true rfl)
  have Sfo3 := (Safe.arr (EL := own_EL) hZ.alike Ar3 (by decide))
  have CHo3 := hCH
  have Sf_b1 := Safe.wr W3 Sfo3 CHo3 Sf_b1
  have Sf_b2 := Safe.wr W3 Sfo3 CHo3 Sf_b2
  have hCH := CHv.wr W3 Sfo3 CHo3
  have S_COMPACT_STRINGS := S_COMPACT_STRINGS.wr W3
  have S_CONFLICT := S_CONFLICT.wr W3
  have S_UNASSIGNED_STACK := S_UNASSIGNED_STACK.wr W3
  have S_SUPPRESSED_SENTINEL := S_SUPPRESSED_SENTINEL.wr W3
  have hThS := hThS.wr W3
  have E_b1 := E_b1.wr W3
  have V_b1 := V_b1.other W3 ne_b1_b2
  have E_b2 := E_b2.wr W3
  have K3 := K2.wr W3 (Or.inr sz_b2)
  have zn3 : n0 ≤ h3.size := Nat.le_trans zn2 (Keep.of_wr W3).1
  have hk3 := Nat.le_trans hk2 (Keep.of_wr W3).1
  have N3 := Fr.snoc X3 N0 g_b2
  have V_b2 : Arv Z h3 b2 k2 .char (1 : Int32) [(.int (((p1 &&& (255 : Int32)).toUInt32.toUInt16.toUInt32.toInt32).toUInt32.toUInt16.toUInt32.toInt32))] (.int (0 : Int32)) := V_b2_3
  refine OGo.go (B := T3.setTop (mkF m 37 #[.val (.int p0), .val (.int p1), .val (.int p2), .val (.int p3), .val (.int ((p1 &&& (255 : Int32)).toUInt32.toUInt16.toUInt32.toInt32)), .val (.int ((p2 &&& (255 : Int32)).toUInt32.toUInt16.toUInt32.toInt32)), .val (.int ((p3 &&& (255 : Int32)).toUInt32.toUInt16.toUInt32.toInt32)), .val (.ref b1), .unset, .unset, .unset, .unset, .unset, .unset, .unset] [(.ref b2)])) ?_ st3
  refine OGo.go (B := T3.setTop (mkF m 39 #[.val (.int p0), .val (.int p1), .val (.int p2), .val (.int p3), .val (.int ((p1 &&& (255 : Int32)).toUInt32.toUInt16.toUInt32.toInt32)), .val (.int ((p2 &&& (255 : Int32)).toUInt32.toUInt16.toUInt32.toInt32)), .val (.int ((p3 &&& (255 : Int32)).toUInt32.toUInt16.toUInt32.toInt32)), .val (.ref b1), .val (.ref b2), .unset, .unset, .unset, .unset, .unset, .unset] [])) ?_ (fun tX kX => XS.astore X3.here hx rfl (hb hby at_37) rfl rfl (l' := #[.val (.int p0), .val (.int p1), .val (.int p2), .val (.int p3), .val (.int ((p1 &&& (255 : Int32)).toUInt32.toUInt16.toUInt32.toInt32)), .val (.int ((p2 &&& (255 : Int32)).toUInt32.toUInt16.toUInt32.toInt32)), .val (.int ((p3 &&& (255 : Int32)).toUInt32.toUInt16.toUInt32.toInt32)), .val (.ref b1), .val (.ref b2), .unset, .unset, .unset, .unset, .unset, .unset]) rfl kX)
  refine OGo.go (B := T3.setTop (mkF m 40 #[.val (.int p0), .val (.int p1), .val (.int p2), .val (.int p3), .val (.int ((p1 &&& (255 : Int32)).toUInt32.toUInt16.toUInt32.toInt32)), .val (.int ((p2 &&& (255 : Int32)).toUInt32.toUInt16.toUInt32.toInt32)), .val (.int ((p3 &&& (255 : Int32)).toUInt32.toUInt16.toUInt32.toInt32)), .val (.ref b1), .val (.ref b2), .unset, .unset, .unset, .unset, .unset, .unset] [(.int (2 : Int32))])) ?_ (fun tX kX => XS.iconst X3.here hx rfl (hb hby at_39) kX)
  obtain ⟨T4, h4, k4, X4, e4, E4, A4, EA4, st4⟩ := newPE X3 hx hZ (hw _ (List.mem_of_getElem? (i := 0) rfl)) e3 (g := (mkF m 40 #[.val (.int p0), .val (.int p1), .val (.int p2), .val (.int p3), .val (.int ((p1 &&& (255 : Int32)).toUInt32.toUInt16.toUInt32.toInt32)), .val (.int ((p2 &&& (255 : Int32)).toUInt32.toUInt16.toUInt32.toInt32)), .val (.int ((p3 &&& (255 : Int32)).toUInt32.toUInt16.toUInt32.toInt32)), .val (.ref b1), .val (.ref b2), .unset, .unset, .unset, .unset, .unset, .unset] [(.int (2 : Int32))])) rfl (hb hby at_40) rfl (by decide) (cap := 2) (by decide) (by decide) (by decide) (by decide) (ad := "[C") (by decide)
  obtain ⟨b4, g4⟩ : ∃ z, z = h3.size := ⟨_, rfl⟩
  rw [← g4] at A4 EA4 st4
  have ne_b1_b4 : b1 ≠ b4 := Nat.ne_of_lt (Nat.lt_of_lt_of_le E_b1.lt (Nat.le_of_eq g4.symm))
  have ne_b2_b4 : b2 ≠ b4 := Nat.ne_of_lt (Nat.lt_of_lt_of_le E_b2.lt (Nat.le_of_eq g4.symm))
  have CHo4 := hCH
  have Sf_b1 := Safe.ext E4 CHo4 Sf_b1
  have Sf_b2 := Safe.ext E4 CHo4 Sf_b2
  have hCH := CHv.ext E4 CHo4
  have S_COMPACT_STRINGS := S_COMPACT_STRINGS.ext E4
  have S_CONFLICT := S_CONFLICT.ext E4
  have S_UNASSIGNED_STACK := S_UNASSIGNED_STACK.ext E4
  have S_SUPPRESSED_SENTINEL := S_SUPPRESSED_SENTINEL.ext E4
  have hThS := hThS.ext E4
  have E_b1 := E_b1.ext E4
  have V_b1 := V_b1.ext E4
  have E_b2 := E_b2.ext E4
  have V_b2 := V_b2.ext E4
  have Sf_b4 : Safe Z own_EL s.vm h4 b4 := Safe.ext E4 CHo4 (Safe.new (Nat.le_of_eq g4.symm))
  have g_b4 : n0 ≤ b4 := Nat.le_trans zn3 (Nat.le_of_eq g4.symm)
  have sz_b4 : h0.size ≤ b4 := Nat.le_trans K3.1 (Nat.le_of_eq g4.symm)
  have zn4 : n0 ≤ h4.size := Nat.le_trans zn3 E4.1
  have hk4 := Nat.le_trans hk3 E4.1
  have K4 := K3.ext E4
  have E_b4 := EA4
  have V_b4 : Arv Z h4 b4 k4 .char (2 : Int32) [(.int (0 : Int32)), (.int (0 : Int32))] (.int (0 : Int32)) := (Arv.new A4 (by decide)).pad (pad_rep [] (.int (0 : Int32)) 2)
  refine OGo.go (B := T4.setTop (mkF m 42 #[.val (.int p0), .val (.int p1), .val (.int p2), .val (.int p3), .val (.int ((p1 &&& (255 : Int32)).toUInt32.toUInt16.toUInt32.toInt32)), .val (.int ((p2 &&& (255 : Int32)).toUInt32.toUInt16.toUInt32.toInt32)), .val (.int ((p3 &&& (255 : Int32)).toUInt32.toUInt16.toUInt32.toInt32)), .val (.ref b1), .val (.ref b2), .unset, .unset, .unset, .unset, .unset, .unset] [(.ref b4)])) ?_ st4
  refine OGo.go (B := T4.setTop (mkF m 43 #[.val (.int p0), .val (.int p1), .val (.int p2), .val (.int p3), .val (.int ((p1 &&& (255 : Int32)).toUInt32.toUInt16.toUInt32.toInt32)), .val (.int ((p2 &&& (255 : Int32)).toUInt32.toUInt16.toUInt32.toInt32)), .val (.int ((p3 &&& (255 : Int32)).toUInt32.toUInt16.toUInt32.toInt32)), .val (.ref b1), .val (.ref b2), .unset, .unset, .unset, .unset, .unset, .unset] [(.ref b4), (.ref b4)])) ?_ (fun tX kX => XS.dup X4.here hx rfl (hb hby at_42) rfl rfl kX)
  refine OGo.go (B := T4.setTop (mkF m 44 #[.val (.int p0), .val (.int p1), .val (.int p2), .val (.int p3), .val (.int ((p1 &&& (255 : Int32)).toUInt32.toUInt16.toUInt32.toInt32)), .val (.int ((p2 &&& (255 : Int32)).toUInt32.toUInt16.toUInt32.toInt32)), .val (.int ((p3 &&& (255 : Int32)).toUInt32.toUInt16.toUInt32.toInt32)), .val (.ref b1), .val (.ref b2), .unset, .unset, .unset, .unset, .unset, .unset] [(.int (0 : Int32)), (.ref b4), (.ref b4)])) ?_ (fun tX kX => XS.iconst X4.here hx rfl (hb hby at_43) kX)
  refine OGo.go (B := T4.setTop (mkF m 46 #[.val (.int p0), .val (.int p1), .val (.int p2), .val (.int p3), .val (.int ((p1 &&& (255 : Int32)).toUInt32.toUInt16.toUInt32.toInt32)), .val (.int ((p2 &&& (255 : Int32)).toUInt32.toUInt16.toUInt32.toInt32)), .val (.int ((p3 &&& (255 : Int32)).toUInt32.toUInt16.toUInt32.toInt32)), .val (.ref b1), .val (.ref b2), .unset, .unset, .unset, .unset, .unset, .unset] [(.int ((p1 &&& (255 : Int32)).toUInt32.toUInt16.toUInt32.toInt32)), (.int (0 : Int32)), (.ref b4), (.ref b4)])) ?_ (fun tX kX => XS.iload X4.here hx rfl (hb hby at_44) rfl kX)
  obtain ⟨cl5, Ar5, qa5, S5, N5', H5, G5⟩ := id V_b4
  have hin5 := inb_of (j := (0 : Int32)) S5 ⟨by decide, by decide⟩
  obtain ⟨T5, h5, X5, e5, W5, st5⟩ := stC X4 hx hZ e4 Ar5 (j := (0 : Int32)) hin5 (g := (mkF m 46 #[.val (.int p0), .val (.int p1), .val (.int p2), .val (.int p3), .val (.int ((p1 &&& (255 : Int32)).toUInt32.toUInt16.toUInt32.toInt32)), .val (.int ((p2 &&& (255 : Int32)).toUInt32.toUInt16.toUInt32.toInt32)), .val (.int ((p3 &&& (255 : Int32)).toUInt32.toUInt16.toUInt32.toInt32)), .val (.ref b1), .val (.ref b2), .unset, .unset, .unset, .unset, .unset, .unset] [(.int ((p1 &&& (255 : Int32)).toUInt32.toUInt16.toUInt32.toInt32)), (.int (0 : Int32)), (.ref b4), (.ref b4)])) rfl rfl (hb hby at_46)
  have V_b4_5 := Arv.set Ar5 qa5 S5 N5' H5 G5 (fits_nar_char _) W5 0 rfl (Nat.le_of_ble_eq_true rfl)
  have Sfo5 := (Safe.arr (EL := own_EL) hZ.alike Ar5 (by decide))
  have CHo5 := hCH
  have Sf_b1 := Safe.wr W5 Sfo5 CHo5 Sf_b1
  have Sf_b2 := Safe.wr W5 Sfo5 CHo5 Sf_b2
  have Sf_b4 := Safe.wr W5 Sfo5 CHo5 Sf_b4
  have hCH := CHv.wr W5 Sfo5 CHo5
  have S_COMPACT_STRINGS := S_COMPACT_STRINGS.wr W5
  have S_CONFLICT := S_CONFLICT.wr W5
  have S_UNASSIGNED_STACK := S_UNASSIGNED_STACK.wr W5
  have S_SUPPRESSED_SENTINEL := S_SUPPRESSED_SENTINEL.wr W5
  have hThS := hThS.wr W5
  have E_b1 := E_b1.wr W5
  have V_b1 := V_b1.other W5 ne_b1_b4
  have E_b2 := E_b2.wr W5
  have V_b2 := V_b2.other W5 ne_b2_b4
  have E_b4 := E_b4.wr W5
  have K5 := K4.wr W5 (Or.inr sz_b4)
  have zn5 : n0 ≤ h5.size := Nat.le_trans zn4 (Keep.of_wr W5).1
  have hk5 := Nat.le_trans hk4 (Keep.of_wr W5).1
  have N5 := Fr.snoc X5 N3 g_b4
  have V_b4 : Arv Z h5 b4 k4 .char (2 : Int32) [(.int (((p1 &&& (255 : Int32)).toUInt32.toUInt16.toUInt32.toInt32).toUInt32.toUInt16.toUInt32.toInt32)), (.int (0 : Int32))] (.int (0 : Int32)) := V_b4_5
  refine OGo.go (B := T5.setTop (mkF m 47 #[.val (.int p0), .val (.int p1), .val (.int p2), .val (.int p3), .val (.int ((p1 &&& (255 : Int32)).toUInt32.toUInt16.toUInt32.toInt32)), .val (.int ((p2 &&& (255 : Int32)).toUInt32.toUInt16.toUInt32.toInt32)), .val (.int ((p3 &&& (255 : Int32)).toUInt32.toUInt16.toUInt32.toInt32)), .val (.ref b1), .val (.ref b2), .unset, .unset, .unset, .unset, .unset, .unset] [(.ref b4)])) ?_ st5
  refine OGo.go (B := T5.setTop (mkF m 48 #[.val (.int p0), .val (.int p1), .val (.int p2), .val (.int p3), .val (.int ((p1 &&& (255 : Int32)).toUInt32.toUInt16.toUInt32.toInt32)), .val (.int ((p2 &&& (255 : Int32)).toUInt32.toUInt16.toUInt32.toInt32)), .val (.int ((p3 &&& (255 : Int32)).toUInt32.toUInt16.toUInt32.toInt32)), .val (.ref b1), .val (.ref b2), .unset, .unset, .unset, .unset, .unset, .unset] [(.ref b4), (.ref b4)])) ?_ (fun tX kX => XS.dup X5.here hx rfl (hb hby at_47) rfl rfl kX)
  refine OGo.go (B := T5.setTop (mkF m 49 #[.val (.int p0), .val (.int p1), .val (.int p2), .val (.int p3), .val (.int ((p1 &&& (255 : Int32)).toUInt32.toUInt16.toUInt32.toInt32)), .val (.int ((p2 &&& (255 : Int32)).toUInt32.toUInt16.toUInt32.toInt32)), .val (.int ((p3 &&& (255 : Int32)).toUInt32.toUInt16.toUInt32.toInt32)), .val (.ref b1), .val (.ref b2), .unset, .unset, .unset, .unset, .unset, .unset] [(.int (1 : Int32)), (.ref b4), (.ref b4)])) ?_ (fun tX kX => XS.iconst X5.here hx rfl (hb hby at_48) kX)
  refine OGo.go (B := T5.setTop (mkF m 51 #[.val (.int p0), .val (.int p1), .val (.int p2), .val (.int p3), .val (.int ((p1 &&& (255 : Int32)).toUInt32.toUInt16.toUInt32.toInt32)), .val (.int ((p2 &&& (255 : Int32)).toUInt32.toUInt16.toUInt32.toInt32)), .val (.int ((p3 &&& (255 : Int32)).toUInt32.toUInt16.toUInt32.toInt32)), .val (.ref b1), .val (.ref b2), .unset, .unset, .unset, .unset, .unset, .unset] [(.int ((p2 &&& (255 : Int32)).toUInt32.toUInt16.toUInt32.toInt32)), (.int (1 : Int32)), (.ref b4), (.ref b4)])) ?_ (fun tX kX => XS.iload X5.here hx rfl (hb hby at_49) rfl kX)
  obtain ⟨cl6, Ar6, qa6, S6, N6', H6, G6⟩ := id V_b4
  have hin6 := inb_of (j := (1 : Int32)) S6 ⟨by decide, by decide⟩
  obtain ⟨T6, h6, X6, e6, W6, st6⟩ := stC X5 hx hZ e5 Ar6 (j := (1 : Int32)) hin6 (g := (mkF m 51 #[.val (.int p0), .val (.int p1), .val (.int p2), .val (.int p3), .val (.int ((p1 &&& (255 : Int32)).toUInt32.toUInt16.toUInt32.toInt32)), .val (.int ((p2 &&& (255 : Int32)).toUInt32.toUInt16.toUInt32.toInt32)), .val (.int ((p3 &&& (255 : Int32)).toUInt32.toUInt16.toUInt32.toInt32)), .val (.ref b1), .val (.ref b2), .unset, .unset, .unset, .unset, .unset, .unset] [(.int ((p2 &&& (255 : Int32)).toUInt32.toUInt16.toUInt32.toInt32)), (.int (1 : Int32)), (.ref b4), (.ref b4)])) rfl rfl (hb hby at_51)
  have V_b4_6 := Arv.set Ar6 qa6 S6 N6' H6 G6 (fits_nar_char _) W6 1 rfl (Nat.le_of_ble_eq_true rfl)
  have Sfo6 := (Safe.arr (EL := own_EL) hZ.alike Ar6 (by decide))
  have CHo6 := hCH
  have Sf_b1 := Safe.wr W6 Sfo6 CHo6 Sf_b1
  have Sf_b2 := Safe.wr W6 Sfo6 CHo6 Sf_b2
  have Sf_b4 := Safe.wr W6 Sfo6 CHo6 Sf_b4
  have hCH := CHv.wr W6 Sfo6 CHo6
  have S_COMPACT_STRINGS := S_COMPACT_STRINGS.wr W6
  have S_CONFLICT := S_CONFLICT.wr W6
  have S_UNASSIGNED_STACK := S_UNASSIGNED_STACK.wr W6
  have S_SUPPRESSED_SENTINEL := S_SUPPRESSED_SENTINEL.wr W6
  have hThS := hThS.wr W6
  have E_b1 := E_b1.wr W6
  have V_b1 := V_b1.other W6 ne_b1_b4
  have E_b2 := E_b2.wr W6
  have V_b2 := V_b2.other W6 ne_b2_b4
  have E_b4 := E_b4.wr W6
  have K6 := K5.wr W6 (Or.inr sz_b4)
  have zn6 : n0 ≤ h6.size := Nat.le_trans zn5 (Keep.of_wr W6).1
  have hk6 := Nat.le_trans hk5 (Keep.of_wr W6).1
  have N6 := Fr.snoc X6 N5 g_b4
  have V_b4 : Arv Z h6 b4 k4 .char (2 : Int32) [(.int (((p1 &&& (255 : Int32)).toUInt32.toUInt16.toUInt32.toInt32).toUInt32.toUInt16.toUInt32.toInt32)), (.int (((p2 &&& (255 : Int32)).toUInt32.toUInt16.toUInt32.toInt32).toUInt32.toUInt16.toUInt32.toInt32))] (.int (0 : Int32)) := V_b4_6
  refine OGo.go (B := T6.setTop (mkF m 52 #[.val (.int p0), .val (.int p1), .val (.int p2), .val (.int p3), .val (.int ((p1 &&& (255 : Int32)).toUInt32.toUInt16.toUInt32.toInt32)), .val (.int ((p2 &&& (255 : Int32)).toUInt32.toUInt16.toUInt32.toInt32)), .val (.int ((p3 &&& (255 : Int32)).toUInt32.toUInt16.toUInt32.toInt32)), .val (.ref b1), .val (.ref b2), .unset, .unset, .unset, .unset, .unset, .unset] [(.ref b4)])) ?_ st6
  refine OGo.go (B := T6.setTop (mkF m 54 #[.val (.int p0), .val (.int p1), .val (.int p2), .val (.int p3), .val (.int ((p1 &&& (255 : Int32)).toUInt32.toUInt16.toUInt32.toInt32)), .val (.int ((p2 &&& (255 : Int32)).toUInt32.toUInt16.toUInt32.toInt32)), .val (.int ((p3 &&& (255 : Int32)).toUInt32.toUInt16.toUInt32.toInt32)), .val (.ref b1), .val (.ref b2), .val (.ref b4), .unset, .unset, .unset, .unset, .unset] [])) ?_ (fun tX kX => XS.astore X6.here hx rfl (hb hby at_52) rfl rfl (l' := #[.val (.int p0), .val (.int p1), .val (.int p2), .val (.int p3), .val (.int ((p1 &&& (255 : Int32)).toUInt32.toUInt16.toUInt32.toInt32)), .val (.int ((p2 &&& (255 : Int32)).toUInt32.toUInt16.toUInt32.toInt32)), .val (.int ((p3 &&& (255 : Int32)).toUInt32.toUInt16.toUInt32.toInt32)), .val (.ref b1), .val (.ref b2), .val (.ref b4), .unset, .unset, .unset, .unset, .unset]) rfl kX)
  refine OGo.go (B := T6.setTop (mkF m 55 #[.val (.int p0), .val (.int p1), .val (.int p2), .val (.int p3), .val (.int ((p1 &&& (255 : Int32)).toUInt32.toUInt16.toUInt32.toInt32)), .val (.int ((p2 &&& (255 : Int32)).toUInt32.toUInt16.toUInt32.toInt32)), .val (.int ((p3 &&& (255 : Int32)).toUInt32.toUInt16.toUInt32.toInt32)), .val (.ref b1), .val (.ref b2), .val (.ref b4), .unset, .unset, .unset, .unset, .unset] [(.int (3 : Int32))])) ?_ (fun tX kX => XS.iconst X6.here hx rfl (hb hby at_54) kX)
  obtain ⟨T7, h7, k7, X7, e7, E7, A7, EA7, st7⟩ := newPE X6 hx hZ (hw _ (List.mem_of_getElem? (i := 0) rfl)) e6 (g := (mkF m 55 #[.val (.int p0), .val (.int p1), .val (.int p2), .val (.int p3), .val (.int ((p1 &&& (255 : Int32)).toUInt32.toUInt16.toUInt32.toInt32)), .val (.int ((p2 &&& (255 : Int32)).toUInt32.toUInt16.toUInt32.toInt32)), .val (.int ((p3 &&& (255 : Int32)).toUInt32.toUInt16.toUInt32.toInt32)), .val (.ref b1), .val (.ref b2), .val (.ref b4), .unset, .unset, .unset, .unset, .unset] [(.int (3 : Int32))])) rfl (hb hby at_55) rfl (by decide) (cap := 3) (by decide) (by decide) (by decide) (by decide) (ad := "[C") (by decide)
  obtain ⟨b7, g7⟩ : ∃ z, z = h6.size := ⟨_, rfl⟩
  rw [← g7] at A7 EA7 st7
  have ne_b1_b7 : b1 ≠ b7 := Nat.ne_of_lt (Nat.lt_of_lt_of_le E_b1.lt (Nat.le_of_eq g7.symm))
  have ne_b2_b7 : b2 ≠ b7 := Nat.ne_of_lt (Nat.lt_of_lt_of_le E_b2.lt (Nat.le_of_eq g7.symm))
  have ne_b4_b7 : b4 ≠ b7 := Nat.ne_of_lt (Nat.lt_of_lt_of_le E_b4.lt (Nat.le_of_eq g7.symm))
  have CHo7 := hCH
  have Sf_b1 := Safe.ext E7 CHo7 Sf_b1
  have Sf_b2 := Safe.ext E7 CHo7 Sf_b2
  have Sf_b4 := Safe.ext E7 CHo7 Sf_b4
  have hCH := CHv.ext E7 CHo7
  have S_COMPACT_STRINGS := S_COMPACT_STRINGS.ext E7
  have S_CONFLICT := S_CONFLICT.ext E7
  have S_UNASSIGNED_STACK := S_UNASSIGNED_STACK.ext E7
  have S_SUPPRESSED_SENTINEL := S_SUPPRESSED_SENTINEL.ext E7
  have hThS := hThS.ext E7
  have E_b1 := E_b1.ext E7
  have V_b1 := V_b1.ext E7
  have E_b2 := E_b2.ext E7
  have V_b2 := V_b2.ext E7
  have E_b4 := E_b4.ext E7
  have V_b4 := V_b4.ext E7
  have Sf_b7 : Safe Z own_EL s.vm h7 b7 := Safe.ext E7 CHo7 (Safe.new (Nat.le_of_eq g7.symm))
  have g_b7 : n0 ≤ b7 := Nat.le_trans zn6 (Nat.le_of_eq g7.symm)
  have sz_b7 : h0.size ≤ b7 := Nat.le_trans K6.1 (Nat.le_of_eq g7.symm)
  have zn7 : n0 ≤ h7.size := Nat.le_trans zn6 E7.1
  have hk7 := Nat.le_trans hk6 E7.1
  have K7 := K6.ext E7
  have E_b7 := EA7
  have V_b7 : Arv Z h7 b7 k7 .char (3 : Int32) [(.int (0 : Int32)), (.int (0 : Int32)), (.int (0 : Int32))] (.int (0 : Int32)) := (Arv.new A7 (by decide)).pad (pad_rep [] (.int (0 : Int32)) 3)
  refine OGo.go (B := T7.setTop (mkF m 57 #[.val (.int p0), .val (.int p1), .val (.int p2), .val (.int p3), .val (.int ((p1 &&& (255 : Int32)).toUInt32.toUInt16.toUInt32.toInt32)), .val (.int ((p2 &&& (255 : Int32)).toUInt32.toUInt16.toUInt32.toInt32)), .val (.int ((p3 &&& (255 : Int32)).toUInt32.toUInt16.toUInt32.toInt32)), .val (.ref b1), .val (.ref b2), .val (.ref b4), .unset, .unset, .unset, .unset, .unset] [(.ref b7)])) ?_ st7
  refine OGo.go (B := T7.setTop (mkF m 58 #[.val (.int p0), .val (.int p1), .val (.int p2), .val (.int p3), .val (.int ((p1 &&& (255 : Int32)).toUInt32.toUInt16.toUInt32.toInt32)), .val (.int ((p2 &&& (255 : Int32)).toUInt32.toUInt16.toUInt32.toInt32)), .val (.int ((p3 &&& (255 : Int32)).toUInt32.toUInt16.toUInt32.toInt32)), .val (.ref b1), .val (.ref b2), .val (.ref b4), .unset, .unset, .unset, .unset, .unset] [(.ref b7), (.ref b7)])) ?_ (fun tX kX => XS.dup X7.here hx rfl (hb hby at_57) rfl rfl kX)
  refine OGo.go (B := T7.setTop (mkF m 59 #[.val (.int p0), .val (.int p1), .val (.int p2), .val (.int p3), .val (.int ((p1 &&& (255 : Int32)).toUInt32.toUInt16.toUInt32.toInt32)), .val (.int ((p2 &&& (255 : Int32)).toUInt32.toUInt16.toUInt32.toInt32)), .val (.int ((p3 &&& (255 : Int32)).toUInt32.toUInt16.toUInt32.toInt32)), .val (.ref b1), .val (.ref b2), .val (.ref b4), .unset, .unset, .unset, .unset, .unset] [(.int (0 : Int32)), (.ref b7), (.ref b7)])) ?_ (fun tX kX => XS.iconst X7.here hx rfl (hb hby at_58) kX)
  refine OGo.go (B := T7.setTop (mkF m 61 #[.val (.int p0), .val (.int p1), .val (.int p2), .val (.int p3), .val (.int ((p1 &&& (255 : Int32)).toUInt32.toUInt16.toUInt32.toInt32)), .val (.int ((p2 &&& (255 : Int32)).toUInt32.toUInt16.toUInt32.toInt32)), .val (.int ((p3 &&& (255 : Int32)).toUInt32.toUInt16.toUInt32.toInt32)), .val (.ref b1), .val (.ref b2), .val (.ref b4), .unset, .unset, .unset, .unset, .unset] [(.int ((p1 &&& (255 : Int32)).toUInt32.toUInt16.toUInt32.toInt32)), (.int (0 : Int32)), (.ref b7), (.ref b7)])) ?_ (fun tX kX => XS.iload X7.here hx rfl (hb hby at_59) rfl kX)
  obtain ⟨cl8, Ar8, qa8, S8, N8', H8, G8⟩ := id V_b7
  have hin8 := inb_of (j := (0 : Int32)) S8 ⟨by decide, by decide⟩
  obtain ⟨T8, h8, X8, e8, W8, st8⟩ := stC X7 hx hZ e7 Ar8 (j := (0 : Int32)) hin8 (g := (mkF m 61 #[.val (.int p0), .val (.int p1), .val (.int p2), .val (.int p3), .val (.int ((p1 &&& (255 : Int32)).toUInt32.toUInt16.toUInt32.toInt32)), .val (.int ((p2 &&& (255 : Int32)).toUInt32.toUInt16.toUInt32.toInt32)), .val (.int ((p3 &&& (255 : Int32)).toUInt32.toUInt16.toUInt32.toInt32)), .val (.ref b1), .val (.ref b2), .val (.ref b4), .unset, .unset, .unset, .unset, .unset] [(.int ((p1 &&& (255 : Int32)).toUInt32.toUInt16.toUInt32.toInt32)), (.int (0 : Int32)), (.ref b7), (.ref b7)])) rfl rfl (hb hby at_61)
  have V_b7_8 := Arv.set Ar8 qa8 S8 N8' H8 G8 (fits_nar_char _) W8 0 rfl (Nat.le_of_ble_eq_true rfl)
  have Sfo8 := (Safe.arr (EL := own_EL) hZ.alike Ar8 (by decide))
  have CHo8 := hCH
  have Sf_b1 := Safe.wr W8 Sfo8 CHo8 Sf_b1
  have Sf_b2 := Safe.wr W8 Sfo8 CHo8 Sf_b2
  have Sf_b4 := Safe.wr W8 Sfo8 CHo8 Sf_b4
  have Sf_b7 := Safe.wr W8 Sfo8 CHo8 Sf_b7
  have hCH := CHv.wr W8 Sfo8 CHo8
  have S_COMPACT_STRINGS := S_COMPACT_STRINGS.wr W8
  have S_CONFLICT := S_CONFLICT.wr W8
  have S_UNASSIGNED_STACK := S_UNASSIGNED_STACK.wr W8
  have S_SUPPRESSED_SENTINEL := S_SUPPRESSED_SENTINEL.wr W8
  have hThS := hThS.wr W8
  have E_b1 := E_b1.wr W8
  have V_b1 := V_b1.other W8 ne_b1_b7
  have E_b2 := E_b2.wr W8
  have V_b2 := V_b2.other W8 ne_b2_b7
  have E_b4 := E_b4.wr W8
  have V_b4 := V_b4.other W8 ne_b4_b7
  have E_b7 := E_b7.wr W8
  have K8 := K7.wr W8 (Or.inr sz_b7)
  have zn8 : n0 ≤ h8.size := Nat.le_trans zn7 (Keep.of_wr W8).1
  have hk8 := Nat.le_trans hk7 (Keep.of_wr W8).1
  have N8 := Fr.snoc X8 N6 g_b7
  have V_b7 : Arv Z h8 b7 k7 .char (3 : Int32) [(.int (((p1 &&& (255 : Int32)).toUInt32.toUInt16.toUInt32.toInt32).toUInt32.toUInt16.toUInt32.toInt32)), (.int (0 : Int32)), (.int (0 : Int32))] (.int (0 : Int32)) := V_b7_8
  refine OGo.go (B := T8.setTop (mkF m 62 #[.val (.int p0), .val (.int p1), .val (.int p2), .val (.int p3), .val (.int ((p1 &&& (255 : Int32)).toUInt32.toUInt16.toUInt32.toInt32)), .val (.int ((p2 &&& (255 : Int32)).toUInt32.toUInt16.toUInt32.toInt32)), .val (.int ((p3 &&& (255 : Int32)).toUInt32.toUInt16.toUInt32.toInt32)), .val (.ref b1), .val (.ref b2), .val (.ref b4), .unset, .unset, .unset, .unset, .unset] [(.ref b7)])) ?_ st8
  refine OGo.go (B := T8.setTop (mkF m 63 #[.val (.int p0), .val (.int p1), .val (.int p2), .val (.int p3), .val (.int ((p1 &&& (255 : Int32)).toUInt32.toUInt16.toUInt32.toInt32)), .val (.int ((p2 &&& (255 : Int32)).toUInt32.toUInt16.toUInt32.toInt32)), .val (.int ((p3 &&& (255 : Int32)).toUInt32.toUInt16.toUInt32.toInt32)), .val (.ref b1), .val (.ref b2), .val (.ref b4), .unset, .unset, .unset, .unset, .unset] [(.ref b7), (.ref b7)])) ?_ (fun tX kX => XS.dup X8.here hx rfl (hb hby at_62) rfl rfl kX)
  refine OGo.go (B := T8.setTop (mkF m 64 #[.val (.int p0), .val (.int p1), .val (.int p2), .val (.int p3), .val (.int ((p1 &&& (255 : Int32)).toUInt32.toUInt16.toUInt32.toInt32)), .val (.int ((p2 &&& (255 : Int32)).toUInt32.toUInt16.toUInt32.toInt32)), .val (.int ((p3 &&& (255 : Int32)).toUInt32.toUInt16.toUInt32.toInt32)), .val (.ref b1), .val (.ref b2), .val (.ref b4), .unset, .unset, .unset, .unset, .unset] [(.int (1 : Int32)), (.ref b7), (.ref b7)])) ?_ (fun tX kX => XS.iconst X8.here hx rfl (hb hby at_63) kX)
  refine OGo.go (B := T8.setTop (mkF m 66 #[.val (.int p0), .val (.int p1), .val (.int p2), .val (.int p3), .val (.int ((p1 &&& (255 : Int32)).toUInt32.toUInt16.toUInt32.toInt32)), .val (.int ((p2 &&& (255 : Int32)).toUInt32.toUInt16.toUInt32.toInt32)), .val (.int ((p3 &&& (255 : Int32)).toUInt32.toUInt16.toUInt32.toInt32)), .val (.ref b1), .val (.ref b2), .val (.ref b4), .unset, .unset, .unset, .unset, .unset] [(.int ((p2 &&& (255 : Int32)).toUInt32.toUInt16.toUInt32.toInt32)), (.int (1 : Int32)), (.ref b7), (.ref b7)])) ?_ (fun tX kX => XS.iload X8.here hx rfl (hb hby at_64) rfl kX)
  obtain ⟨cl9, Ar9, qa9, S9, N9', H9, G9⟩ := id V_b7
  have hin9 := inb_of (j := (1 : Int32)) S9 ⟨by decide, by decide⟩
  obtain ⟨T9, h9, X9, e9, W9, st9⟩ := stC X8 hx hZ e8 Ar9 (j := (1 : Int32)) hin9 (g := (mkF m 66 #[.val (.int p0), .val (.int p1), .val (.int p2), .val (.int p3), .val (.int ((p1 &&& (255 : Int32)).toUInt32.toUInt16.toUInt32.toInt32)), .val (.int ((p2 &&& (255 : Int32)).toUInt32.toUInt16.toUInt32.toInt32)), .val (.int ((p3 &&& (255 : Int32)).toUInt32.toUInt16.toUInt32.toInt32)), .val (.ref b1), .val (.ref b2), .val (.ref b4), .unset, .unset, .unset, .unset, .unset] [(.int ((p2 &&& (255 : Int32)).toUInt32.toUInt16.toUInt32.toInt32)), (.int (1 : Int32)), (.ref b7), (.ref b7)])) rfl rfl (hb hby at_66)
  have V_b7_9 := Arv.set Ar9 qa9 S9 N9' H9 G9 (fits_nar_char _) W9 1 rfl (Nat.le_of_ble_eq_true rfl)
  have Sfo9 := (Safe.arr (EL := own_EL) hZ.alike Ar9 (by decide))
  have CHo9 := hCH
  have Sf_b1 := Safe.wr W9 Sfo9 CHo9 Sf_b1
  have Sf_b2 := Safe.wr W9 Sfo9 CHo9 Sf_b2
  have Sf_b4 := Safe.wr W9 Sfo9 CHo9 Sf_b4
  have Sf_b7 := Safe.wr W9 Sfo9 CHo9 Sf_b7
  have hCH := CHv.wr W9 Sfo9 CHo9
  have S_COMPACT_STRINGS := S_COMPACT_STRINGS.wr W9
  have S_CONFLICT := S_CONFLICT.wr W9
  have S_UNASSIGNED_STACK := S_UNASSIGNED_STACK.wr W9
  have S_SUPPRESSED_SENTINEL := S_SUPPRESSED_SENTINEL.wr W9
  have hThS := hThS.wr W9
  have E_b1 := E_b1.wr W9
  have V_b1 := V_b1.other W9 ne_b1_b7
  have E_b2 := E_b2.wr W9
  have V_b2 := V_b2.other W9 ne_b2_b7
  have E_b4 := E_b4.wr W9
  have V_b4 := V_b4.other W9 ne_b4_b7
  have E_b7 := E_b7.wr W9
  have K9 := K8.wr W9 (Or.inr sz_b7)
  have zn9 : n0 ≤ h9.size := Nat.le_trans zn8 (Keep.of_wr W9).1
  have hk9 := Nat.le_trans hk8 (Keep.of_wr W9).1
  have N9 := Fr.snoc X9 N8 g_b7
  have V_b7 : Arv Z h9 b7 k7 .char (3 : Int32) [(.int (((p1 &&& (255 : Int32)).toUInt32.toUInt16.toUInt32.toInt32).toUInt32.toUInt16.toUInt32.toInt32)), (.int (((p2 &&& (255 : Int32)).toUInt32.toUInt16.toUInt32.toInt32).toUInt32.toUInt16.toUInt32.toInt32)), (.int (0 : Int32))] (.int (0 : Int32)) := V_b7_9
  refine OGo.go (B := T9.setTop (mkF m 67 #[.val (.int p0), .val (.int p1), .val (.int p2), .val (.int p3), .val (.int ((p1 &&& (255 : Int32)).toUInt32.toUInt16.toUInt32.toInt32)), .val (.int ((p2 &&& (255 : Int32)).toUInt32.toUInt16.toUInt32.toInt32)), .val (.int ((p3 &&& (255 : Int32)).toUInt32.toUInt16.toUInt32.toInt32)), .val (.ref b1), .val (.ref b2), .val (.ref b4), .unset, .unset, .unset, .unset, .unset] [(.ref b7)])) ?_ st9
  refine OGo.go (B := T9.setTop (mkF m 68 #[.val (.int p0), .val (.int p1), .val (.int p2), .val (.int p3), .val (.int ((p1 &&& (255 : Int32)).toUInt32.toUInt16.toUInt32.toInt32)), .val (.int ((p2 &&& (255 : Int32)).toUInt32.toUInt16.toUInt32.toInt32)), .val (.int ((p3 &&& (255 : Int32)).toUInt32.toUInt16.toUInt32.toInt32)), .val (.ref b1), .val (.ref b2), .val (.ref b4), .unset, .unset, .unset, .unset, .unset] [(.ref b7), (.ref b7)])) ?_ (fun tX kX => XS.dup X9.here hx rfl (hb hby at_67) rfl rfl kX)
  refine OGo.go (B := T9.setTop (mkF m 69 #[.val (.int p0), .val (.int p1), .val (.int p2), .val (.int p3), .val (.int ((p1 &&& (255 : Int32)).toUInt32.toUInt16.toUInt32.toInt32)), .val (.int ((p2 &&& (255 : Int32)).toUInt32.toUInt16.toUInt32.toInt32)), .val (.int ((p3 &&& (255 : Int32)).toUInt32.toUInt16.toUInt32.toInt32)), .val (.ref b1), .val (.ref b2), .val (.ref b4), .unset, .unset, .unset, .unset, .unset] [(.int (2 : Int32)), (.ref b7), (.ref b7)])) ?_ (fun tX kX => XS.iconst X9.here hx rfl (hb hby at_68) kX)
  refine OGo.go (B := T9.setTop (mkF m 71 #[.val (.int p0), .val (.int p1), .val (.int p2), .val (.int p3), .val (.int ((p1 &&& (255 : Int32)).toUInt32.toUInt16.toUInt32.toInt32)), .val (.int ((p2 &&& (255 : Int32)).toUInt32.toUInt16.toUInt32.toInt32)), .val (.int ((p3 &&& (255 : Int32)).toUInt32.toUInt16.toUInt32.toInt32)), .val (.ref b1), .val (.ref b2), .val (.ref b4), .unset, .unset, .unset, .unset, .unset] [(.int ((p3 &&& (255 : Int32)).toUInt32.toUInt16.toUInt32.toInt32)), (.int (2 : Int32)), (.ref b7), (.ref b7)])) ?_ (fun tX kX => XS.iload X9.here hx rfl (hb hby at_69) rfl kX)
  obtain ⟨cl10, Ar10, qa10, S10, N10', H10, G10⟩ := id V_b7
  have hin10 := inb_of (j := (2 : Int32)) S10 ⟨by decide, by decide⟩
  obtain ⟨T10, h10, X10, e10, W10, st10⟩ := stC X9 hx hZ e9 Ar10 (j := (2 : Int32)) hin10 (g := (mkF m 71 #[.val (.int p0), .val (.int p1), .val (.int p2), .val (.int p3), .val (.int ((p1 &&& (255 : Int32)).toUInt32.toUInt16.toUInt32.toInt32)), .val (.int ((p2 &&& (255 : Int32)).toUInt32.toUInt16.toUInt32.toInt32)), .val (.int ((p3 &&& (255 : Int32)).toUInt32.toUInt16.toUInt32.toInt32)), .val (.ref b1), .val (.ref b2), .val (.ref b4), .unset, .unset, .unset, .unset, .unset] [(.int ((p3 &&& (255 : Int32)).toUInt32.toUInt16.toUInt32.toInt32)), (.int (2 : Int32)), (.ref b7), (.ref b7)])) rfl rfl (hb hby at_71)
  have V_b7_10 := Arv.set Ar10 qa10 S10 N10' H10 G10 (fits_nar_char _) W10 2 rfl (Nat.le_of_ble_eq_true rfl)
  have Sfo10 := (Safe.arr (EL := own_EL) hZ.alike Ar10 (by decide))
  have CHo10 := hCH
  have Sf_b1 := Safe.wr W10 Sfo10 CHo10 Sf_b1
  have Sf_b2 := Safe.wr W10 Sfo10 CHo10 Sf_b2
  have Sf_b4 := Safe.wr W10 Sfo10 CHo10 Sf_b4
  have Sf_b7 := Safe.wr W10 Sfo10 CHo10 Sf_b7
  have hCH := CHv.wr W10 Sfo10 CHo10
  have S_COMPACT_STRINGS := S_COMPACT_STRINGS.wr W10
  have S_CONFLICT := S_CONFLICT.wr W10
  have S_UNASSIGNED_STACK := S_UNASSIGNED_STACK.wr W10
  have S_SUPPRESSED_SENTINEL := S_SUPPRESSED_SENTINEL.wr W10
  have hThS := hThS.wr W10
  have E_b1 := E_b1.wr W10
  have V_b1 := V_b1.other W10 ne_b1_b7
  have E_b2 := E_b2.wr W10
  have V_b2 := V_b2.other W10 ne_b2_b7
  have E_b4 := E_b4.wr W10
  have V_b4 := V_b4.other W10 ne_b4_b7
  have E_b7 := E_b7.wr W10
  have K10 := K9.wr W10 (Or.inr sz_b7)
  have zn10 : n0 ≤ h10.size := Nat.le_trans zn9 (Keep.of_wr W10).1
  have hk10 := Nat.le_trans hk9 (Keep.of_wr W10).1
  have N10 := Fr.snoc X10 N9 g_b7
  have V_b7 : Arv Z h10 b7 k7 .char (3 : Int32) [(.int (((p1 &&& (255 : Int32)).toUInt32.toUInt16.toUInt32.toInt32).toUInt32.toUInt16.toUInt32.toInt32)), (.int (((p2 &&& (255 : Int32)).toUInt32.toUInt16.toUInt32.toInt32).toUInt32.toUInt16.toUInt32.toInt32)), (.int (((p3 &&& (255 : Int32)).toUInt32.toUInt16.toUInt32.toInt32).toUInt32.toUInt16.toUInt32.toInt32))] (.int (0 : Int32)) := V_b7_10
  refine OGo.go (B := T10.setTop (mkF m 72 #[.val (.int p0), .val (.int p1), .val (.int p2), .val (.int p3), .val (.int ((p1 &&& (255 : Int32)).toUInt32.toUInt16.toUInt32.toInt32)), .val (.int ((p2 &&& (255 : Int32)).toUInt32.toUInt16.toUInt32.toInt32)), .val (.int ((p3 &&& (255 : Int32)).toUInt32.toUInt16.toUInt32.toInt32)), .val (.ref b1), .val (.ref b2), .val (.ref b4), .unset, .unset, .unset, .unset, .unset] [(.ref b7)])) ?_ st10
  refine OGo.go (B := T10.setTop (mkF m 74 #[.val (.int p0), .val (.int p1), .val (.int p2), .val (.int p3), .val (.int ((p1 &&& (255 : Int32)).toUInt32.toUInt16.toUInt32.toInt32)), .val (.int ((p2 &&& (255 : Int32)).toUInt32.toUInt16.toUInt32.toInt32)), .val (.int ((p3 &&& (255 : Int32)).toUInt32.toUInt16.toUInt32.toInt32)), .val (.ref b1), .val (.ref b2), .val (.ref b4), .val (.ref b7), .unset, .unset, .unset, .unset] [])) ?_ (fun tX kX => XS.astore X10.here hx rfl (hb hby at_72) rfl rfl (l' := #[.val (.int p0), .val (.int p1), .val (.int p2), .val (.int p3), .val (.int ((p1 &&& (255 : Int32)).toUInt32.toUInt16.toUInt32.toInt32)), .val (.int ((p2 &&& (255 : Int32)).toUInt32.toUInt16.toUInt32.toInt32)), .val (.int ((p3 &&& (255 : Int32)).toUInt32.toUInt16.toUInt32.toInt32)), .val (.ref b1), .val (.ref b2), .val (.ref b4), .val (.ref b7), .unset, .unset, .unset, .unset]) rfl kX)
  refine OGo.go (B := T10.setTop (mkF m 75 #[.val (.int p0), .val (.int p1), .val (.int p2), .val (.int p3), .val (.int ((p1 &&& (255 : Int32)).toUInt32.toUInt16.toUInt32.toInt32)), .val (.int ((p2 &&& (255 : Int32)).toUInt32.toUInt16.toUInt32.toInt32)), .val (.int ((p3 &&& (255 : Int32)).toUInt32.toUInt16.toUInt32.toInt32)), .val (.ref b1), .val (.ref b2), .val (.ref b4), .val (.ref b7), .unset, .unset, .unset, .unset] [(.int p0)])) ?_ (fun tX kX => XS.iloadN X10.here hx rfl (hb hby at_74) rfl kX)
  refine OGo.go (B := T10.setTop (mkF m 76 #[.val (.int p0), .val (.int p1), .val (.int p2), .val (.int p3), .val (.int ((p1 &&& (255 : Int32)).toUInt32.toUInt16.toUInt32.toInt32)), .val (.int ((p2 &&& (255 : Int32)).toUInt32.toUInt16.toUInt32.toInt32)), .val (.int ((p3 &&& (255 : Int32)).toUInt32.toUInt16.toUInt32.toInt32)), .val (.ref b1), .val (.ref b2), .val (.ref b4), .val (.ref b7), .unset, .unset, .unset, .unset] [(.int (3 : Int32)), (.int p0)])) ?_ (fun tX kX => XS.iconst X10.here hx rfl (hb hby at_75) kX)
  refine OGo.go (B := T10.setTop (mkF m 77 #[.val (.int p0), .val (.int p1), .val (.int p2), .val (.int p3), .val (.int ((p1 &&& (255 : Int32)).toUInt32.toUInt16.toUInt32.toInt32)), .val (.int ((p2 &&& (255 : Int32)).toUInt32.toUInt16.toUInt32.toInt32)), .val (.int ((p3 &&& (255 : Int32)).toUInt32.toUInt16.toUInt32.toInt32)), .val (.ref b1), .val (.ref b2), .val (.ref b4), .val (.ref b7), .unset, .unset, .unset, .unset] [(.int (p0 &&& (3 : Int32)))])) ?_ (fun tX kX => XS.iand X10.here hx rfl (hb hby at_76) rfl kX)
  refine OGo.go (B := T10.setTop (mkF m 79 #[.val (.int p0), .val (.int p1), .val (.int p2), .val (.int p3), .val (.int ((p1 &&& (255 : Int32)).toUInt32.toUInt16.toUInt32.toInt32)), .val (.int ((p2 &&& (255 : Int32)).toUInt32.toUInt16.toUInt32.toInt32)), .val (.int ((p3 &&& (255 : Int32)).toUInt32.toUInt16.toUInt32.toInt32)), .val (.ref b1), .val (.ref b2), .val (.ref b4), .val (.ref b7), .val (.int (p0 &&& (3 : Int32))), .unset, .unset, .unset] [])) ?_ (fun tX kX => XS.istore X10.here hx rfl (hb hby at_77) rfl (l' := #[.val (.int p0), .val (.int p1), .val (.int p2), .val (.int p3), .val (.int ((p1 &&& (255 : Int32)).toUInt32.toUInt16.toUInt32.toInt32)), .val (.int ((p2 &&& (255 : Int32)).toUInt32.toUInt16.toUInt32.toInt32)), .val (.int ((p3 &&& (255 : Int32)).toUInt32.toUInt16.toUInt32.toInt32)), .val (.ref b1), .val (.ref b2), .val (.ref b4), .val (.ref b7), .val (.int (p0 &&& (3 : Int32))), .unset, .unset, .unset]) rfl kX)
  refine OGo.go (B := T10.setTop (mkF m 80 #[.val (.int p0), .val (.int p1), .val (.int p2), .val (.int p3), .val (.int ((p1 &&& (255 : Int32)).toUInt32.toUInt16.toUInt32.toInt32)), .val (.int ((p2 &&& (255 : Int32)).toUInt32.toUInt16.toUInt32.toInt32)), .val (.int ((p3 &&& (255 : Int32)).toUInt32.toUInt16.toUInt32.toInt32)), .val (.ref b1), .val (.ref b2), .val (.ref b4), .val (.ref b7), .val (.int (p0 &&& (3 : Int32))), .unset, .unset, .unset] [(.int p0)])) ?_ (fun tX kX => XS.iloadN X10.here hx rfl (hb hby at_79) rfl kX)
  refine OGo.go (B := T10.setTop (mkF m 81 #[.val (.int p0), .val (.int p1), .val (.int p2), .val (.int p3), .val (.int ((p1 &&& (255 : Int32)).toUInt32.toUInt16.toUInt32.toInt32)), .val (.int ((p2 &&& (255 : Int32)).toUInt32.toUInt16.toUInt32.toInt32)), .val (.int ((p3 &&& (255 : Int32)).toUInt32.toUInt16.toUInt32.toInt32)), .val (.ref b1), .val (.ref b2), .val (.ref b4), .val (.ref b7), .val (.int (p0 &&& (3 : Int32))), .unset, .unset, .unset] [(.int (4 : Int32)), (.int p0)])) ?_ (fun tX kX => XS.iconst X10.here hx rfl (hb hby at_80) kX)
  refine OGo.go (B := T10.setTop (mkF m 82 #[.val (.int p0), .val (.int p1), .val (.int p2), .val (.int p3), .val (.int ((p1 &&& (255 : Int32)).toUInt32.toUInt16.toUInt32.toInt32)), .val (.int ((p2 &&& (255 : Int32)).toUInt32.toUInt16.toUInt32.toInt32)), .val (.int ((p3 &&& (255 : Int32)).toUInt32.toUInt16.toUInt32.toInt32)), .val (.ref b1), .val (.ref b2), .val (.ref b4), .val (.ref b7), .val (.int (p0 &&& (3 : Int32))), .unset, .unset, .unset] [(.int (p0 &&& (4 : Int32)))])) ?_ (fun tX kX => XS.iand X10.here hx rfl (hb hby at_81) rfl kX)
  by_cases hc82 : (p0 &&& (4 : Int32)) = (0 : Int32)
  ·
    refine OGo.go (B := T10.setTop (mkF m 91 #[.val (.int p0), .val (.int p1), .val (.int p2), .val (.int p3), .val (.int ((p1 &&& (255 : Int32)).toUInt32.toUInt16.toUInt32.toInt32)), .val (.int ((p2 &&& (255 : Int32)).toUInt32.toUInt16.toUInt32.toInt32)), .val (.int ((p3 &&& (255 : Int32)).toUInt32.toUInt16.toUInt32.toInt32)), .val (.ref b1), .val (.ref b2), .val (.ref b4), .val (.ref b7), .val (.int (p0 &&& (3 : Int32))), .unset, .unset, .unset] [])) ?_ (fun tX kX => XS.ifYes X10.here hx rfl (pc0 := 82) (pc' := 91) rfl (hb hby at_82) rfl ((if0 _ _).trans (teq hc82).1) (by decide) (by decide) kX)
    refine OGo.go (B := T10.setTop (mkF m 93 #[.val (.int p0), .val (.int p1), .val (.int p2), .val (.int p3), .val (.int ((p1 &&& (255 : Int32)).toUInt32.toUInt16.toUInt32.toInt32)), .val (.int ((p2 &&& (255 : Int32)).toUInt32.toUInt16.toUInt32.toInt32)), .val (.int ((p3 &&& (255 : Int32)).toUInt32.toUInt16.toUInt32.toInt32)), .val (.ref b1), .val (.ref b2), .val (.ref b4), .val (.ref b7), .val (.int (p0 &&& (3 : Int32))), .unset, .unset, .unset] [(.int (p0 &&& (3 : Int32)))])) ?_ (fun tX kX => XS.iload X10.here hx rfl (hb hby at_91) rfl kX)
    by_cases hc93 : (p0 &&& (3 : Int32)) = (0 : Int32)
    ·
      refine OGo.go (B := T10.setTop (mkF m 96 #[.val (.int p0), .val (.int p1), .val (.int p2), .val (.int p3), .val (.int ((p1 &&& (255 : Int32)).toUInt32.toUInt16.toUInt32.toInt32)), .val (.int ((p2 &&& (255 : Int32)).toUInt32.toUInt16.toUInt32.toInt32)), .val (.int ((p3 &&& (255 : Int32)).toUInt32.toUInt16.toUInt32.toInt32)), .val (.ref b1), .val (.ref b2), .val (.ref b4), .val (.ref b7), .val (.int (p0 &&& (3 : Int32))), .unset, .unset, .unset] [])) ?_ (fun tX kX => XS.ifNo X10.here hx rfl (hb hby at_93) rfl ((if0 _ _).trans (teq hc93).2) kX)
      obtain ⟨T11, h11, X11, e11, E11, A11, D11, C11, st11⟩ := newO X10 hx hZ hown (hw _ (List.mem_of_getElem? (i := 1) rfl)) (hw _ (List.mem_of_getElem? (i := 2) rfl)) (hw _ (List.mem_of_getElem? (i := 3) rfl)) e10 (g := (mkF m 96 #[.val (.int p0), .val (.int p1), .val (.int p2), .val (.int p3), .val (.int ((p1 &&& (255 : Int32)).toUInt32.toUInt16.toUInt32.toInt32)), .val (.int ((p2 &&& (255 : Int32)).toUInt32.toUInt16.toUInt32.toInt32)), .val (.int ((p3 &&& (255 : Int32)).toUInt32.toUInt16.toUInt32.toInt32)), .val (.ref b1), .val (.ref b2), .val (.ref b4), .val (.ref b7), .val (.int (p0 &&& (3 : Int32))), .unset, .unset, .unset] [])) rfl (hb hby at_96) (by decide) (by decide)
      obtain ⟨b11, g11⟩ : ∃ z, z = h10.size := ⟨_, rfl⟩
      rw [← g11] at A11 D11 st11 C11
      have ne_b1_b11 : b1 ≠ b11 := Nat.ne_of_lt (Nat.lt_of_lt_of_le E_b1.lt (Nat.le_of_eq g11.symm))
      have ne_b2_b11 : b2 ≠ b11 := Nat.ne_of_lt (Nat.lt_of_lt_of_le E_b2.lt (Nat.le_of_eq g11.symm))
      have ne_b4_b11 : b4 ≠ b11 := Nat.ne_of_lt (Nat.lt_of_lt_of_le E_b4.lt (Nat.le_of_eq g11.symm))
      have ne_b7_b11 : b7 ≠ b11 := Nat.ne_of_lt (Nat.lt_of_lt_of_le E_b7.lt (Nat.le_of_eq g11.symm))
      have CHo11 := hCH
      have Sf_b1 := Safe.ext E11 CHo11 Sf_b1
      have Sf_b2 := Safe.ext E11 CHo11 Sf_b2
      have Sf_b4 := Safe.ext E11 CHo11 Sf_b4
      have Sf_b7 := Safe.ext E11 CHo11 Sf_b7
      have hCH := CHv.ext E11 CHo11
      have S_COMPACT_STRINGS := S_COMPACT_STRINGS.ext E11
      have S_CONFLICT := S_CONFLICT.ext E11
      have S_UNASSIGNED_STACK := S_UNASSIGNED_STACK.ext E11
      have S_SUPPRESSED_SENTINEL := S_SUPPRESSED_SENTINEL.ext E11
      have hThS := hThS.ext E11
      have E_b1 := E_b1.ext E11
      have V_b1 := V_b1.ext E11
      have E_b2 := E_b2.ext E11
      have V_b2 := V_b2.ext E11
      have E_b4 := E_b4.ext E11
      have V_b4 := V_b4.ext E11
      have E_b7 := E_b7.ext E11
      have V_b7 := V_b7.ext E11
      have Sf_b11 : Safe Z own_EL s.vm h11 b11 := Safe.ext E11 CHo11 (Safe.new (Nat.le_of_eq g11.symm))
      have g_b11 : n0 ≤ b11 := Nat.le_trans zn10 (Nat.le_of_eq g11.symm)
      have sz_b11 : h0.size ≤ b11 := Nat.le_trans K10.1 (Nat.le_of_eq g11.symm)
      have zn11 : n0 ≤ h11.size := Nat.le_trans zn10 E11.1
      have hk11 := Nat.le_trans hk10 E11.1
      have K11 := K10.ext E11
      have E_b11 := A11
      have F_value_b11 : Fld Z h11 b11 "java/lang/String" "value" "[B" .null := D11 (Or.inr (hw _ (List.mem_of_getElem? (i := 16) rfl))) (ty := (.array .byte)) (by decide)
      have F_coder_b11 : Fld Z h11 b11 "java/lang/String" "coder" "B" (.int (0 : Int32)) := D11 (Or.inr (hw _ (List.mem_of_getElem? (i := 17) rfl))) (ty := .byte) (by decide)
      refine OGo.go (B := T11.setTop (mkF m 99 #[.val (.int p0), .val (.int p1), .val (.int p2), .val (.int p3), .val (.int ((p1 &&& (255 : Int32)).toUInt32.toUInt16.toUInt32.toInt32)), .val (.int ((p2 &&& (255 : Int32)).toUInt32.toUInt16.toUInt32.toInt32)), .val (.int ((p3 &&& (255 : Int32)).toUInt32.toUInt16.toUInt32.toInt32)), .val (.ref b1), .val (.ref b2), .val (.ref b4), .val (.ref b7), .val (.int (p0 &&& (3 : Int32))), .unset, .unset, .unset] [(.ref b11)])) ?_ st11
      refine OGo.go (B := T11.setTop (mkF m 100 #[.val (.int p0), .val (.int p1), .val (.int p2), .val (.int p3), .val (.int ((p1 &&& (255 : Int32)).toUInt32.toUInt16.toUInt32.toInt32)), .val (.int ((p2 &&& (255 : Int32)).toUInt32.toUInt16.toUInt32.toInt32)), .val (.int ((p3 &&& (255 : Int32)).toUInt32.toUInt16.toUInt32.toInt32)), .val (.ref b1), .val (.ref b2), .val (.ref b4), .val (.ref b7), .val (.int (p0 &&& (3 : Int32))), .unset, .unset, .unset] [(.ref b11), (.ref b11)])) ?_ (fun tX kX => XS.dup X11.here hx rfl (hb hby at_99) rfl rfl kX)
      refine OGo.go (B := T11.setTop (mkF m 102 #[.val (.int p0), .val (.int p1), .val (.int p2), .val (.int p3), .val (.int ((p1 &&& (255 : Int32)).toUInt32.toUInt16.toUInt32.toInt32)), .val (.int ((p2 &&& (255 : Int32)).toUInt32.toUInt16.toUInt32.toInt32)), .val (.int ((p3 &&& (255 : Int32)).toUInt32.toUInt16.toUInt32.toInt32)), .val (.ref b1), .val (.ref b2), .val (.ref b4), .val (.ref b7), .val (.int (p0 &&& (3 : Int32))), .unset, .unset, .unset] [(.ref b1), (.ref b11), (.ref b11)])) ?_ (fun tX kX => XS.aload X11.here hx rfl (hb hby at_100) rfl rfl kX)
      obtain ⟨_, _, ⟨T12, L12, k12, n12⟩, -, X12, hSq12, hgr12, ⟨Lc12, hQ12, l12, y12, z12, CRq12⟩, st12⟩ := X11.specialBackS hx (y := (⟨"java/lang/String", "<init>", "([C)V"⟩ : MethodName)) rfl hown (mvT hZ (hw _ (List.mem_of_getElem? (i := 4) rfl))) (mvT hZ (hw _ (List.mem_of_getElem? (i := 5) rfl))) (mvT hZ (hw _ (List.mem_of_getElem? (i := 6) rfl))) (by decide) (backOfSH (W := 1) (rm1c0 l Z aV hw [] b11 b1 (.int (0 : Int32)) k1 h11 n0 zn11 E_b11 F_value_b11 F_coder_b11 V_b1 g_b11) hZ (hw _ (List.mem_of_getElem? (i := 6) rfl)) (hw _ (List.mem_of_getElem? (i := 3) rfl)) (by decide) (by decide) own_ew hCH) (g := (mkF m 102 #[.val (.int p0), .val (.int p1), .val (.int p2), .val (.int p3), .val (.int ((p1 &&& (255 : Int32)).toUInt32.toUInt16.toUInt32.toInt32)), .val (.int ((p2 &&& (255 : Int32)).toUInt32.toUInt16.toUInt32.toInt32)), .val (.int ((p3 &&& (255 : Int32)).toUInt32.toUInt16.toUInt32.toInt32)), .val (.ref b1), .val (.ref b2), .val (.ref b4), .val (.ref b7), .val (.int (p0 &&& (3 : Int32))), .unset, .unset, .unset] [(.ref b1), (.ref b11), (.ref b11)])) rfl (by rw [hml]; rfl) (Steps.refl _) (a := b11) (argsL := [(.ref b1)]) (rest := [(.ref b11)]) (lenOf pd___C_V rfl) rfl (by show 2 * 0 + _ ≤ _; exact Nat.le_of_eq rfl) (hb hby at_102) (fun _ _ => ⟨rfl, e11, (by decide : 5 + 2 ≤ _), (by decide : 10 + 4 ≤ _)⟩)
      dsimp only [Pt.U, Pt.locs, Pt.cells, Pt.slots] at X12 l12 y12 z12 st12 hQ12 hSq12 hgr12 CRq12
      subst l12 y12 z12
      obtain ⟨X12, hS12, hZ12, hown12⟩ := rebS hS0 hk11 X12 hSq12 (by rw [← e11]; exact hgr12) hZ hown
      have hTK12 := Vm.MethodsKnown.alikeC hSq12.1.alike hTK
      have hBelow12 := Vm.FramesKnown.alikeC hSq12.1.alike hBelow
      have Sf_b1 := CRq12.safe E_b1.lt Sf_b1
      have Sf_b2 := CRq12.safe E_b2.lt Sf_b2
      have Sf_b4 := CRq12.safe E_b4.lt Sf_b4
      have Sf_b7 := CRq12.safe E_b7.lt Sf_b7
      have Sf_b11 := CRq12.safe E_b11.lt Sf_b11
      have hCH := CRq12.1
      obtain ⟨rfl, N12q, Kq12, E_b11_p⟩ := hQ12
      have N12 := Fr.app N10 N12q
      have S_COMPACT_STRINGS := Sta.keepE S_COMPACT_STRINGS Kq12 (staS E_b11.cell (fun x hx' => nomatch hx'))
      have S_CONFLICT := Sta.keepE S_CONFLICT Kq12 (staS E_b11.cell (fun x hx' => nomatch hx'))
      have S_UNASSIGNED_STACK := Sta.keepE S_UNASSIGNED_STACK Kq12 (staS E_b11.cell (fun x hx' => nomatch hx'))
      have S_SUPPRESSED_SENTINEL := Sta.keepE S_SUPPRESSED_SENTINEL Kq12 (staS E_b11.cell (fun x hx' => nomatch hx'))
      have hThS := hThS.keep Kq12 (nsS E_b11.nostat ns0)
      have E_b1 := E_b1.keep Kq12
      have V_b1 := V_b1.keep Kq12 (ninS ne_b1_b11 nin0)
      have E_b2 := E_b2.keep Kq12
      have V_b2 := V_b2.keep Kq12 (ninS ne_b2_b11 nin0)
      have E_b4 := E_b4.keep Kq12
      have V_b4 := V_b4.keep Kq12 (ninS ne_b4_b11 nin0)
      have E_b7 := E_b7.keep Kq12
      have V_b7 := V_b7.keep Kq12 (ninS ne_b7_b11 nin0)
      have E_b11 := E_b11.keep Kq12
      have K12 := K11.trans Kq12 (allS (P := fun x => x ∈ ([] : List Addr) ∨ h0.size ≤ x) (Or.inr sz_b11) all0)
      have zn12 : n0 ≤ T12.heap.size := Nat.le_trans zn11 Kq12.1
      have hk12 := Nat.le_trans hk11 Kq12.1
      have E_b11 := E_b11_p
      refine OGo.go (B := T12.setTop (mkF m 105 #[.val (.int p0), .val (.int p1), .val (.int p2), .val (.int p3), .val (.int ((p1 &&& (255 : Int32)).toUInt32.toUInt16.toUInt32.toInt32)), .val (.int ((p2 &&& (255 : Int32)).toUInt32.toUInt16.toUInt32.toInt32)), .val (.int ((p3 &&& (255 : Int32)).toUInt32.toUInt16.toUInt32.toInt32)), .val (.ref b1), .val (.ref b2), .val (.ref b4), .val (.ref b7), .val (.int (p0 &&& (3 : Int32))), .unset, .unset, .unset] [(.ref b11)])) ?_ (fun tX kX => st12.trans kX)
      refine OGo.go (B := T12.setTop (mkF m 107 #[.val (.int p0), .val (.int p1), .val (.int p2), .val (.int p3), .val (.int ((p1 &&& (255 : Int32)).toUInt32.toUInt16.toUInt32.toInt32)), .val (.int ((p2 &&& (255 : Int32)).toUInt32.toUInt16.toUInt32.toInt32)), .val (.int ((p3 &&& (255 : Int32)).toUInt32.toUInt16.toUInt32.toInt32)), .val (.ref b1), .val (.ref b2), .val (.ref b4), .val (.ref b7), .val (.int (p0 &&& (3 : Int32))), .val (.ref b11), .unset, .unset] [])) ?_ (fun tX kX => XS.astore X12.here hx rfl (hb hby at_105) rfl rfl (l' := #[.val (.int p0), .val (.int p1), .val (.int p2), .val (.int p3), .val (.int ((p1 &&& (255 : Int32)).toUInt32.toUInt16.toUInt32.toInt32)), .val (.int ((p2 &&& (255 : Int32)).toUInt32.toUInt16.toUInt32.toInt32)), .val (.int ((p3 &&& (255 : Int32)).toUInt32.toUInt16.toUInt32.toInt32)), .val (.ref b1), .val (.ref b2), .val (.ref b4), .val (.ref b7), .val (.int (p0 &&& (3 : Int32))), .val (.ref b11), .unset, .unset]) rfl kX)
      refine OGo.go (B := T12.setTop (mkF m 161 #[.val (.int p0), .val (.int p1), .val (.int p2), .val (.int p3), .val (.int ((p1 &&& (255 : Int32)).toUInt32.toUInt16.toUInt32.toInt32)), .val (.int ((p2 &&& (255 : Int32)).toUInt32.toUInt16.toUInt32.toInt32)), .val (.int ((p3 &&& (255 : Int32)).toUInt32.toUInt16.toUInt32.toInt32)), .val (.ref b1), .val (.ref b2), .val (.ref b4), .val (.ref b7), .val (.int (p0 &&& (3 : Int32))), .val (.ref b11), .unset, .unset] [])) ?_ (fun tX kX => XS.goto X12.here hx rfl (pc0 := 107) (pc' := 161) rfl (hb hby at_107) (by decide) (by decide) kX)
      refine OGo.go (B := T12.setTop (mkF m 163 #[.val (.int p0), .val (.int p1), .val (.int p2), .val (.int p3), .val (.int ((p1 &&& (255 : Int32)).toUInt32.toUInt16.toUInt32.toInt32)), .val (.int ((p2 &&& (255 : Int32)).toUInt32.toUInt16.toUInt32.toInt32)), .val (.int ((p3 &&& (255 : Int32)).toUInt32.toUInt16.toUInt32.toInt32)), .val (.ref b1), .val (.ref b2), .val (.ref b4), .val (.ref b7), .val (.int (p0 &&& (3 : Int32))), .val (.ref b11), .unset, .unset] [(.ref b11)])) ?_ (fun tX kX => XS.aload X12.here hx rfl (hb hby at_161) rfl rfl kX)
      obtain ⟨_, _, ⟨T13, L13, k13, n13⟩, -, X13, ⟨Lc13, hQ13, l13, y13, z13⟩, st13⟩ := Jvm.LawKit.callS X12 hx (y := (⟨"com/example/hushlist/hushlist/engine/StanzaException", "conflict", "(Ljava/lang/String;)Lcom/example/hushlist/hushlist/engine/StanzaException;"⟩ : MethodName)) hown12 (mvT hZ12 (hw _ (List.mem_of_getElem? (i := 22) rfl))) (mvT hZ12 (hw _ (List.mem_of_getElem? (i := 23) rfl))) (mvT hZ12 (hw _ (List.mem_of_getElem? (i := 24) rfl))) (mvT hZ12 (hw _ (List.mem_of_getElem? (i := 25) rfl))) (by decide) (backOfKL (W := 0) (rm4r l Z aV hw [] b11 uc us sn T12.heap n0 zn12 S_CONFLICT S_UNASSIGNED_STACK S_SUPPRESSED_SENTINEL hThS hl hus hsn) hZ12 (hw _ (List.mem_of_getElem? (i := 25) rfl)) (hw _ (List.mem_of_getElem? (i := 24) rfl)) (by decide) (by decide) hTK12 hBelow12) (g := (mkF m 163 #[.val (.int p0), .val (.int p1), .val (.int p2), .val (.int p3), .val (.int ((p1 &&& (255 : Int32)).toUInt32.toUInt16.toUInt32.toInt32)), .val (.int ((p2 &&& (255 : Int32)).toUInt32.toUInt16.toUInt32.toInt32)), .val (.int ((p3 &&& (255 : Int32)).toUInt32.toUInt16.toUInt32.toInt32)), .val (.ref b1), .val (.ref b2), .val (.ref b4), .val (.ref b7), .val (.int (p0 &&& (3 : Int32))), .val (.ref b11), .unset, .unset] [(.ref b11)])) rfl (by rw [hml]; rfl) (argsL := [(.ref b11)]) (rest := []) (lenOf pd__Ljava_lang_String__Lcom_example_hushlist_hushlist_engine_StanzaException_ rfl) rfl (by show 2 * 0 + _ ≤ _; exact Nat.le_of_eq rfl) (hb hby at_163) (fun _ _ => ⟨rfl, rfl, (by decide : 7 + 2 ≤ _), (by decide : 14 + 2759 ≤ _)⟩)
      dsimp only [Pt.U, Pt.locs, Pt.cells, Pt.slots] at X13 l13 y13 z13 st13 hQ13
      subst l13 y13 z13
      obtain ⟨b_13, rfl, N13q, Kq13, sz13_b, E_b_13_p, F_condition_b_13_p, F_detailMessage_b_13_p⟩ := hQ13
      have N13 := Fr.app N12 N13q
      have ne_b1_b_13 : b1 ≠ b_13 := Nat.ne_of_lt (Nat.lt_of_lt_of_le E_b1.lt sz13_b)
      have ne_b2_b_13 : b2 ≠ b_13 := Nat.ne_of_lt (Nat.lt_of_lt_of_le E_b2.lt sz13_b)
      have ne_b4_b_13 : b4 ≠ b_13 := Nat.ne_of_lt (Nat.lt_of_lt_of_le E_b4.lt sz13_b)
      have ne_b7_b_13 : b7 ≠ b_13 := Nat.ne_of_lt (Nat.lt_of_lt_of_le E_b7.lt sz13_b)
      have ne_b11_b_13 : b11 ≠ b_13 := Nat.ne_of_lt (Nat.lt_of_lt_of_le E_b11.lt sz13_b)
      have sfs13 : ∀ x ∈ ([] : List Addr), Safe Z own_EL T12.vm T12.heap x := sf0
      have CHo13 := hCH
      have Sf_b1 := Safe.keep Kq13 sfs13 CHo13 Sf_b1
      have Sf_b2 := Safe.keep Kq13 sfs13 CHo13 Sf_b2
      have Sf_b4 := Safe.keep Kq13 sfs13 CHo13 Sf_b4
      have Sf_b7 := Safe.keep Kq13 sfs13 CHo13 Sf_b7
      have Sf_b11 := Safe.keep Kq13 sfs13 CHo13 Sf_b11
      have hCH := CHv.keep Kq13 sfs13 CHo13
      have Sf_b_13 := Safe.keep Kq13 sfs13 CHo13 (Safe.new sz13_b)
      have S_COMPACT_STRINGS := Sta.keep0 S_COMPACT_STRINGS Kq13
      have S_CONFLICT := Sta.keep0 S_CONFLICT Kq13
      have S_UNASSIGNED_STACK := Sta.keep0 S_UNASSIGNED_STACK Kq13
      have S_SUPPRESSED_SENTINEL := Sta.keep0 S_SUPPRESSED_SENTINEL Kq13
      have hThS := hThS.keep Kq13 ns0
      have E_b1 := E_b1.keep Kq13
      have V_b1 := V_b1.keep Kq13 nin0
      have E_b2 := E_b2.keep Kq13
      have V_b2 := V_b2.keep Kq13 nin0
      have E_b4 := E_b4.keep Kq13
      have V_b4 := V_b4.keep Kq13 nin0
      have E_b7 := E_b7.keep Kq13
      have V_b7 := V_b7.keep Kq13 nin0
      have E_b11 := E_b11.keep Kq13
      have g_b_13 : n0 ≤ b_13 := Nat.le_trans zn12 sz13_b
      have sz_b_13 : h0.size ≤ b_13 := Nat.le_trans K12.1 sz13_b
      have K13 := K12.trans Kq13 all0
      have zn13 : n0 ≤ T13.heap.size := Nat.le_trans zn12 Kq13.1
      have hk13 := Nat.le_trans (Nat.le_refl _) Kq13.1
      have E_b_13 := E_b_13_p
      have F_condition_b_13 := F_condition_b_13_p
      have F_detailMessage_b_13 := F_detailMessage_b_13_p
      refine OGo.go (B := T13.setTop (mkF m 166 #[.val (.int p0), .val (.int p1), .val (.int p2), .val (.int p3), .val (.int ((p1 &&& (255 : Int32)).toUInt32.toUInt16.toUInt32.toInt32)), .val (.int ((p2 &&& (255 : Int32)).toUInt32.toUInt16.toUInt32.toInt32)), .val (.int ((p3 &&& (255 : Int32)).toUInt32.toUInt16.toUInt32.toInt32)), .val (.ref b1), .val (.ref b2), .val (.ref b4), .val (.ref b7), .val (.int (p0 &&& (3 : Int32))), .val (.ref b11), .unset, .unset] [(.ref b_13)])) ?_ st13
      refine OGo.go (B := T13.setTop (mkF m 168 #[.val (.int p0), .val (.int p1), .val (.int p2), .val (.int p3), .val (.int ((p1 &&& (255 : Int32)).toUInt32.toUInt16.toUInt32.toInt32)), .val (.int ((p2 &&& (255 : Int32)).toUInt32.toUInt16.toUInt32.toInt32)), .val (.int ((p3 &&& (255 : Int32)).toUInt32.toUInt16.toUInt32.toInt32)), .val (.ref b1), .val (.ref b2), .val (.ref b4), .val (.ref b7), .val (.int (p0 &&& (3 : Int32))), .val (.ref b11), .val (.ref b_13), .unset] [])) ?_ (fun tX kX => XS.astore X13.here hx rfl (hb hby at_166) rfl rfl (l' := #[.val (.int p0), .val (.int p1), .val (.int p2), .val (.int p3), .val (.int ((p1 &&& (255 : Int32)).toUInt32.toUInt16.toUInt32.toInt32)), .val (.int ((p2 &&& (255 : Int32)).toUInt32.toUInt16.toUInt32.toInt32)), .val (.int ((p3 &&& (255 : Int32)).toUInt32.toUInt16.toUInt32.toInt32)), .val (.ref b1), .val (.ref b2), .val (.ref b4), .val (.ref b7), .val (.int (p0 &&& (3 : Int32))), .val (.ref b11), .val (.ref b_13), .unset]) rfl kX)
      refine OGo.go (B := T13.setTop (mkF m 170 #[.val (.int p0), .val (.int p1), .val (.int p2), .val (.int p3), .val (.int ((p1 &&& (255 : Int32)).toUInt32.toUInt16.toUInt32.toInt32)), .val (.int ((p2 &&& (255 : Int32)).toUInt32.toUInt16.toUInt32.toInt32)), .val (.int ((p3 &&& (255 : Int32)).toUInt32.toUInt16.toUInt32.toInt32)), .val (.ref b1), .val (.ref b2), .val (.ref b4), .val (.ref b7), .val (.int (p0 &&& (3 : Int32))), .val (.ref b11), .val (.ref b_13), .unset] [(.ref b_13)])) ?_ (fun tX kX => XS.aload X13.here hx rfl (hb hby at_168) rfl rfl kX)
      refine OGo.go (B := T13.setTop (mkF m 175 #[.val (.int p0), .val (.int p1), .val (.int p2), .val (.int p3), .val (.int ((p1 &&& (255 : Int32)).toUInt32.toUInt16.toUInt32.toInt32)), .val (.int ((p2 &&& (255 : Int32)).toUInt32.toUInt16.toUInt32.toInt32)), .val (.int ((p3 &&& (255 : Int32)).toUInt32.toUInt16.toUInt32.toInt32)), .val (.ref b1), .val (.ref b2), .val (.ref b4), .val (.ref b7), .val (.int (p0 &&& (3 : Int32))), .val (.ref b11), .val (.ref b_13), .unset] [])) ?_ (fun tX kX => XS.ifnonnullYes X13.here hx rfl (pc0 := 170) (pc' := 175) rfl (hb hby at_170) rfl (by decide) (by decide) kX)
      refine OGo.go (B := T13.setTop (mkF m 177 #[.val (.int p0), .val (.int p1), .val (.int p2), .val (.int p3), .val (.int ((p1 &&& (255 : Int32)).toUInt32.toUInt16.toUInt32.toInt32)), .val (.int ((p2 &&& (255 : Int32)).toUInt32.toUInt16.toUInt32.toInt32)), .val (.int ((p3 &&& (255 : Int32)).toUInt32.toUInt16.toUInt32.toInt32)), .val (.ref b1), .val (.ref b2), .val (.ref b4), .val (.ref b7), .val (.int (p0 &&& (3 : Int32))), .val (.ref b11), .val (.ref b_13), .unset] [(.ref b_13)])) ?_ (fun tX kX => XS.aload X13.here hx rfl (hb hby at_175) rfl rfl kX)
      obtain ⟨cq14, kq14, q14a, q14b, q14c⟩ := isOf hZ12 rfl E_b_13
      obtain ⟨_, _, ⟨T14, L14, k14, n14⟩, -, X14, ⟨Lc14, hQ14, l14, y14, z14⟩, st14⟩ := X13.virtualBack hx (y := (⟨"com/example/hushlist/hushlist/engine/StanzaException", "condition", "()Lcom/example/hushlist/hushlist/engine/Condition;"⟩ : MethodName)) (z := (⟨"com/example/hushlist/hushlist/engine/StanzaException", "condition", "()Lcom/example/hushlist/hushlist/engine/Condition;"⟩ : MethodName)) hown12 (mvT hZ12 (hw _ (List.mem_of_getElem? (i := 84) rfl))) (mvT hZ12 (hw _ (List.mem_of_getElem? (i := 85) rfl))) (notFace_of_selects (args := #[]) (mvT hZ12 (hw _ (List.mem_of_getElem? (i := 87) rfl)))) (mvT hZ12 (hw _ (List.mem_of_getElem? (i := 87) rfl))) (mvT hZ12 (hw _ (List.mem_of_getElem? (i := 86) rfl))) (by decide) (backOf (W := 0) (rm10 l Z aV hw [] b_13 uc T13.heap n0 zn13 F_condition_b_13) hZ12 (hw _ (List.mem_of_getElem? (i := 88) rfl)) (hw _ (List.mem_of_getElem? (i := 24) rfl)) (by decide) (by decide)) q14a q14c (g := (mkF m 177 #[.val (.int p0), .val (.int p1), .val (.int p2), .val (.int p3), .val (.int ((p1 &&& (255 : Int32)).toUInt32.toUInt16.toUInt32.toInt32)), .val (.int ((p2 &&& (255 : Int32)).toUInt32.toUInt16.toUInt32.toInt32)), .val (.int ((p3 &&& (255 : Int32)).toUInt32.toUInt16.toUInt32.toInt32)), .val (.ref b1), .val (.ref b2), .val (.ref b4), .val (.ref b7), .val (.int (p0 &&& (3 : Int32))), .val (.ref b11), .val (.ref b_13), .unset] [(.ref b_13)])) rfl (by rw [hml]; rfl) (Steps.refl _) (argsL := []) (rest := []) (lenOf pd___Lcom_example_hushlist_hushlist_engine_Condition_ rfl) rfl (by show 2 * 0 + _ ≤ _; exact Nat.le_of_eq rfl) (hb hby at_177) (fun _ _ => ⟨rfl, rfl, (by decide : 9 + 0 ≤ _), (by decide : 2773 + 0 ≤ _)⟩)
      dsimp only [Pt.U, Pt.locs, Pt.cells, Pt.slots] at X14 l14 y14 z14 st14 hQ14
      subst l14 y14 z14
      obtain ⟨rfl, N14q, e14⟩ := hQ14
      have N14 := Fr.app N13 N14q
      refine OGo.go (B := T14.setTop (mkF m 180 #[.val (.int p0), .val (.int p1), .val (.int p2), .val (.int p3), .val (.int ((p1 &&& (255 : Int32)).toUInt32.toUInt16.toUInt32.toInt32)), .val (.int ((p2 &&& (255 : Int32)).toUInt32.toUInt16.toUInt32.toInt32)), .val (.int ((p3 &&& (255 : Int32)).toUInt32.toUInt16.toUInt32.toInt32)), .val (.ref b1), .val (.ref b2), .val (.ref b4), .val (.ref b7), .val (.int (p0 &&& (3 : Int32))), .val (.ref b11), .val (.ref b_13), .unset] [(.ref uc)])) ?_ (fun tX kX => st14.trans kX)
      obtain ⟨T15, X15, e15, st15⟩ := getS2 X14 hx hZ12 hown12 (host := "") (Or.inl (hw _ (List.mem_of_getElem? (i := 89) rfl))) Via.refl e14 S_CONFLICT (g := (mkF m 180 #[.val (.int p0), .val (.int p1), .val (.int p2), .val (.int p3), .val (.int ((p1 &&& (255 : Int32)).toUInt32.toUInt16.toUInt32.toInt32)), .val (.int ((p2 &&& (255 : Int32)).toUInt32.toUInt16.toUInt32.toInt32)), .val (.int ((p3 &&& (255 : Int32)).toUInt32.toUInt16.toUInt32.toInt32)), .val (.ref b1), .val (.ref b2), .val (.ref b4), .val (.ref b7), .val (.int (p0 &&& (3 : Int32))), .val (.ref b11), .val (.ref b_13), .unset] [(.ref uc)])) rfl (hb hby at_180)
      refine OGo.go (B := T15.setTop (mkF m 183 #[.val (.int p0), .val (.int p1), .val (.int p2), .val (.int p3), .val (.int ((p1 &&& (255 : Int32)).toUInt32.toUInt16.toUInt32.toInt32)), .val (.int ((p2 &&& (255 : Int32)).toUInt32.toUInt16.toUInt32.toInt32)), .val (.int ((p3 &&& (255 : Int32)).toUInt32.toUInt16.toUInt32.toInt32)), .val (.ref b1), .val (.ref b2), .val (.ref b4), .val (.ref b7), .val (.int (p0 &&& (3 : Int32))), .val (.ref b11), .val (.ref b_13), .unset] [(.ref uc), (.ref uc)])) ?_ st15
      refine OGo.go (B := T15.setTop (mkF m 188 #[.val (.int p0), .val (.int p1), .val (.int p2), .val (.int p3), .val (.int ((p1 &&& (255 : Int32)).toUInt32.toUInt16.toUInt32.toInt32)), .val (.int ((p2 &&& (255 : Int32)).toUInt32.toUInt16.toUInt32.toInt32)), .val (.int ((p3 &&& (255 : Int32)).toUInt32.toUInt16.toUInt32.toInt32)), .val (.ref b1), .val (.ref b2), .val (.ref b4), .val (.ref b7), .val (.int (p0 &&& (3 : Int32))), .val (.ref b11), .val (.ref b_13), .unset] [])) ?_ (fun tX kX => Jvm.RoadKit.acmp (g := (mkF m 183 #[.val (.int p0), .val (.int p1), .val (.int p2), .val (.int p3), .val (.int ((p1 &&& (255 : Int32)).toUInt32.toUInt16.toUInt32.toInt32)), .val (.int ((p2 &&& (255 : Int32)).toUInt32.toUInt16.toUInt32.toInt32)), .val (.int ((p3 &&& (255 : Int32)).toUInt32.toUInt16.toUInt32.toInt32)), .val (.ref b1), .val (.ref b2), .val (.ref b4), .val (.ref b7), .val (.int (p0 &&& (3 : Int32))), .val (.ref b11), .val (.ref b_13), .unset] [(.ref uc), (.ref uc)])) X15 hx rfl rfl rfl (pc0 := 183) (pc' := 188) (same := true) rfl (hb hby at_183) rfl (decide_eq_true rfl) (by decide) (by decide) kX)
      refine OGo.go (B := T15.setTop (mkF m 190 #[.val (.int p0), .val (.int p1), .val (.int p2), .val (.int p3), .val (.int ((p1 &&& (255 : Int32)).toUInt32.toUInt16.toUInt32.toInt32)), .val (.int ((p2 &&& (255 : Int32)).toUInt32.toUInt16.toUInt32.toInt32)), .val (.int ((p3 &&& (255 : Int32)).toUInt32.toUInt16.toUInt32.toInt32)), .val (.ref b1), .val (.ref b2), .val (.ref b4), .val (.ref b7), .val (.int (p0 &&& (3 : Int32))), .val (.ref b11), .val (.ref b_13), .unset] [(.ref b_13)])) ?_ (fun tX kX => XS.aload X15.here hx rfl (hb hby at_188) rfl rfl kX)
      obtain ⟨cq16, kq16, q16a, q16b, q16c⟩ := isOf hZ12 e15 E_b_13
      obtain ⟨_, _, ⟨T16, L16, k16, n16⟩, -, X16, ⟨Lc16, hQ16, l16, y16, z16⟩, st16⟩ := X15.virtualBackUp hx (x := (⟨"com/example/hushlist/hushlist/engine/StanzaException", "getMessage", "()Ljava/lang/String;"⟩ : MethodName)) (y := (⟨"java/lang/Throwable", "getMessage", "()Ljava/lang/String;"⟩ : MethodName)) (owner := "java/lang/Throwable") hown12 (mvT hZ12 (hw _ (List.mem_of_getElem? (i := 90) rfl))) (mvT hZ12 (hw _ (List.mem_of_getElem? (i := 91) rfl))) (mvT hZ12 (hw _ (List.mem_of_getElem? (i := 92) rfl))) (by decide) (mvT hZ12 (hw _ (List.mem_of_getElem? (i := 94) rfl))) (mvT hZ12 (hw _ (List.mem_of_getElem? (i := 93) rfl))) (backOf (W := 0) (rm11r l Z aV hw [] b_13 b11 T13.heap n0 zn13 F_detailMessage_b_13) hZ12 (hw _ (List.mem_of_getElem? (i := 95) rfl)) (hw _ (List.mem_of_getElem? (i := 43) rfl)) (by decide) (by decide)) q16a q16c (g := (mkF m 190 #[.val (.int p0), .val (.int p1), .val (.int p2), .val (.int p3), .val (.int ((p1 &&& (255 : Int32)).toUInt32.toUInt16.toUInt32.toInt32)), .val (.int ((p2 &&& (255 : Int32)).toUInt32.toUInt16.toUInt32.toInt32)), .val (.int ((p3 &&& (255 : Int32)).toUInt32.toUInt16.toUInt32.toInt32)), .val (.ref b1), .val (.ref b2), .val (.ref b4), .val (.ref b7), .val (.int (p0 &&& (3 : Int32))), .val (.ref b11), .val (.ref b_13), .unset] [(.ref b_13)])) rfl (by rw [hml]; rfl) (Steps.refl _) (argsL := []) (rest := []) (lenOf pd___Ljava_lang_String_ rfl) rfl (by show 2 * 0 + _ ≤ _; exact Nat.le_of_eq rfl) (hb hby at_190) (fun _ _ => ⟨rfl, e15, (by decide : 9 + 0 ≤ _), (by decide : 2773 + 0 ≤ _)⟩)
      dsimp only [Pt.U, Pt.locs, Pt.cells, Pt.slots] at X16 l16 y16 z16 st16 hQ16
      subst l16 y16 z16
      obtain ⟨rfl, N16q, e16⟩ := hQ16
      have N16 := Fr.app N14 N16q
      refine OGo.go (B := T16.setTop (mkF m 193 #[.val (.int p0), .val (.int p1), .val (.int p2), .val (.int p3), .val (.int ((p1 &&& (255 : Int32)).toUInt32.toUInt16.toUInt32.toInt32)), .val (.int ((p2 &&& (255 : Int32)).toUInt32.toUInt16.toUInt32.toInt32)), .val (.int ((p3 &&& (255 : Int32)).toUInt32.toUInt16.toUInt32.toInt32)), .val (.ref b1), .val (.ref b2), .val (.ref b4), .val (.ref b7), .val (.int (p0 &&& (3 : Int32))), .val (.ref b11), .val (.ref b_13), .unset] [(.ref b11)])) ?_ (fun tX kX => st16.trans kX)
      refine OGo.go (B := T16.setTop (mkF m 195 #[.val (.int p0), .val (.int p1), .val (.int p2), .val (.int p3), .val (.int ((p1 &&& (255 : Int32)).toUInt32.toUInt16.toUInt32.toInt32)), .val (.int ((p2 &&& (255 : Int32)).toUInt32.toUInt16.toUInt32.toInt32)), .val (.int ((p3 &&& (255 : Int32)).toUInt32.toUInt16.toUInt32.toInt32)), .val (.ref b1), .val (.ref b2), .val (.ref b4), .val (.ref b7), .val (.int (p0 &&& (3 : Int32))), .val (.ref b11), .val (.ref b_13), .val (.ref b11)] [])) ?_ (fun tX kX => XS.astore X16.here hx rfl (hb hby at_193) rfl rfl (l' := #[.val (.int p0), .val (.int p1), .val (.int p2), .val (.int p3), .val (.int ((p1 &&& (255 : Int32)).toUInt32.toUInt16.toUInt32.toInt32)), .val (.int ((p2 &&& (255 : Int32)).toUInt32.toUInt16.toUInt32.toInt32)), .val (.int ((p3 &&& (255 : Int32)).toUInt32.toUInt16.toUInt32.toInt32)), .val (.ref b1), .val (.ref b2), .val (.ref b4), .val (.ref b7), .val (.int (p0 &&& (3 : Int32))), .val (.ref b11), .val (.ref b_13), .val (.ref b11)]) rfl kX)
      refine OGo.go (B := T16.setTop (mkF m 197 #[.val (.int p0), .val (.int p1), .val (.int p2), .val (.int p3), .val (.int ((p1 &&& (255 : Int32)).toUInt32.toUInt16.toUInt32.toInt32)), .val (.int ((p2 &&& (255 : Int32)).toUInt32.toUInt16.toUInt32.toInt32)), .val (.int ((p3 &&& (255 : Int32)).toUInt32.toUInt16.toUInt32.toInt32)), .val (.ref b1), .val (.ref b2), .val (.ref b4), .val (.ref b7), .val (.int (p0 &&& (3 : Int32))), .val (.ref b11), .val (.ref b_13), .val (.ref b11)] [(.ref b11)])) ?_ (fun tX kX => XS.aload X16.here hx rfl (hb hby at_195) rfl rfl kX)
      refine OGo.go (B := T16.setTop (mkF m 211 #[.val (.int p0), .val (.int p1), .val (.int p2), .val (.int p3), .val (.int ((p1 &&& (255 : Int32)).toUInt32.toUInt16.toUInt32.toInt32)), .val (.int ((p2 &&& (255 : Int32)).toUInt32.toUInt16.toUInt32.toInt32)), .val (.int ((p3 &&& (255 : Int32)).toUInt32.toUInt16.toUInt32.toInt32)), .val (.ref b1), .val (.ref b2), .val (.ref b4), .val (.ref b7), .val (.int (p0 &&& (3 : Int32))), .val (.ref b11), .val (.ref b_13), .val (.ref b11)] [])) ?_ (fun tX kX => XS.ifnonnullYes X16.here hx rfl (pc0 := 197) (pc' := 211) rfl (hb hby at_197) rfl (by decide) (by decide) kX)
      refine OGo.go (B := T16.setTop (mkF m 213 #[.val (.int p0), .val (.int p1), .val (.int p2), .val (.int p3), .val (.int ((p1 &&& (255 : Int32)).toUInt32.toUInt16.toUInt32.toInt32)), .val (.int ((p2 &&& (255 : Int32)).toUInt32.toUInt16.toUInt32.toInt32)), .val (.int ((p3 &&& (255 : Int32)).toUInt32.toUInt16.toUInt32.toInt32)), .val (.ref b1), .val (.ref b2), .val (.ref b4), .val (.ref b7), .val (.int (p0 &&& (3 : Int32))), .val (.ref b11), .val (.ref b_13), .val (.ref b11)] [(.ref b11)])) ?_ (fun tX kX => XS.aload X16.here hx rfl (hb hby at_211) rfl rfl kX)
      refine OGo.go (B := T16.setTop (mkF m 216 #[.val (.int p0), .val (.int p1), .val (.int p2), .val (.int p3), .val (.int ((p1 &&& (255 : Int32)).toUInt32.toUInt16.toUInt32.toInt32)), .val (.int ((p2 &&& (255 : Int32)).toUInt32.toUInt16.toUInt32.toInt32)), .val (.int ((p3 &&& (255 : Int32)).toUInt32.toUInt16.toUInt32.toInt32)), .val (.ref b1), .val (.ref b2), .val (.ref b4), .val (.ref b7), .val (.int (p0 &&& (3 : Int32))), .val (.ref b11), .val (.ref b_13), .val (.ref b11)] [])) ?_ (fun tX kX => XS.ifnullNo X16.here hx rfl (hb hby at_213) rfl kX)
      refine OGo.go (B := T16.setTop (mkF m 218 #[.val (.int p0), .val (.int p1), .val (.int p2), .val (.int p3), .val (.int ((p1 &&& (255 : Int32)).toUInt32.toUInt16.toUInt32.toInt32)), .val (.int ((p2 &&& (255 : Int32)).toUInt32.toUInt16.toUInt32.toInt32)), .val (.int ((p3 &&& (255 : Int32)).toUInt32.toUInt16.toUInt32.toInt32)), .val (.ref b1), .val (.ref b2), .val (.ref b4), .val (.ref b7), .val (.int (p0 &&& (3 : Int32))), .val (.ref b11), .val (.ref b_13), .val (.ref b11)] [(.ref b11)])) ?_ (fun tX kX => XS.aload X16.here hx rfl (hb hby at_216) rfl rfl kX)
      refine OGo.go (B := T16.setTop (mkF m 220 #[.val (.int p0), .val (.int p1), .val (.int p2), .val (.int p3), .val (.int ((p1 &&& (255 : Int32)).toUInt32.toUInt16.toUInt32.toInt32)), .val (.int ((p2 &&& (255 : Int32)).toUInt32.toUInt16.toUInt32.toInt32)), .val (.int ((p3 &&& (255 : Int32)).toUInt32.toUInt16.toUInt32.toInt32)), .val (.ref b1), .val (.ref b2), .val (.ref b4), .val (.ref b7), .val (.int (p0 &&& (3 : Int32))), .val (.ref b11), .val (.ref b_13), .val (.ref b11)] [(.ref b11), (.ref b11)])) ?_ (fun tX kX => XS.aload X16.here hx rfl (hb hby at_218) rfl rfl kX)
      obtain ⟨cq17, kq17, q17a, q17b, q17c⟩ := isOf hZ12 e16 E_b11
      obtain ⟨_, _, ⟨T17, L17, k17, n17⟩, -, X17, ⟨Lc17, hQ17, l17, y17, z17⟩, st17⟩ := X16.virtualBack hx (y := (⟨"java/lang/String", "equals", "(Ljava/lang/Object;)Z"⟩ : MethodName)) (z := (⟨"java/lang/String", "equals", "(Ljava/lang/Object;)Z"⟩ : MethodName)) hown12 (mvT hZ12 (hw _ (List.mem_of_getElem? (i := 96) rfl))) (mvT hZ12 (hw _ (List.mem_of_getElem? (i := 97) rfl))) (notFace_of_selects (args := #[]) (mvT hZ12 (hw _ (List.mem_of_getElem? (i := 99) rfl)))) (mvT hZ12 (hw _ (List.mem_of_getElem? (i := 99) rfl))) (mvT hZ12 (hw _ (List.mem_of_getElem? (i := 98) rfl))) (by decide) (backOf (W := 0) (rm12 l Z aV hw [] b11 b11 T13.heap n0 zn13) hZ12 (hw _ (List.mem_of_getElem? (i := 100) rfl)) (hw _ (List.mem_of_getElem? (i := 3) rfl)) (by decide) (by decide)) q17a q17c (g := (mkF m 220 #[.val (.int p0), .val (.int p1), .val (.int p2), .val (.int p3), .val (.int ((p1 &&& (255 : Int32)).toUInt32.toUInt16.toUInt32.toInt32)), .val (.int ((p2 &&& (255 : Int32)).toUInt32.toUInt16.toUInt32.toInt32)), .val (.int ((p3 &&& (255 : Int32)).toUInt32.toUInt16.toUInt32.toInt32)), .val (.ref b1), .val (.ref b2), .val (.ref b4), .val (.ref b7), .val (.int (p0 &&& (3 : Int32))), .val (.ref b11), .val (.ref b_13), .val (.ref b11)] [(.ref b11), (.ref b11)])) rfl (by rw [hml]; rfl) (Steps.refl _) (argsL := [(.ref b11)]) (rest := []) (lenOf pd__Ljava_lang_Object__Z rfl) rfl (by show 2 * 0 + _ ≤ _; exact Nat.le_of_eq rfl) (hb hby at_220) (fun _ _ => ⟨rfl, e16, (by decide : 9 + 0 ≤ _), (by decide : 2773 + 0 ≤ _)⟩)
      dsimp only [Pt.U, Pt.locs, Pt.cells, Pt.slots] at X17 l17 y17 z17 st17 hQ17
      subst l17 y17 z17
      obtain ⟨rfl, N17q, e17⟩ := hQ17
      have N17 := Fr.app N16 N17q
      refine OGo.go (B := T17.setTop (mkF m 223 #[.val (.int p0), .val (.int p1), .val (.int p2), .val (.int p3), .val (.int ((p1 &&& (255 : Int32)).toUInt32.toUInt16.toUInt32.toInt32)), .val (.int ((p2 &&& (255 : Int32)).toUInt32.toUInt16.toUInt32.toInt32)), .val (.int ((p3 &&& (255 : Int32)).toUInt32.toUInt16.toUInt32.toInt32)), .val (.ref b1), .val (.ref b2), .val (.ref b4), .val (.ref b7), .val (.int (p0 &&& (3 : Int32))), .val (.ref b11), .val (.ref b_13), .val (.ref b11)] [(.int (1 : Int32))])) ?_ (fun tX kX => st17.trans kX)
      refine OGo.go (B := T17.setTop (mkF m 226 #[.val (.int p0), .val (.int p1), .val (.int p2), .val (.int p3), .val (.int ((p1 &&& (255 : Int32)).toUInt32.toUInt16.toUInt32.toInt32)), .val (.int ((p2 &&& (255 : Int32)).toUInt32.toUInt16.toUInt32.toInt32)), .val (.int ((p3 &&& (255 : Int32)).toUInt32.toUInt16.toUInt32.toInt32)), .val (.ref b1), .val (.ref b2), .val (.ref b4), .val (.ref b7), .val (.int (p0 &&& (3 : Int32))), .val (.ref b11), .val (.ref b_13), .val (.ref b11)] [])) ?_ (fun tX kX => XS.ifNo X17.here hx rfl (hb hby at_223) rfl ((if0 _ _).trans (feq (by decide)).1) kX)
      refine OGo.go (B := T17.setTop (mkF m 227 #[.val (.int p0), .val (.int p1), .val (.int p2), .val (.int p3), .val (.int ((p1 &&& (255 : Int32)).toUInt32.toUInt16.toUInt32.toInt32)), .val (.int ((p2 &&& (255 : Int32)).toUInt32.toUInt16.toUInt32.toInt32)), .val (.int ((p3 &&& (255 : Int32)).toUInt32.toUInt16.toUInt32.toInt32)), .val (.ref b1), .val (.ref b2), .val (.ref b4), .val (.ref b7), .val (.int (p0 &&& (3 : Int32))), .val (.ref b11), .val (.ref b_13), .val (.ref b11)] [(.int (1 : Int32))])) ?_ (fun tX kX => XS.iconst X17.here hx rfl (hb hby at_226) kX)
      refine OGo.go (B := T17.setTop (mkF m 231 #[.val (.int p0), .val (.int p1), .val (.int p2), .val (.int p3), .val (.int ((p1 &&& (255 : Int32)).toUInt32.toUInt16.toUInt32.toInt32)), .val (.int ((p2 &&& (255 : Int32)).toUInt32.toUInt16.toUInt32.toInt32)), .val (.int ((p3 &&& (255 : Int32)).toUInt32.toUInt16.toUInt32.toInt32)), .val (.ref b1), .val (.ref b2), .val (.ref b4), .val (.ref b7), .val (.int (p0 &&& (3 : Int32))), .val (.ref b11), .val (.ref b_13), .val (.ref b11)] [(.int (1 : Int32))])) ?_ (fun tX kX => XS.goto X17.here hx rfl (pc0 := 227) (pc' := 231) rfl (hb hby at_227) (by decide) (by decide) kX)
      refine OGo.retW X17 hS12 (by rw [e17]; exact hk13) (v := (some (.int (1 : Int32)))) (fun h => by rw [Bd.returns] at h; cases h) (BodyLoose.notSynchronized Bd) (fun fs hr => retN X17 hx (t := .boolean) (z := (1 : Int32)) Bd.returns (by simp) (hb hby at_231) hr) (Q := Q0 Z p0 p1 p2 p3 cs uc us sn h0 n0) ?_ (by decide) (by decide)
      show Q0 Z p0 p1 p2 p3 cs uc us sn h0 n0 _ T17.heap _
      rw [e17]
      exact ⟨rfl, N17⟩
    ·
      refine OGo.go (B := T10.setTop (mkF m 110 #[.val (.int p0), .val (.int p1), .val (.int p2), .val (.int p3), .val (.int ((p1 &&& (255 : Int32)).toUInt32.toUInt16.toUInt32.toInt32)), .val (.int ((p2 &&& (255 : Int32)).toUInt32.toUInt16.toUInt32.toInt32)), .val (.int ((p3 &&& (255 : Int32)).toUInt32.toUInt16.toUInt32.toInt32)), .val (.ref b1), .val (.ref b2), .val (.ref b4), .val (.ref b7), .val (.int (p0 &&& (3 : Int32))), .unset, .unset, .unset] [])) ?_ (fun tX kX => XS.ifYes X10.here hx rfl (pc0 := 93) (pc' := 110) rfl (hb hby at_93) rfl ((if0 _ _).trans (feq hc93).2) (by decide) (by decide) kX)
      refine OGo.go (B := T10.setTop (mkF m 112 #[.val (.int p0), .val (.int p1), .val (.int p2), .val (.int p3), .val (.int ((p1 &&& (255 : Int32)).toUInt32.toUInt16.toUInt32.toInt32)), .val (.int ((p2 &&& (255 : Int32)).toUInt32.toUInt16.toUInt32.toInt32)), .val (.int ((p3 &&& (255 : Int32)).toUInt32.toUInt16.toUInt32.toInt32)), .val (.ref b1), .val (.ref b2), .val (.ref b4), .val (.ref b7), .val (.int (p0 &&& (3 : Int32))), .unset, .unset, .unset] [(.int (p0 &&& (3 : Int32)))])) ?_ (fun tX kX => XS.iload X10.here hx rfl (hb hby at_110) rfl kX)
      refine OGo.go (B := T10.setTop (mkF m 113 #[.val (.int p0), .val (.int p1), .val (.int p2), .val (.int p3), .val (.int ((p1 &&& (255 : Int32)).toUInt32.toUInt16.toUInt32.toInt32)), .val (.int ((p2 &&& (255 : Int32)).toUInt32.toUInt16.toUInt32.toInt32)), .val (.int ((p3 &&& (255 : Int32)).toUInt32.toUInt16.toUInt32.toInt32)), .val (.ref b1), .val (.ref b2), .val (.ref b4), .val (.ref b7), .val (.int (p0 &&& (3 : Int32))), .unset, .unset, .unset] [(.int (1 : Int32)), (.int (p0 &&& (3 : Int32)))])) ?_ (fun tX kX => XS.iconst X10.here hx rfl (hb hby at_112) kX)
      by_cases hc113 : (p0 &&& (3 : Int32)) = (1 : Int32)
      ·
        refine OGo.go (B := T10.setTop (mkF m 116 #[.val (.int p0), .val (.int p1), .val (.int p2), .val (.int p3), .val (.int ((p1 &&& (255 : Int32)).toUInt32.toUInt16.toUInt32.toInt32)), .val (.int ((p2 &&& (255 : Int32)).toUInt32.toUInt16.toUInt32.toInt32)), .val (.int ((p3 &&& (255 : Int32)).toUInt32.toUInt16.toUInt32.toInt32)), .val (.ref b1), .val (.ref b2), .val (.ref b4), .val (.ref b7), .val (.int (p0 &&& (3 : Int32))), .unset, .unset, .unset] [])) ?_ (fun tX kX => XS.icmpNo X10.here hx rfl (hb hby at_113) rfl (teq hc113).2 kX)
        obtain ⟨T18, h18, X18, e18, E18, A18, D18, C18, st18⟩ := newO X10 hx hZ hown (hw _ (List.mem_of_getElem? (i := 1) rfl)) (hw _ (List.mem_of_getElem? (i := 2) rfl)) (hw _ (List.mem_of_getElem? (i := 3) rfl)) e10 (g := (mkF m 116 #[.val (.int p0), .val (.int p1), .val (.int p2), .val (.int p3), .val (.int ((p1 &&& (255 : Int32)).toUInt32.toUInt16.toUInt32.toInt32)), .val (.int ((p2 &&& (255 : Int32)).toUInt32.toUInt16.toUInt32.toInt32)), .val (.int ((p3 &&& (255 : Int32)).toUInt32.toUInt16.toUInt32.toInt32)), .val (.ref b1), .val (.ref b2), .val (.ref b4), .val (.ref b7), .val (.int (p0 &&& (3 : Int32))), .unset, .unset, .unset] [])) rfl (hb hby at_116) (by decide) (by decide)
        obtain ⟨b18, g18⟩ : ∃ z, z = h10.size := ⟨_, rfl⟩
        rw [← g18] at A18 D18 st18 C18
        have ne_b1_b18 : b1 ≠ b18 := Nat.ne_of_lt (Nat.lt_of_lt_of_le E_b1.lt (Nat.le_of_eq g18.symm))
        have ne_b2_b18 : b2 ≠ b18 := Nat.ne_of_lt (Nat.lt_of_lt_of_le E_b2.lt (Nat.le_of_eq g18.symm))
        have ne_b4_b18 : b4 ≠ b18 := Nat.ne_of_lt (Nat.lt_of_lt_of_le E_b4.lt (Nat.le_of_eq g18.symm))
        have ne_b7_b18 : b7 ≠ b18 := Nat.ne_of_lt (Nat.lt_of_lt_of_le E_b7.lt (Nat.le_of_eq g18.symm))
        have CHo18 := hCH
        have Sf_b1 := Safe.ext E18 CHo18 Sf_b1
        have Sf_b2 := Safe.ext E18 CHo18 Sf_b2
        have Sf_b4 := Safe.ext E18 CHo18 Sf_b4
        have Sf_b7 := Safe.ext E18 CHo18 Sf_b7
        have hCH := CHv.ext E18 CHo18
        have S_COMPACT_STRINGS := S_COMPACT_STRINGS.ext E18
        have S_CONFLICT := S_CONFLICT.ext E18
        have S_UNASSIGNED_STACK := S_UNASSIGNED_STACK.ext E18
        have S_SUPPRESSED_SENTINEL := S_SUPPRESSED_SENTINEL.ext E18
        have hThS := hThS.ext E18
        have E_b1 := E_b1.ext E18
        have V_b1 := V_b1.ext E18
        have E_b2 := E_b2.ext E18
        have V_b2 := V_b2.ext E18
        have E_b4 := E_b4.ext E18
        have V_b4 := V_b4.ext E18
        have E_b7 := E_b7.ext E18
        have V_b7 := V_b7.ext E18
        have Sf_b18 : Safe Z own_EL s.vm h18 b18 := Safe.ext E18 CHo18 (Safe.new (Nat.le_of_eq g18.symm))
        have g_b18 : n0 ≤ b18 := Nat.le_trans zn10 (Nat.le_of_eq g18.symm)
        have sz_b18 : h0.size ≤ b18 := Nat.le_trans K10.1 (Nat.le_of_eq g18.symm)
        have zn18 : n0 ≤ h18.size := Nat.le_trans zn10 E18.1
        have hk18 := Nat.le_trans hk10 E18.1
        have K18 := K10.ext E18
        have E_b18 := A18
        have F_value_b18 : Fld Z h18 b18 "java/lang/String" "value" "[B" .null := D18 (Or.inr (hw _ (List.mem_of_getElem? (i := 16) rfl))) (ty := (.array .byte)) (by decide)
        have F_coder_b18 : Fld Z h18 b18 "java/lang/String" "coder" "B" (.int (0 : Int32)) := D18 (Or.inr (hw _ (List.mem_of_getElem? (i := 17) rfl))) (ty := .byte) (by decide)
        refine OGo.go (B := T18.setTop (mkF m 119 #[.val (.int p0), .val (.int p1), .val (.int p2), .val (.int p3), .val (.int ((p1 &&& (255 : Int32)).toUInt32.toUInt16.toUInt32.toInt32)), .val (.int ((p2 &&& (255 : Int32)).toUInt32.toUInt16.toUInt32.toInt32)), .val (.int ((p3 &&& (255 : Int32)).toUInt32.toUInt16.toUInt32.toInt32)), .val (.ref b1), .val (.ref b2), .val (.ref b4), .val (.ref b7), .val (.int (p0 &&& (3 : Int32))), .unset, .unset, .unset] [(.ref b18)])) ?_ st18
        refine OGo.go (B := T18.setTop (mkF m 120 #[.val (.int p0), .val (.int p1), .val (.int p2), .val (.int p3), .val (.int ((p1 &&& (255 : Int32)).toUInt32.toUInt16.toUInt32.toInt32)), .val (.int ((p2 &&& (255 : Int32)).toUInt32.toUInt16.toUInt32.toInt32)), .val (.int ((p3 &&& (255 : Int32)).toUInt32.toUInt16.toUInt32.toInt32)), .val (.ref b1), .val (.ref b2), .val (.ref b4), .val (.ref b7), .val (.int (p0 &&& (3 : Int32))), .unset, .unset, .unset] [(.ref b18), (.ref b18)])) ?_ (fun tX kX => XS.dup X18.here hx rfl (hb hby at_119) rfl rfl kX)
        refine OGo.go (B := T18.setTop (mkF m 122 #[.val (.int p0), .val (.int p1), .val (.int p2), .val (.int p3), .val (.int ((p1 &&& (255 : Int32)).toUInt32.toUInt16.toUInt32.toInt32)), .val (.int ((p2 &&& (255 : Int32)).toUInt32.toUInt16.toUInt32.toInt32)), .val (.int ((p3 &&& (255 : Int32)).toUInt32.toUInt16.toUInt32.toInt32)), .val (.ref b1), .val (.ref b2), .val (.ref b4), .val (.ref b7), .val (.int (p0 &&& (3 : Int32))), .unset, .unset, .unset] [(.ref b2), (.ref b18), (.ref b18)])) ?_ (fun tX kX => XS.aload X18.here hx rfl (hb hby at_120) rfl rfl kX)
        obtain ⟨_, _, ⟨T19, L19, k19, n19⟩, -, X19, ⟨Lc19, hQ19, l19, y19, z19⟩, st19⟩ := X18.specialBack hx (y := (⟨"java/lang/String", "<init>", "([C)V"⟩ : MethodName)) rfl hown (mvT hZ (hw _ (List.mem_of_getElem? (i := 4) rfl))) (mvT hZ (hw _ (List.mem_of_getElem? (i := 5) rfl))) (mvT hZ (hw _ (List.mem_of_getElem? (i := 6) rfl))) (by decide) (backOf (W := 1) (rm1c1 l Z aV hw [] b18 b2 .null (.int (0 : Int32)) k2 cs (((p1 &&& (255 : Int32)).toUInt32.toUInt16.toUInt32.toInt32).toUInt32.toUInt16.toUInt32.toInt32) h18 n0 zn18 E_b18 F_value_b18 F_coder_b18 V_b2 S_COMPACT_STRINGS g_b18 ne_b2_b18 hcs (own_le _)) hZ (hw _ (List.mem_of_getElem? (i := 6) rfl)) (hw _ (List.mem_of_getElem? (i := 3) rfl)) (by decide) (by decide)) (g := (mkF m 122 #[.val (.int p0), .val (.int p1), .val (.int p2), .val (.int p3), .val (.int ((p1 &&& (255 : Int32)).toUInt32.toUInt16.toUInt32.toInt32)), .val (.int ((p2 &&& (255 : Int32)).toUInt32.toUInt16.toUInt32.toInt32)), .val (.int ((p3 &&& (255 : Int32)).toUInt32.toUInt16.toUInt32.toInt32)), .val (.ref b1), .val (.ref b2), .val (.ref b4), .val (.ref b7), .val (.int (p0 &&& (3 : Int32))), .unset, .unset, .unset] [(.ref b2), (.ref b18), (.ref b18)])) rfl (by rw [hml]; rfl) (Steps.refl _) (a := b18) (argsL := [(.ref b2)]) (rest := [(.ref b18)]) (lenOf pd___C_V rfl) rfl (by show 2 * 0 + _ ≤ _; exact Nat.le_of_eq rfl) (hb hby at_122) (fun _ _ => ⟨rfl, e18, (by decide : 5 + 1 ≤ _), (by decide : 10 + 1 ≤ _)⟩)
        dsimp only [Pt.U, Pt.locs, Pt.cells, Pt.slots] at X19 l19 y19 z19 st19 hQ19
        subst l19 y19 z19
        obtain ⟨rfl, N19q, Kq19, E_b18_p⟩ := hQ19
        have N19 := Fr.app N10 N19q
        have sfs19 : ∀ x ∈ [b18], Safe Z own_EL s.vm h18 x := (sfS Sf_b18 sf0)
        have CHo19 := hCH
        have Sf_b1 := Safe.keep Kq19 sfs19 CHo19 Sf_b1
        have Sf_b2 := Safe.keep Kq19 sfs19 CHo19 Sf_b2
        have Sf_b4 := Safe.keep Kq19 sfs19 CHo19 Sf_b4
        have Sf_b7 := Safe.keep Kq19 sfs19 CHo19 Sf_b7
        have Sf_b18 := Safe.keep Kq19 sfs19 CHo19 Sf_b18
        have hCH := CHv.keep Kq19 sfs19 CHo19
        have S_COMPACT_STRINGS := Sta.keepE S_COMPACT_STRINGS Kq19 (staS E_b18.cell (fun x hx' => nomatch hx'))
        have S_CONFLICT := Sta.keepE S_CONFLICT Kq19 (staS E_b18.cell (fun x hx' => nomatch hx'))
        have S_UNASSIGNED_STACK := Sta.keepE S_UNASSIGNED_STACK Kq19 (staS E_b18.cell (fun x hx' => nomatch hx'))
        have S_SUPPRESSED_SENTINEL := Sta.keepE S_SUPPRESSED_SENTINEL Kq19 (staS E_b18.cell (fun x hx' => nomatch hx'))
        have hThS := hThS.keep Kq19 (nsS E_b18.nostat ns0)
        have E_b1 := E_b1.keep Kq19
        have V_b1 := V_b1.keep Kq19 (ninS ne_b1_b18 nin0)
        have E_b2 := E_b2.keep Kq19
        have V_b2 := V_b2.keep Kq19 (ninS ne_b2_b18 nin0)
        have E_b4 := E_b4.keep Kq19
        have V_b4 := V_b4.keep Kq19 (ninS ne_b4_b18 nin0)
        have E_b7 := E_b7.keep Kq19
        have V_b7 := V_b7.keep Kq19 (ninS ne_b7_b18 nin0)
        have E_b18 := E_b18.keep Kq19
        have K19 := K18.trans Kq19 (allS (P := fun x => x ∈ ([] : List Addr) ∨ h0.size ≤ x) (Or.inr sz_b18) all0)
        have zn19 : n0 ≤ T19.heap.size := Nat.le_trans zn18 Kq19.1
        have hk19 := Nat.le_trans hk18 Kq19.1
        have E_b18 := E_b18_p
        refine OGo.go (B := T19.setTop (mkF m 125 #[.val (.int p0), .val (.int p1), .val (.int p2), .val (.int p3), .val (.int ((p1 &&& (255 : Int32)).toUInt32.toUInt16.toUInt32.toInt32)), .val (.int ((p2 &&& (255 : Int32)).toUInt32.toUInt16.toUInt32.toInt32)), .val (.int ((p3 &&& (255 : Int32)).toUInt32.toUInt16.toUInt32.toInt32)), .val (.ref b1), .val (.ref b2), .val (.ref b4), .val (.ref b7), .val (.int (p0 &&& (3 : Int32))), .unset, .unset, .unset] [(.ref b18)])) ?_ (fun tX kX => st19.trans kX)
        refine OGo.go (B := T19.setTop (mkF m 127 #[.val (.int p0), .val (.int p1), .val (.int p2), .val (.int p3), .val (.int ((p1 &&& (255 : Int32)).toUInt32.toUInt16.toUInt32.toInt32)), .val (.int ((p2 &&& (255 : Int32)).toUInt32.toUInt16.toUInt32.toInt32)), .val (.int ((p3 &&& (255 : Int32)).toUInt32.toUInt16.toUInt32.toInt32)), .val (.ref b1), .val (.ref b2), .val (.ref b4), .val (.ref b7), .val (.int (p0 &&& (3 : Int32))), .val (.ref b18), .unset, .unset] [])) ?_ (fun tX kX => XS.astore X19.here hx rfl (hb hby at_125) rfl rfl (l' := #[.val (.int p0), .val (.int p1), .val (.int p2), .val (.int p3), .val (.int ((p1 &&& (255 : Int32)).toUInt32.toUInt16.toUInt32.toInt32)), .val (.int ((p2 &&& (255 : Int32)).toUInt32.toUInt16.toUInt32.toInt32)), .val (.int ((p3 &&& (255 : Int32)).toUInt32.toUInt16.toUInt32.toInt32)), .val (.ref b1), .val (.ref b2), .val (.ref b4), .val (.ref b7), .val (.int (p0 &&& (3 : Int32))), .val (.ref b18), .unset, .unset]) rfl kX)
        refine OGo.go (B := T19.setTop (mkF m 161 #[.val (.int p0), .val (.int p1), .val (.int p2), .val (.int p3), .val (.int ((p1 &&& (255 : Int32)).toUInt32.toUInt16.toUInt32.toInt32)), .val (.int ((p2 &&& (255 : Int32)).toUInt32.toUInt16.toUInt32.toInt32)), .val (.int ((p3 &&& (255 : Int32)).toUInt32.toUInt16.toUInt32.toInt32)), .val (.ref b1), .val (.ref b2), .val (.ref b4), .val (.ref b7), .val (.int (p0 &&& (3 : Int32))), .val (.ref b18), .unset, .unset] [])) ?_ (fun tX kX => XS.goto X19.here hx rfl (pc0 := 127) (pc' := 161) rfl (hb hby at_127) (by decide) (by decide) kX)
        refine OGo.go (B := T19.setTop (mkF m 163 #[.val (.int p0), .val (.int p1), .val (.int p2), .val (.int p3), .val (.int ((p1 &&& (255 : Int32)).toUInt32.toUInt16.toUInt32.toInt32)), .val (.int ((p2 &&& (255 : Int32)).toUInt32.toUInt16.toUInt32.toInt32)), .val (.int ((p3 &&& (255 : Int32)).toUInt32.toUInt16.toUInt32.toInt32)), .val (.ref b1), .val (.ref b2), .val (.ref b4), .val (.ref b7), .val (.int (p0 &&& (3 : Int32))), .val (.ref b18), .unset, .unset] [(.ref b18)])) ?_ (fun tX kX => XS.aload X19.here hx rfl (hb hby at_161) rfl rfl kX)
        obtain ⟨_, _, ⟨T20, L20, k20, n20⟩, -, X20, ⟨Lc20, hQ20, l20, y20, z20⟩, st20⟩ := Jvm.LawKit.callS X19 hx (y := (⟨"com/example/hushlist/hushlist/engine/StanzaException", "conflict", "(Ljava/lang/String;)Lcom/example/hushlist/hushlist/engine/StanzaException;"⟩ : MethodName)) hown (mvT hZ (hw _ (List.mem_of_getElem? (i := 22) rfl))) (mvT hZ (hw _ (List.mem_of_getElem? (i := 23) rfl))) (mvT hZ (hw _ (List.mem_of_getElem? (i := 24) rfl))) (mvT hZ (hw _ (List.mem_of_getElem? (i := 25) rfl))) (by decide) (backOfKL (W := 0) (rm4r l Z aV hw [] b18 uc us sn T19.heap n0 zn19 S_CONFLICT S_UNASSIGNED_STACK S_SUPPRESSED_SENTINEL hThS hl hus hsn) hZ (hw _ (List.mem_of_getElem? (i := 25) rfl)) (hw _ (List.mem_of_getElem? (i := 24) rfl)) (by decide) (by decide) hTK hBelow) (g := (mkF m 163 #[.val (.int p0), .val (.int p1), .val (.int p2), .val (.int p3), .val (.int ((p1 &&& (255 : Int32)).toUInt32.toUInt16.toUInt32.toInt32)), .val (.int ((p2 &&& (255 : Int32)).toUInt32.toUInt16.toUInt32.toInt32)), .val (.int ((p3 &&& (255 : Int32)).toUInt32.toUInt16.toUInt32.toInt32)), .val (.ref b1), .val (.ref b2), .val (.ref b4), .val (.ref b7), .val (.int (p0 &&& (3 : Int32))), .val (.ref b18), .unset, .unset] [(.ref b18)])) rfl (by rw [hml]; rfl) (argsL := [(.ref b18)]) (rest := []) (lenOf pd__Ljava_lang_String__Lcom_example_hushlist_hushlist_engine_StanzaException_ rfl) rfl (by show 2 * 0 + _ ≤ _; exact Nat.le_of_eq rfl) (hb hby at_163) (fun _ _ => ⟨rfl, rfl, (by decide : 6 + 2 ≤ _), (by decide : 11 + 2759 ≤ _)⟩)
        dsimp only [Pt.U, Pt.locs, Pt.cells, Pt.slots] at X20 l20 y20 z20 st20 hQ20
        subst l20 y20 z20
        obtain ⟨b_20, rfl, N20q, Kq20, sz20_b, E_b_20_p, F_condition_b_20_p, F_detailMessage_b_20_p⟩ := hQ20
        have N20 := Fr.app N19 N20q
        have ne_b1_b_20 : b1 ≠ b_20 := Nat.ne_of_lt (Nat.lt_of_lt_of_le E_b1.lt sz20_b)
        have ne_b2_b_20 : b2 ≠ b_20 := Nat.ne_of_lt (Nat.lt_of_lt_of_le E_b2.lt sz20_b)
        have ne_b4_b_20 : b4 ≠ b_20 := Nat.ne_of_lt (Nat.lt_of_lt_of_le E_b4.lt sz20_b)
        have ne_b7_b_20 : b7 ≠ b_20 := Nat.ne_of_lt (Nat.lt_of_lt_of_le E_b7.lt sz20_b)
        have ne_b18_b_20 : b18 ≠ b_20 := Nat.ne_of_lt (Nat.lt_of_lt_of_le E_b18.lt sz20_b)
        have sfs20 : ∀ x ∈ ([] : List Addr), Safe Z own_EL s.vm T19.heap x := sf0
        have CHo20 := hCH
        have Sf_b1 := Safe.keep Kq20 sfs20 CHo20 Sf_b1
        have Sf_b2 := Safe.keep Kq20 sfs20 CHo20 Sf_b2
        have Sf_b4 := Safe.keep Kq20 sfs20 CHo20 Sf_b4
        have Sf_b7 := Safe.keep Kq20 sfs20 CHo20 Sf_b7
        have Sf_b18 := Safe.keep Kq20 sfs20 CHo20 Sf_b18
        have hCH := CHv.keep Kq20 sfs20 CHo20
        have Sf_b_20 := Safe.keep Kq20 sfs20 CHo20 (Safe.new sz20_b)
        have S_COMPACT_STRINGS := Sta.keep0 S_COMPACT_STRINGS Kq20
        have S_CONFLICT := Sta.keep0 S_CONFLICT Kq20
        have S_UNASSIGNED_STACK := Sta.keep0 S_UNASSIGNED_STACK Kq20
        have S_SUPPRESSED_SENTINEL := Sta.keep0 S_SUPPRESSED_SENTINEL Kq20
        have hThS := hThS.keep Kq20 ns0
        have E_b1 := E_b1.keep Kq20
        have V_b1 := V_b1.keep Kq20 nin0
        have E_b2 := E_b2.keep Kq20
        have V_b2 := V_b2.keep Kq20 nin0
        have E_b4 := E_b4.keep Kq20
        have V_b4 := V_b4.keep Kq20 nin0
        have E_b7 := E_b7.keep Kq20
        have V_b7 := V_b7.keep Kq20 nin0
        have E_b18 := E_b18.keep Kq20
        have g_b_20 : n0 ≤ b_20 := Nat.le_trans zn19 sz20_b
        have sz_b_20 : h0.size ≤ b_20 := Nat.le_trans K19.1 sz20_b
        have K20 := K19.trans Kq20 all0
        have zn20 : n0 ≤ T20.heap.size := Nat.le_trans zn19 Kq20.1
        have hk20 := Nat.le_trans hk19 Kq20.1
        have E_b_20 := E_b_20_p
        have F_condition_b_20 := F_condition_b_20_p
        have F_detailMessage_b_20 := F_detailMessage_b_20_p
        refine OGo.go (B := T20.setTop (mkF m 166 #[.val (.int p0), .val (.int p1), .val (.int p2), .val (.int p3), .val (.int ((p1 &&& (255 : Int32)).toUInt32.toUInt16.toUInt32.toInt32)), .val (.int ((p2 &&& (255 : Int32)).toUInt32.toUInt16.toUInt32.toInt32)), .val (.int ((p3 &&& (255 : Int32)).toUInt32.toUInt16.toUInt32.toInt32)), .val (.ref b1), .val (.ref b2), .val (.ref b4), .val (.ref b7), .val (.int (p0 &&& (3 : Int32))), .val (.ref b18), .unset, .unset] [(.ref b_20)])) ?_ st20
        refine OGo.go (B := T20.setTop (mkF m 168 #[.val (.int p0), .val (.int p1), .val (.int p2), .val (.int p3), .val (.int ((p1 &&& (255 : Int32)).toUInt32.toUInt16.toUInt32.toInt32)), .val (.int ((p2 &&& (255 : Int32)).toUInt32.toUInt16.toUInt32.toInt32)), .val (.int ((p3 &&& (255 : Int32)).toUInt32.toUInt16.toUInt32.toInt32)), .val (.ref b1), .val (.ref b2), .val (.ref b4), .val (.ref b7), .val (.int (p0 &&& (3 : Int32))), .val (.ref b18), .val (.ref b_20), .unset] [])) ?_ (fun tX kX => XS.astore X20.here hx rfl (hb hby at_166) rfl rfl (l' := #[.val (.int p0), .val (.int p1), .val (.int p2), .val (.int p3), .val (.int ((p1 &&& (255 : Int32)).toUInt32.toUInt16.toUInt32.toInt32)), .val (.int ((p2 &&& (255 : Int32)).toUInt32.toUInt16.toUInt32.toInt32)), .val (.int ((p3 &&& (255 : Int32)).toUInt32.toUInt16.toUInt32.toInt32)), .val (.ref b1), .val (.ref b2), .val (.ref b4), .val (.ref b7), .val (.int (p0 &&& (3 : Int32))), .val (.ref b18), .val (.ref b_20), .unset]) rfl kX)
        refine OGo.go (B := T20.setTop (mkF m 170 #[.val (.int p0), .val (.int p1), .val (.int p2), .val (.int p3), .val (.int ((p1 &&& (255 : Int32)).toUInt32.toUInt16.toUInt32.toInt32)), .val (.int ((p2 &&& (255 : Int32)).toUInt32.toUInt16.toUInt32.toInt32)), .val (.int ((p3 &&& (255 : Int32)).toUInt32.toUInt16.toUInt32.toInt32)), .val (.ref b1), .val (.ref b2), .val (.ref b4), .val (.ref b7), .val (.int (p0 &&& (3 : Int32))), .val (.ref b18), .val (.ref b_20), .unset] [(.ref b_20)])) ?_ (fun tX kX => XS.aload X20.here hx rfl (hb hby at_168) rfl rfl kX)
        refine OGo.go (B := T20.setTop (mkF m 175 #[.val (.int p0), .val (.int p1), .val (.int p2), .val (.int p3), .val (.int ((p1 &&& (255 : Int32)).toUInt32.toUInt16.toUInt32.toInt32)), .val (.int ((p2 &&& (255 : Int32)).toUInt32.toUInt16.toUInt32.toInt32)), .val (.int ((p3 &&& (255 : Int32)).toUInt32.toUInt16.toUInt32.toInt32)), .val (.ref b1), .val (.ref b2), .val (.ref b4), .val (.ref b7), .val (.int (p0 &&& (3 : Int32))), .val (.ref b18), .val (.ref b_20), .unset] [])) ?_ (fun tX kX => XS.ifnonnullYes X20.here hx rfl (pc0 := 170) (pc' := 175) rfl (hb hby at_170) rfl (by decide) (by decide) kX)
        refine OGo.go (B := T20.setTop (mkF m 177 #[.val (.int p0), .val (.int p1), .val (.int p2), .val (.int p3), .val (.int ((p1 &&& (255 : Int32)).toUInt32.toUInt16.toUInt32.toInt32)), .val (.int ((p2 &&& (255 : Int32)).toUInt32.toUInt16.toUInt32.toInt32)), .val (.int ((p3 &&& (255 : Int32)).toUInt32.toUInt16.toUInt32.toInt32)), .val (.ref b1), .val (.ref b2), .val (.ref b4), .val (.ref b7), .val (.int (p0 &&& (3 : Int32))), .val (.ref b18), .val (.ref b_20), .unset] [(.ref b_20)])) ?_ (fun tX kX => XS.aload X20.here hx rfl (hb hby at_175) rfl rfl kX)
        obtain ⟨cq21, kq21, q21a, q21b, q21c⟩ := isOf hZ rfl E_b_20
        obtain ⟨_, _, ⟨T21, L21, k21, n21⟩, -, X21, ⟨Lc21, hQ21, l21, y21, z21⟩, st21⟩ := X20.virtualBack hx (y := (⟨"com/example/hushlist/hushlist/engine/StanzaException", "condition", "()Lcom/example/hushlist/hushlist/engine/Condition;"⟩ : MethodName)) (z := (⟨"com/example/hushlist/hushlist/engine/StanzaException", "condition", "()Lcom/example/hushlist/hushlist/engine/Condition;"⟩ : MethodName)) hown (mvT hZ (hw _ (List.mem_of_getElem? (i := 84) rfl))) (mvT hZ (hw _ (List.mem_of_getElem? (i := 85) rfl))) (notFace_of_selects (args := #[]) (mvT hZ (hw _ (List.mem_of_getElem? (i := 87) rfl)))) (mvT hZ (hw _ (List.mem_of_getElem? (i := 87) rfl))) (mvT hZ (hw _ (List.mem_of_getElem? (i := 86) rfl))) (by decide) (backOf (W := 0) (rm10 l Z aV hw [] b_20 uc T20.heap n0 zn20 F_condition_b_20) hZ (hw _ (List.mem_of_getElem? (i := 88) rfl)) (hw _ (List.mem_of_getElem? (i := 24) rfl)) (by decide) (by decide)) q21a q21c (g := (mkF m 177 #[.val (.int p0), .val (.int p1), .val (.int p2), .val (.int p3), .val (.int ((p1 &&& (255 : Int32)).toUInt32.toUInt16.toUInt32.toInt32)), .val (.int ((p2 &&& (255 : Int32)).toUInt32.toUInt16.toUInt32.toInt32)), .val (.int ((p3 &&& (255 : Int32)).toUInt32.toUInt16.toUInt32.toInt32)), .val (.ref b1), .val (.ref b2), .val (.ref b4), .val (.ref b7), .val (.int (p0 &&& (3 : Int32))), .val (.ref b18), .val (.ref b_20), .unset] [(.ref b_20)])) rfl (by rw [hml]; rfl) (Steps.refl _) (argsL := []) (rest := []) (lenOf pd___Lcom_example_hushlist_hushlist_engine_Condition_ rfl) rfl (by show 2 * 0 + _ ≤ _; exact Nat.le_of_eq rfl) (hb hby at_177) (fun _ _ => ⟨rfl, rfl, (by decide : 8 + 0 ≤ _), (by decide : 2770 + 0 ≤ _)⟩)
        dsimp only [Pt.U, Pt.locs, Pt.cells, Pt.slots] at X21 l21 y21 z21 st21 hQ21
        subst l21 y21 z21
        obtain ⟨rfl, N21q, e21⟩ := hQ21
        have N21 := Fr.app N20 N21q
        refine OGo.go (B := T21.setTop (mkF m 180 #[.val (.int p0), .val (.int p1), .val (.int p2), .val (.int p3), .val (.int ((p1 &&& (255 : Int32)).toUInt32.toUInt16.toUInt32.toInt32)), .val (.int ((p2 &&& (255 : Int32)).toUInt32.toUInt16.toUInt32.toInt32)), .val (.int ((p3 &&& (255 : Int32)).toUInt32.toUInt16.toUInt32.toInt32)), .val (.ref b1), .val (.ref b2), .val (.ref b4), .val (.ref b7), .val (.int (p0 &&& (3 : Int32))), .val (.ref b18), .val (.ref b_20), .unset] [(.ref uc)])) ?_ (fun tX kX => st21.trans kX)
        obtain ⟨T22, X22, e22, st22⟩ := getS2 X21 hx hZ hown (host := "") (Or.inl (hw _ (List.mem_of_getElem? (i := 89) rfl))) Via.refl e21 S_CONFLICT (g := (mkF m 180 #[.val (.int p0), .val (.int p1), .val (.int p2), .val (.int p3), .val (.int ((p1 &&& (255 : Int32)).toUInt32.toUInt16.toUInt32.toInt32)), .val (.int ((p2 &&& (255 : Int32)).toUInt32.toUInt16.toUInt32.toInt32)), .val (.int ((p3 &&& (255 : Int32)).toUInt32.toUInt16.toUInt32.toInt32)), .val (.ref b1), .val (.ref b2), .val (.ref b4), .val (.ref b7), .val (.int (p0 &&& (3 : Int32))), .val (.ref b18), .val (.ref b_20), .unset] [(.ref uc)])) rfl (hb hby at_180)
        refine OGo.go (B := T22.setTop (mkF m 183 #[.val (.int p0), .val (.int p1), .val (.int p2), .val (.int p3), .val (.int ((p1 &&& (255 : Int32)).toUInt32.toUInt16.toUInt32.toInt32)), .val (.int ((p2 &&& (255 : Int32)).toUInt32.toUInt16.toUInt32.toInt32)), .val (.int ((p3 &&& (255 : Int32)).toUInt32.toUInt16.toUInt32.toInt32)), .val (.ref b1), .val (.ref b2), .val (.ref b4), .val (.ref b7), .val (.int (p0 &&& (3 : Int32))), .val (.ref b18), .val (.ref b_20), .unset] [(.ref uc), (.ref uc)])) ?_ st22
        refine OGo.go (B := T22.setTop (mkF m 188 #[.val (.int p0), .val (.int p1), .val (.int p2), .val (.int p3), .val (.int ((p1 &&& (255 : Int32)).toUInt32.toUInt16.toUInt32.toInt32)), .val (.int ((p2 &&& (255 : Int32)).toUInt32.toUInt16.toUInt32.toInt32)), .val (.int ((p3 &&& (255 : Int32)).toUInt32.toUInt16.toUInt32.toInt32)), .val (.ref b1), .val (.ref b2), .val (.ref b4), .val (.ref b7), .val (.int (p0 &&& (3 : Int32))), .val (.ref b18), .val (.ref b_20), .unset] [])) ?_ (fun tX kX => Jvm.RoadKit.acmp (g := (mkF m 183 #[.val (.int p0), .val (.int p1), .val (.int p2), .val (.int p3), .val (.int ((p1 &&& (255 : Int32)).toUInt32.toUInt16.toUInt32.toInt32)), .val (.int ((p2 &&& (255 : Int32)).toUInt32.toUInt16.toUInt32.toInt32)), .val (.int ((p3 &&& (255 : Int32)).toUInt32.toUInt16.toUInt32.toInt32)), .val (.ref b1), .val (.ref b2), .val (.ref b4), .val (.ref b7), .val (.int (p0 &&& (3 : Int32))), .val (.ref b18), .val (.ref b_20), .unset] [(.ref uc), (.ref uc)])) X22 hx rfl rfl rfl (pc0 := 183) (pc' := 188) (same := true) rfl (hb hby at_183) rfl (decide_eq_true rfl) (by decide) (by decide) kX)
        refine OGo.go (B := T22.setTop (mkF m 190 #[.val (.int p0), .val (.int p1), .val (.int p2), .val (.int p3), .val (.int ((p1 &&& (255 : Int32)).toUInt32.toUInt16.toUInt32.toInt32)), .val (.int ((p2 &&& (255 : Int32)).toUInt32.toUInt16.toUInt32.toInt32)), .val (.int ((p3 &&& (255 : Int32)).toUInt32.toUInt16.toUInt32.toInt32)), .val (.ref b1), .val (.ref b2), .val (.ref b4), .val (.ref b7), .val (.int (p0 &&& (3 : Int32))), .val (.ref b18), .val (.ref b_20), .unset] [(.ref b_20)])) ?_ (fun tX kX => XS.aload X22.here hx rfl (hb hby at_188) rfl rfl kX)
        obtain ⟨cq23, kq23, q23a, q23b, q23c⟩ := isOf hZ e22 E_b_20
        obtain ⟨_, _, ⟨T23, L23, k23, n23⟩, -, X23, ⟨Lc23, hQ23, l23, y23, z23⟩, st23⟩ := X22.virtualBackUp hx (x := (⟨"com/example/hushlist/hushlist/engine/StanzaException", "getMessage", "()Ljava/lang/String;"⟩ : MethodName)) (y := (⟨"java/lang/Throwable", "getMessage", "()Ljava/lang/String;"⟩ : MethodName)) (owner := "java/lang/Throwable") hown (mvT hZ (hw _ (List.mem_of_getElem? (i := 90) rfl))) (mvT hZ (hw _ (List.mem_of_getElem? (i := 91) rfl))) (mvT hZ (hw _ (List.mem_of_getElem? (i := 92) rfl))) (by decide) (mvT hZ (hw _ (List.mem_of_getElem? (i := 94) rfl))) (mvT hZ (hw _ (List.mem_of_getElem? (i := 93) rfl))) (backOf (W := 0) (rm11r l Z aV hw [] b_20 b18 T20.heap n0 zn20 F_detailMessage_b_20) hZ (hw _ (List.mem_of_getElem? (i := 95) rfl)) (hw _ (List.mem_of_getElem? (i := 43) rfl)) (by decide) (by decide)) q23a q23c (g := (mkF m 190 #[.val (.int p0), .val (.int p1), .val (.int p2), .val (.int p3), .val (.int ((p1 &&& (255 : Int32)).toUInt32.toUInt16.toUInt32.toInt32)), .val (.int ((p2 &&& (255 : Int32)).toUInt32.toUInt16.toUInt32.toInt32)), .val (.int ((p3 &&& (255 : Int32)).toUInt32.toUInt16.toUInt32.toInt32)), .val (.ref b1), .val (.ref b2), .val (.ref b4), .val (.ref b7), .val (.int (p0 &&& (3 : Int32))), .val (.ref b18), .val (.ref b_20), .unset] [(.ref b_20)])) rfl (by rw [hml]; rfl) (Steps.refl _) (argsL := []) (rest := []) (lenOf pd___Ljava_lang_String_ rfl) rfl (by show 2 * 0 + _ ≤ _; exact Nat.le_of_eq rfl) (hb hby at_190) (fun _ _ => ⟨rfl, e22, (by decide : 8 + 0 ≤ _), (by decide : 2770 + 0 ≤ _)⟩)
        dsimp only [Pt.U, Pt.locs, Pt.cells, Pt.slots] at X23 l23 y23 z23 st23 hQ23
        subst l23 y23 z23
        obtain ⟨rfl, N23q, e23⟩ := hQ23
        have N23 := Fr.app N21 N23q
        refine OGo.go (B := T23.setTop (mkF m 193 #[.val (.int p0), .val (.int p1), .val (.int p2), .val (.int p3), .val (.int ((p1 &&& (255 : Int32)).toUInt32.toUInt16.toUInt32.toInt32)), .val (.int ((p2 &&& (255 : Int32)).toUInt32.toUInt16.toUInt32.toInt32)), .val (.int ((p3 &&& (255 : Int32)).toUInt32.toUInt16.toUInt32.toInt32)), .val (.ref b1), .val (.ref b2), .val (.ref b4), .val (.ref b7), .val (.int (p0 &&& (3 : Int32))), .val (.ref b18), .val (.ref b_20), .unset] [(.ref b18)])) ?_ (fun tX kX => st23.trans kX)
        refine OGo.go (B := T23.setTop (mkF m 195 #[.val (.int p0), .val (.int p1), .val (.int p2), .val (.int p3), .val (.int ((p1 &&& (255 : Int32)).toUInt32.toUInt16.toUInt32.toInt32)), .val (.int ((p2 &&& (255 : Int32)).toUInt32.toUInt16.toUInt32.toInt32)), .val (.int ((p3 &&& (255 : Int32)).toUInt32.toUInt16.toUInt32.toInt32)), .val (.ref b1), .val (.ref b2), .val (.ref b4), .val (.ref b7), .val (.int (p0 &&& (3 : Int32))), .val (.ref b18), .val (.ref b_20), .val (.ref b18)] [])) ?_ (fun tX kX => XS.astore X23.here hx rfl (hb hby at_193) rfl rfl (l' := #[.val (.int p0), .val (.int p1), .val (.int p2), .val (.int p3), .val (.int ((p1 &&& (255 : Int32)).toUInt32.toUInt16.toUInt32.toInt32)), .val (.int ((p2 &&& (255 : Int32)).toUInt32.toUInt16.toUInt32.toInt32)), .val (.int ((p3 &&& (255 : Int32)).toUInt32.toUInt16.toUInt32.toInt32)), .val (.ref b1), .val (.ref b2), .val (.ref b4), .val (.ref b7), .val (.int (p0 &&& (3 : Int32))), .val (.ref b18), .val (.ref b_20), .val (.ref b18)]) rfl kX)
        refine OGo.go (B := T23.setTop (mkF m 197 #[.val (.int p0), .val (.int p1), .val (.int p2), .val (.int p3), .val (.int ((p1 &&& (255 : Int32)).toUInt32.toUInt16.toUInt32.toInt32)), .val (.int ((p2 &&& (255 : Int32)).toUInt32.toUInt16.toUInt32.toInt32)), .val (.int ((p3 &&& (255 : Int32)).toUInt32.toUInt16.toUInt32.toInt32)), .val (.ref b1), .val (.ref b2), .val (.ref b4), .val (.ref b7), .val (.int (p0 &&& (3 : Int32))), .val (.ref b18), .val (.ref b_20), .val (.ref b18)] [(.ref b18)])) ?_ (fun tX kX => XS.aload X23.here hx rfl (hb hby at_195) rfl rfl kX)
        refine OGo.go (B := T23.setTop (mkF m 211 #[.val (.int p0), .val (.int p1), .val (.int p2), .val (.int p3), .val (.int ((p1 &&& (255 : Int32)).toUInt32.toUInt16.toUInt32.toInt32)), .val (.int ((p2 &&& (255 : Int32)).toUInt32.toUInt16.toUInt32.toInt32)), .val (.int ((p3 &&& (255 : Int32)).toUInt32.toUInt16.toUInt32.toInt32)), .val (.ref b1), .val (.ref b2), .val (.ref b4), .val (.ref b7), .val (.int (p0 &&& (3 : Int32))), .val (.ref b18), .val (.ref b_20), .val (.ref b18)] [])) ?_ (fun tX kX => XS.ifnonnullYes X23.here hx rfl (pc0 := 197) (pc' := 211) rfl (hb hby at_197) rfl (by decide) (by decide) kX)
        refine OGo.go (B := T23.setTop (mkF m 213 #[.val (.int p0), .val (.int p1), .val (.int p2), .val (.int p3), .val (.int ((p1 &&& (255 : Int32)).toUInt32.toUInt16.toUInt32.toInt32)), .val (.int ((p2 &&& (255 : Int32)).toUInt32.toUInt16.toUInt32.toInt32)), .val (.int ((p3 &&& (255 : Int32)).toUInt32.toUInt16.toUInt32.toInt32)), .val (.ref b1), .val (.ref b2), .val (.ref b4), .val (.ref b7), .val (.int (p0 &&& (3 : Int32))), .val (.ref b18), .val (.ref b_20), .val (.ref b18)] [(.ref b18)])) ?_ (fun tX kX => XS.aload X23.here hx rfl (hb hby at_211) rfl rfl kX)
        refine OGo.go (B := T23.setTop (mkF m 216 #[.val (.int p0), .val (.int p1), .val (.int p2), .val (.int p3), .val (.int ((p1 &&& (255 : Int32)).toUInt32.toUInt16.toUInt32.toInt32)), .val (.int ((p2 &&& (255 : Int32)).toUInt32.toUInt16.toUInt32.toInt32)), .val (.int ((p3 &&& (255 : Int32)).toUInt32.toUInt16.toUInt32.toInt32)), .val (.ref b1), .val (.ref b2), .val (.ref b4), .val (.ref b7), .val (.int (p0 &&& (3 : Int32))), .val (.ref b18), .val (.ref b_20), .val (.ref b18)] [])) ?_ (fun tX kX => XS.ifnullNo X23.here hx rfl (hb hby at_213) rfl kX)
        refine OGo.go (B := T23.setTop (mkF m 218 #[.val (.int p0), .val (.int p1), .val (.int p2), .val (.int p3), .val (.int ((p1 &&& (255 : Int32)).toUInt32.toUInt16.toUInt32.toInt32)), .val (.int ((p2 &&& (255 : Int32)).toUInt32.toUInt16.toUInt32.toInt32)), .val (.int ((p3 &&& (255 : Int32)).toUInt32.toUInt16.toUInt32.toInt32)), .val (.ref b1), .val (.ref b2), .val (.ref b4), .val (.ref b7), .val (.int (p0 &&& (3 : Int32))), .val (.ref b18), .val (.ref b_20), .val (.ref b18)] [(.ref b18)])) ?_ (fun tX kX => XS.aload X23.here hx rfl (hb hby at_216) rfl rfl kX)
        refine OGo.go (B := T23.setTop (mkF m 220 #[.val (.int p0), .val (.int p1), .val (.int p2), .val (.int p3), .val (.int ((p1 &&& (255 : Int32)).toUInt32.toUInt16.toUInt32.toInt32)), .val (.int ((p2 &&& (255 : Int32)).toUInt32.toUInt16.toUInt32.toInt32)), .val (.int ((p3 &&& (255 : Int32)).toUInt32.toUInt16.toUInt32.toInt32)), .val (.ref b1), .val (.ref b2), .val (.ref b4), .val (.ref b7), .val (.int (p0 &&& (3 : Int32))), .val (.ref b18), .val (.ref b_20), .val (.ref b18)] [(.ref b18), (.ref b18)])) ?_ (fun tX kX => XS.aload X23.here hx rfl (hb hby at_218) rfl rfl kX)
        obtain ⟨cq24, kq24, q24a, q24b, q24c⟩ := isOf hZ e23 E_b18
        obtain ⟨_, _, ⟨T24, L24, k24, n24⟩, -, X24, ⟨Lc24, hQ24, l24, y24, z24⟩, st24⟩ := X23.virtualBack hx (y := (⟨"java/lang/String", "equals", "(Ljava/lang/Object;)Z"⟩ : MethodName)) (z := (⟨"java/lang/String", "equals", "(Ljava/lang/Object;)Z"⟩ : MethodName)) hown (mvT hZ (hw _ (List.mem_of_getElem? (i := 96) rfl))) (mvT hZ (hw _ (List.mem_of_getElem? (i := 97) rfl))) (notFace_of_selects (args := #[]) (mvT hZ (hw _ (List.mem_of_getElem? (i := 99) rfl)))) (mvT hZ (hw _ (List.mem_of_getElem? (i := 99) rfl))) (mvT hZ (hw _ (List.mem_of_getElem? (i := 98) rfl))) (by decide) (backOf (W := 0) (rm12 l Z aV hw [] b18 b18 T20.heap n0 zn20) hZ (hw _ (List.mem_of_getElem? (i := 100) rfl)) (hw _ (List.mem_of_getElem? (i := 3) rfl)) (by decide) (by decide)) q24a q24c (g := (mkF m 220 #[.val (.int p0), .val (.int p1), .val (.int p2), .val (.int p3), .val (.int ((p1 &&& (255 : Int32)).toUInt32.toUInt16.toUInt32.toInt32)), .val (.int ((p2 &&& (255 : Int32)).toUInt32.toUInt16.toUInt32.toInt32)), .val (.int ((p3 &&& (255 : Int32)).toUInt32.toUInt16.toUInt32.toInt32)), .val (.ref b1), .val (.ref b2), .val (.ref b4), .val (.ref b7), .val (.int (p0 &&& (3 : Int32))), .val (.ref b18), .val (.ref b_20), .val (.ref b18)] [(.ref b18), (.ref b18)])) rfl (by rw [hml]; rfl) (Steps.refl _) (argsL := [(.ref b18)]) (rest := []) (lenOf pd__Ljava_lang_Object__Z rfl) rfl (by show 2 * 0 + _ ≤ _; exact Nat.le_of_eq rfl) (hb hby at_220) (fun _ _ => ⟨rfl, e23, (by decide : 8 + 0 ≤ _), (by decide : 2770 + 0 ≤ _)⟩)
        dsimp only [Pt.U, Pt.locs, Pt.cells, Pt.slots] at X24 l24 y24 z24 st24 hQ24
        subst l24 y24 z24
        obtain ⟨rfl, N24q, e24⟩ := hQ24
        have N24 := Fr.app N23 N24q
        refine OGo.go (B := T24.setTop (mkF m 223 #[.val (.int p0), .val (.int p1), .val (.int p2), .val (.int p3), .val (.int ((p1 &&& (255 : Int32)).toUInt32.toUInt16.toUInt32.toInt32)), .val (.int ((p2 &&& (255 : Int32)).toUInt32.toUInt16.toUInt32.toInt32)), .val (.int ((p3 &&& (255 : Int32)).toUInt32.toUInt16.toUInt32.toInt32)), .val (.ref b1), .val (.ref b2), .val (.ref b4), .val (.ref b7), .val (.int (p0 &&& (3 : Int32))), .val (.ref b18), .val (.ref b_20), .val (.ref b18)] [(.int (1 : Int32))])) ?_ (fun tX kX => st24.trans kX)
        refine OGo.go (B := T24.setTop (mkF m 226 #[.val (.int p0), .val (.int p1), .val (.int p2), .val (.int p3), .val (.int ((p1 &&& (255 : Int32)).toUInt32.toUInt16.toUInt32.toInt32)), .val (.int ((p2 &&& (255 : Int32)).toUInt32.toUInt16.toUInt32.toInt32)), .val (.int ((p3 &&& (255 : Int32)).toUInt32.toUInt16.toUInt32.toInt32)), .val (.ref b1), .val (.ref b2), .val (.ref b4), .val (.ref b7), .val (.int (p0 &&& (3 : Int32))), .val (.ref b18), .val (.ref b_20), .val (.ref b18)] [])) ?_ (fun tX kX => XS.ifNo X24.here hx rfl (hb hby at_223) rfl ((if0 _ _).trans (feq (by decide)).1) kX)
        refine OGo.go (B := T24.setTop (mkF m 227 #[.val (.int p0), .val (.int p1), .val (.int p2), .val (.int p3), .val (.int ((p1 &&& (255 : Int32)).toUInt32.toUInt16.toUInt32.toInt32)), .val (.int ((p2 &&& (255 : Int32)).toUInt32.toUInt16.toUInt32.toInt32)), .val (.int ((p3 &&& (255 : Int32)).toUInt32.toUInt16.toUInt32.toInt32)), .val (.ref b1), .val (.ref b2), .val (.ref b4), .val (.ref b7), .val (.int (p0 &&& (3 : Int32))), .val (.ref b18), .val (.ref b_20), .val (.ref b18)] [(.int (1 : Int32))])) ?_ (fun tX kX => XS.iconst X24.here hx rfl (hb hby at_226) kX)
        refine OGo.go (B := T24.setTop (mkF m 231 #[.val (.int p0), .val (.int p1), .val (.int p2), .val (.int p3), .val (.int ((p1 &&& (255 : Int32)).toUInt32.toUInt16.toUInt32.toInt32)), .val (.int ((p2 &&& (255 : Int32)).toUInt32.toUInt16.toUInt32.toInt32)), .val (.int ((p3 &&& (255 : Int32)).toUInt32.toUInt16.toUInt32.toInt32)), .val (.ref b1), .val (.ref b2), .val (.ref b4), .val (.ref b7), .val (.int (p0 &&& (3 : Int32))), .val (.ref b18), .val (.ref b_20), .val (.ref b18)] [(.int (1 : Int32))])) ?_ (fun tX kX => XS.goto X24.here hx rfl (pc0 := 227) (pc' := 231) rfl (hb hby at_227) (by decide) (by decide) kX)
        refine OGo.retW X24 hS0 (by rw [e24]; exact hk20) (v := (some (.int (1 : Int32)))) (fun h => by rw [Bd.returns] at h; cases h) (BodyLoose.notSynchronized Bd) (fun fs hr => retN X24 hx (t := .boolean) (z := (1 : Int32)) Bd.returns (by simp) (hb hby at_231) hr) (Q := Q0 Z p0 p1 p2 p3 cs uc us sn h0 n0) ?_ (by decide) (by decide)
        show Q0 Z p0 p1 p2 p3 cs uc us sn h0 n0 _ T24.heap _
        rw [e24]
        exact ⟨rfl, N24⟩
      ·
        refine OGo.go (B := T10.setTop (mkF m 130 #[.val (.int p0), .val (.int p1), .val (.int p2), .val (.int p3), .val (.int ((p1 &&& (255 : Int32)).toUInt32.toUInt16.toUInt32.toInt32)), .val (.int ((p2 &&& (255 : Int32)).toUInt32.toUInt16.toUInt32.toInt32)), .val (.int ((p3 &&& (255 : Int32)).toUInt32.toUInt16.toUInt32.toInt32)), .val (.ref b1), .val (.ref b2), .val (.ref b4), .val (.ref b7), .val (.int (p0 &&& (3 : Int32))), .unset, .unset, .unset] [])) ?_ (fun tX kX => XS.icmpYes X10.here hx rfl (pc0 := 113) (pc' := 130) rfl (hb hby at_113) rfl (feq hc113).2 (by decide) (by decide) kX)
        refine OGo.go (B := T10.setTop (mkF m 132 #[.val (.int p0), .val (.int p1), .val (.int p2), .val (.int p3), .val (.int ((p1 &&& (255 : Int32)).toUInt32.toUInt16.toUInt32.toInt32)), .val (.int ((p2 &&& (255 : Int32)).toUInt32.toUInt16.toUInt32.toInt32)), .val (.int ((p3 &&& (255 : Int32)).toUInt32.toUInt16.toUInt32.toInt32)), .val (.ref b1), .val (.ref b2), .val (.ref b4), .val (.ref b7), .val (.int (p0 &&& (3 : Int32))), .unset, .unset, .unset] [(.int (p0 &&& (3 : Int32)))])) ?_ (fun tX kX => XS.iload X10.here hx rfl (hb hby at_130) rfl kX)
        refine OGo.go (B := T10.setTop (mkF m 133 #[.val (.int p0), .val (.int p1), .val (.int p2), .val (.int p3), .val (.int ((p1 &&& (255 : Int32)).toUInt32.toUInt16.toUInt32.toInt32)), .val (.int ((p2 &&& (255 : Int32)).toUInt32.toUInt16.toUInt32.toInt32)), .val (.int ((p3 &&& (255 : Int32)).toUInt32.toUInt16.toUInt32.toInt32)), .val (.ref b1), .val (.ref b2), .val (.ref b4), .val (.ref b7), .val (.int (p0 &&& (3 : Int32))), .unset, .unset, .unset] [(.int (2 : Int32)), (.int (p0 &&& (3 : Int32)))])) ?_ (fun tX kX => XS.iconst X10.here hx rfl (hb hby at_132) kX)
        by_cases hc133 : (p0 &&& (3 : Int32)) = (2 : Int32)
        ·
          refine OGo.go (B := T10.setTop (mkF m 136 #[.val (.int p0), .val (.int p1), .val (.int p2), .val (.int p3), .val (.int ((p1 &&& (255 : Int32)).toUInt32.toUInt16.toUInt32.toInt32)), .val (.int ((p2 &&& (255 : Int32)).toUInt32.toUInt16.toUInt32.toInt32)), .val (.int ((p3 &&& (255 : Int32)).toUInt32.toUInt16.toUInt32.toInt32)), .val (.ref b1), .val (.ref b2), .val (.ref b4), .val (.ref b7), .val (.int (p0 &&& (3 : Int32))), .unset, .unset, .unset] [])) ?_ (fun tX kX => XS.icmpNo X10.here hx rfl (hb hby at_133) rfl (teq hc133).2 kX)
          obtain ⟨T25, h25, X25, e25, E25, A25, D25, C25, st25⟩ := newO X10 hx hZ hown (hw _ (List.mem_of_getElem? (i := 1) rfl)) (hw _ (List.mem_of_getElem? (i := 2) rfl)) (hw _ (List.mem_of_getElem? (i := 3) rfl)) e10 (g := (mkF m 136 #[.val (.int p0), .val (.int p1), .val (.int p2), .val (.int p3), .val (.int ((p1 &&& (255 : Int32)).toUInt32.toUInt16.toUInt32.toInt32)), .val (.int ((p2 &&& (255 : Int32)).toUInt32.toUInt16.toUInt32.toInt32)), .val (.int ((p3 &&& (255 : Int32)).toUInt32.toUInt16.toUInt32.toInt32)), .val (.ref b1), .val (.ref b2), .val (.ref b4), .val (.ref b7), .val (.int (p0 &&& (3 : Int32))), .unset, .unset, .unset] [])) rfl (hb hby at_136) (by decide) (by decide)
          obtain ⟨b25, g25⟩ : ∃ z, z = h10.size := ⟨_, rfl⟩
          rw [← g25] at A25 D25 st25 C25
          have ne_b1_b25 : b1 ≠ b25 := Nat.ne_of_lt (Nat.lt_of_lt_of_le E_b1.lt (Nat.le_of_eq g25.symm))
          have ne_b2_b25 : b2 ≠ b25 := Nat.ne_of_lt (Nat.lt_of_lt_of_le E_b2.lt (Nat.le_of_eq g25.symm))
          have ne_b4_b25 : b4 ≠ b25 := Nat.ne_of_lt (Nat.lt_of_lt_of_le E_b4.lt (Nat.le_of_eq g25.symm))
          have ne_b7_b25 : b7 ≠ b25 := Nat.ne_of_lt (Nat.lt_of_lt_of_le E_b7.lt (Nat.le_of_eq g25.symm))
          have CHo25 := hCH
          have Sf_b1 := Safe.ext E25 CHo25 Sf_b1
          have Sf_b2 := Safe.ext E25 CHo25 Sf_b2
          have Sf_b4 := Safe.ext E25 CHo25 Sf_b4
          have Sf_b7 := Safe.ext E25 CHo25 Sf_b7
          have hCH := CHv.ext E25 CHo25
          have S_COMPACT_STRINGS := S_COMPACT_STRINGS.ext E25
          have S_CONFLICT := S_CONFLICT.ext E25
          have S_UNASSIGNED_STACK := S_UNASSIGNED_STACK.ext E25
          have S_SUPPRESSED_SENTINEL := S_SUPPRESSED_SENTINEL.ext E25
          have hThS := hThS.ext E25
          have E_b1 := E_b1.ext E25
          have V_b1 := V_b1.ext E25
          have E_b2 := E_b2.ext E25
          have V_b2 := V_b2.ext E25
          have E_b4 := E_b4.ext E25
          have V_b4 := V_b4.ext E25
          have E_b7 := E_b7.ext E25
          have V_b7 := V_b7.ext E25
          have Sf_b25 : Safe Z own_EL s.vm h25 b25 := Safe.ext E25 CHo25 (Safe.new (Nat.le_of_eq g25.symm))
          have g_b25 : n0 ≤ b25 := Nat.le_trans zn10 (Nat.le_of_eq g25.symm)
          have sz_b25 : h0.size ≤ b25 := Nat.le_trans K10.1 (Nat.le_of_eq g25.symm)
          have zn25 : n0 ≤ h25.size := Nat.le_trans zn10 E25.1
          have hk25 := Nat.le_trans hk10 E25.1
          have K25 := K10.ext E25
          have E_b25 := A25
          have F_value_b25 : Fld Z h25 b25 "java/lang/String" "value" "[B" .null := D25 (Or.inr (hw _ (List.mem_of_getElem? (i := 16) rfl))) (ty := (.array .byte)) (by decide)
          have F_coder_b25 : Fld Z h25 b25 "java/lang/String" "coder" "B" (.int (0 : Int32)) := D25 (Or.inr (hw _ (List.mem_of_getElem? (i := 17) rfl))) (ty := .byte) (by decide)
          refine OGo.go (B := T25.setTop (mkF m 139 #[.val (.int p0), .val (.int p1), .val (.int p2), .val (.int p3), .val (.int ((p1 &&& (255 : Int32)).toUInt32.toUInt16.toUInt32.toInt32)), .val (.int ((p2 &&& (255 : Int32)).toUInt32.toUInt16.toUInt32.toInt32)), .val (.int ((p3 &&& (255 : Int32)).toUInt32.toUInt16.toUInt32.toInt32)), .val (.ref b1), .val (.ref b2), .val (.ref b4), .val (.ref b7), .val (.int (p0 &&& (3 : Int32))), .unset, .unset, .unset] [(.ref b25)])) ?_ st25
          refine OGo.go (B := T25.setTop (mkF m 140 #[.val (.int p0), .val (.int p1), .val (.int p2), .val (.int p3), .val (.int ((p1 &&& (255 : Int32)).toUInt32.toUInt16.toUInt32.toInt32)), .val (.int ((p2 &&& (255 : Int32)).toUInt32.toUInt16.toUInt32.toInt32)), .val (.int ((p3 &&& (255 : Int32)).toUInt32.toUInt16.toUInt32.toInt32)), .val (.ref b1), .val (.ref b2), .val (.ref b4), .val (.ref b7), .val (.int (p0 &&& (3 : Int32))), .unset, .unset, .unset] [(.ref b25), (.ref b25)])) ?_ (fun tX kX => XS.dup X25.here hx rfl (hb hby at_139) rfl rfl kX)
          refine OGo.go (B := T25.setTop (mkF m 142 #[.val (.int p0), .val (.int p1), .val (.int p2), .val (.int p3), .val (.int ((p1 &&& (255 : Int32)).toUInt32.toUInt16.toUInt32.toInt32)), .val (.int ((p2 &&& (255 : Int32)).toUInt32.toUInt16.toUInt32.toInt32)), .val (.int ((p3 &&& (255 : Int32)).toUInt32.toUInt16.toUInt32.toInt32)), .val (.ref b1), .val (.ref b2), .val (.ref b4), .val (.ref b7), .val (.int (p0 &&& (3 : Int32))), .unset, .unset, .unset] [(.ref b4), (.ref b25), (.ref b25)])) ?_ (fun tX kX => XS.aload X25.here hx rfl (hb hby at_140) rfl rfl kX)
          obtain ⟨_, _, ⟨T26, L26, k26, n26⟩, -, X26, ⟨Lc26, hQ26, l26, y26, z26⟩, st26⟩ := X25.specialBack hx (y := (⟨"java/lang/String", "<init>", "([C)V"⟩ : MethodName)) rfl hown (mvT hZ (hw _ (List.mem_of_getElem? (i := 4) rfl))) (mvT hZ (hw _ (List.mem_of_getElem? (i := 5) rfl))) (mvT hZ (hw _ (List.mem_of_getElem? (i := 6) rfl))) (by decide) (backOf (W := 1) (rm1c2 l Z aV hw [] b25 b4 .null (.int (0 : Int32)) k4 cs (((p1 &&& (255 : Int32)).toUInt32.toUInt16.toUInt32.toInt32).toUInt32.toUInt16.toUInt32.toInt32) (((p2 &&& (255 : Int32)).toUInt32.toUInt16.toUInt32.toInt32).toUInt32.toUInt16.toUInt32.toInt32) h25 n0 zn25 E_b25 F_value_b25 F_coder_b25 V_b4 S_COMPACT_STRINGS g_b25 ne_b4_b25 hcs (own_le _) (own_le _)) hZ (hw _ (List.mem_of_getElem? (i := 6) rfl)) (hw _ (List.mem_of_getElem? (i := 3) rfl)) (by decide) (by decide)) (g := (mkF m 142 #[.val (.int p0), .val (.int p1), .val (.int p2), .val (.int p3), .val (.int ((p1 &&& (255 : Int32)).toUInt32.toUInt16.toUInt32.toInt32)), .val (.int ((p2 &&& (255 : Int32)).toUInt32.toUInt16.toUInt32.toInt32)), .val (.int ((p3 &&& (255 : Int32)).toUInt32.toUInt16.toUInt32.toInt32)), .val (.ref b1), .val (.ref b2), .val (.ref b4), .val (.ref b7), .val (.int (p0 &&& (3 : Int32))), .unset, .unset, .unset] [(.ref b4), (.ref b25), (.ref b25)])) rfl (by rw [hml]; rfl) (Steps.refl _) (a := b25) (argsL := [(.ref b4)]) (rest := [(.ref b25)]) (lenOf pd___C_V rfl) rfl (by show 2 * 0 + _ ≤ _; exact Nat.le_of_eq rfl) (hb hby at_142) (fun _ _ => ⟨rfl, e25, (by decide : 5 + 1 ≤ _), (by decide : 10 + 2 ≤ _)⟩)
          dsimp only [Pt.U, Pt.locs, Pt.cells, Pt.slots] at X26 l26 y26 z26 st26 hQ26
          subst l26 y26 z26
          obtain ⟨rfl, N26q, Kq26, E_b25_p⟩ := hQ26
          have N26 := Fr.app N10 N26q
          have sfs26 : ∀ x ∈ [b25], Safe Z own_EL s.vm h25 x := (sfS Sf_b25 sf0)
          have CHo26 := hCH
          have Sf_b1 := Safe.keep Kq26 sfs26 CHo26 Sf_b1
          have Sf_b2 := Safe.keep Kq26 sfs26 CHo26 Sf_b2
          have Sf_b4 := Safe.keep Kq26 sfs26 CHo26 Sf_b4
          have Sf_b7 := Safe.keep Kq26 sfs26 CHo26 Sf_b7
          have Sf_b25 := Safe.keep Kq26 sfs26 CHo26 Sf_b25
          have hCH := CHv.keep Kq26 sfs26 CHo26
          have S_COMPACT_STRINGS := Sta.keepE S_COMPACT_STRINGS Kq26 (staS E_b25.cell (fun x hx' => nomatch hx'))
          have S_CONFLICT := Sta.keepE S_CONFLICT Kq26 (staS E_b25.cell (fun x hx' => nomatch hx'))
          have S_UNASSIGNED_STACK := Sta.keepE S_UNASSIGNED_STACK Kq26 (staS E_b25.cell (fun x hx' => nomatch hx'))
          have S_SUPPRESSED_SENTINEL := Sta.keepE S_SUPPRESSED_SENTINEL Kq26 (staS E_b25.cell (fun x hx' => nomatch hx'))
          have hThS := hThS.keep Kq26 (nsS E_b25.nostat ns0)
          have E_b1 := E_b1.keep Kq26
          have V_b1 := V_b1.keep Kq26 (ninS ne_b1_b25 nin0)
          have E_b2 := E_b2.keep Kq26
          have V_b2 := V_b2.keep Kq26 (ninS ne_b2_b25 nin0)
          have E_b4 := E_b4.keep Kq26
          have V_b4 := V_b4.keep Kq26 (ninS ne_b4_b25 nin0)
          have E_b7 := E_b7.keep Kq26
          have V_b7 := V_b7.keep Kq26 (ninS ne_b7_b25 nin0)
          have E_b25 := E_b25.keep Kq26
          have K26 := K25.trans Kq26 (allS (P := fun x => x ∈ ([] : List Addr) ∨ h0.size ≤ x) (Or.inr sz_b25) all0)
          have zn26 : n0 ≤ T26.heap.size := Nat.le_trans zn25 Kq26.1
          have hk26 := Nat.le_trans hk25 Kq26.1
          have E_b25 := E_b25_p
          refine OGo.go (B := T26.setTop (mkF m 145 #[.val (.int p0), .val (.int p1), .val (.int p2), .val (.int p3), .val (.int ((p1 &&& (255 : Int32)).toUInt32.toUInt16.toUInt32.toInt32)), .val (.int ((p2 &&& (255 : Int32)).toUInt32.toUInt16.toUInt32.toInt32)), .val (.int ((p3 &&& (255 : Int32)).toUInt32.toUInt16.toUInt32.toInt32)), .val (.ref b1), .val (.ref b2), .val (.ref b4), .val (.ref b7), .val (.int (p0 &&& (3 : Int32))), .unset, .unset, .unset] [(.ref b25)])) ?_ (fun tX kX => st26.trans kX)
          refine OGo.go (B := T26.setTop (mkF m 147 #[.val (.int p0), .val (.int p1), .val (.int p2), .val (.int p3), .val (.int ((p1 &&& (255 : Int32)).toUInt32.toUInt16.toUInt32.toInt32)), .val (.int ((p2 &&& (255 : Int32)).toUInt32.toUInt16.toUInt32.toInt32)), .val (.int ((p3 &&& (255 : Int32)).toUInt32.toUInt16.toUInt32.toInt32)), .val (.ref b1), .val (.ref b2), .val (.ref b4), .val (.ref b7), .val (.int (p0 &&& (3 : Int32))), .val (.ref b25), .unset, .unset] [])) ?_ (fun tX kX => XS.astore X26.here hx rfl (hb hby at_145) rfl rfl (l' := #[.val (.int p0), .val (.int p1), .val (.int p2), .val (.int p3), .val (.int ((p1 &&& (255 : Int32)).toUInt32.toUInt16.toUInt32.toInt32)), .val (.int ((p2 &&& (255 : Int32)).toUInt32.toUInt16.toUInt32.toInt32)), .val (.int ((p3 &&& (255 : Int32)).toUInt32.toUInt16.toUInt32.toInt32)), .val (.ref b1), .val (.ref b2), .val (.ref b4), .val (.ref b7), .val (.int (p0 &&& (3 : Int32))), .val (.ref b25), .unset, .unset]) rfl kX)
          refine OGo.go (B := T26.setTop (mkF m 161 #[.val (.int p0), .val (.int p1), .val (.int p2), .val (.int p3), .val (.int ((p1 &&& (255 : Int32)).toUInt32.toUInt16.toUInt32.toInt32)), .val (.int ((p2 &&& (255 : Int32)).toUInt32.toUInt16.toUInt32.toInt32)), .val (.int ((p3 &&& (255 : Int32)).toUInt32.toUInt16.toUInt32.toInt32)), .val (.ref b1), .val (.ref b2), .val (.ref b4), .val (.ref b7), .val (.int (p0 &&& (3 : Int32))), .val (.ref b25), .unset, .unset] [])) ?_ (fun tX kX => XS.goto X26.here hx rfl (pc0 := 147) (pc' := 161) rfl (hb hby at_147) (by decide) (by decide) kX)
          refine OGo.go (B := T26.setTop (mkF m 163 #[.val (.int p0), .val (.int p1), .val (.int p2), .val (.int p3), .val (.int ((p1 &&& (255 : Int32)).toUInt32.toUInt16.toUInt32.toInt32)), .val (.int ((p2 &&& (255 : Int32)).toUInt32.toUInt16.toUInt32.toInt32)), .val (.int ((p3 &&& (255 : Int32)).toUInt32.toUInt16.toUInt32.toInt32)), .val (.ref b1), .val (.ref b2), .val (.ref b4), .val (.ref b7), .val (.int (p0 &&& (3 : Int32))), .val (.ref b25), .unset, .unset] [(.ref b25)])) ?_ (fun tX kX => XS.aload X26.here hx rfl (hb hby at_161) rfl rfl kX)
          obtain ⟨_, _, ⟨T27, L27, k27, n27⟩, -, X27, ⟨Lc27, hQ27, l27, y27, z27⟩, st27⟩ := Jvm.LawKit.callS X26 hx (y := (⟨"com/example/hushlist/hushlist/engine/StanzaException", "conflict", "(Ljava/lang/String;)Lcom/example/hushlist/hushlist/engine/StanzaException;"⟩ : MethodName)) hown (mvT hZ (hw _ (List.mem_of_getElem? (i := 22) rfl))) (mvT hZ (hw _ (List.mem_of_getElem? (i := 23) rfl))) (mvT hZ (hw _ (List.mem_of_getElem? (i := 24) rfl))) (mvT hZ (hw _ (List.mem_of_getElem? (i := 25) rfl))) (by decide) (backOfKL (W := 0) (rm4r l Z aV hw [] b25 uc us sn T26.heap n0 zn26 S_CONFLICT S_UNASSIGNED_STACK S_SUPPRESSED_SENTINEL hThS hl hus hsn) hZ (hw _ (List.mem_of_getElem? (i := 25) rfl)) (hw _ (List.mem_of_getElem? (i := 24) rfl)) (by decide) (by decide) hTK hBelow) (g := (mkF m 163 #[.val (.int p0), .val (.int p1), .val (.int p2), .val (.int p3), .val (.int ((p1 &&& (255 : Int32)).toUInt32.toUInt16.toUInt32.toInt32)), .val (.int ((p2 &&& (255 : Int32)).toUInt32.toUInt16.toUInt32.toInt32)), .val (.int ((p3 &&& (255 : Int32)).toUInt32.toUInt16.toUInt32.toInt32)), .val (.ref b1), .val (.ref b2), .val (.ref b4), .val (.ref b7), .val (.int (p0 &&& (3 : Int32))), .val (.ref b25), .unset, .unset] [(.ref b25)])) rfl (by rw [hml]; rfl) (argsL := [(.ref b25)]) (rest := []) (lenOf pd__Ljava_lang_String__Lcom_example_hushlist_hushlist_engine_StanzaException_ rfl) rfl (by show 2 * 0 + _ ≤ _; exact Nat.le_of_eq rfl) (hb hby at_163) (fun _ _ => ⟨rfl, rfl, (by decide : 6 + 2 ≤ _), (by decide : 12 + 2759 ≤ _)⟩)
          dsimp only [Pt.U, Pt.locs, Pt.cells, Pt.slots] at X27 l27 y27 z27 st27 hQ27
          subst l27 y27 z27
          obtain ⟨b_27, rfl, N27q, Kq27, sz27_b, E_b_27_p, F_condition_b_27_p, F_detailMessage_b_27_p⟩ := hQ27
          have N27 := Fr.app N26 N27q
          have ne_b1_b_27 : b1 ≠ b_27 := Nat.ne_of_lt (Nat.lt_of_lt_of_le E_b1.lt sz27_b)
          have ne_b2_b_27 : b2 ≠ b_27 := Nat.ne_of_lt (Nat.lt_of_lt_of_le E_b2.lt sz27_b)
          have ne_b4_b_27 : b4 ≠ b_27 := Nat.ne_of_lt (Nat.lt_of_lt_of_le E_b4.lt sz27_b)
          have ne_b7_b_27 : b7 ≠ b_27 := Nat.ne_of_lt (Nat.lt_of_lt_of_le E_b7.lt sz27_b)
          have ne_b25_b_27 : b25 ≠ b_27 := Nat.ne_of_lt (Nat.lt_of_lt_of_le E_b25.lt sz27_b)
          have sfs27 : ∀ x ∈ ([] : List Addr), Safe Z own_EL s.vm T26.heap x := sf0
          have CHo27 := hCH
          have Sf_b1 := Safe.keep Kq27 sfs27 CHo27 Sf_b1
          have Sf_b2 := Safe.keep Kq27 sfs27 CHo27 Sf_b2
          have Sf_b4 := Safe.keep Kq27 sfs27 CHo27 Sf_b4
          have Sf_b7 := Safe.keep Kq27 sfs27 CHo27 Sf_b7
          have Sf_b25 := Safe.keep Kq27 sfs27 CHo27 Sf_b25
          have hCH := CHv.keep Kq27 sfs27 CHo27
          have Sf_b_27 := Safe.keep Kq27 sfs27 CHo27 (Safe.new sz27_b)
          have S_COMPACT_STRINGS := Sta.keep0 S_COMPACT_STRINGS Kq27
          have S_CONFLICT := Sta.keep0 S_CONFLICT Kq27
          have S_UNASSIGNED_STACK := Sta.keep0 S_UNASSIGNED_STACK Kq27
          have S_SUPPRESSED_SENTINEL := Sta.keep0 S_SUPPRESSED_SENTINEL Kq27
          have hThS := hThS.keep Kq27 ns0
          have E_b1 := E_b1.keep Kq27
          have V_b1 := V_b1.keep Kq27 nin0
          have E_b2 := E_b2.keep Kq27
          have V_b2 := V_b2.keep Kq27 nin0
          have E_b4 := E_b4.keep Kq27
          have V_b4 := V_b4.keep Kq27 nin0
          have E_b7 := E_b7.keep Kq27
          have V_b7 := V_b7.keep Kq27 nin0
          have E_b25 := E_b25.keep Kq27
          have g_b_27 : n0 ≤ b_27 := Nat.le_trans zn26 sz27_b
          have sz_b_27 : h0.size ≤ b_27 := Nat.le_trans K26.1 sz27_b
          have K27 := K26.trans Kq27 all0
          have zn27 : n0 ≤ T27.heap.size := Nat.le_trans zn26 Kq27.1
          have hk27 := Nat.le_trans hk26 Kq27.1
          have E_b_27 := E_b_27_p
          have F_condition_b_27 := F_condition_b_27_p
          have F_detailMessage_b_27 := F_detailMessage_b_27_p
          refine OGo.go (B := T27.setTop (mkF m 166 #[.val (.int p0), .val (.int p1), .val (.int p2), .val (.int p3), .val (.int ((p1 &&& (255 : Int32)).toUInt32.toUInt16.toUInt32.toInt32)), .val (.int ((p2 &&& (255 : Int32)).toUInt32.toUInt16.toUInt32.toInt32)), .val (.int ((p3 &&& (255 : Int32)).toUInt32.toUInt16.toUInt32.toInt32)), .val (.ref b1), .val (.ref b2), .val (.ref b4), .val (.ref b7), .val (.int (p0 &&& (3 : Int32))), .val (.ref b25), .unset, .unset] [(.ref b_27)])) ?_ st27
          refine OGo.go (B := T27.setTop (mkF m 168 #[.val (.int p0), .val (.int p1), .val (.int p2), .val (.int p3), .val (.int ((p1 &&& (255 : Int32)).toUInt32.toUInt16.toUInt32.toInt32)), .val (.int ((p2 &&& (255 : Int32)).toUInt32.toUInt16.toUInt32.toInt32)), .val (.int ((p3 &&& (255 : Int32)).toUInt32.toUInt16.toUInt32.toInt32)), .val (.ref b1), .val (.ref b2), .val (.ref b4), .val (.ref b7), .val (.int (p0 &&& (3 : Int32))), .val (.ref b25), .val (.ref b_27), .unset] [])) ?_ (fun tX kX => XS.astore X27.here hx rfl (hb hby at_166) rfl rfl (l' := #[.val (.int p0), .val (.int p1), .val (.int p2), .val (.int p3), .val (.int ((p1 &&& (255 : Int32)).toUInt32.toUInt16.toUInt32.toInt32)), .val (.int ((p2 &&& (255 : Int32)).toUInt32.toUInt16.toUInt32.toInt32)), .val (.int ((p3 &&& (255 : Int32)).toUInt32.toUInt16.toUInt32.toInt32)), .val (.ref b1), .val (.ref b2), .val (.ref b4), .val (.ref b7), .val (.int (p0 &&& (3 : Int32))), .val (.ref b25), .val (.ref b_27), .unset]) rfl kX)
          refine OGo.go (B := T27.setTop (mkF m 170 #[.val (.int p0), .val (.int p1), .val (.int p2), .val (.int p3), .val (.int ((p1 &&& (255 : Int32)).toUInt32.toUInt16.toUInt32.toInt32)), .val (.int ((p2 &&& (255 : Int32)).toUInt32.toUInt16.toUInt32.toInt32)), .val (.int ((p3 &&& (255 : Int32)).toUInt32.toUInt16.toUInt32.toInt32)), .val (.ref b1), .val (.ref b2), .val (.ref b4), .val (.ref b7), .val (.int (p0 &&& (3 : Int32))), .val (.ref b25), .val (.ref b_27), .unset] [(.ref b_27)])) ?_ (fun tX kX => XS.aload X27.here hx rfl (hb hby at_168) rfl rfl kX)
          refine OGo.go (B := T27.setTop (mkF m 175 #[.val (.int p0), .val (.int p1), .val (.int p2), .val (.int p3), .val (.int ((p1 &&& (255 : Int32)).toUInt32.toUInt16.toUInt32.toInt32)), .val (.int ((p2 &&& (255 : Int32)).toUInt32.toUInt16.toUInt32.toInt32)), .val (.int ((p3 &&& (255 : Int32)).toUInt32.toUInt16.toUInt32.toInt32)), .val (.ref b1), .val (.ref b2), .val (.ref b4), .val (.ref b7), .val (.int (p0 &&& (3 : Int32))), .val (.ref b25), .val (.ref b_27), .unset] [])) ?_ (fun tX kX => XS.ifnonnullYes X27.here hx rfl (pc0 := 170) (pc' := 175) rfl (hb hby at_170) rfl (by decide) (by decide) kX)
          refine OGo.go (B := T27.setTop (mkF m 177 #[.val (.int p0), .val (.int p1), .val (.int p2), .val (.int p3), .val (.int ((p1 &&& (255 : Int32)).toUInt32.toUInt16.toUInt32.toInt32)), .val (.int ((p2 &&& (255 : Int32)).toUInt32.toUInt16.toUInt32.toInt32)), .val (.int ((p3 &&& (255 : Int32)).toUInt32.toUInt16.toUInt32.toInt32)), .val (.ref b1), .val (.ref b2), .val (.ref b4), .val (.ref b7), .val (.int (p0 &&& (3 : Int32))), .val (.ref b25), .val (.ref b_27), .unset] [(.ref b_27)])) ?_ (fun tX kX => XS.aload X27.here hx rfl (hb hby at_175) rfl rfl kX)
          obtain ⟨cq28, kq28, q28a, q28b, q28c⟩ := isOf hZ rfl E_b_27
          obtain ⟨_, _, ⟨T28, L28, k28, n28⟩, -, X28, ⟨Lc28, hQ28, l28, y28, z28⟩, st28⟩ := X27.virtualBack hx (y := (⟨"com/example/hushlist/hushlist/engine/StanzaException", "condition", "()Lcom/example/hushlist/hushlist/engine/Condition;"⟩ : MethodName)) (z := (⟨"com/example/hushlist/hushlist/engine/StanzaException", "condition", "()Lcom/example/hushlist/hushlist/engine/Condition;"⟩ : MethodName)) hown (mvT hZ (hw _ (List.mem_of_getElem? (i := 84) rfl))) (mvT hZ (hw _ (List.mem_of_getElem? (i := 85) rfl))) (notFace_of_selects (args := #[]) (mvT hZ (hw _ (List.mem_of_getElem? (i := 87) rfl)))) (mvT hZ (hw _ (List.mem_of_getElem? (i := 87) rfl))) (mvT hZ (hw _ (List.mem_of_getElem? (i := 86) rfl))) (by decide) (backOf (W := 0) (rm10 l Z aV hw [] b_27 uc T27.heap n0 zn27 F_condition_b_27) hZ (hw _ (List.mem_of_getElem? (i := 88) rfl)) (hw _ (List.mem_of_getElem? (i := 24) rfl)) (by decide) (by decide)) q28a q28c (g := (mkF m 177 #[.val (.int p0), .val (.int p1), .val (.int p2), .val (.int p3), .val (.int ((p1 &&& (255 : Int32)).toUInt32.toUInt16.toUInt32.toInt32)), .val (.int ((p2 &&& (255 : Int32)).toUInt32.toUInt16.toUInt32.toInt32)), .val (.int ((p3 &&& (255 : Int32)).toUInt32.toUInt16.toUInt32.toInt32)), .val (.ref b1), .val (.ref b2), .val (.ref b4), .val (.ref b7), .val (.int (p0 &&& (3 : Int32))), .val (.ref b25), .val (.ref b_27), .unset] [(.ref b_27)])) rfl (by rw [hml]; rfl) (Steps.refl _) (argsL := []) (rest := []) (lenOf pd___Lcom_example_hushlist_hushlist_engine_Condition_ rfl) rfl (by show 2 * 0 + _ ≤ _; exact Nat.le_of_eq rfl) (hb hby at_177) (fun _ _ => ⟨rfl, rfl, (by decide : 8 + 0 ≤ _), (by decide : 2771 + 0 ≤ _)⟩)
          dsimp only [Pt.U, Pt.locs, Pt.cells, Pt.slots] at X28 l28 y28 z28 st28 hQ28
          subst l28 y28 z28
          obtain ⟨rfl, N28q, e28⟩ := hQ28
          have N28 := Fr.app N27 N28q
          refine OGo.go (B := T28.setTop (mkF m 180 #[.val (.int p0), .val (.int p1), .val (.int p2), .val (.int p3), .val (.int ((p1 &&& (255 : Int32)).toUInt32.toUInt16.toUInt32.toInt32)), .val (.int ((p2 &&& (255 : Int32)).toUInt32.toUInt16.toUInt32.toInt32)), .val (.int ((p3 &&& (255 : Int32)).toUInt32.toUInt16.toUInt32.toInt32)), .val (.ref b1), .val (.ref b2), .val (.ref b4), .val (.ref b7), .val (.int (p0 &&& (3 : Int32))), .val (.ref b25), .val (.ref b_27), .unset] [(.ref uc)])) ?_ (fun tX kX => st28.trans kX)
          obtain ⟨T29, X29, e29, st29⟩ := getS2 X28 hx hZ hown (host := "") (Or.inl (hw _ (List.mem_of_getElem? (i := 89) rfl))) Via.refl e28 S_CONFLICT (g := (mkF m 180 #[.val (.int p0), .val (.int p1), .val (.int p2), .val (.int p3), .val (.int ((p1 &&& (255 : Int32)).toUInt32.toUInt16.toUInt32.toInt32)), .val (.int ((p2 &&& (255 : Int32)).toUInt32.toUInt16.toUInt32.toInt32)), .val (.int ((p3 &&& (255 : Int32)).toUInt32.toUInt16.toUInt32.toInt32)), .val (.ref b1), .val (.ref b2), .val (.ref b4), .val (.ref b7), .val (.int (p0 &&& (3 : Int32))), .val (.ref b25), .val (.ref b_27), .unset] [(.ref uc)])) rfl (hb hby at_180)
          refine OGo.go (B := T29.setTop (mkF m 183 #[.val (.int p0), .val (.int p1), .val (.int p2), .val (.int p3), .val (.int ((p1 &&& (255 : Int32)).toUInt32.toUInt16.toUInt32.toInt32)), .val (.int ((p2 &&& (255 : Int32)).toUInt32.toUInt16.toUInt32.toInt32)), .val (.int ((p3 &&& (255 : Int32)).toUInt32.toUInt16.toUInt32.toInt32)), .val (.ref b1), .val (.ref b2), .val (.ref b4), .val (.ref b7), .val (.int (p0 &&& (3 : Int32))), .val (.ref b25), .val (.ref b_27), .unset] [(.ref uc), (.ref uc)])) ?_ st29
          refine OGo.go (B := T29.setTop (mkF m 188 #[.val (.int p0), .val (.int p1), .val (.int p2), .val (.int p3), .val (.int ((p1 &&& (255 : Int32)).toUInt32.toUInt16.toUInt32.toInt32)), .val (.int ((p2 &&& (255 : Int32)).toUInt32.toUInt16.toUInt32.toInt32)), .val (.int ((p3 &&& (255 : Int32)).toUInt32.toUInt16.toUInt32.toInt32)), .val (.ref b1), .val (.ref b2), .val (.ref b4), .val (.ref b7), .val (.int (p0 &&& (3 : Int32))), .val (.ref b25), .val (.ref b_27), .unset] [])) ?_ (fun tX kX => Jvm.RoadKit.acmp (g := (mkF m 183 #[.val (.int p0), .val (.int p1), .val (.int p2), .val (.int p3), .val (.int ((p1 &&& (255 : Int32)).toUInt32.toUInt16.toUInt32.toInt32)), .val (.int ((p2 &&& (255 : Int32)).toUInt32.toUInt16.toUInt32.toInt32)), .val (.int ((p3 &&& (255 : Int32)).toUInt32.toUInt16.toUInt32.toInt32)), .val (.ref b1), .val (.ref b2), .val (.ref b4), .val (.ref b7), .val (.int (p0 &&& (3 : Int32))), .val (.ref b25), .val (.ref b_27), .unset] [(.ref uc), (.ref uc)])) X29 hx rfl rfl rfl (pc0 := 183) (pc' := 188) (same := true) rfl (hb hby at_183) rfl (decide_eq_true rfl) (by decide) (by decide) kX)
          refine OGo.go (B := T29.setTop (mkF m 190 #[.val (.int p0), .val (.int p1), .val (.int p2), .val (.int p3), .val (.int ((p1 &&& (255 : Int32)).toUInt32.toUInt16.toUInt32.toInt32)), .val (.int ((p2 &&& (255 : Int32)).toUInt32.toUInt16.toUInt32.toInt32)), .val (.int ((p3 &&& (255 : Int32)).toUInt32.toUInt16.toUInt32.toInt32)), .val (.ref b1), .val (.ref b2), .val (.ref b4), .val (.ref b7), .val (.int (p0 &&& (3 : Int32))), .val (.ref b25), .val (.ref b_27), .unset] [(.ref b_27)])) ?_ (fun tX kX => XS.aload X29.here hx rfl (hb hby at_188) rfl rfl kX)
          obtain ⟨cq30, kq30, q30a, q30b, q30c⟩ := isOf hZ e29 E_b_27
          obtain ⟨_, _, ⟨T30, L30, k30, n30⟩, -, X30, ⟨Lc30, hQ30, l30, y30, z30⟩, st30⟩ := X29.virtualBackUp hx (x := (⟨"com/example/hushlist/hushlist/engine/StanzaException", "getMessage", "()Ljava/lang/String;"⟩ : MethodName)) (y := (⟨"java/lang/Throwable", "getMessage", "()Ljava/lang/String;"⟩ : MethodName)) (owner := "java/lang/Throwable") hown (mvT hZ (hw _ (List.mem_of_getElem? (i := 90) rfl))) (mvT hZ (hw _ (List.mem_of_getElem? (i := 91) rfl))) (mvT hZ (hw _ (List.mem_of_getElem? (i := 92) rfl))) (by decide) (mvT hZ (hw _ (List.mem_of_getElem? (i := 94) rfl))) (mvT hZ (hw _ (List.mem_of_getElem? (i := 93) rfl))) (backOf (W := 0) (rm11r l Z aV hw [] b_27 b25 T27.heap n0 zn27 F_detailMessage_b_27) hZ (hw _ (List.mem_of_getElem? (i := 95) rfl)) (hw _ (List.mem_of_getElem? (i := 43) rfl)) (by decide) (by decide)) q30a q30c (g := (mkF m 190 #[.val (.int p0), .val (.int p1), .val (.int p2), .val (.int p3), .val (.int ((p1 &&& (255 : Int32)).toUInt32.toUInt16.toUInt32.toInt32)), .val (.int ((p2 &&& (255 : Int32)).toUInt32.toUInt16.toUInt32.toInt32)), .val (.int ((p3 &&& (255 : Int32)).toUInt32.toUInt16.toUInt32.toInt32)), .val (.ref b1), .val (.ref b2), .val (.ref b4), .val (.ref b7), .val (.int (p0 &&& (3 : Int32))), .val (.ref b25), .val (.ref b_27), .unset] [(.ref b_27)])) rfl (by rw [hml]; rfl) (Steps.refl _) (argsL := []) (rest := []) (lenOf pd___Ljava_lang_String_ rfl) rfl (by show 2 * 0 + _ ≤ _; exact Nat.le_of_eq rfl) (hb hby at_190) (fun _ _ => ⟨rfl, e29, (by decide : 8 + 0 ≤ _), (by decide : 2771 + 0 ≤ _)⟩)
          dsimp only [Pt.U, Pt.locs, Pt.cells, Pt.slots] at X30 l30 y30 z30 st30 hQ30
          subst l30 y30 z30
          obtain ⟨rfl, N30q, e30⟩ := hQ30
          have N30 := Fr.app N28 N30q
          refine OGo.go (B := T30.setTop (mkF m 193 #[.val (.int p0), .val (.int p1), .val (.int p2), .val (.int p3), .val (.int ((p1 &&& (255 : Int32)).toUInt32.toUInt16.toUInt32.toInt32)), .val (.int ((p2 &&& (255 : Int32)).toUInt32.toUInt16.toUInt32.toInt32)), .val (.int ((p3 &&& (255 : Int32)).toUInt32.toUInt16.toUInt32.toInt32)), .val (.ref b1), .val (.ref b2), .val (.ref b4), .val (.ref b7), .val (.int (p0 &&& (3 : Int32))), .val (.ref b25), .val (.ref b_27), .unset] [(.ref b25)])) ?_ (fun tX kX => st30.trans kX)
          refine OGo.go (B := T30.setTop (mkF m 195 #[.val (.int p0), .val (.int p1), .val (.int p2), .val (.int p3), .val (.int ((p1 &&& (255 : Int32)).toUInt32.toUInt16.toUInt32.toInt32)), .val (.int ((p2 &&& (255 : Int32)).toUInt32.toUInt16.toUInt32.toInt32)), .val (.int ((p3 &&& (255 : Int32)).toUInt32.toUInt16.toUInt32.toInt32)), .val (.ref b1), .val (.ref b2), .val (.ref b4), .val (.ref b7), .val (.int (p0 &&& (3 : Int32))), .val (.ref b25), .val (.ref b_27), .val (.ref b25)] [])) ?_ (fun tX kX => XS.astore X30.here hx rfl (hb hby at_193) rfl rfl (l' := #[.val (.int p0), .val (.int p1), .val (.int p2), .val (.int p3), .val (.int ((p1 &&& (255 : Int32)).toUInt32.toUInt16.toUInt32.toInt32)), .val (.int ((p2 &&& (255 : Int32)).toUInt32.toUInt16.toUInt32.toInt32)), .val (.int ((p3 &&& (255 : Int32)).toUInt32.toUInt16.toUInt32.toInt32)), .val (.ref b1), .val (.ref b2), .val (.ref b4), .val (.ref b7), .val (.int (p0 &&& (3 : Int32))), .val (.ref b25), .val (.ref b_27), .val (.ref b25)]) rfl kX)
          refine OGo.go (B := T30.setTop (mkF m 197 #[.val (.int p0), .val (.int p1), .val (.int p2), .val (.int p3), .val (.int ((p1 &&& (255 : Int32)).toUInt32.toUInt16.toUInt32.toInt32)), .val (.int ((p2 &&& (255 : Int32)).toUInt32.toUInt16.toUInt32.toInt32)), .val (.int ((p3 &&& (255 : Int32)).toUInt32.toUInt16.toUInt32.toInt32)), .val (.ref b1), .val (.ref b2), .val (.ref b4), .val (.ref b7), .val (.int (p0 &&& (3 : Int32))), .val (.ref b25), .val (.ref b_27), .val (.ref b25)] [(.ref b25)])) ?_ (fun tX kX => XS.aload X30.here hx rfl (hb hby at_195) rfl rfl kX)
          refine OGo.go (B := T30.setTop (mkF m 211 #[.val (.int p0), .val (.int p1), .val (.int p2), .val (.int p3), .val (.int ((p1 &&& (255 : Int32)).toUInt32.toUInt16.toUInt32.toInt32)), .val (.int ((p2 &&& (255 : Int32)).toUInt32.toUInt16.toUInt32.toInt32)), .val (.int ((p3 &&& (255 : Int32)).toUInt32.toUInt16.toUInt32.toInt32)), .val (.ref b1), .val (.ref b2), .val (.ref b4), .val (.ref b7), .val (.int (p0 &&& (3 : Int32))), .val (.ref b25), .val (.ref b_27), .val (.ref b25)] [])) ?_ (fun tX kX => XS.ifnonnullYes X30.here hx rfl (pc0 := 197) (pc' := 211) rfl (hb hby at_197) rfl (by decide) (by decide) kX)
          refine OGo.go (B := T30.setTop (mkF m 213 #[.val (.int p0), .val (.int p1), .val (.int p2), .val (.int p3), .val (.int ((p1 &&& (255 : Int32)).toUInt32.toUInt16.toUInt32.toInt32)), .val (.int ((p2 &&& (255 : Int32)).toUInt32.toUInt16.toUInt32.toInt32)), .val (.int ((p3 &&& (255 : Int32)).toUInt32.toUInt16.toUInt32.toInt32)), .val (.ref b1), .val (.ref b2), .val (.ref b4), .val (.ref b7), .val (.int (p0 &&& (3 : Int32))), .val (.ref b25), .val (.ref b_27), .val (.ref b25)] [(.ref b25)])) ?_ (fun tX kX => XS.aload X30.here hx rfl (hb hby at_211) rfl rfl kX)
          refine OGo.go (B := T30.setTop (mkF m 216 #[.val (.int p0), .val (.int p1), .val (.int p2), .val (.int p3), .val (.int ((p1 &&& (255 : Int32)).toUInt32.toUInt16.toUInt32.toInt32)), .val (.int ((p2 &&& (255 : Int32)).toUInt32.toUInt16.toUInt32.toInt32)), .val (.int ((p3 &&& (255 : Int32)).toUInt32.toUInt16.toUInt32.toInt32)), .val (.ref b1), .val (.ref b2), .val (.ref b4), .val (.ref b7), .val (.int (p0 &&& (3 : Int32))), .val (.ref b25), .val (.ref b_27), .val (.ref b25)] [])) ?_ (fun tX kX => XS.ifnullNo X30.here hx rfl (hb hby at_213) rfl kX)
          refine OGo.go (B := T30.setTop (mkF m 218 #[.val (.int p0), .val (.int p1), .val (.int p2), .val (.int p3), .val (.int ((p1 &&& (255 : Int32)).toUInt32.toUInt16.toUInt32.toInt32)), .val (.int ((p2 &&& (255 : Int32)).toUInt32.toUInt16.toUInt32.toInt32)), .val (.int ((p3 &&& (255 : Int32)).toUInt32.toUInt16.toUInt32.toInt32)), .val (.ref b1), .val (.ref b2), .val (.ref b4), .val (.ref b7), .val (.int (p0 &&& (3 : Int32))), .val (.ref b25), .val (.ref b_27), .val (.ref b25)] [(.ref b25)])) ?_ (fun tX kX => XS.aload X30.here hx rfl (hb hby at_216) rfl rfl kX)
          refine OGo.go (B := T30.setTop (mkF m 220 #[.val (.int p0), .val (.int p1), .val (.int p2), .val (.int p3), .val (.int ((p1 &&& (255 : Int32)).toUInt32.toUInt16.toUInt32.toInt32)), .val (.int ((p2 &&& (255 : Int32)).toUInt32.toUInt16.toUInt32.toInt32)), .val (.int ((p3 &&& (255 : Int32)).toUInt32.toUInt16.toUInt32.toInt32)), .val (.ref b1), .val (.ref b2), .val (.ref b4), .val (.ref b7), .val (.int (p0 &&& (3 : Int32))), .val (.ref b25), .val (.ref b_27), .val (.ref b25)] [(.ref b25), (.ref b25)])) ?_ (fun tX kX => XS.aload X30.here hx rfl (hb hby at_218) rfl rfl kX)
          obtain ⟨cq31, kq31, q31a, q31b, q31c⟩ := isOf hZ e30 E_b25
          obtain ⟨_, _, ⟨T31, L31, k31, n31⟩, -, X31, ⟨Lc31, hQ31, l31, y31, z31⟩, st31⟩ := X30.virtualBack hx (y := (⟨"java/lang/String", "equals", "(Ljava/lang/Object;)Z"⟩ : MethodName)) (z := (⟨"java/lang/String", "equals", "(Ljava/lang/Object;)Z"⟩ : MethodName)) hown (mvT hZ (hw _ (List.mem_of_getElem? (i := 96) rfl))) (mvT hZ (hw _ (List.mem_of_getElem? (i := 97) rfl))) (notFace_of_selects (args := #[]) (mvT hZ (hw _ (List.mem_of_getElem? (i := 99) rfl)))) (mvT hZ (hw _ (List.mem_of_getElem? (i := 99) rfl))) (mvT hZ (hw _ (List.mem_of_getElem? (i := 98) rfl))) (by decide) (backOf (W := 0) (rm12 l Z aV hw [] b25 b25 T27.heap n0 zn27) hZ (hw _ (List.mem_of_getElem? (i := 100) rfl)) (hw _ (List.mem_of_getElem? (i := 3) rfl)) (by decide) (by decide)) q31a q31c (g := (mkF m 220 #[.val (.int p0), .val (.int p1), .val (.int p2), .val (.int p3), .val (.int ((p1 &&& (255 : Int32)).toUInt32.toUInt16.toUInt32.toInt32)), .val (.int ((p2 &&& (255 : Int32)).toUInt32.toUInt16.toUInt32.toInt32)), .val (.int ((p3 &&& (255 : Int32)).toUInt32.toUInt16.toUInt32.toInt32)), .val (.ref b1), .val (.ref b2), .val (.ref b4), .val (.ref b7), .val (.int (p0 &&& (3 : Int32))), .val (.ref b25), .val (.ref b_27), .val (.ref b25)] [(.ref b25), (.ref b25)])) rfl (by rw [hml]; rfl) (Steps.refl _) (argsL := [(.ref b25)]) (rest := []) (lenOf pd__Ljava_lang_Object__Z rfl) rfl (by show 2 * 0 + _ ≤ _; exact Nat.le_of_eq rfl) (hb hby at_220) (fun _ _ => ⟨rfl, e30, (by decide : 8 + 0 ≤ _), (by decide : 2771 + 0 ≤ _)⟩)
          dsimp only [Pt.U, Pt.locs, Pt.cells, Pt.slots] at X31 l31 y31 z31 st31 hQ31
          subst l31 y31 z31
          obtain ⟨rfl, N31q, e31⟩ := hQ31
          have N31 := Fr.app N30 N31q
          refine OGo.go (B := T31.setTop (mkF m 223 #[.val (.int p0), .val (.int p1), .val (.int p2), .val (.int p3), .val (.int ((p1 &&& (255 : Int32)).toUInt32.toUInt16.toUInt32.toInt32)), .val (.int ((p2 &&& (255 : Int32)).toUInt32.toUInt16.toUInt32.toInt32)), .val (.int ((p3 &&& (255 : Int32)).toUInt32.toUInt16.toUInt32.toInt32)), .val (.ref b1), .val (.ref b2), .val (.ref b4), .val (.ref b7), .val (.int (p0 &&& (3 : Int32))), .val (.ref b25), .val (.ref b_27), .val (.ref b25)] [(.int (1 : Int32))])) ?_ (fun tX kX => st31.trans kX)
          refine OGo.go (B := T31.setTop (mkF m 226 #[.val (.int p0), .val (.int p1), .val (.int p2), .val (.int p3), .val (.int ((p1 &&& (255 : Int32)).toUInt32.toUInt16.toUInt32.toInt32)), .val (.int ((p2 &&& (255 : Int32)).toUInt32.toUInt16.toUInt32.toInt32)), .val (.int ((p3 &&& (255 : Int32)).toUInt32.toUInt16.toUInt32.toInt32)), .val (.ref b1), .val (.ref b2), .val (.ref b4), .val (.ref b7), .val (.int (p0 &&& (3 : Int32))), .val (.ref b25), .val (.ref b_27), .val (.ref b25)] [])) ?_ (fun tX kX => XS.ifNo X31.here hx rfl (hb hby at_223) rfl ((if0 _ _).trans (feq (by decide)).1) kX)
          refine OGo.go (B := T31.setTop (mkF m 227 #[.val (.int p0), .val (.int p1), .val (.int p2), .val (.int p3), .val (.int ((p1 &&& (255 : Int32)).toUInt32.toUInt16.toUInt32.toInt32)), .val (.int ((p2 &&& (255 : Int32)).toUInt32.toUInt16.toUInt32.toInt32)), .val (.int ((p3 &&& (255 : Int32)).toUInt32.toUInt16.toUInt32.toInt32)), .val (.ref b1), .val (.ref b2), .val (.ref b4), .val (.ref b7), .val (.int (p0 &&& (3 : Int32))), .val (.ref b25), .val (.ref b_27), .val (.ref b25)] [(.int (1 : Int32))])) ?_ (fun tX kX => XS.iconst X31.here hx rfl (hb hby at_226) kX)
          refine OGo.go (B := T31.setTop (mkF m 231 #[.val (.int p0), .val (.int p1), .val (.int p2), .val (.int p3), .val (.int ((p1 &&& (255 : Int32)).toUInt32.toUInt16.toUInt32.toInt32)), .val (.int ((p2 &&& (255 : Int32)).toUInt32.toUInt16.toUInt32.toInt32)), .val (.int ((p3 &&& (255 : Int32)).toUInt32.toUInt16.toUInt32.toInt32)), .val (.ref b1), .val (.ref b2), .val (.ref b4), .val (.ref b7), .val (.int (p0 &&& (3 : Int32))), .val (.ref b25), .val (.ref b_27), .val (.ref b25)] [(.int (1 : Int32))])) ?_ (fun tX kX => XS.goto X31.here hx rfl (pc0 := 227) (pc' := 231) rfl (hb hby at_227) (by decide) (by decide) kX)
          refine OGo.retW X31 hS0 (by rw [e31]; exact hk27) (v := (some (.int (1 : Int32)))) (fun h => by rw [Bd.returns] at h; cases h) (BodyLoose.notSynchronized Bd) (fun fs hr => retN X31 hx (t := .boolean) (z := (1 : Int32)) Bd.returns (by simp) (hb hby at_231) hr) (Q := Q0 Z p0 p1 p2 p3 cs uc us sn h0 n0) ?_ (by decide) (by decide)
          show Q0 Z p0 p1 p2 p3 cs uc us sn h0 n0 _ T31.heap _
          rw [e31]
          exact ⟨rfl, N31⟩
        ·
          refine OGo.go (B := T10.setTop (mkF m 150 #[.val (.int p0), .val (.int p1), .val (.int p2), .val (.int p3), .val (.int ((p1 &&& (255 : Int32)).toUInt32.toUInt16.toUInt32.toInt32)), .val (.int ((p2 &&& (255 : Int32)).toUInt32.toUInt16.toUInt32.toInt32)), .val (.int ((p3 &&& (255 : Int32)).toUInt32.toUInt16.toUInt32.toInt32)), .val (.ref b1), .val (.ref b2), .val (.ref b4), .val (.ref b7), .val (.int (p0 &&& (3 : Int32))), .unset, .unset, .unset] [])) ?_ (fun tX kX => XS.icmpYes X10.here hx rfl (pc0 := 133) (pc' := 150) rfl (hb hby at_133) rfl (feq hc133).2 (by decide) (by decide) kX)
          obtain ⟨T32, h32, X32, e32, E32, A32, D32, C32, st32⟩ := newO X10 hx hZ hown (hw _ (List.mem_of_getElem? (i := 1) rfl)) (hw _ (List.mem_of_getElem? (i := 2) rfl)) (hw _ (List.mem_of_getElem? (i := 3) rfl)) e10 (g := (mkF m 150 #[.val (.int p0), .val (.int p1), .val (.int p2), .val (.int p3), .val (.int ((p1 &&& (255 : Int32)).toUInt32.toUInt16.toUInt32.toInt32)), .val (.int ((p2 &&& (255 : Int32)).toUInt32.toUInt16.toUInt32.toInt32)), .val (.int ((p3 &&& (255 : Int32)).toUInt32.toUInt16.toUInt32.toInt32)), .val (.ref b1), .val (.ref b2), .val (.ref b4), .val (.ref b7), .val (.int (p0 &&& (3 : Int32))), .unset, .unset, .unset] [])) rfl (hb hby at_150) (by decide) (by decide)
          obtain ⟨b32, g32⟩ : ∃ z, z = h10.size := ⟨_, rfl⟩
          rw [← g32] at A32 D32 st32 C32
          have ne_b1_b32 : b1 ≠ b32 := Nat.ne_of_lt (Nat.lt_of_lt_of_le E_b1.lt (Nat.le_of_eq g32.symm))
          have ne_b2_b32 : b2 ≠ b32 := Nat.ne_of_lt (Nat.lt_of_lt_of_le E_b2.lt (Nat.le_of_eq g32.symm))
          have ne_b4_b32 : b4 ≠ b32 := Nat.ne_of_lt (Nat.lt_of_lt_of_le E_b4.lt (Nat.le_of_eq g32.symm))
          have ne_b7_b32 : b7 ≠ b32 := Nat.ne_of_lt (Nat.lt_of_lt_of_le E_b7.lt (Nat.le_of_eq g32.symm))
          have CHo32 := hCH
          have Sf_b1 := Safe.ext E32 CHo32 Sf_b1
          have Sf_b2 := Safe.ext E32 CHo32 Sf_b2
          have Sf_b4 := Safe.ext E32 CHo32 Sf_b4
          have Sf_b7 := Safe.ext E32 CHo32 Sf_b7
          have hCH := CHv.ext E32 CHo32
          have S_COMPACT_STRINGS := S_COMPACT_STRINGS.ext E32
          have S_CONFLICT := S_CONFLICT.ext E32
          have S_UNASSIGNED_STACK := S_UNASSIGNED_STACK.ext E32
          have S_SUPPRESSED_SENTINEL := S_SUPPRESSED_SENTINEL.ext E32
          have hThS := hThS.ext E32
          have E_b1 := E_b1.ext E32
          have V_b1 := V_b1.ext E32
          have E_b2 := E_b2.ext E32
          have V_b2 := V_b2.ext E32
          have E_b4 := E_b4.ext E32
          have V_b4 := V_b4.ext E32
          have E_b7 := E_b7.ext E32
          have V_b7 := V_b7.ext E32
          have Sf_b32 : Safe Z own_EL s.vm h32 b32 := Safe.ext E32 CHo32 (Safe.new (Nat.le_of_eq g32.symm))
          have g_b32 : n0 ≤ b32 := Nat.le_trans zn10 (Nat.le_of_eq g32.symm)
          have sz_b32 : h0.size ≤ b32 := Nat.le_trans K10.1 (Nat.le_of_eq g32.symm)
          have zn32 : n0 ≤ h32.size := Nat.le_trans zn10 E32.1
          have hk32 := Nat.le_trans hk10 E32.1
          have K32 := K10.ext E32
          have E_b32 := A32
          have F_value_b32 : Fld Z h32 b32 "java/lang/String" "value" "[B" .null := D32 (Or.inr (hw _ (List.mem_of_getElem? (i := 16) rfl))) (ty := (.array .byte)) (by decide)
          have F_coder_b32 : Fld Z h32 b32 "java/lang/String" "coder" "B" (.int (0 : Int32)) := D32 (Or.inr (hw _ (List.mem_of_getElem? (i := 17) rfl))) (ty := .byte) (by decide)
          refine OGo.go (B := T32.setTop (mkF m 153 #[.val (.int p0), .val (.int p1), .val (.int p2), .val (.int p3), .val (.int ((p1 &&& (255 : Int32)).toUInt32.toUInt16.toUInt32.toInt32)), .val (.int ((p2 &&& (255 : Int32)).toUInt32.toUInt16.toUInt32.toInt32)), .val (.int ((p3 &&& (255 : Int32)).toUInt32.toUInt16.toUInt32.toInt32)), .val (.ref b1), .val (.ref b2), .val (.ref b4), .val (.ref b7), .val (.int (p0 &&& (3 : Int32))), .unset, .unset, .unset] [(.ref b32)])) ?_ st32
          refine OGo.go (B := T32.setTop (mkF m 154 #[.val (.int p0), .val (.int p1), .val (.int p2), .val (.int p3), .val (.int ((p1 &&& (255 : Int32)).toUInt32.toUInt16.toUInt32.toInt32)), .val (.int ((p2 &&& (255 : Int32)).toUInt32.toUInt16.toUInt32.toInt32)), .val (.int ((p3 &&& (255 : Int32)).toUInt32.toUInt16.toUInt32.toInt32)), .val (.ref b1), .val (.ref b2), .val (.ref b4), .val (.ref b7), .val (.int (p0 &&& (3 : Int32))), .unset, .unset, .unset] [(.ref b32), (.ref b32)])) ?_ (fun tX kX => XS.dup X32.here hx rfl (hb hby at_153) rfl rfl kX)
          refine OGo.go (B := T32.setTop (mkF m 156 #[.val (.int p0), .val (.int p1), .val (.int p2), .val (.int p3), .val (.int ((p1 &&& (255 : Int32)).toUInt32.toUInt16.toUInt32.toInt32)), .val (.int ((p2 &&& (255 : Int32)).toUInt32.toUInt16.toUInt32.toInt32)), .val (.int ((p3 &&& (255 : Int32)).toUInt32.toUInt16.toUInt32.toInt32)), .val (.ref b1), .val (.ref b2), .val (.ref b4), .val (.ref b7), .val (.int (p0 &&& (3 : Int32))), .unset, .unset, .unset] [(.ref b7), (.ref b32), (.ref b32)])) ?_ (fun tX kX => XS.aload X32.here hx rfl (hb hby at_154) rfl rfl kX)
          obtain ⟨_, _, ⟨T33, L33, k33, n33⟩, -, X33, ⟨Lc33, hQ33, l33, y33, z33⟩, st33⟩ := X32.specialBack hx (y := (⟨"java/lang/String", "<init>", "([C)V"⟩ : MethodName)) rfl hown (mvT hZ (hw _ (List.mem_of_getElem? (i := 4) rfl))) (mvT hZ (hw _ (List.mem_of_getElem? (i := 5) rfl))) (mvT hZ (hw _ (List.mem_of_getElem? (i := 6) rfl))) (by decide) (backOf (W := 1) (rm1c3 l Z aV hw [] b32 b7 .null (.int (0 : Int32)) k7 cs (((p1 &&& (255 : Int32)).toUInt32.toUInt16.toUInt32.toInt32).toUInt32.toUInt16.toUInt32.toInt32) (((p2 &&& (255 : Int32)).toUInt32.toUInt16.toUInt32.toInt32).toUInt32.toUInt16.toUInt32.toInt32) (((p3 &&& (255 : Int32)).toUInt32.toUInt16.toUInt32.toInt32).toUInt32.toUInt16.toUInt32.toInt32) h32 n0 zn32 E_b32 F_value_b32 F_coder_b32 V_b7 S_COMPACT_STRINGS g_b32 ne_b7_b32 hcs (own_le _) (own_le _) (own_le _)) hZ (hw _ (List.mem_of_getElem? (i := 6) rfl)) (hw _ (List.mem_of_getElem? (i := 3) rfl)) (by decide) (by decide)) (g := (mkF m 156 #[.val (.int p0), .val (.int p1), .val (.int p2), .val (.int p3), .val (.int ((p1 &&& (255 : Int32)).toUInt32.toUInt16.toUInt32.toInt32)), .val (.int ((p2 &&& (255 : Int32)).toUInt32.toUInt16.toUInt32.toInt32)), .val (.int ((p3 &&& (255 : Int32)).toUInt32.toUInt16.toUInt32.toInt32)), .val (.ref b1), .val (.ref b2), .val (.ref b4), .val (.ref b7), .val (.int (p0 &&& (3 : Int32))), .unset, .unset, .unset] [(.ref b7), (.ref b32), (.ref b32)])) rfl (by rw [hml]; rfl) (Steps.refl _) (a := b32) (argsL := [(.ref b7)]) (rest := [(.ref b32)]) (lenOf pd___C_V rfl) rfl (by show 2 * 0 + _ ≤ _; exact Nat.le_of_eq rfl) (hb hby at_156) (fun _ _ => ⟨rfl, e32, (by decide : 5 + 1 ≤ _), (by decide : 10 + 3 ≤ _)⟩)
          dsimp only [Pt.U, Pt.locs, Pt.cells, Pt.slots] at X33 l33 y33 z33 st33 hQ33
          subst l33 y33 z33
          obtain ⟨rfl, N33q, Kq33, E_b32_p⟩ := hQ33
          have N33 := Fr.app N10 N33q
          have sfs33 : ∀ x ∈ [b32], Safe Z own_EL s.vm h32 x := (sfS Sf_b32 sf0)
          have CHo33 := hCH
          have Sf_b1 := Safe.keep Kq33 sfs33 CHo33 Sf_b1
          have Sf_b2 := Safe.keep Kq33 sfs33 CHo33 Sf_b2
          have Sf_b4 := Safe.keep Kq33 sfs33 CHo33 Sf_b4
          have Sf_b7 := Safe.keep Kq33 sfs33 CHo33 Sf_b7
          have Sf_b32 := Safe.keep Kq33 sfs33 CHo33 Sf_b32
          have hCH := CHv.keep Kq33 sfs33 CHo33
          have S_COMPACT_STRINGS := Sta.keepE S_COMPACT_STRINGS Kq33 (staS E_b32.cell (fun x hx' => nomatch hx'))
          have S_CONFLICT := Sta.keepE S_CONFLICT Kq33 (staS E_b32.cell (fun x hx' => nomatch hx'))
          have S_UNASSIGNED_STACK := Sta.keepE S_UNASSIGNED_STACK Kq33 (staS E_b32.cell (fun x hx' => nomatch hx'))
          have S_SUPPRESSED_SENTINEL := Sta.keepE S_SUPPRESSED_SENTINEL Kq33 (staS E_b32.cell (fun x hx' => nomatch hx'))
          have hThS := hThS.keep Kq33 (nsS E_b32.nostat ns0)
          have E_b1 := E_b1.keep Kq33
          have V_b1 := V_b1.keep Kq33 (ninS ne_b1_b32 nin0)
          have E_b2 := E_b2.keep Kq33
          have V_b2 := V_b2.keep Kq33 (ninS ne_b2_b32 nin0)
          have E_b4 := E_b4.keep Kq33
          have V_b4 := V_b4.keep Kq33 (ninS ne_b4_b32 nin0)
          have E_b7 := E_b7.keep Kq33
          have V_b7 := V_b7.keep Kq33 (ninS ne_b7_b32 nin0)
          have E_b32 := E_b32.keep Kq33
          have K33 := K32.trans Kq33 (allS (P := fun x => x ∈ ([] : List Addr) ∨ h0.size ≤ x) (Or.inr sz_b32) all0)
          have zn33 : n0 ≤ T33.heap.size := Nat.le_trans zn32 Kq33.1
          have hk33 := Nat.le_trans hk32 Kq33.1
          have E_b32 := E_b32_p
          refine OGo.go (B := T33.setTop (mkF m 159 #[.val (.int p0), .val (.int p1), .val (.int p2), .val (.int p3), .val (.int ((p1 &&& (255 : Int32)).toUInt32.toUInt16.toUInt32.toInt32)), .val (.int ((p2 &&& (255 : Int32)).toUInt32.toUInt16.toUInt32.toInt32)), .val (.int ((p3 &&& (255 : Int32)).toUInt32.toUInt16.toUInt32.toInt32)), .val (.ref b1), .val (.ref b2), .val (.ref b4), .val (.ref b7), .val (.int (p0 &&& (3 : Int32))), .unset, .unset, .unset] [(.ref b32)])) ?_ (fun tX kX => st33.trans kX)
          refine OGo.go (B := T33.setTop (mkF m 161 #[.val (.int p0), .val (.int p1), .val (.int p2), .val (.int p3), .val (.int ((p1 &&& (255 : Int32)).toUInt32.toUInt16.toUInt32.toInt32)), .val (.int ((p2 &&& (255 : Int32)).toUInt32.toUInt16.toUInt32.toInt32)), .val (.int ((p3 &&& (255 : Int32)).toUInt32.toUInt16.toUInt32.toInt32)), .val (.ref b1), .val (.ref b2), .val (.ref b4), .val (.ref b7), .val (.int (p0 &&& (3 : Int32))), .val (.ref b32), .unset, .unset] [])) ?_ (fun tX kX => XS.astore X33.here hx rfl (hb hby at_159) rfl rfl (l' := #[.val (.int p0), .val (.int p1), .val (.int p2), .val (.int p3), .val (.int ((p1 &&& (255 : Int32)).toUInt32.toUInt16.toUInt32.toInt32)), .val (.int ((p2 &&& (255 : Int32)).toUInt32.toUInt16.toUInt32.toInt32)), .val (.int ((p3 &&& (255 : Int32)).toUInt32.toUInt16.toUInt32.toInt32)), .val (.ref b1), .val (.ref b2), .val (.ref b4), .val (.ref b7), .val (.int (p0 &&& (3 : Int32))), .val (.ref b32), .unset, .unset]) rfl kX)
          refine OGo.go (B := T33.setTop (mkF m 163 #[.val (.int p0), .val (.int p1), .val (.int p2), .val (.int p3), .val (.int ((p1 &&& (255 : Int32)).toUInt32.toUInt16.toUInt32.toInt32)), .val (.int ((p2 &&& (255 : Int32)).toUInt32.toUInt16.toUInt32.toInt32)), .val (.int ((p3 &&& (255 : Int32)).toUInt32.toUInt16.toUInt32.toInt32)), .val (.ref b1), .val (.ref b2), .val (.ref b4), .val (.ref b7), .val (.int (p0 &&& (3 : Int32))), .val (.ref b32), .unset, .unset] [(.ref b32)])) ?_ (fun tX kX => XS.aload X33.here hx rfl (hb hby at_161) rfl rfl kX)
          obtain ⟨_, _, ⟨T34, L34, k34, n34⟩, -, X34, ⟨Lc34, hQ34, l34, y34, z34⟩, st34⟩ := Jvm.LawKit.callS X33 hx (y := (⟨"com/example/hushlist/hushlist/engine/StanzaException", "conflict", "(Ljava/lang/String;)Lcom/example/hushlist/hushlist/engine/StanzaException;"⟩ : MethodName)) hown (mvT hZ (hw _ (List.mem_of_getElem? (i := 22) rfl))) (mvT hZ (hw _ (List.mem_of_getElem? (i := 23) rfl))) (mvT hZ (hw _ (List.mem_of_getElem? (i := 24) rfl))) (mvT hZ (hw _ (List.mem_of_getElem? (i := 25) rfl))) (by decide) (backOfKL (W := 0) (rm4r l Z aV hw [] b32 uc us sn T33.heap n0 zn33 S_CONFLICT S_UNASSIGNED_STACK S_SUPPRESSED_SENTINEL hThS hl hus hsn) hZ (hw _ (List.mem_of_getElem? (i := 25) rfl)) (hw _ (List.mem_of_getElem? (i := 24) rfl)) (by decide) (by decide) hTK hBelow) (g := (mkF m 163 #[.val (.int p0), .val (.int p1), .val (.int p2), .val (.int p3), .val (.int ((p1 &&& (255 : Int32)).toUInt32.toUInt16.toUInt32.toInt32)), .val (.int ((p2 &&& (255 : Int32)).toUInt32.toUInt16.toUInt32.toInt32)), .val (.int ((p3 &&& (255 : Int32)).toUInt32.toUInt16.toUInt32.toInt32)), .val (.ref b1), .val (.ref b2), .val (.ref b4), .val (.ref b7), .val (.int (p0 &&& (3 : Int32))), .val (.ref b32), .unset, .unset] [(.ref b32)])) rfl (by rw [hml]; rfl) (argsL := [(.ref b32)]) (rest := []) (lenOf pd__Ljava_lang_String__Lcom_example_hushlist_hushlist_engine_StanzaException_ rfl) rfl (by show 2 * 0 + _ ≤ _; exact Nat.le_of_eq rfl) (hb hby at_163) (fun _ _ => ⟨rfl, rfl, (by decide : 6 + 2 ≤ _), (by decide : 13 + 2759 ≤ _)⟩)
          dsimp only [Pt.U, Pt.locs, Pt.cells, Pt.slots] at X34 l34 y34 z34 st34 hQ34
          subst l34 y34 z34
          obtain ⟨b_34, rfl, N34q, Kq34, sz34_b, E_b_34_p, F_condition_b_34_p, F_detailMessage_b_34_p⟩ := hQ34
          have N34 := Fr.app N33 N34q
          have ne_b1_b_34 : b1 ≠ b_34 := Nat.ne_of_lt (Nat.lt_of_lt_of_le E_b1.lt sz34_b)
          have ne_b2_b_34 : b2 ≠ b_34 := Nat.ne_of_lt (Nat.lt_of_lt_of_le E_b2.lt sz34_b)
          have ne_b4_b_34 : b4 ≠ b_34 := Nat.ne_of_lt (Nat.lt_of_lt_of_le E_b4.lt sz34_b)
          have ne_b7_b_34 : b7 ≠ b_34 := Nat.ne_of_lt (Nat.lt_of_lt_of_le E_b7.lt sz34_b)
          have ne_b32_b_34 : b32 ≠ b_34 := Nat.ne_of_lt (Nat.lt_of_lt_of_le E_b32.lt sz34_b)
          have sfs34 : ∀ x ∈ ([] : List Addr), Safe Z own_EL s.vm T33.heap x := sf0
          have CHo34 := hCH
          have Sf_b1 := Safe.keep Kq34 sfs34 CHo34 Sf_b1
          have Sf_b2 := Safe.keep Kq34 sfs34 CHo34 Sf_b2
          have Sf_b4 := Safe.keep Kq34 sfs34 CHo34 Sf_b4
          have Sf_b7 := Safe.keep Kq34 sfs34 CHo34 Sf_b7
          have Sf_b32 := Safe.keep Kq34 sfs34 CHo34 Sf_b32
          have hCH := CHv.keep Kq34 sfs34 CHo34
          have Sf_b_34 := Safe.keep Kq34 sfs34 CHo34 (Safe.new sz34_b)
          have S_COMPACT_STRINGS := Sta.keep0 S_COMPACT_STRINGS Kq34
          have S_CONFLICT := Sta.keep0 S_CONFLICT Kq34
          have S_UNASSIGNED_STACK := Sta.keep0 S_UNASSIGNED_STACK Kq34
          have S_SUPPRESSED_SENTINEL := Sta.keep0 S_SUPPRESSED_SENTINEL Kq34
          have hThS := hThS.keep Kq34 ns0
          have E_b1 := E_b1.keep Kq34
          have V_b1 := V_b1.keep Kq34 nin0
          have E_b2 := E_b2.keep Kq34
          have V_b2 := V_b2.keep Kq34 nin0
          have E_b4 := E_b4.keep Kq34
          have V_b4 := V_b4.keep Kq34 nin0
          have E_b7 := E_b7.keep Kq34
          have V_b7 := V_b7.keep Kq34 nin0
          have E_b32 := E_b32.keep Kq34
          have g_b_34 : n0 ≤ b_34 := Nat.le_trans zn33 sz34_b
          have sz_b_34 : h0.size ≤ b_34 := Nat.le_trans K33.1 sz34_b
          have K34 := K33.trans Kq34 all0
          have zn34 : n0 ≤ T34.heap.size := Nat.le_trans zn33 Kq34.1
          have hk34 := Nat.le_trans hk33 Kq34.1
          have E_b_34 := E_b_34_p
          have F_condition_b_34 := F_condition_b_34_p
          have F_detailMessage_b_34 := F_detailMessage_b_34_p
          refine OGo.go (B := T34.setTop (mkF m 166 #[.val (.int p0), .val (.int p1), .val (.int p2), .val (.int p3), .val (.int ((p1 &&& (255 : Int32)).toUInt32.toUInt16.toUInt32.toInt32)), .val (.int ((p2 &&& (255 : Int32)).toUInt32.toUInt16.toUInt32.toInt32)), .val (.int ((p3 &&& (255 : Int32)).toUInt32.toUInt16.toUInt32.toInt32)), .val (.ref b1), .val (.ref b2), .val (.ref b4), .val (.ref b7), .val (.int (p0 &&& (3 : Int32))), .val (.ref b32), .unset, .unset] [(.ref b_34)])) ?_ st34
          refine OGo.go (B := T34.setTop (mkF m 168 #[.val (.int p0), .val (.int p1), .val (.int p2), .val (.int p3), .val (.int ((p1 &&& (255 : Int32)).toUInt32.toUInt16.toUInt32.toInt32)), .val (.int ((p2 &&& (255 : Int32)).toUInt32.toUInt16.toUInt32.toInt32)), .val (.int ((p3 &&& (255 : Int32)).toUInt32.toUInt16.toUInt32.toInt32)), .val (.ref b1), .val (.ref b2), .val (.ref b4), .val (.ref b7), .val (.int (p0 &&& (3 : Int32))), .val (.ref b32), .val (.ref b_34), .unset] [])) ?_ (fun tX kX => XS.astore X34.here hx rfl (hb hby at_166) rfl rfl (l' := #[.val (.int p0), .val (.int p1), .val (.int p2), .val (.int p3), .val (.int ((p1 &&& (255 : Int32)).toUInt32.toUInt16.toUInt32.toInt32)), .val (.int ((p2 &&& (255 : Int32)).toUInt32.toUInt16.toUInt32.toInt32)), .val (.int ((p3 &&& (255 : Int32)).toUInt32.toUInt16.toUInt32.toInt32)), .val (.ref b1), .val (.ref b2), .val (.ref b4), .val (.ref b7), .val (.int (p0 &&& (3 : Int32))), .val (.ref b32), .val (.ref b_34), .unset]) rfl kX)
          refine OGo.go (B := T34.setTop (mkF m 170 #[.val (.int p0), .val (.int p1), .val (.int p2), .val (.int p3), .val (.int ((p1 &&& (255 : Int32)).toUInt32.toUInt16.toUInt32.toInt32)), .val (.int ((p2 &&& (255 : Int32)).toUInt32.toUInt16.toUInt32.toInt32)), .val (.int ((p3 &&& (255 : Int32)).toUInt32.toUInt16.toUInt32.toInt32)), .val (.ref b1), .val (.ref b2), .val (.ref b4), .val (.ref b7), .val (.int (p0 &&& (3 : Int32))), .val (.ref b32), .val (.ref b_34), .unset] [(.ref b_34)])) ?_ (fun tX kX => XS.aload X34.here hx rfl (hb hby at_168) rfl rfl kX)
          refine OGo.go (B := T34.setTop (mkF m 175 #[.val (.int p0), .val (.int p1), .val (.int p2), .val (.int p3), .val (.int ((p1 &&& (255 : Int32)).toUInt32.toUInt16.toUInt32.toInt32)), .val (.int ((p2 &&& (255 : Int32)).toUInt32.toUInt16.toUInt32.toInt32)), .val (.int ((p3 &&& (255 : Int32)).toUInt32.toUInt16.toUInt32.toInt32)), .val (.ref b1), .val (.ref b2), .val (.ref b4), .val (.ref b7), .val (.int (p0 &&& (3 : Int32))), .val (.ref b32), .val (.ref b_34), .unset] [])) ?_ (fun tX kX => XS.ifnonnullYes X34.here hx rfl (pc0 := 170) (pc' := 175) rfl (hb hby at_170) rfl (by decide) (by decide) kX)
          refine OGo.go (B := T34.setTop (mkF m 177 #[.val (.int p0), .val (.int p1), .val (.int p2), .val (.int p3), .val (.int ((p1 &&& (255 : Int32)).toUInt32.toUInt16.toUInt32.toInt32)), .val (.int ((p2 &&& (255 : Int32)).toUInt32.toUInt16.toUInt32.toInt32)), .val (.int ((p3 &&& (255 : Int32)).toUInt32.toUInt16.toUInt32.toInt32)), .val (.ref b1), .val (.ref b2), .val (.ref b4), .val (.ref b7), .val (.int (p0 &&& (3 : Int32))), .val (.ref b32), .val (.ref b_34), .unset] [(.ref b_34)])) ?_ (fun tX kX => XS.aload X34.here hx rfl (hb hby at_175) rfl rfl kX)
          obtain ⟨cq35, kq35, q35a, q35b, q35c⟩ := isOf hZ rfl E_b_34
          obtain ⟨_, _, ⟨T35, L35, k35, n35⟩, -, X35, ⟨Lc35, hQ35, l35, y35, z35⟩, st35⟩ := X34.virtualBack hx (y := (⟨"com/example/hushlist/hushlist/engine/StanzaException", "condition", "()Lcom/example/hushlist/hushlist/engine/Condition;"⟩ : MethodName)) (z := (⟨"com/example/hushlist/hushlist/engine/StanzaException", "condition", "()Lcom/example/hushlist/hushlist/engine/Condition;"⟩ : MethodName)) hown (mvT hZ (hw _ (List.mem_of_getElem? (i := 84) rfl))) (mvT hZ (hw _ (List.mem_of_getElem? (i := 85) rfl))) (notFace_of_selects (args := #[]) (mvT hZ (hw _ (List.mem_of_getElem? (i := 87) rfl)))) (mvT hZ (hw _ (List.mem_of_getElem? (i := 87) rfl))) (mvT hZ (hw _ (List.mem_of_getElem? (i := 86) rfl))) (by decide) (backOf (W := 0) (rm10 l Z aV hw [] b_34 uc T34.heap n0 zn34 F_condition_b_34) hZ (hw _ (List.mem_of_getElem? (i := 88) rfl)) (hw _ (List.mem_of_getElem? (i := 24) rfl)) (by decide) (by decide)) q35a q35c (g := (mkF m 177 #[.val (.int p0), .val (.int p1), .val (.int p2), .val (.int p3), .val (.int ((p1 &&& (255 : Int32)).toUInt32.toUInt16.toUInt32.toInt32)), .val (.int ((p2 &&& (255 : Int32)).toUInt32.toUInt16.toUInt32.toInt32)), .val (.int ((p3 &&& (255 : Int32)).toUInt32.toUInt16.toUInt32.toInt32)), .val (.ref b1), .val (.ref b2), .val (.ref b4), .val (.ref b7), .val (.int (p0 &&& (3 : Int32))), .val (.ref b32), .val (.ref b_34), .unset] [(.ref b_34)])) rfl (by rw [hml]; rfl) (Steps.refl _) (argsL := []) (rest := []) (lenOf pd___Lcom_example_hushlist_hushlist_engine_Condition_ rfl) rfl (by show 2 * 0 + _ ≤ _; exact Nat.le_of_eq rfl) (hb hby at_177) (fun _ _ => ⟨rfl, rfl, (by decide : 8 + 0 ≤ _), (by decide : 2772 + 0 ≤ _)⟩)
          dsimp only [Pt.U, Pt.locs, Pt.cells, Pt.slots] at X35 l35 y35 z35 st35 hQ35
          subst l35 y35 z35
          obtain ⟨rfl, N35q, e35⟩ := hQ35
          have N35 := Fr.app N34 N35q
          refine OGo.go (B := T35.setTop (mkF m 180 #[.val (.int p0), .val (.int p1), .val (.int p2), .val (.int p3), .val (.int ((p1 &&& (255 : Int32)).toUInt32.toUInt16.toUInt32.toInt32)), .val (.int ((p2 &&& (255 : Int32)).toUInt32.toUInt16.toUInt32.toInt32)), .val (.int ((p3 &&& (255 : Int32)).toUInt32.toUInt16.toUInt32.toInt32)), .val (.ref b1), .val (.ref b2), .val (.ref b4), .val (.ref b7), .val (.int (p0 &&& (3 : Int32))), .val (.ref b32), .val (.ref b_34), .unset] [(.ref uc)])) ?_ (fun tX kX => st35.trans kX)
          obtain ⟨T36, X36, e36, st36⟩ := getS2 X35 hx hZ hown (host := "") (Or.inl (hw _ (List.mem_of_getElem? (i := 89) rfl))) Via.refl e35 S_CONFLICT (g := (mkF m 180 #[.val (.int p0), .val (.int p1), .val (.int p2), .val (.int p3), .val (.int ((p1 &&& (255 : Int32)).toUInt32.toUInt16.toUInt32.toInt32)), .val (.int ((p2 &&& (255 : Int32)).toUInt32.toUInt16.toUInt32.toInt32)), .val (.int ((p3 &&& (255 : Int32)).toUInt32.toUInt16.toUInt32.toInt32)), .val (.ref b1), .val (.ref b2), .val (.ref b4), .val (.ref b7), .val (.int (p0 &&& (3 : Int32))), .val (.ref b32), .val (.ref b_34), .unset] [(.ref uc)])) rfl (hb hby at_180)
          refine OGo.go (B := T36.setTop (mkF m 183 #[.val (.int p0), .val (.int p1), .val (.int p2), .val (.int p3), .val (.int ((p1 &&& (255 : Int32)).toUInt32.toUInt16.toUInt32.toInt32)), .val (.int ((p2 &&& (255 : Int32)).toUInt32.toUInt16.toUInt32.toInt32)), .val (.int ((p3 &&& (255 : Int32)).toUInt32.toUInt16.toUInt32.toInt32)), .val (.ref b1), .val (.ref b2), .val (.ref b4), .val (.ref b7), .val (.int (p0 &&& (3 : Int32))), .val (.ref b32), .val (.ref b_34), .unset] [(.ref uc), (.ref uc)])) ?_ st36
          refine OGo.go (B := T36.setTop (mkF m 188 #[.val (.int p0), .val (.int p1), .val (.int p2), .val (.int p3), .val (.int ((p1 &&& (255 : Int32)).toUInt32.toUInt16.toUInt32.toInt32)), .val (.int ((p2 &&& (255 : Int32)).toUInt32.toUInt16.toUInt32.toInt32)), .val (.int ((p3 &&& (255 : Int32)).toUInt32.toUInt16.toUInt32.toInt32)), .val (.ref b1), .val (.ref b2), .val (.ref b4), .val (.ref b7), .val (.int (p0 &&& (3 : Int32))), .val (.ref b32), .val (.ref b_34), .unset] [])) ?_ (fun tX kX => Jvm.RoadKit.acmp (g := (mkF m 183 #[.val (.int p0), .val (.int p1), .val (.int p2), .val (.int p3), .val (.int ((p1 &&& (255 : Int32)).toUInt32.toUInt16.toUInt32.toInt32)), .val (.int ((p2 &&& (255 : Int32)).toUInt32.toUInt16.toUInt32.toInt32)), .val (.int ((p3 &&& (255 : Int32)).toUInt32.toUInt16.toUInt32.toInt32)), .val (.ref b1), .val (.ref b2), .val (.ref b4), .val (.ref b7), .val (.int (p0 &&& (3 : Int32))), .val (.ref b32), .val (.ref b_34), .unset] [(.ref uc), (.ref uc)])) X36 hx rfl rfl rfl (pc0 := 183) (pc' := 188) (same := true) rfl (hb hby at_183) rfl (decide_eq_true rfl) (by decide) (by decide) kX)
          refine OGo.go (B := T36.setTop (mkF m 190 #[.val (.int p0), .val (.int p1), .val (.int p2), .val (.int p3), .val (.int ((p1 &&& (255 : Int32)).toUInt32.toUInt16.toUInt32.toInt32)), .val (.int ((p2 &&& (255 : Int32)).toUInt32.toUInt16.toUInt32.toInt32)), .val (.int ((p3 &&& (255 : Int32)).toUInt32.toUInt16.toUInt32.toInt32)), .val (.ref b1), .val (.ref b2), .val (.ref b4), .val (.ref b7), .val (.int (p0 &&& (3 : Int32))), .val (.ref b32), .val (.ref b_34), .unset] [(.ref b_34)])) ?_ (fun tX kX => XS.aload X36.here hx rfl (hb hby at_188) rfl rfl kX)
          obtain ⟨cq37, kq37, q37a, q37b, q37c⟩ := isOf hZ e36 E_b_34
          obtain ⟨_, _, ⟨T37, L37, k37, n37⟩, -, X37, ⟨Lc37, hQ37, l37, y37, z37⟩, st37⟩ := X36.virtualBackUp hx (x := (⟨"com/example/hushlist/hushlist/engine/StanzaException", "getMessage", "()Ljava/lang/String;"⟩ : MethodName)) (y := (⟨"java/lang/Throwable", "getMessage", "()Ljava/lang/String;"⟩ : MethodName)) (owner := "java/lang/Throwable") hown (mvT hZ (hw _ (List.mem_of_getElem? (i := 90) rfl))) (mvT hZ (hw _ (List.mem_of_getElem? (i := 91) rfl))) (mvT hZ (hw _ (List.mem_of_getElem? (i := 92) rfl))) (by decide) (mvT hZ (hw _ (List.mem_of_getElem? (i := 94) rfl))) (mvT hZ (hw _ (List.mem_of_getElem? (i := 93) rfl))) (backOf (W := 0) (rm11r l Z aV hw [] b_34 b32 T34.heap n0 zn34 F_detailMessage_b_34) hZ (hw _ (List.mem_of_getElem? (i := 95) rfl)) (hw _ (List.mem_of_getElem? (i := 43) rfl)) (by decide) (by decide)) q37a q37c (g := (mkF m 190 #[.val (.int p0), .val (.int p1), .val (.int p2), .val (.int p3), .val (.int ((p1 &&& (255 : Int32)).toUInt32.toUInt16.toUInt32.toInt32)), .val (.int ((p2 &&& (255 : Int32)).toUInt32.toUInt16.toUInt32.toInt32)), .val (.int ((p3 &&& (255 : Int32)).toUInt32.toUInt16.toUInt32.toInt32)), .val (.ref b1), .val (.ref b2), .val (.ref b4), .val (.ref b7), .val (.int (p0 &&& (3 : Int32))), .val (.ref b32), .val (.ref b_34), .unset] [(.ref b_34)])) rfl (by rw [hml]; rfl) (Steps.refl _) (argsL := []) (rest := []) (lenOf pd___Ljava_lang_String_ rfl) rfl (by show 2 * 0 + _ ≤ _; exact Nat.le_of_eq rfl) (hb hby at_190) (fun _ _ => ⟨rfl, e36, (by decide : 8 + 0 ≤ _), (by decide : 2772 + 0 ≤ _)⟩)
          dsimp only [Pt.U, Pt.locs, Pt.cells, Pt.slots] at X37 l37 y37 z37 st37 hQ37
          subst l37 y37 z37
          obtain ⟨rfl, N37q, e37⟩ := hQ37
          have N37 := Fr.app N35 N37q
          refine OGo.go (B := T37.setTop (mkF m 193 #[.val (.int p0), .val (.int p1), .val (.int p2), .val (.int p3), .val (.int ((p1 &&& (255 : Int32)).toUInt32.toUInt16.toUInt32.toInt32)), .val (.int ((p2 &&& (255 : Int32)).toUInt32.toUInt16.toUInt32.toInt32)), .val (.int ((p3 &&& (255 : Int32)).toUInt32.toUInt16.toUInt32.toInt32)), .val (.ref b1), .val (.ref b2), .val (.ref b4), .val (.ref b7), .val (.int (p0 &&& (3 : Int32))), .val (.ref b32), .val (.ref b_34), .unset] [(.ref b32)])) ?_ (fun tX kX => st37.trans kX)
          refine OGo.go (B := T37.setTop (mkF m 195 #[.val (.int p0), .val (.int p1), .val (.int p2), .val (.int p3), .val (.int ((p1 &&& (255 : Int32)).toUInt32.toUInt16.toUInt32.toInt32)), .val (.int ((p2 &&& (255 : Int32)).toUInt32.toUInt16.toUInt32.toInt32)), .val (.int ((p3 &&& (255 : Int32)).toUInt32.toUInt16.toUInt32.toInt32)), .val (.ref b1), .val (.ref b2), .val (.ref b4), .val (.ref b7), .val (.int (p0 &&& (3 : Int32))), .val (.ref b32), .val (.ref b_34), .val (.ref b32)] [])) ?_ (fun tX kX => XS.astore X37.here hx rfl (hb hby at_193) rfl rfl (l' := #[.val (.int p0), .val (.int p1), .val (.int p2), .val (.int p3), .val (.int ((p1 &&& (255 : Int32)).toUInt32.toUInt16.toUInt32.toInt32)), .val (.int ((p2 &&& (255 : Int32)).toUInt32.toUInt16.toUInt32.toInt32)), .val (.int ((p3 &&& (255 : Int32)).toUInt32.toUInt16.toUInt32.toInt32)), .val (.ref b1), .val (.ref b2), .val (.ref b4), .val (.ref b7), .val (.int (p0 &&& (3 : Int32))), .val (.ref b32), .val (.ref b_34), .val (.ref b32)]) rfl kX)
          refine OGo.go (B := T37.setTop (mkF m 197 #[.val (.int p0), .val (.int p1), .val (.int p2), .val (.int p3), .val (.int ((p1 &&& (255 : Int32)).toUInt32.toUInt16.toUInt32.toInt32)), .val (.int ((p2 &&& (255 : Int32)).toUInt32.toUInt16.toUInt32.toInt32)), .val (.int ((p3 &&& (255 : Int32)).toUInt32.toUInt16.toUInt32.toInt32)), .val (.ref b1), .val (.ref b2), .val (.ref b4), .val (.ref b7), .val (.int (p0 &&& (3 : Int32))), .val (.ref b32), .val (.ref b_34), .val (.ref b32)] [(.ref b32)])) ?_ (fun tX kX => XS.aload X37.here hx rfl (hb hby at_195) rfl rfl kX)
          refine OGo.go (B := T37.setTop (mkF m 211 #[.val (.int p0), .val (.int p1), .val (.int p2), .val (.int p3), .val (.int ((p1 &&& (255 : Int32)).toUInt32.toUInt16.toUInt32.toInt32)), .val (.int ((p2 &&& (255 : Int32)).toUInt32.toUInt16.toUInt32.toInt32)), .val (.int ((p3 &&& (255 : Int32)).toUInt32.toUInt16.toUInt32.toInt32)), .val (.ref b1), .val (.ref b2), .val (.ref b4), .val (.ref b7), .val (.int (p0 &&& (3 : Int32))), .val (.ref b32), .val (.ref b_34), .val (.ref b32)] [])) ?_ (fun tX kX => XS.ifnonnullYes X37.here hx rfl (pc0 := 197) (pc' := 211) rfl (hb hby at_197) rfl (by decide) (by decide) kX)
          refine OGo.go (B := T37.setTop (mkF m 213 #[.val (.int p0), .val (.int p1), .val (.int p2), .val (.int p3), .val (.int ((p1 &&& (255 : Int32)).toUInt32.toUInt16.toUInt32.toInt32)), .val (.int ((p2 &&& (255 : Int32)).toUInt32.toUInt16.toUInt32.toInt32)), .val (.int ((p3 &&& (255 : Int32)).toUInt32.toUInt16.toUInt32.toInt32)), .val (.ref b1), .val (.ref b2), .val (.ref b4), .val (.ref b7), .val (.int (p0 &&& (3 : Int32))), .val (.ref b32), .val (.ref b_34), .val (.ref b32)] [(.ref b32)])) ?_ (fun tX kX => XS.aload X37.here hx rfl (hb hby at_211) rfl rfl kX)
          refine OGo.go (B := T37.setTop (mkF m 216 #[.val (.int p0), .val (.int p1), .val (.int p2), .val (.int p3), .val (.int ((p1 &&& (255 : Int32)).toUInt32.toUInt16.toUInt32.toInt32)), .val (.int ((p2 &&& (255 : Int32)).toUInt32.toUInt16.toUInt32.toInt32)), .val (.int ((p3 &&& (255 : Int32)).toUInt32.toUInt16.toUInt32.toInt32)), .val (.ref b1), .val (.ref b2), .val (.ref b4), .val (.ref b7), .val (.int (p0 &&& (3 : Int32))), .val (.ref b32), .val (.ref b_34), .val (.ref b32)] [])) ?_ (fun tX kX => XS.ifnullNo X37.here hx rfl (hb hby at_213) rfl kX)
          refine OGo.go (B := T37.setTop (mkF m 218 #[.val (.int p0), .val (.int p1), .val (.int p2), .val (.int p3), .val (.int ((p1 &&& (255 : Int32)).toUInt32.toUInt16.toUInt32.toInt32)), .val (.int ((p2 &&& (255 : Int32)).toUInt32.toUInt16.toUInt32.toInt32)), .val (.int ((p3 &&& (255 : Int32)).toUInt32.toUInt16.toUInt32.toInt32)), .val (.ref b1), .val (.ref b2), .val (.ref b4), .val (.ref b7), .val (.int (p0 &&& (3 : Int32))), .val (.ref b32), .val (.ref b_34), .val (.ref b32)] [(.ref b32)])) ?_ (fun tX kX => XS.aload X37.here hx rfl (hb hby at_216) rfl rfl kX)
          refine OGo.go (B := T37.setTop (mkF m 220 #[.val (.int p0), .val (.int p1), .val (.int p2), .val (.int p3), .val (.int ((p1 &&& (255 : Int32)).toUInt32.toUInt16.toUInt32.toInt32)), .val (.int ((p2 &&& (255 : Int32)).toUInt32.toUInt16.toUInt32.toInt32)), .val (.int ((p3 &&& (255 : Int32)).toUInt32.toUInt16.toUInt32.toInt32)), .val (.ref b1), .val (.ref b2), .val (.ref b4), .val (.ref b7), .val (.int (p0 &&& (3 : Int32))), .val (.ref b32), .val (.ref b_34), .val (.ref b32)] [(.ref b32), (.ref b32)])) ?_ (fun tX kX => XS.aload X37.here hx rfl (hb hby at_218) rfl rfl kX)
          obtain ⟨cq38, kq38, q38a, q38b, q38c⟩ := isOf hZ e37 E_b32
          obtain ⟨_, _, ⟨T38, L38, k38, n38⟩, -, X38, ⟨Lc38, hQ38, l38, y38, z38⟩, st38⟩ := X37.virtualBack hx (y := (⟨"java/lang/String", "equals", "(Ljava/lang/Object;)Z"⟩ : MethodName)) (z := (⟨"java/lang/String", "equals", "(Ljava/lang/Object;)Z"⟩ : MethodName)) hown (mvT hZ (hw _ (List.mem_of_getElem? (i := 96) rfl))) (mvT hZ (hw _ (List.mem_of_getElem? (i := 97) rfl))) (notFace_of_selects (args := #[]) (mvT hZ (hw _ (List.mem_of_getElem? (i := 99) rfl)))) (mvT hZ (hw _ (List.mem_of_getElem? (i := 99) rfl))) (mvT hZ (hw _ (List.mem_of_getElem? (i := 98) rfl))) (by decide) (backOf (W := 0) (rm12 l Z aV hw [] b32 b32 T34.heap n0 zn34) hZ (hw _ (List.mem_of_getElem? (i := 100) rfl)) (hw _ (List.mem_of_getElem? (i := 3) rfl)) (by decide) (by decide)) q38a q38c (g := (mkF m 220 #[.val (.int p0), .val (.int p1), .val (.int p2), .val (.int p3), .val (.int ((p1 &&& (255 : Int32)).toUInt32.toUInt16.toUInt32.toInt32)), .val (.int ((p2 &&& (255 : Int32)).toUInt32.toUInt16.toUInt32.toInt32)), .val (.int ((p3 &&& (255 : Int32)).toUInt32.toUInt16.toUInt32.toInt32)), .val (.ref b1), .val (.ref b2), .val (.ref b4), .val (.ref b7), .val (.int (p0 &&& (3 : Int32))), .val (.ref b32), .val (.ref b_34), .val (.ref b32)] [(.ref b32), (.ref b32)])) rfl (by rw [hml]; rfl) (Steps.refl _) (argsL := [(.ref b32)]) (rest := []) (lenOf pd__Ljava_lang_Object__Z rfl) rfl (by show 2 * 0 + _ ≤ _; exact Nat.le_of_eq rfl) (hb hby at_220) (fun _ _ => ⟨rfl, e37, (by decide : 8 + 0 ≤ _), (by decide : 2772 + 0 ≤ _)⟩)
          dsimp only [Pt.U, Pt.locs, Pt.cells, Pt.slots] at X38 l38 y38 z38 st38 hQ38
          subst l38 y38 z38
          obtain ⟨rfl, N38q, e38⟩ := hQ38
          have N38 := Fr.app N37 N38q
          refine OGo.go (B := T38.setTop (mkF m 223 #[.val (.int p0), .val (.int p1), .val (.int p2), .val (.int p3), .val (.int ((p1 &&& (255 : Int32)).toUInt32.toUInt16.toUInt32.toInt32)), .val (.int ((p2 &&& (255 : Int32)).toUInt32.toUInt16.toUInt32.toInt32)), .val (.int ((p3 &&& (255 : Int32)).toUInt32.toUInt16.toUInt32.toInt32)), .val (.ref b1), .val (.ref b2), .val (.ref b4), .val (.ref b7), .val (.int (p0 &&& (3 : Int32))), .val (.ref b32), .val (.ref b_34), .val (.ref b32)] [(.int (1 : Int32))])) ?_ (fun tX kX => st38.trans kX)
          refine OGo.go (B := T38.setTop (mkF m 226 #[.val (.int p0), .val (.int p1), .val (.int p2), .val (.int p3), .val (.int ((p1 &&& (255 : Int32)).toUInt32.toUInt16.toUInt32.toInt32)), .val (.int ((p2 &&& (255 : Int32)).toUInt32.toUInt16.toUInt32.toInt32)), .val (.int ((p3 &&& (255 : Int32)).toUInt32.toUInt16.toUInt32.toInt32)), .val (.ref b1), .val (.ref b2), .val (.ref b4), .val (.ref b7), .val (.int (p0 &&& (3 : Int32))), .val (.ref b32), .val (.ref b_34), .val (.ref b32)] [])) ?_ (fun tX kX => XS.ifNo X38.here hx rfl (hb hby at_223) rfl ((if0 _ _).trans (feq (by decide)).1) kX)
          refine OGo.go (B := T38.setTop (mkF m 227 #[.val (.int p0), .val (.int p1), .val (.int p2), .val (.int p3), .val (.int ((p1 &&& (255 : Int32)).toUInt32.toUInt16.toUInt32.toInt32)), .val (.int ((p2 &&& (255 : Int32)).toUInt32.toUInt16.toUInt32.toInt32)), .val (.int ((p3 &&& (255 : Int32)).toUInt32.toUInt16.toUInt32.toInt32)), .val (.ref b1), .val (.ref b2), .val (.ref b4), .val (.ref b7), .val (.int (p0 &&& (3 : Int32))), .val (.ref b32), .val (.ref b_34), .val (.ref b32)] [(.int (1 : Int32))])) ?_ (fun tX kX => XS.iconst X38.here hx rfl (hb hby at_226) kX)
          refine OGo.go (B := T38.setTop (mkF m 231 #[.val (.int p0), .val (.int p1), .val (.int p2), .val (.int p3), .val (.int ((p1 &&& (255 : Int32)).toUInt32.toUInt16.toUInt32.toInt32)), .val (.int ((p2 &&& (255 : Int32)).toUInt32.toUInt16.toUInt32.toInt32)), .val (.int ((p3 &&& (255 : Int32)).toUInt32.toUInt16.toUInt32.toInt32)), .val (.ref b1), .val (.ref b2), .val (.ref b4), .val (.ref b7), .val (.int (p0 &&& (3 : Int32))), .val (.ref b32), .val (.ref b_34), .val (.ref b32)] [(.int (1 : Int32))])) ?_ (fun tX kX => XS.goto X38.here hx rfl (pc0 := 227) (pc' := 231) rfl (hb hby at_227) (by decide) (by decide) kX)
          refine OGo.retW X38 hS0 (by rw [e38]; exact hk34) (v := (some (.int (1 : Int32)))) (fun h => by rw [Bd.returns] at h; cases h) (BodyLoose.notSynchronized Bd) (fun fs hr => retN X38 hx (t := .boolean) (z := (1 : Int32)) Bd.returns (by simp) (hb hby at_231) hr) (Q := Q0 Z p0 p1 p2 p3 cs uc us sn h0 n0) ?_ (by decide) (by decide)
          show Q0 Z p0 p1 p2 p3 cs uc us sn h0 n0 _ T38.heap _
          rw [e38]
          exact ⟨rfl, N38⟩
  ·
    refine OGo.go (B := T10.setTop (mkF m 85 #[.val (.int p0), .val (.int p1), .val (.int p2), .val (.int p3), .val (.int ((p1 &&& (255 : Int32)).toUInt32.toUInt16.toUInt32.toInt32)), .val (.int ((p2 &&& (255 : Int32)).toUInt32.toUInt16.toUInt32.toInt32)), .val (.int ((p3 &&& (255 : Int32)).toUInt32.toUInt16.toUInt32.toInt32)), .val (.ref b1), .val (.ref b2), .val (.ref b4), .val (.ref b7), .val (.int (p0 &&& (3 : Int32))), .unset, .unset, .unset] [])) ?_ (fun tX kX => XS.ifNo X10.here hx rfl (hb hby at_82) rfl ((if0 _ _).trans (feq hc82).1) kX)
    refine OGo.go (B := T10.setTop (mkF m 86 #[.val (.int p0), .val (.int p1), .val (.int p2), .val (.int p3), .val (.int ((p1 &&& (255 : Int32)).toUInt32.toUInt16.toUInt32.toInt32)), .val (.int ((p2 &&& (255 : Int32)).toUInt32.toUInt16.toUInt32.toInt32)), .val (.int ((p3 &&& (255 : Int32)).toUInt32.toUInt16.toUInt32.toInt32)), .val (.ref b1), .val (.ref b2), .val (.ref b4), .val (.ref b7), .val (.int (p0 &&& (3 : Int32))), .unset, .unset, .unset] [.null])) ?_ (fun tX kX => XS.aconstNull X10.here hx rfl (hb hby at_85) kX)
    refine OGo.go (B := T10.setTop (mkF m 88 #[.val (.int p0), .val (.int p1), .val (.int p2), .val (.int p3), .val (.int ((p1 &&& (255 : Int32)).toUInt32.toUInt16.toUInt32.toInt32)), .val (.int ((p2 &&& (255 : Int32)).toUInt32.toUInt16.toUInt32.toInt32)), .val (.int ((p3 &&& (255 : Int32)).toUInt32.toUInt16.toUInt32.toInt32)), .val (.ref b1), .val (.ref b2), .val (.ref b4), .val (.ref b7), .val (.int (p0 &&& (3 : Int32))), .val .null, .unset, .unset] [])) ?_ (fun tX kX => XS.astore X10.here hx rfl (hb hby at_86) rfl rfl (l' := #[.val (.int p0), .val (.int p1), .val (.int p2), .val (.int p3), .val (.int ((p1 &&& (255 : Int32)).toUInt32.toUInt16.toUInt32.toInt32)), .val (.int ((p2 &&& (255 : Int32)).toUInt32.toUInt16.toUInt32.toInt32)), .val (.int ((p3 &&& (255 : Int32)).toUInt32.toUInt16.toUInt32.toInt32)), .val (.ref b1), .val (.ref b2), .val (.ref b4), .val (.ref b7), .val (.int (p0 &&& (3 : Int32))), .val .null, .unset, .unset]) rfl kX)
    refine OGo.go (B := T10.setTop (mkF m 161 #[.val (.int p0), .val (.int p1), .val (.int p2), .val (.int p3), .val (.int ((p1 &&& (255 : Int32)).toUInt32.toUInt16.toUInt32.toInt32)), .val (.int ((p2 &&& (255 : Int32)).toUInt32.toUInt16.toUInt32.toInt32)), .val (.int ((p3 &&& (255 : Int32)).toUInt32.toUInt16.toUInt32.toInt32)), .val (.ref b1), .val (.ref b2), .val (.ref b4), .val (.ref b7), .val (.int (p0 &&& (3 : Int32))), .val .null, .unset, .unset] [])) ?_ (fun tX kX => XS.goto X10.here hx rfl (pc0 := 88) (pc' := 161) rfl (hb hby at_88) (by decide) (by decide) kX)
    refine OGo.go (B := T10.setTop (mkF m 163 #[.val (.int p0), .val (.int p1), .val (.int p2), .val (.int p3), .val (.int ((p1 &&& (255 : Int32)).toUInt32.toUInt16.toUInt32.toInt32)), .val (.int ((p2 &&& (255 : Int32)).toUInt32.toUInt16.toUInt32.toInt32)), .val (.int ((p3 &&& (255 : Int32)).toUInt32.toUInt16.toUInt32.toInt32)), .val (.ref b1), .val (.ref b2), .val (.ref b4), .val (.ref b7), .val (.int (p0 &&& (3 : Int32))), .val .null, .unset, .unset] [.null])) ?_ (fun tX kX => XS.aload X10.here hx rfl (hb hby at_161) rfl rfl kX)
    obtain ⟨_, _, ⟨T39, L39, k39, n39⟩, -, X39, ⟨Lc39, hQ39, l39, y39, z39⟩, st39⟩ := Jvm.LawKit.callS X10 hx (y := (⟨"com/example/hushlist/hushlist/engine/StanzaException", "conflict", "(Ljava/lang/String;)Lcom/example/hushlist/hushlist/engine/StanzaException;"⟩ : MethodName)) hown (mvT hZ (hw _ (List.mem_of_getElem? (i := 22) rfl))) (mvT hZ (hw _ (List.mem_of_getElem? (i := 23) rfl))) (mvT hZ (hw _ (List.mem_of_getElem? (i := 24) rfl))) (mvT hZ (hw _ (List.mem_of_getElem? (i := 25) rfl))) (by decide) (backOfKL (W := 0) (rm4n l Z aV hw [] uc us sn h10 n0 zn10 S_CONFLICT S_UNASSIGNED_STACK S_SUPPRESSED_SENTINEL hThS hl hus hsn) hZ (hw _ (List.mem_of_getElem? (i := 25) rfl)) (hw _ (List.mem_of_getElem? (i := 24) rfl)) (by decide) (by decide) hTK hBelow) (g := (mkF m 163 #[.val (.int p0), .val (.int p1), .val (.int p2), .val (.int p3), .val (.int ((p1 &&& (255 : Int32)).toUInt32.toUInt16.toUInt32.toInt32)), .val (.int ((p2 &&& (255 : Int32)).toUInt32.toUInt16.toUInt32.toInt32)), .val (.int ((p3 &&& (255 : Int32)).toUInt32.toUInt16.toUInt32.toInt32)), .val (.ref b1), .val (.ref b2), .val (.ref b4), .val (.ref b7), .val (.int (p0 &&& (3 : Int32))), .val .null, .unset, .unset] [.null])) rfl (by rw [hml]; rfl) (argsL := [.null]) (rest := []) (lenOf pd__Ljava_lang_String__Lcom_example_hushlist_hushlist_engine_StanzaException_ rfl) rfl (by show 2 * 0 + _ ≤ _; exact Nat.le_of_eq rfl) (hb hby at_163) (fun _ _ => ⟨rfl, e10, (by decide : 4 + 2 ≤ _), (by decide : 6 + 2759 ≤ _)⟩)
    dsimp only [Pt.U, Pt.locs, Pt.cells, Pt.slots] at X39 l39 y39 z39 st39 hQ39
    subst l39 y39 z39
    obtain ⟨b_39, rfl, N39q, Kq39, sz39_b, E_b_39_p, F_condition_b_39_p, F_detailMessage_b_39_p⟩ := hQ39
    have N39 := Fr.app N10 N39q
    have ne_b1_b_39 : b1 ≠ b_39 := Nat.ne_of_lt (Nat.lt_of_lt_of_le E_b1.lt sz39_b)
    have ne_b2_b_39 : b2 ≠ b_39 := Nat.ne_of_lt (Nat.lt_of_lt_of_le E_b2.lt sz39_b)
    have ne_b4_b_39 : b4 ≠ b_39 := Nat.ne_of_lt (Nat.lt_of_lt_of_le E_b4.lt sz39_b)
    have ne_b7_b_39 : b7 ≠ b_39 := Nat.ne_of_lt (Nat.lt_of_lt_of_le E_b7.lt sz39_b)
    have sfs39 : ∀ x ∈ ([] : List Addr), Safe Z own_EL s.vm h10 x := sf0
    have CHo39 := hCH
    have Sf_b1 := Safe.keep Kq39 sfs39 CHo39 Sf_b1
    have Sf_b2 := Safe.keep Kq39 sfs39 CHo39 Sf_b2
    have Sf_b4 := Safe.keep Kq39 sfs39 CHo39 Sf_b4
    have Sf_b7 := Safe.keep Kq39 sfs39 CHo39 Sf_b7
    have hCH := CHv.keep Kq39 sfs39 CHo39
    have Sf_b_39 := Safe.keep Kq39 sfs39 CHo39 (Safe.new sz39_b)
    have S_COMPACT_STRINGS := Sta.keep0 S_COMPACT_STRINGS Kq39
    have S_CONFLICT := Sta.keep0 S_CONFLICT Kq39
    have S_UNASSIGNED_STACK := Sta.keep0 S_UNASSIGNED_STACK Kq39
    have S_SUPPRESSED_SENTINEL := Sta.keep0 S_SUPPRESSED_SENTINEL Kq39
    have hThS := hThS.keep Kq39 ns0
    have E_b1 := E_b1.keep Kq39
    have V_b1 := V_b1.keep Kq39 nin0
    have E_b2 := E_b2.keep Kq39
    have V_b2 := V_b2.keep Kq39 nin0
    have E_b4 := E_b4.keep Kq39
    have V_b4 := V_b4.keep Kq39 nin0
    have E_b7 := E_b7.keep Kq39
    have V_b7 := V_b7.keep Kq39 nin0
    have g_b_39 : n0 ≤ b_39 := Nat.le_trans zn10 sz39_b
    have sz_b_39 : h0.size ≤ b_39 := Nat.le_trans K10.1 sz39_b
    have K39 := K10.trans Kq39 all0
    have zn39 : n0 ≤ T39.heap.size := Nat.le_trans zn10 Kq39.1
    have hk39 := Nat.le_trans hk10 Kq39.1
    have E_b_39 := E_b_39_p
    have F_condition_b_39 := F_condition_b_39_p
    have F_detailMessage_b_39 := F_detailMessage_b_39_p
    refine OGo.go (B := T39.setTop (mkF m 166 #[.val (.int p0), .val (.int p1), .val (.int p2), .val (.int p3), .val (.int ((p1 &&& (255 : Int32)).toUInt32.toUInt16.toUInt32.toInt32)), .val (.int ((p2 &&& (255 : Int32)).toUInt32.toUInt16.toUInt32.toInt32)), .val (.int ((p3 &&& (255 : Int32)).toUInt32.toUInt16.toUInt32.toInt32)), .val (.ref b1), .val (.ref b2), .val (.ref b4), .val (.ref b7), .val (.int (p0 &&& (3 : Int32))), .val .null, .unset, .unset] [(.ref b_39)])) ?_ st39
    refine OGo.go (B := T39.setTop (mkF m 168 #[.val (.int p0), .val (.int p1), .val (.int p2), .val (.int p3), .val (.int ((p1 &&& (255 : Int32)).toUInt32.toUInt16.toUInt32.toInt32)), .val (.int ((p2 &&& (255 : Int32)).toUInt32.toUInt16.toUInt32.toInt32)), .val (.int ((p3 &&& (255 : Int32)).toUInt32.toUInt16.toUInt32.toInt32)), .val (.ref b1), .val (.ref b2), .val (.ref b4), .val (.ref b7), .val (.int (p0 &&& (3 : Int32))), .val .null, .val (.ref b_39), .unset] [])) ?_ (fun tX kX => XS.astore X39.here hx rfl (hb hby at_166) rfl rfl (l' := #[.val (.int p0), .val (.int p1), .val (.int p2), .val (.int p3), .val (.int ((p1 &&& (255 : Int32)).toUInt32.toUInt16.toUInt32.toInt32)), .val (.int ((p2 &&& (255 : Int32)).toUInt32.toUInt16.toUInt32.toInt32)), .val (.int ((p3 &&& (255 : Int32)).toUInt32.toUInt16.toUInt32.toInt32)), .val (.ref b1), .val (.ref b2), .val (.ref b4), .val (.ref b7), .val (.int (p0 &&& (3 : Int32))), .val .null, .val (.ref b_39), .unset]) rfl kX)
    refine OGo.go (B := T39.setTop (mkF m 170 #[.val (.int p0), .val (.int p1), .val (.int p2), .val (.int p3), .val (.int ((p1 &&& (255 : Int32)).toUInt32.toUInt16.toUInt32.toInt32)), .val (.int ((p2 &&& (255 : Int32)).toUInt32.toUInt16.toUInt32.toInt32)), .val (.int ((p3 &&& (255 : Int32)).toUInt32.toUInt16.toUInt32.toInt32)), .val (.ref b1), .val (.ref b2), .val (.ref b4), .val (.ref b7), .val (.int (p0 &&& (3 : Int32))), .val .null, .val (.ref b_39), .unset] [(.ref b_39)])) ?_ (fun tX kX => XS.aload X39.here hx rfl (hb hby at_168) rfl rfl kX)
    refine OGo.go (B := T39.setTop (mkF m 175 #[.val (.int p0), .val (.int p1), .val (.int p2), .val (.int p3), .val (.int ((p1 &&& (255 : Int32)).toUInt32.toUInt16.toUInt32.toInt32)), .val (.int ((p2 &&& (255 : Int32)).toUInt32.toUInt16.toUInt32.toInt32)), .val (.int ((p3 &&& (255 : Int32)).toUInt32.toUInt16.toUInt32.toInt32)), .val (.ref b1), .val (.ref b2), .val (.ref b4), .val (.ref b7), .val (.int (p0 &&& (3 : Int32))), .val .null, .val (.ref b_39), .unset] [])) ?_ (fun tX kX => XS.ifnonnullYes X39.here hx rfl (pc0 := 170) (pc' := 175) rfl (hb hby at_170) rfl (by decide) (by decide) kX)
    refine OGo.go (B := T39.setTop (mkF m 177 #[.val (.int p0), .val (.int p1), .val (.int p2), .val (.int p3), .val (.int ((p1 &&& (255 : Int32)).toUInt32.toUInt16.toUInt32.toInt32)), .val (.int ((p2 &&& (255 : Int32)).toUInt32.toUInt16.toUInt32.toInt32)), .val (.int ((p3 &&& (255 : Int32)).toUInt32.toUInt16.toUInt32.toInt32)), .val (.ref b1), .val (.ref b2), .val (.ref b4), .val (.ref b7), .val (.int (p0 &&& (3 : Int32))), .val .null, .val (.ref b_39), .unset] [(.ref b_39)])) ?_ (fun tX kX => XS.aload X39.here hx rfl (hb hby at_175) rfl rfl kX)
    obtain ⟨cq40, kq40, q40a, q40b, q40c⟩ := isOf hZ rfl E_b_39
    obtain ⟨_, _, ⟨T40, L40, k40, n40⟩, -, X40, ⟨Lc40, hQ40, l40, y40, z40⟩, st40⟩ := X39.virtualBack hx (y := (⟨"com/example/hushlist/hushlist/engine/StanzaException", "condition", "()Lcom/example/hushlist/hushlist/engine/Condition;"⟩ : MethodName)) (z := (⟨"com/example/hushlist/hushlist/engine/StanzaException", "condition", "()Lcom/example/hushlist/hushlist/engine/Condition;"⟩ : MethodName)) hown (mvT hZ (hw _ (List.mem_of_getElem? (i := 84) rfl))) (mvT hZ (hw _ (List.mem_of_getElem? (i := 85) rfl))) (notFace_of_selects (args := #[]) (mvT hZ (hw _ (List.mem_of_getElem? (i := 87) rfl)))) (mvT hZ (hw _ (List.mem_of_getElem? (i := 87) rfl))) (mvT hZ (hw _ (List.mem_of_getElem? (i := 86) rfl))) (by decide) (backOf (W := 0) (rm10 l Z aV hw [] b_39 uc T39.heap n0 zn39 F_condition_b_39) hZ (hw _ (List.mem_of_getElem? (i := 88) rfl)) (hw _ (List.mem_of_getElem? (i := 24) rfl)) (by decide) (by decide)) q40a q40c (g := (mkF m 177 #[.val (.int p0), .val (.int p1), .val (.int p2), .val (.int p3), .val (.int ((p1 &&& (255 : Int32)).toUInt32.toUInt16.toUInt32.toInt32)), .val (.int ((p2 &&& (255 : Int32)).toUInt32.toUInt16.toUInt32.toInt32)), .val (.int ((p3 &&& (255 : Int32)).toUInt32.toUInt16.toUInt32.toInt32)), .val (.ref b1), .val (.ref b2), .val (.ref b4), .val (.ref b7), .val (.int (p0 &&& (3 : Int32))), .val .null, .val (.ref b_39), .unset] [(.ref b_39)])) rfl (by rw [hml]; rfl) (Steps.refl _) (argsL := []) (rest := []) (lenOf pd___Lcom_example_hushlist_hushlist_engine_Condition_ rfl) rfl (by show 2 * 0 + _ ≤ _; exact Nat.le_of_eq rfl) (hb hby at_177) (fun _ _ => ⟨rfl, rfl, (by decide : 6 + 0 ≤ _), (by decide : 2765 + 0 ≤ _)⟩)
    dsimp only [Pt.U, Pt.locs, Pt.cells, Pt.slots] at X40 l40 y40 z40 st40 hQ40
    subst l40 y40 z40
    obtain ⟨rfl, N40q, e40⟩ := hQ40
    have N40 := Fr.app N39 N40q
    refine OGo.go (B := T40.setTop (mkF m 180 #[.val (.int p0), .val (.int p1), .val (.int p2), .val (.int p3), .val (.int ((p1 &&& (255 : Int32)).toUInt32.toUInt16.toUInt32.toInt32)), .val (.int ((p2 &&& (255 : Int32)).toUInt32.toUInt16.toUInt32.toInt32)), .val (.int ((p3 &&& (255 : Int32)).toUInt32.toUInt16.toUInt32.toInt32)), .val (.ref b1), .val (.ref b2), .val (.ref b4), .val (.ref b7), .val (.int (p0 &&& (3 : Int32))), .val .null, .val (.ref b_39), .unset] [(.ref uc)])) ?_ (fun tX kX => st40.trans kX)
    obtain ⟨T41, X41, e41, st41⟩ := getS2 X40 hx hZ hown (host := "") (Or.inl (hw _ (List.mem_of_getElem? (i := 89) rfl))) Via.refl e40 S_CONFLICT (g := (mkF m 180 #[.val (.int p0), .val (.int p1), .val (.int p2), .val (.int p3), .val (.int ((p1 &&& (255 : Int32)).toUInt32.toUInt16.toUInt32.toInt32)), .val (.int ((p2 &&& (255 : Int32)).toUInt32.toUInt16.toUInt32.toInt32)), .val (.int ((p3 &&& (255 : Int32)).toUInt32.toUInt16.toUInt32.toInt32)), .val (.ref b1), .val (.ref b2), .val (.ref b4), .val (.ref b7), .val (.int (p0 &&& (3 : Int32))), .val .null, .val (.ref b_39), .unset] [(.ref uc)])) rfl (hb hby at_180)
    refine OGo.go (B := T41.setTop (mkF m 183 #[.val (.int p0), .val (.int p1), .val (.int p2), .val (.int p3), .val (.int ((p1 &&& (255 : Int32)).toUInt32.toUInt16.toUInt32.toInt32)), .val (.int ((p2 &&& (255 : Int32)).toUInt32.toUInt16.toUInt32.toInt32)), .val (.int ((p3 &&& (255 : Int32)).toUInt32.toUInt16.toUInt32.toInt32)), .val (.ref b1), .val (.ref b2), .val (.ref b4), .val (.ref b7), .val (.int (p0 &&& (3 : Int32))), .val .null, .val (.ref b_39), .unset] [(.ref uc), (.ref uc)])) ?_ st41
    refine OGo.go (B := T41.setTop (mkF m 188 #[.val (.int p0), .val (.int p1), .val (.int p2), .val (.int p3), .val (.int ((p1 &&& (255 : Int32)).toUInt32.toUInt16.toUInt32.toInt32)), .val (.int ((p2 &&& (255 : Int32)).toUInt32.toUInt16.toUInt32.toInt32)), .val (.int ((p3 &&& (255 : Int32)).toUInt32.toUInt16.toUInt32.toInt32)), .val (.ref b1), .val (.ref b2), .val (.ref b4), .val (.ref b7), .val (.int (p0 &&& (3 : Int32))), .val .null, .val (.ref b_39), .unset] [])) ?_ (fun tX kX => Jvm.RoadKit.acmp (g := (mkF m 183 #[.val (.int p0), .val (.int p1), .val (.int p2), .val (.int p3), .val (.int ((p1 &&& (255 : Int32)).toUInt32.toUInt16.toUInt32.toInt32)), .val (.int ((p2 &&& (255 : Int32)).toUInt32.toUInt16.toUInt32.toInt32)), .val (.int ((p3 &&& (255 : Int32)).toUInt32.toUInt16.toUInt32.toInt32)), .val (.ref b1), .val (.ref b2), .val (.ref b4), .val (.ref b7), .val (.int (p0 &&& (3 : Int32))), .val .null, .val (.ref b_39), .unset] [(.ref uc), (.ref uc)])) X41 hx rfl rfl rfl (pc0 := 183) (pc' := 188) (same := true) rfl (hb hby at_183) rfl (decide_eq_true rfl) (by decide) (by decide) kX)
    refine OGo.go (B := T41.setTop (mkF m 190 #[.val (.int p0), .val (.int p1), .val (.int p2), .val (.int p3), .val (.int ((p1 &&& (255 : Int32)).toUInt32.toUInt16.toUInt32.toInt32)), .val (.int ((p2 &&& (255 : Int32)).toUInt32.toUInt16.toUInt32.toInt32)), .val (.int ((p3 &&& (255 : Int32)).toUInt32.toUInt16.toUInt32.toInt32)), .val (.ref b1), .val (.ref b2), .val (.ref b4), .val (.ref b7), .val (.int (p0 &&& (3 : Int32))), .val .null, .val (.ref b_39), .unset] [(.ref b_39)])) ?_ (fun tX kX => XS.aload X41.here hx rfl (hb hby at_188) rfl rfl kX)
    obtain ⟨cq42, kq42, q42a, q42b, q42c⟩ := isOf hZ e41 E_b_39
    obtain ⟨_, _, ⟨T42, L42, k42, n42⟩, -, X42, ⟨Lc42, hQ42, l42, y42, z42⟩, st42⟩ := X41.virtualBackUp hx (x := (⟨"com/example/hushlist/hushlist/engine/StanzaException", "getMessage", "()Ljava/lang/String;"⟩ : MethodName)) (y := (⟨"java/lang/Throwable", "getMessage", "()Ljava/lang/String;"⟩ : MethodName)) (owner := "java/lang/Throwable") hown (mvT hZ (hw _ (List.mem_of_getElem? (i := 90) rfl))) (mvT hZ (hw _ (List.mem_of_getElem? (i := 91) rfl))) (mvT hZ (hw _ (List.mem_of_getElem? (i := 92) rfl))) (by decide) (mvT hZ (hw _ (List.mem_of_getElem? (i := 94) rfl))) (mvT hZ (hw _ (List.mem_of_getElem? (i := 93) rfl))) (backOf (W := 0) (rm11n l Z aV hw [] b_39 T39.heap n0 zn39 F_detailMessage_b_39) hZ (hw _ (List.mem_of_getElem? (i := 95) rfl)) (hw _ (List.mem_of_getElem? (i := 43) rfl)) (by decide) (by decide)) q42a q42c (g := (mkF m 190 #[.val (.int p0), .val (.int p1), .val (.int p2), .val (.int p3), .val (.int ((p1 &&& (255 : Int32)).toUInt32.toUInt16.toUInt32.toInt32)), .val (.int ((p2 &&& (255 : Int32)).toUInt32.toUInt16.toUInt32.toInt32)), .val (.int ((p3 &&& (255 : Int32)).toUInt32.toUInt16.toUInt32.toInt32)), .val (.ref b1), .val (.ref b2), .val (.ref b4), .val (.ref b7), .val (.int (p0 &&& (3 : Int32))), .val .null, .val (.ref b_39), .unset] [(.ref b_39)])) rfl (by rw [hml]; rfl) (Steps.refl _) (argsL := []) (rest := []) (lenOf pd___Ljava_lang_String_ rfl) rfl (by show 2 * 0 + _ ≤ _; exact Nat.le_of_eq rfl) (hb hby at_190) (fun _ _ => ⟨rfl, e41, (by decide : 6 + 0 ≤ _), (by decide : 2765 + 0 ≤ _)⟩)
    dsimp only [Pt.U, Pt.locs, Pt.cells, Pt.slots] at X42 l42 y42 z42 st42 hQ42
    subst l42 y42 z42
    obtain ⟨rfl, N42q, e42⟩ := hQ42
    have N42 := Fr.app N40 N42q
    refine OGo.go (B := T42.setTop (mkF m 193 #[.val (.int p0), .val (.int p1), .val (.int p2), .val (.int p3), .val (.int ((p1 &&& (255 : Int32)).toUInt32.toUInt16.toUInt32.toInt32)), .val (.int ((p2 &&& (255 : Int32)).toUInt32.toUInt16.toUInt32.toInt32)), .val (.int ((p3 &&& (255 : Int32)).toUInt32.toUInt16.toUInt32.toInt32)), .val (.ref b1), .val (.ref b2), .val (.ref b4), .val (.ref b7), .val (.int (p0 &&& (3 : Int32))), .val .null, .val (.ref b_39), .unset] [.null])) ?_ (fun tX kX => st42.trans kX)
    refine OGo.go (B := T42.setTop (mkF m 195 #[.val (.int p0), .val (.int p1), .val (.int p2), .val (.int p3), .val (.int ((p1 &&& (255 : Int32)).toUInt32.toUInt16.toUInt32.toInt32)), .val (.int ((p2 &&& (255 : Int32)).toUInt32.toUInt16.toUInt32.toInt32)), .val (.int ((p3 &&& (255 : Int32)).toUInt32.toUInt16.toUInt32.toInt32)), .val (.ref b1), .val (.ref b2), .val (.ref b4), .val (.ref b7), .val (.int (p0 &&& (3 : Int32))), .val .null, .val (.ref b_39), .val .null] [])) ?_ (fun tX kX => XS.astore X42.here hx rfl (hb hby at_193) rfl rfl (l' := #[.val (.int p0), .val (.int p1), .val (.int p2), .val (.int p3), .val (.int ((p1 &&& (255 : Int32)).toUInt32.toUInt16.toUInt32.toInt32)), .val (.int ((p2 &&& (255 : Int32)).toUInt32.toUInt16.toUInt32.toInt32)), .val (.int ((p3 &&& (255 : Int32)).toUInt32.toUInt16.toUInt32.toInt32)), .val (.ref b1), .val (.ref b2), .val (.ref b4), .val (.ref b7), .val (.int (p0 &&& (3 : Int32))), .val .null, .val (.ref b_39), .val .null]) rfl kX)
    refine OGo.go (B := T42.setTop (mkF m 197 #[.val (.int p0), .val (.int p1), .val (.int p2), .val (.int p3), .val (.int ((p1 &&& (255 : Int32)).toUInt32.toUInt16.toUInt32.toInt32)), .val (.int ((p2 &&& (255 : Int32)).toUInt32.toUInt16.toUInt32.toInt32)), .val (.int ((p3 &&& (255 : Int32)).toUInt32.toUInt16.toUInt32.toInt32)), .val (.ref b1), .val (.ref b2), .val (.ref b4), .val (.ref b7), .val (.int (p0 &&& (3 : Int32))), .val .null, .val (.ref b_39), .val .null] [.null])) ?_ (fun tX kX => XS.aload X42.here hx rfl (hb hby at_195) rfl rfl kX)
    refine OGo.go (B := T42.setTop (mkF m 200 #[.val (.int p0), .val (.int p1), .val (.int p2), .val (.int p3), .val (.int ((p1 &&& (255 : Int32)).toUInt32.toUInt16.toUInt32.toInt32)), .val (.int ((p2 &&& (255 : Int32)).toUInt32.toUInt16.toUInt32.toInt32)), .val (.int ((p3 &&& (255 : Int32)).toUInt32.toUInt16.toUInt32.toInt32)), .val (.ref b1), .val (.ref b2), .val (.ref b4), .val (.ref b7), .val (.int (p0 &&& (3 : Int32))), .val .null, .val (.ref b_39), .val .null] [])) ?_ (fun tX kX => XS.ifnonnullNo X42.here hx rfl (hb hby at_197) rfl kX)
    refine OGo.go (B := T42.setTop (mkF m 202 #[.val (.int p0), .val (.int p1), .val (.int p2), .val (.int p3), .val (.int ((p1 &&& (255 : Int32)).toUInt32.toUInt16.toUInt32.toInt32)), .val (.int ((p2 &&& (255 : Int32)).toUInt32.toUInt16.toUInt32.toInt32)), .val (.int ((p3 &&& (255 : Int32)).toUInt32.toUInt16.toUInt32.toInt32)), .val (.ref b1), .val (.ref b2), .val (.ref b4), .val (.ref b7), .val (.int (p0 &&& (3 : Int32))), .val .null, .val (.ref b_39), .val .null] [.null])) ?_ (fun tX kX => XS.aload X42.here hx rfl (hb hby at_200) rfl rfl kX)
    refine OGo.go (B := T42.setTop (mkF m 205 #[.val (.int p0), .val (.int p1), .val (.int p2), .val (.int p3), .val (.int ((p1 &&& (255 : Int32)).toUInt32.toUInt16.toUInt32.toInt32)), .val (.int ((p2 &&& (255 : Int32)).toUInt32.toUInt16.toUInt32.toInt32)), .val (.int ((p3 &&& (255 : Int32)).toUInt32.toUInt16.toUInt32.toInt32)), .val (.ref b1), .val (.ref b2), .val (.ref b4), .val (.ref b7), .val (.int (p0 &&& (3 : Int32))), .val .null, .val (.ref b_39), .val .null] [])) ?_ (fun tX kX => XS.ifnonnullNo X42.here hx rfl (hb hby at_202) rfl kX)
    refine OGo.go (B := T42.setTop (mkF m 206 #[.val (.int p0), .val (.int p1), .val (.int p2), .val (.int p3), .val (.int ((p1 &&& (255 : Int32)).toUInt32.toUInt16.toUInt32.toInt32)), .val (.int ((p2 &&& (255 : Int32)).toUInt32.toUInt16.toUInt32.toInt32)), .val (.int ((p3 &&& (255 : Int32)).toUInt32.toUInt16.toUInt32.toInt32)), .val (.ref b1), .val (.ref b2), .val (.ref b4), .val (.ref b7), .val (.int (p0 &&& (3 : Int32))), .val .null, .val (.ref b_39), .val .null] [(.int (1 : Int32))])) ?_ (fun tX kX => XS.iconst X42.here hx rfl (hb hby at_205) kX)
    refine OGo.go (B := T42.setTop (mkF m 210 #[.val (.int p0), .val (.int p1), .val (.int p2), .val (.int p3), .val (.int ((p1 &&& (255 : Int32)).toUInt32.toUInt16.toUInt32.toInt32)), .val (.int ((p2 &&& (255 : Int32)).toUInt32.toUInt16.toUInt32.toInt32)), .val (.int ((p3 &&& (255 : Int32)).toUInt32.toUInt16.toUInt32.toInt32)), .val (.ref b1), .val (.ref b2), .val (.ref b4), .val (.ref b7), .val (.int (p0 &&& (3 : Int32))), .val .null, .val (.ref b_39), .val .null] [(.int (1 : Int32))])) ?_ (fun tX kX => XS.goto X42.here hx rfl (pc0 := 206) (pc' := 210) rfl (hb hby at_206) (by decide) (by decide) kX)
    refine OGo.retW X42 hS0 (by rw [e42]; exact hk39) (v := (some (.int (1 : Int32)))) (fun h => by rw [Bd.returns] at h; cases h) (BodyLoose.notSynchronized Bd) (fun fs hr => retN X42 hx (t := .boolean) (z := (1 : Int32)) Bd.returns (by simp) (hb hby at_210) hr) (Q := Q0 Z p0 p1 p2 p3 cs uc us sn h0 n0) ?_ (by decide) (by decide)
    show Q0 Z p0 p1 p2 p3 cs uc us sn h0 n0 _ T42.heap _
    rw [e42]
    exact ⟨rfl, N42⟩
theorem own_know1 {vm : Vm} {x : MethodId} (h : methodKnown vm x = true) : vm.knowsMethod x := by
  unfold methodKnown at h
  unfold Vm.knowsMethod
  split at h
  · rename_i k hk
    refine ⟨k, hk, fun cf hcf => ?_⟩
    rw [hcf] at h; exact h
  · cases h
theorem own_known {s : State} {m : MethodId} {args : Array Value} {below : List Frame} (hf : s.frames = .invoking m args :: below) (h1 : framesKnown s = true) (h2 : tablesKnown s = true) : s.vm.MethodsKnown ∧ s.vm.FramesKnown below := by
  constructor
  · intro x y hy
    simp only [Vm.method?, Option.bind_eq_bind, Option.bind_eq_some_iff] at hy
    obtain ⟨k, hk, hy⟩ := hy
    refine ⟨k, hk, fun cf hcf => ?_⟩
    have q := (Array.all_eq_true_iff_forall_mem.mp h2) k (Array.mem_of_getElem? hk)
    rw [hcf] at q
    have q2 : k.methods.size = cf.methods.size := by simpa using q
    have q3 := (Array.getElem?_eq_some_iff.mp hy).1
    rw [Array.getElem?_eq_getElem (by rw [← q2]; exact q3)]; rfl
  · intro y hy x hx
    have q := (List.all_eq_true.mp h1) y (by rw [hf]; exact List.mem_cons_of_mem _ hy)
    cases y with
    | java g => cases hx; exact own_know1 q
    | native n => cases hx; exact own_know1 q
    | _ => cases hx
set_option maxRecDepth 65536 in
set_option maxHeartbeats 40000000 in
theorem comes_1 {Post : Tables → Env → Array Value → State → Outcome → State → Prop} (hpost : ∀ tb e args s v u, (limb_1_1.after args s (.returned v) u = true ∧ limb_1_2.after args s (.returned v) u = true ∧ True) → ReturnedEndW s (.returned v) u (Jvm.fieldLocs frame_1_writes args s ++ Jvm.arrayLocs frame_1_arrays args s ++ Jvm.staticLocs frame_1_statics s) 32 6656 → Post tb e args s (.returned v) u) :
    ArmFor flags0 classFile x code maxLocals ret World_1 tables_1 room_1 Calls_1 rest_1 Pre_1 Post := by
  intro l hfl _ _ p e ha hc hk s m args below hf hA hF happ hP
  obtain ⟨hcalls, hrest, hpre⟩ := hP
  obtain ⟨-, -, -, hnamed, -, -, -, hat⟩ := (Spec.applies_iff hf).mp happ
  obtain ⟨hg, hn⟩ := and_e (Cond.before_iff.mp (show (Jvm.Cond.and given_1 narrow_1).before args s = true from hpre))
  obtain ⟨gc0, gr0⟩ := and_e hg
  obtain ⟨gc1, gr1⟩ := and_e gr0
  obtain ⟨gc2, gr2⟩ := and_e gr1
  obtain ⟨gc3, gr3⟩ := and_e gr2
  obtain ⟨w0, w1, w2, w3, rfl⟩ : ∃ w0 w1 w2 w3 : Value, args = #[w0, w1, w2, w3] := by
    have hs : args.size = 4 := by simpa [Cond.value, given_1] using gc0
    obtain ⟨L⟩ := args
    match L, hs with
    | [w0, w1, w2, w3], _ => exact ⟨w0, w1, w2, w3, rfl⟩
  have hw := fun d (hd : d ∈ tables_1) => atoms_spec (ws := Jvm.Cond.code x code maxLocals ret :: tables_1) hat d (List.mem_cons_of_mem _ hd)
  have hfit : Fit s := fun {y c} hc i hi => by
    obtain ⟨ha, rfl⟩ := Array.getElem?_eq_some_iff.mp hc
    have q := List.all_eq_true.mp ((Array.all_eq_true_iff_forall_mem.mp hF) _ (Array.getElem_mem ha)) i (List.mem_range.mpr hi)
    simpa [Array.getElem?_eq_getElem hi] using q
  obtain ⟨hsets, hown0⟩ := atoms_of _ (rest_1_c_eq ▸ (show rest_1_c.before _ s = true from hrest))
  have hset := fun k (hk : k ∈ jdkStatics_1) => Cond.before_iff.mp (hsets k hk)
  obtain ⟨i0, ei0⟩ := is_v gc1
  obtain rfl : w0 = (.int i0) := Option.some.inj ei0
  obtain ⟨i1, ei1⟩ := is_v gc2
  obtain rfl : w1 = (.int i1) := Option.some.inj ei1
  obtain ⟨i2, ei2⟩ := is_v gc3
  obtain rfl : w2 = (.int i2) := Option.some.inj ei2
  obtain ⟨i3, ei3⟩ := is_v gr3
  obtain rfl : w3 = (.int i3) := Option.some.inj ei3
  have nc0 := hn
  obtain ⟨u_CONFLICT, ev_CONFLICT⟩ := exa_v nc0
  have S_CONFLICT := Sta.start ev_CONFLICT (Or.inr ⟨(hw _ (List.mem_of_getElem? (i := 29) rfl)), (hw _ (List.mem_of_getElem? (i := 30) rfl))⟩)
  have E_u_CONFLICT := Exa.start ev_CONFLICT nc0
  obtain ⟨cs, evcs⟩ := is_v (hset _ (List.mem_of_getElem? (i := 21) rfl))
  have hcs : ¬ cs = 0 := fun q => by have z := not_v (hset _ (List.mem_of_getElem? (i := 22) rfl)); rw [eq_i evcs (Term.int_eval 0) (by rw [q])] at z; cases z
  have SCS := Sta.start evcs (Or.inl (hsets _ (List.mem_of_getElem? (i := 20) rfl)))
  obtain ⟨us, evus, hus⟩ := isR_v (hset _ (List.mem_of_getElem? (i := 7) rfl))
  have SUS := Sta.start evus (Or.inl (hsets _ (List.mem_of_getElem? (i := 6) rfl)))
  obtain ⟨sn, evsn, hsn⟩ := isR_v (hset _ (List.mem_of_getElem? (i := 12) rfl))
  have SSN := Sta.start evsn (Or.inl (hsets _ (List.mem_of_getElem? (i := 11) rfl)))
  have hl : l.stackTraces = true := by simp only [Launch.stackTraces, hfl]; decide
  have hCHs : CHv s own_EL s.vm s.heap := CHv.start (own_ewT hw) (fun p hp => hcalls.2.2.1 p hp) (hsets _ (List.mem_of_getElem? (i := 22) rfl)) (hw _ (List.mem_of_getElem? (i := 15) rfl)) (hw _ (List.mem_of_getElem? (i := 2) rfl))
  obtain ⟨n, o, h1, h2, h3, _, L, rfl, ⟨rfl, N⟩, hq⟩ := rm0 l s _ hw tables_1 i0 i1 i2 i3 cs u_CONFLICT us sn s.heap s.heap.size (Nat.le_refl _) SCS S_CONFLICT SUS SSN ThS.start hcs hl hus hsn p e ha hc hk s m _ below hf ((Spec.applies_iff_loose hf).mp happ).1 ⟨rfl, State.Warmed39.refl s, rfl, hCHs⟩ (own_known hf hcalls.1 hcalls.2.1)
  refine ⟨n, _, h1, h2, h3, hpost _ _ _ _ _ _ ⟨Cond.after_iff.mpr rfl, Cond.after_iff.mpr (eq_i res_at (Term.int_eval (1)) rfl), trivial⟩ ⟨hq.1, hq.2.1, hq.2.2.1, (hq.2.2.2.sift fun y hy => Or.inr (N y hy)).mono (by decide) (by decide)⟩⟩
theorem main_1_1 : Claimed_1_1 := comes_1 fun _ _ _ _ _ _ h hF => ⟨h.1, hF⟩
theorem main_1_2 : Claimed_1_2 := comes_1 fun _ _ _ _ _ _ h hF => ⟨h.2.1, hF⟩
end Jvm.Pilot.@@N@@
namespace Jvm.Pilot.@@N@@
open Jvm Jvm.ClassFile Sem Op Lib Jvm.Free Jvm.Stand Jvm.Pilot.@@N@@.Jvm.D
/-! MADE BY PROGRAM (witnessworld.py) out of the Statement's table words and the real class files: 37 classes; the members and pool entries that the words name. The judged class is class 1, her method 1. -/
namespace start1
open Jvm.ClassFile
def u (s : String) : CpInfo := .utf8 (stringToUtf16 s)
/-- a pool by its gaps: so many unusable entries, then the entry; so many at the end -/
def gap : Nat → List CpInfo → List CpInfo
  | 0, r => r
  | n + 1, r => .unusable :: gap n r
def poolList (es : List (Nat × CpInfo)) (last : Nat) : List CpInfo := es.foldr (fun e r => gap e.1 (e.2 :: r)) (gap last [])
def pool (es : List (Nat × CpInfo)) (last : Nat) : Array CpInfo := ⟨poolList es last⟩
def fileOf (pool : Array CpInfo) (this : Nat) (attrs : Array Attribute := #[]) (ms : Array MethodInfo := #[]) (fl : Nat := 33) (sup : Nat := 0) (ifs : Array Nat := #[]) (fds : Array FieldInfo := #[]) : ClassFile where
  minorVersion := 0
  majorVersion := 65
  constantPool := pool
  accessFlags := fl
  thisClass := this
  superClass := sup
  interfaces := ifs
  fields := fds
  methods := ms
  attributes := attrs
def plain (name : String) (sup : Option ClassId) : Class where
  name := name
  kind := .ordinary
  loader := none
  accessFlags := 33
  super := sup
  interfaces := #[]
  cf := none
  fields := #[]
  methods := #[]
  instanceTypes := #[]
  staticTypes := #[]
  resolved := #[]
  callSites := []
  init := .initialized
  statics := none
  mirror := none

def pool0 : Array CpInfo := pool [(5, u "<init>"), (0, u "()V"), (1, .class_ 10), (1, u "java/lang/Object")] 113

def k0c0 : Code := { maxStack := 0, maxLocals := 1, code := object_method_1_code, exceptionTable := #[], attributes := #[] }
def k0m0 : Method := { name := "<init>", desc := "()V", sig := { parameters := [], returnType := none }, accessFlags := 1, code := some k0c0 }
/-- java/lang/Object -/
def k0 : Class := { plain "java/lang/Object" none with
  accessFlags := 33
  interfaces := #[]
  cf := some (fileOf pool0 8 #[] #[{ accessFlags := 1, nameIndex := 5, descriptorIndex := 6, attributes := #[] }] 33 0 #[] #[])
  fields := #[]
  methods := #[k0m0]
  instanceTypes := #[]
  staticTypes := #[]
  resolved := Array.replicate 124 none
  statics := none }

def pool1 : Array CpInfo := pool [(2, .class_ 4), (1, u "java/lang/Object"), (0, u "<init>"), (0, u "()V"), (0, .class_ 8), (0, u "java/lang/String"), (0, .methodref 7 10), (0, .nameAndType 5 11), (0, u "([C)V"), (0, .methodref 13 14), (0, .class_ 15), (0, .nameAndType 16 17), (0, u "com/example/hushlist/hushlist/engine/StanzaException"), (0, u "conflict"), (0, u "(Ljava/lang/String;)Lcom/example/hushlist/hushlist/engine/StanzaException;"), (0, .methodref 13 19), (0, .nameAndType 20 21), (0, u "condition"), (0, u "()Lcom/example/hushlist/hushlist/engine/Condition;"), (0, .fieldref 23 24), (0, .class_ 25), (0, .nameAndType 26 27), (0, u "com/example/hushlist/hushlist/engine/Condition"), (0, u "CONFLICT"), (0, u "Lcom/example/hushlist/hushlist/engine/Condition;"), (0, .methodref 13 29), (0, .nameAndType 30 31), (0, u "getMessage"), (0, u "()Ljava/lang/String;"), (0, .methodref 7 33), (0, .nameAndType 34 35), (0, u "equals"), (0, u "(Ljava/lang/Object;)Z"), (0, .class_ 37), (0, u "com/example/hushlist/hushlist/engine/StanzaExceptionConflictPinLaw"), (2, u "law"), (0, u "(IIII)Z")] 5

def k1m0 : Method := { name := "<init>", desc := "()V", sig := { parameters := [], returnType := none }, accessFlags := 2, code := none }
def k1c1 : Code := { maxStack := 4, maxLocals := 15, code := code, exceptionTable := #[], attributes := #[] }
def k1m1 : Method := { name := "law", desc := "(IIII)Z", sig := { parameters := [.int, .int, .int, .int], returnType := some .boolean }, accessFlags := 9, code := some k1c1 }
/-- com/example/hushlist/hushlist/engine/StanzaExceptionConflictPinLaw -/
def k1 : Class := { plain "com/example/hushlist/hushlist/engine/StanzaExceptionConflictPinLaw" (some 0) with
  accessFlags := 49
  interfaces := #[]
  cf := some (fileOf pool1 36 #[] #[{ accessFlags := 2, nameIndex := 5, descriptorIndex := 6, attributes := #[] }, { accessFlags := 9, nameIndex := 40, descriptorIndex := 41, attributes := #[] }] 49 2 #[] #[])
  fields := #[]
  methods := #[k1m0, k1m1]
  instanceTypes := #[]
  staticTypes := #[]
  resolved := Array.replicate 47 none
  statics := none }

def pool2 : Array CpInfo := pool [(1, .class_ 2), (0, u "java/io/Serializable"), (0, .class_ 4), (0, u "java/lang/Object")] 2

/-- java/io/Serializable -/
def k2 : Class := { plain "java/io/Serializable" (some 0) with
  accessFlags := 1537
  interfaces := #[]
  cf := some (fileOf pool2 1 #[] #[] 1537 3 #[] #[])
  fields := #[]
  methods := #[]
  instanceTypes := #[]
  staticTypes := #[]
  resolved := Array.replicate 7 none
  statics := none }

def pool3 : Array CpInfo := pool [(1, .class_ 2), (0, u "java/lang/Comparable"), (0, .class_ 4), (0, u "java/lang/Object")] 7

/-- java/lang/Comparable -/
def k3 : Class := { plain "java/lang/Comparable" (some 0) with
  accessFlags := 1537
  interfaces := #[]
  cf := some (fileOf pool3 1 #[] #[] 1537 3 #[] #[])
  fields := #[]
  methods := #[]
  instanceTypes := #[]
  staticTypes := #[]
  resolved := Array.replicate 12 none
  statics := none }

def pool4 : Array CpInfo := pool [(2, .class_ 4), (1, u "java/lang/CharSequence"), (42, .class_ 48), (0, u "java/lang/CharSequence$1CodePointIterator"), (10, .class_ 60), (0, u "java/lang/CharSequence$1CharIterator"), (5, .class_ 67), (0, u "java/lang/Object")] 63

/-- java/lang/CharSequence -/
def k4 : Class := { plain "java/lang/CharSequence" (some 0) with
  accessFlags := 1537
  interfaces := #[]
  cf := some (fileOf pool4 2 #[.nestMembers #[47, 59]] #[] 1537 66 #[] #[])
  fields := #[]
  methods := #[]
  instanceTypes := #[]
  staticTypes := #[]
  resolved := Array.replicate 131 none
  statics := none }

def pool5 : Array CpInfo := pool [(1, .class_ 2), (0, u "java/lang/constant/Constable"), (0, .class_ 4), (0, u "java/lang/Object")] 6

/-- java/lang/constant/Constable -/
def k5 : Class := { plain "java/lang/constant/Constable" (some 0) with
  accessFlags := 1537
  interfaces := #[]
  cf := some (fileOf pool5 1 #[] #[] 1537 3 #[] #[])
  fields := #[]
  methods := #[]
  instanceTypes := #[]
  staticTypes := #[]
  resolved := Array.replicate 11 none
  statics := none }

def pool6 : Array CpInfo := pool [(1, .class_ 2), (0, u "java/lang/constant/ConstantDesc"), (0, .class_ 4), (0, u "java/lang/Object")] 32

/-- java/lang/constant/ConstantDesc -/
def k6 : Class := { plain "java/lang/constant/ConstantDesc" (some 0) with
  accessFlags := 1537
  interfaces := #[]
  cf := some (fileOf pool6 1 #[] #[] 1537 3 #[] #[])
  fields := #[]
  methods := #[]
  instanceTypes := #[]
  staticTypes := #[]
  resolved := Array.replicate 37 none
  statics := none }

def pool7 : Array CpInfo := pool [(1, .methodref 2 3), (0, .class_ 4), (0, .nameAndType 5 6), (0, u "java/lang/Object"), (0, u "<init>"), (0, u "()V"), (0, .string 8), (0, u ""), (0, .fieldref 10 11), (0, .class_ 12), (0, .nameAndType 13 14), (0, u "java/lang/String"), (0, u "value"), (0, u "[B"), (0, .fieldref 10 16), (0, .nameAndType 17 18), (0, u "coder"), (0, u "B"), (2, u "hash"), (0, u "I"), (2, u "hashIsZero"), (0, u "Z"), (0, .methodref 10 28), (0, .nameAndType 5 29), (0, u "([CIILjava/lang/Void;)V"), (8, .fieldref 10 39), (0, .nameAndType 40 26), (0, u "COMPACT_STRINGS"), (1, .class_ 44), (1, u "java/lang/StringUTF16"), (0, u "compress"), (1, .methodref 42 48), (0, .nameAndType 49 50), (0, u "coderFromArrayLen"), (0, u "([BI)B"), (126, .methodref 42 178), (0, .nameAndType 45 179), (0, u "([CII)[B"), (363, u "equals"), (29, u "(Ljava/lang/Object;)Z"), (1, .class_ 576), (0, u "java/lang/CharSequence"), (22, u "CASE_INSENSITIVE_ORDER"), (0, u "Ljava/util/Comparator;"), (409, u "([C)V"), (90, u "serialPersistentFields"), (0, u "[Ljava/io/ObjectStreamField;"), (0, .class_ 1104), (0, u "java/lang/String$CaseInsensitiveComparator"), (1, .class_ 1107), (0, u "java/io/Serializable"), (0, .class_ 1109), (0, u "java/lang/Comparable"), (0, .class_ 1111), (0, u "java/lang/constant/Constable"), (0, .class_ 1113), (0, u "java/lang/constant/ConstantDesc"), (2, u "serialVersionUID"), (0, u "J"), (3, u "REPL"), (0, u "C"), (2, u "LATIN1"), (1, u "UTF16")] 323

def k7m0 : Method := { name := "<init>", desc := "()V", sig := { parameters := [], returnType := none }, accessFlags := 1, code := none }
def k7c1 : Code := { maxStack := 5, maxLocals := 2, code := jdk_42_method_3_code, exceptionTable := #[], attributes := #[] }
def k7m1 : Method := { name := "<init>", desc := "([C)V", sig := { parameters := [(.array .char)], returnType := none }, accessFlags := 1, code := some k7c1 }
def k7c2 : Code := { maxStack := 2, maxLocals := 3, code := jdk_42_method_66_code, exceptionTable := #[], attributes := #[] }
def k7m2 : Method := { name := "equals", desc := "(Ljava/lang/Object;)Z", sig := { parameters := [(.object "java/lang/Object")], returnType := some .boolean }, accessFlags := 1, code := some k7c2 }
def k7c3 : Code := { maxStack := 4, maxLocals := 6, code := jdk_42_method_149_code, exceptionTable := #[], attributes := #[] }
def k7m3 : Method := { name := "<init>", desc := "([CIILjava/lang/Void;)V", sig := { parameters := [(.array .char), .int, .int, (.object "java/lang/Void")], returnType := none }, accessFlags := 2, code := some k7c3 }
/-- java/lang/String -/
def k7 : Class := { plain "java/lang/String" (some 0) with
  accessFlags := 49
  interfaces := #[2, 3, 4, 5, 6]
  cf := some (fileOf pool7 10 #[.nestMembers #[1103]] #[{ accessFlags := 1, nameIndex := 5, descriptorIndex := 6, attributes := #[] }, { accessFlags := 1, nameIndex := 5, descriptorIndex := 1010, attributes := #[] }, { accessFlags := 1, nameIndex := 543, descriptorIndex := 573, attributes := #[] }, { accessFlags := 2, nameIndex := 5, descriptorIndex := 29, attributes := #[] }] 49 2 #[1106, 1108, 575, 1110, 1112] #[{ accessFlags := 18, nameIndex := 13, descriptorIndex := 14, attributes := #[] }, { accessFlags := 18, nameIndex := 17, descriptorIndex := 18, attributes := #[] }, { accessFlags := 2, nameIndex := 21, descriptorIndex := 22, attributes := #[] }, { accessFlags := 2, nameIndex := 25, descriptorIndex := 26, attributes := #[] }, { accessFlags := 26, nameIndex := 1116, descriptorIndex := 1117, attributes := #[] }, { accessFlags := 24, nameIndex := 40, descriptorIndex := 26, attributes := #[] }, { accessFlags := 26, nameIndex := 1101, descriptorIndex := 1102, attributes := #[] }, { accessFlags := 26, nameIndex := 1121, descriptorIndex := 1122, attributes := #[] }, { accessFlags := 25, nameIndex := 599, descriptorIndex := 600, attributes := #[] }, { accessFlags := 24, nameIndex := 1125, descriptorIndex := 18, attributes := #[] }, { accessFlags := 24, nameIndex := 1127, descriptorIndex := 18, attributes := #[] }])
  fields := #[{ name := "value", type := (.array .byte), accessFlags := 18, slot := 0, constantValue := 0 }, { name := "coder", type := .byte, accessFlags := 18, slot := 1, constantValue := 0 }, { name := "hash", type := .int, accessFlags := 2, slot := 2, constantValue := 0 }, { name := "hashIsZero", type := .boolean, accessFlags := 2, slot := 3, constantValue := 0 }, { name := "serialVersionUID", type := .long, accessFlags := 26, slot := 0, constantValue := 0 }, { name := "COMPACT_STRINGS", type := .boolean, accessFlags := 24, slot := 1, constantValue := 0 }, { name := "serialPersistentFields", type := (.array (.object "java/io/ObjectStreamField")), accessFlags := 26, slot := 2, constantValue := 0 }, { name := "REPL", type := .char, accessFlags := 26, slot := 3, constantValue := 0 }, { name := "CASE_INSENSITIVE_ORDER", type := (.object "java/util/Comparator"), accessFlags := 25, slot := 4, constantValue := 0 }, { name := "LATIN1", type := .byte, accessFlags := 24, slot := 5, constantValue := 0 }, { name := "UTF16", type := .byte, accessFlags := 24, slot := 6, constantValue := 0 }]
  methods := #[k7m0, k7m1, k7m2, k7m3]
  instanceTypes := #[(.array .byte), .byte, .int, .boolean]
  staticTypes := #[.long, .boolean, (.array (.object "java/io/ObjectStreamField")), .char, (.object "java/util/Comparator"), .byte, .byte]
  resolved := Array.replicate 1451 none
  statics := some 0 }

def pool8 : Array CpInfo := pool [(1, .methodref 2 3), (0, .class_ 4), (0, .nameAndType 5 6), (0, u "java/lang/Object"), (0, u "<init>"), (0, u "()V"), (0, .fieldref 8 9), (0, .class_ 10), (0, .nameAndType 11 12), (0, u "java/lang/Throwable"), (0, u "cause"), (0, u "Ljava/lang/Throwable;"), (0, .fieldref 8 14), (0, .nameAndType 15 16), (0, u "UNASSIGNED_STACK"), (0, u "[Ljava/lang/StackTraceElement;"), (0, .fieldref 8 18), (0, .nameAndType 19 16), (0, u "stackTrace"), (0, .fieldref 8 21), (0, .nameAndType 22 23), (0, u "SUPPRESSED_SENTINEL"), (0, u "Ljava/util/List;"), (0, .fieldref 8 25), (0, .nameAndType 26 23), (0, u "suppressedExceptions"), (0, .methodref 8 28), (0, .nameAndType 29 30), (0, u "fillInStackTrace"), (0, u "()Ljava/lang/Throwable;"), (0, .fieldref 8 32), (0, .nameAndType 33 34), (0, u "detailMessage"), (0, u "Ljava/lang/String;"), (3, u "()Ljava/lang/String;"), (2, u "getMessage"), (51, .class_ 94), (0, u "java/lang/Throwable$WrappedPrintStream"), (6, .class_ 103), (1, u "java/lang/Throwable$PrintStreamOrWriter"), (61, u "$assertionsDisabled"), (0, u "Z"), (26, .class_ 194), (0, u "java/lang/Throwable$WrappedPrintWriter"), (3, .fieldref 8 199), (0, .nameAndType 200 201), (0, u "backtrace"), (0, u "Ljava/lang/Object;"), (0, .methodref 8 203), (0, .nameAndType 29 204), (0, u "(I)Ljava/lang/Throwable;"), (6, u "depth"), (0, u "I"), (10, u "(Ljava/lang/String;)V"), (45, .class_ 271), (1, u "java/lang/Throwable$SentinelHolder"), (32, u "EMPTY_THROWABLE_ARRAY"), (0, u "[Ljava/lang/Throwable;"), (12, .class_ 319), (0, u "java/io/Serializable"), (0, u "serialVersionUID"), (0, u "J"), (5, u "NULL_CAUSE_MESSAGE"), (0, u "SELF_SUPPRESSION_MESSAGE"), (0, u "CAUSE_CAPTION"), (0, u "SUPPRESSED_CAPTION")] 73

def k8c0 : Code := { maxStack := 2, maxLocals := 1, code := jdk_78_method_1_code, exceptionTable := #[], attributes := #[] }
def k8m0 : Method := { name := "<init>", desc := "()V", sig := { parameters := [], returnType := none }, accessFlags := 1, code := some k8c0 }
def k8c1 : Code := { maxStack := 2, maxLocals := 2, code := jdk_78_method_2_code, exceptionTable := #[], attributes := #[] }
def k8m1 : Method := { name := "<init>", desc := "(Ljava/lang/String;)V", sig := { parameters := [(.object "java/lang/String")], returnType := none }, accessFlags := 1, code := some k8c1 }
def k8c2 : Code := { maxStack := 1, maxLocals := 1, code := jdk_78_method_6_code, exceptionTable := #[], attributes := #[] }
def k8m2 : Method := { name := "getMessage", desc := "()Ljava/lang/String;", sig := { parameters := [], returnType := some (.object "java/lang/String") }, accessFlags := 1, code := some k8c2 }
def k8c3 : Code := { maxStack := 2, maxLocals := 1, code := ⟨#[0x2a, 0xb4, 0x00, 0x11, 0xc7, 0x00, 0x0a, 0x2a, 0xb4, 0x00, 0xc6, 0xc6, 0x00, 0x10, 0x2a, 0x03, 0xb6, 0x00, 0xca, 0x57, 0x2a, 0xb2, 0x00, 0x0d, 0xb5, 0x00, 0x11, 0x2a, 0xb0]⟩, exceptionTable := #[], attributes := #[] }
def k8m3 : Method := { name := "fillInStackTrace", desc := "()Ljava/lang/Throwable;", sig := { parameters := [], returnType := some (.object "java/lang/Throwable") }, accessFlags := 33, code := some k8c3 }
def k8m4 : Method := { name := "fillInStackTrace", desc := "(I)Ljava/lang/Throwable;", sig := { parameters := [.int], returnType := some (.object "java/lang/Throwable") }, accessFlags := 258, code := none }
/-- java/lang/Throwable -/
def k8 : Class := { plain "java/lang/Throwable" (some 0) with
  accessFlags := 33
  interfaces := #[2]
  cf := some (fileOf pool8 8 #[.nestMembers #[193, 93, 101, 269]] #[{ accessFlags := 1, nameIndex := 5, descriptorIndex := 6, attributes := #[] }, { accessFlags := 1, nameIndex := 5, descriptorIndex := 223, attributes := #[] }, { accessFlags := 1, nameIndex := 41, descriptorIndex := 38, attributes := #[] }, { accessFlags := 33, nameIndex := 29, descriptorIndex := 30, attributes := #[] }, { accessFlags := 258, nameIndex := 29, descriptorIndex := 204, attributes := #[] }] 33 2 #[318] #[{ accessFlags := 26, nameIndex := 320, descriptorIndex := 321, attributes := #[] }, { accessFlags := 130, nameIndex := 200, descriptorIndex := 201, attributes := #[] }, { accessFlags := 2, nameIndex := 33, descriptorIndex := 34, attributes := #[] }, { accessFlags := 26, nameIndex := 15, descriptorIndex := 16, attributes := #[] }, { accessFlags := 2, nameIndex := 11, descriptorIndex := 12, attributes := #[] }, { accessFlags := 2, nameIndex := 19, descriptorIndex := 16, attributes := #[] }, { accessFlags := 130, nameIndex := 211, descriptorIndex := 212, attributes := #[] }, { accessFlags := 26, nameIndex := 22, descriptorIndex := 23, attributes := #[] }, { accessFlags := 2, nameIndex := 26, descriptorIndex := 23, attributes := #[] }, { accessFlags := 26, nameIndex := 327, descriptorIndex := 34, attributes := #[] }, { accessFlags := 26, nameIndex := 328, descriptorIndex := 34, attributes := #[] }, { accessFlags := 26, nameIndex := 329, descriptorIndex := 34, attributes := #[] }, { accessFlags := 26, nameIndex := 330, descriptorIndex := 34, attributes := #[] }, { accessFlags := 26, nameIndex := 304, descriptorIndex := 305, attributes := #[] }, { accessFlags := 4120, nameIndex := 165, descriptorIndex := 166, attributes := #[] }])
  fields := #[{ name := "serialVersionUID", type := .long, accessFlags := 26, slot := 0, constantValue := 0 }, { name := "backtrace", type := (.object "java/lang/Object"), accessFlags := 130, slot := 0, constantValue := 0 }, { name := "detailMessage", type := (.object "java/lang/String"), accessFlags := 2, slot := 1, constantValue := 0 }, { name := "UNASSIGNED_STACK", type := (.array (.object "java/lang/StackTraceElement")), accessFlags := 26, slot := 1, constantValue := 0 }, { name := "cause", type := (.object "java/lang/Throwable"), accessFlags := 2, slot := 2, constantValue := 0 }, { name := "stackTrace", type := (.array (.object "java/lang/StackTraceElement")), accessFlags := 2, slot := 3, constantValue := 0 }, { name := "depth", type := .int, accessFlags := 130, slot := 4, constantValue := 0 }, { name := "SUPPRESSED_SENTINEL", type := (.object "java/util/List"), accessFlags := 26, slot := 2, constantValue := 0 }, { name := "suppressedExceptions", type := (.object "java/util/List"), accessFlags := 2, slot := 5, constantValue := 0 }, { name := "NULL_CAUSE_MESSAGE", type := (.object "java/lang/String"), accessFlags := 26, slot := 3, constantValue := 0 }, { name := "SELF_SUPPRESSION_MESSAGE", type := (.object "java/lang/String"), accessFlags := 26, slot := 4, constantValue := 0 }, { name := "CAUSE_CAPTION", type := (.object "java/lang/String"), accessFlags := 26, slot := 5, constantValue := 0 }, { name := "SUPPRESSED_CAPTION", type := (.object "java/lang/String"), accessFlags := 26, slot := 6, constantValue := 0 }, { name := "EMPTY_THROWABLE_ARRAY", type := (.array (.object "java/lang/Throwable")), accessFlags := 26, slot := 7, constantValue := 0 }, { name := "$assertionsDisabled", type := .boolean, accessFlags := 4120, slot := 8, constantValue := 0 }]
  methods := #[k8m0, k8m1, k8m2, k8m3, k8m4]
  instanceTypes := #[(.object "java/lang/Object"), (.object "java/lang/String"), (.object "java/lang/Throwable"), (.array (.object "java/lang/StackTraceElement")), .int, (.object "java/util/List")]
  staticTypes := #[.long, (.array (.object "java/lang/StackTraceElement")), (.object "java/util/List"), (.object "java/lang/String"), (.object "java/lang/String"), (.object "java/lang/String"), (.object "java/lang/String"), (.array (.object "java/lang/Throwable")), .boolean]
  resolved := Array.replicate 404 none
  statics := some 1 }

def pool9 : Array CpInfo := pool [(2, .class_ 4), (1, u "java/lang/Throwable"), (0, u "<init>"), (0, u "()V"), (0, .methodref 2 8), (0, .nameAndType 5 9), (0, u "(Ljava/lang/String;)V"), (9, .class_ 20), (0, u "java/lang/Exception"), (0, u "serialVersionUID"), (0, u "J")] 17

def k9m0 : Method := { name := "<init>", desc := "()V", sig := { parameters := [], returnType := none }, accessFlags := 1, code := none }
def k9c1 : Code := { maxStack := 2, maxLocals := 2, code := jdk_59_method_2_code, exceptionTable := #[], attributes := #[] }
def k9m1 : Method := { name := "<init>", desc := "(Ljava/lang/String;)V", sig := { parameters := [(.object "java/lang/String")], returnType := none }, accessFlags := 1, code := some k9c1 }
/-- java/lang/Exception -/
def k9 : Class := { plain "java/lang/Exception" (some 8) with
  accessFlags := 33
  interfaces := #[]
  cf := some (fileOf pool9 19 #[] #[{ accessFlags := 1, nameIndex := 5, descriptorIndex := 6, attributes := #[] }, { accessFlags := 1, nameIndex := 5, descriptorIndex := 9, attributes := #[] }] 33 2 #[] #[{ accessFlags := 24, nameIndex := 21, descriptorIndex := 22, attributes := #[] }])
  fields := #[{ name := "serialVersionUID", type := .long, accessFlags := 24, slot := 0, constantValue := 0 }]
  methods := #[k9m0, k9m1]
  instanceTypes := #[(.object "java/lang/Object"), (.object "java/lang/String"), (.object "java/lang/Throwable"), (.array (.object "java/lang/StackTraceElement")), .int, (.object "java/util/List")]
  staticTypes := #[.long]
  resolved := Array.replicate 40 none
  statics := none }

def pool10 : Array CpInfo := pool [(1, .methodref 2 3), (0, .class_ 4), (0, .nameAndType 5 6), (0, u "java/lang/Exception"), (0, u "<init>"), (0, u "(Ljava/lang/String;)V"), (0, .fieldref 8 9), (0, .class_ 10), (0, .nameAndType 11 12), (0, u "com/example/hushlist/hushlist/engine/StanzaException"), (0, u "condition"), (0, u "Lcom/example/hushlist/hushlist/engine/Condition;"), (1, .class_ 16), (1, u "com/example/hushlist/hushlist/engine/Condition"), (1, .methodref 8 19), (0, .nameAndType 5 20), (0, u "(Lcom/example/hushlist/hushlist/engine/Condition;Ljava/lang/String;)V"), (0, .fieldref 14 22), (0, .nameAndType 23 12), (0, u "CONFLICT"), (3, u "serialVersionUID"), (0, u "J"), (6, u "(Ljava/lang/String;)Lcom/example/hushlist/hushlist/engine/StanzaException;"), (0, u "conflict"), (1, u "()Lcom/example/hushlist/hushlist/engine/Condition;")] 2

def k10c0 : Code := { maxStack := 2, maxLocals := 3, code := prog_31_method_1_code, exceptionTable := #[], attributes := #[] }
def k10m0 : Method := { name := "<init>", desc := "(Lcom/example/hushlist/hushlist/engine/Condition;Ljava/lang/String;)V", sig := { parameters := [(.object "com/example/hushlist/hushlist/engine/Condition"), (.object "java/lang/String")], returnType := none }, accessFlags := 0, code := some k10c0 }
def k10c1 : Code := { maxStack := 4, maxLocals := 1, code := prog_31_method_3_code, exceptionTable := #[], attributes := #[] }
def k10m1 : Method := { name := "conflict", desc := "(Ljava/lang/String;)Lcom/example/hushlist/hushlist/engine/StanzaException;", sig := { parameters := [(.object "java/lang/String")], returnType := some (.object "com/example/hushlist/hushlist/engine/StanzaException") }, accessFlags := 8, code := some k10c1 }
def k10c2 : Code := { maxStack := 1, maxLocals := 1, code := prog_31_method_5_code, exceptionTable := #[], attributes := #[] }
def k10m2 : Method := { name := "condition", desc := "()Lcom/example/hushlist/hushlist/engine/Condition;", sig := { parameters := [], returnType := some (.object "com/example/hushlist/hushlist/engine/Condition") }, accessFlags := 0, code := some k10c2 }
/-- com/example/hushlist/hushlist/engine/StanzaException -/
def k10 : Class := { plain "com/example/hushlist/hushlist/engine/StanzaException" (some 9) with
  accessFlags := 48
  interfaces := #[]
  cf := some (fileOf pool10 8 #[] #[{ accessFlags := 0, nameIndex := 5, descriptorIndex := 20, attributes := #[] }, { accessFlags := 8, nameIndex := 36, descriptorIndex := 35, attributes := #[] }, { accessFlags := 0, nameIndex := 11, descriptorIndex := 38, attributes := #[] }] 48 2 #[] #[{ accessFlags := 26, nameIndex := 27, descriptorIndex := 28, attributes := #[] }, { accessFlags := 18, nameIndex := 11, descriptorIndex := 12, attributes := #[] }])
  fields := #[{ name := "serialVersionUID", type := .long, accessFlags := 26, slot := 0, constantValue := 0 }, { name := "condition", type := (.object "com/example/hushlist/hushlist/engine/Condition"), accessFlags := 18, slot := 6, constantValue := 0 }]
  methods := #[k10m0, k10m1, k10m2]
  instanceTypes := #[(.object "java/lang/Object"), (.object "java/lang/String"), (.object "java/lang/Throwable"), (.array (.object "java/lang/StackTraceElement")), .int, (.object "java/util/List"), (.object "com/example/hushlist/hushlist/engine/Condition")]
  staticTypes := #[.long]
  resolved := Array.replicate 41 none
  statics := none }

def pool11 : Array CpInfo := pool [(2, .class_ 4), (1, u "java/lang/Enum"), (0, u "name"), (0, u "Ljava/lang/String;"), (2, u "ordinal"), (0, u "I"), (1, .class_ 14), (1, u "java/lang/Object"), (4, u "hash"), (86, .class_ 108), (1, u "java/lang/Enum$EnumDesc"), (2, .class_ 112), (0, u "java/lang/constant/Constable"), (0, .class_ 114), (0, u "java/lang/Comparable"), (0, .class_ 116), (0, u "java/io/Serializable")] 87

/-- java/lang/Enum -/
def k11 : Class := { plain "java/lang/Enum" (some 0) with
  accessFlags := 1057
  interfaces := #[5, 3, 2]
  cf := some (fileOf pool11 2 #[.nestMembers #[106]] #[] 1057 12 #[111, 113, 115] #[{ accessFlags := 18, nameIndex := 5, descriptorIndex := 6, attributes := #[] }, { accessFlags := 18, nameIndex := 9, descriptorIndex := 10, attributes := #[] }, { accessFlags := 2, nameIndex := 19, descriptorIndex := 10, attributes := #[] }])
  fields := #[{ name := "name", type := (.object "java/lang/String"), accessFlags := 18, slot := 0, constantValue := 0 }, { name := "ordinal", type := .int, accessFlags := 18, slot := 1, constantValue := 0 }, { name := "hash", type := .int, accessFlags := 2, slot := 2, constantValue := 0 }]
  methods := #[]
  instanceTypes := #[(.object "java/lang/String"), .int, .int]
  staticTypes := #[]
  resolved := Array.replicate 204 none
  statics := none }

def pool12 : Array CpInfo := pool [(1, .class_ 2), (0, u "com/example/hushlist/hushlist/engine/Condition"), (2, u "BAD_REQUEST"), (0, u "Lcom/example/hushlist/hushlist/engine/Condition;"), (2, u "CONFLICT"), (2, u "INTERNAL_SERVER_ERROR"), (2, u "ITEM_NOT_FOUND"), (2, u "JID_MALFORMED"), (2, u "NOT_ACCEPTABLE"), (2, u "NOT_ALLOWED"), (2, u "POLICY_VIOLATION"), (2, u "REMOTE_SERVER_NOT_FOUND"), (2, u "SERVICE_UNAVAILABLE"), (2, u "$VALUES"), (0, u "[Lcom/example/hushlist/hushlist/engine/Condition;"), (6, .class_ 46), (1, u "java/lang/Enum"), (8, u "element"), (0, u "Ljava/lang/String;"), (2, u "type"), (77, u "NAMESPACE")] 18

/-- com/example/hushlist/hushlist/engine/Condition -/
def k12 : Class := { plain "com/example/hushlist/hushlist/engine/Condition" (some 11) with
  accessFlags := 16433
  interfaces := #[]
  cf := some (fileOf pool12 1 #[] #[] 16433 44 #[] #[{ accessFlags := 16409, nameIndex := 5, descriptorIndex := 6, attributes := #[] }, { accessFlags := 16409, nameIndex := 9, descriptorIndex := 6, attributes := #[] }, { accessFlags := 16409, nameIndex := 12, descriptorIndex := 6, attributes := #[] }, { accessFlags := 16409, nameIndex := 15, descriptorIndex := 6, attributes := #[] }, { accessFlags := 16409, nameIndex := 18, descriptorIndex := 6, attributes := #[] }, { accessFlags := 16409, nameIndex := 21, descriptorIndex := 6, attributes := #[] }, { accessFlags := 16409, nameIndex := 24, descriptorIndex := 6, attributes := #[] }, { accessFlags := 16409, nameIndex := 27, descriptorIndex := 6, attributes := #[] }, { accessFlags := 16409, nameIndex := 30, descriptorIndex := 6, attributes := #[] }, { accessFlags := 16409, nameIndex := 33, descriptorIndex := 6, attributes := #[] }, { accessFlags := 24, nameIndex := 137, descriptorIndex := 56, attributes := #[] }, { accessFlags := 18, nameIndex := 55, descriptorIndex := 56, attributes := #[] }, { accessFlags := 18, nameIndex := 59, descriptorIndex := 56, attributes := #[] }, { accessFlags := 4122, nameIndex := 36, descriptorIndex := 37, attributes := #[] }])
  fields := #[{ name := "BAD_REQUEST", type := (.object "com/example/hushlist/hushlist/engine/Condition"), accessFlags := 16409, slot := 0, constantValue := 0 }, { name := "CONFLICT", type := (.object "com/example/hushlist/hushlist/engine/Condition"), accessFlags := 16409, slot := 1, constantValue := 0 }, { name := "INTERNAL_SERVER_ERROR", type := (.object "com/example/hushlist/hushlist/engine/Condition"), accessFlags := 16409, slot := 2, constantValue := 0 }, { name := "ITEM_NOT_FOUND", type := (.object "com/example/hushlist/hushlist/engine/Condition"), accessFlags := 16409, slot := 3, constantValue := 0 }, { name := "JID_MALFORMED", type := (.object "com/example/hushlist/hushlist/engine/Condition"), accessFlags := 16409, slot := 4, constantValue := 0 }, { name := "NOT_ACCEPTABLE", type := (.object "com/example/hushlist/hushlist/engine/Condition"), accessFlags := 16409, slot := 5, constantValue := 0 }, { name := "NOT_ALLOWED", type := (.object "com/example/hushlist/hushlist/engine/Condition"), accessFlags := 16409, slot := 6, constantValue := 0 }, { name := "POLICY_VIOLATION", type := (.object "com/example/hushlist/hushlist/engine/Condition"), accessFlags := 16409, slot := 7, constantValue := 0 }, { name := "REMOTE_SERVER_NOT_FOUND", type := (.object "com/example/hushlist/hushlist/engine/Condition"), accessFlags := 16409, slot := 8, constantValue := 0 }, { name := "SERVICE_UNAVAILABLE", type := (.object "com/example/hushlist/hushlist/engine/Condition"), accessFlags := 16409, slot := 9, constantValue := 0 }, { name := "NAMESPACE", type := (.object "java/lang/String"), accessFlags := 24, slot := 10, constantValue := 0 }, { name := "element", type := (.object "java/lang/String"), accessFlags := 18, slot := 3, constantValue := 0 }, { name := "type", type := (.object "java/lang/String"), accessFlags := 18, slot := 4, constantValue := 0 }, { name := "$VALUES", type := (.array (.object "com/example/hushlist/hushlist/engine/Condition")), accessFlags := 4122, slot := 11, constantValue := 0 }]
  methods := #[]
  instanceTypes := #[(.object "java/lang/String"), .int, .int, (.object "java/lang/String"), (.object "java/lang/String")]
  staticTypes := #[(.object "com/example/hushlist/hushlist/engine/Condition"), (.object "com/example/hushlist/hushlist/engine/Condition"), (.object "com/example/hushlist/hushlist/engine/Condition"), (.object "com/example/hushlist/hushlist/engine/Condition"), (.object "com/example/hushlist/hushlist/engine/Condition"), (.object "com/example/hushlist/hushlist/engine/Condition"), (.object "com/example/hushlist/hushlist/engine/Condition"), (.object "com/example/hushlist/hushlist/engine/Condition"), (.object "com/example/hushlist/hushlist/engine/Condition"), (.object "com/example/hushlist/hushlist/engine/Condition"), (.object "java/lang/String"), (.array (.object "com/example/hushlist/hushlist/engine/Condition"))]
  resolved := Array.replicate 156 none
  statics := some 2 }

def pool13 : Array CpInfo := pool [(6, .class_ 8), (1, u "java/lang/Object"), (0, u "<init>"), (0, u "()V"), (1, .class_ 14), (1, u "java/lang/StringUTF16"), (31, u "$assertionsDisabled"), (0, u "Z"), (13, u "HI_BYTE_SHIFT"), (0, u "I"), (2, u "LO_BYTE_SHIFT"), (49, .methodref 12 116), (0, .nameAndType 117 118), (0, u "compress"), (0, u "([CI[BII)I"), (3, u "([CII)[B"), (138, u "coderFromArrayLen"), (0, u "([BI)B"), (106, .class_ 371), (1, u "java/lang/StringUTF16$LinesSpliterator"), (58, u "MAX_LENGTH"), (196, .class_ 628), (0, u "java/lang/StringUTF16$CodePointsSpliterator"), (0, .class_ 630), (0, u "java/lang/StringUTF16$CharsSpliterator")] 4

def k13m0 : Method := { name := "<init>", desc := "()V", sig := { parameters := [], returnType := none }, accessFlags := 0, code := none }
def k13c1 : Code := { maxStack := 2, maxLocals := 2, code := jdk_52_method_15_code, exceptionTable := #[], attributes := #[] }
def k13m1 : Method := { name := "coderFromArrayLen", desc := "([BI)B", sig := { parameters := [(.array .byte), .int], returnType := some .byte }, accessFlags := 8, code := some k13c1 }
def k13c2 : Code := { maxStack := 5, maxLocals := 6, code := jdk_52_method_16_code, exceptionTable := #[], attributes := #[] }
def k13m2 : Method := { name := "compress", desc := "([CII)[B", sig := { parameters := [(.array .char), .int, .int], returnType := some (.array .byte) }, accessFlags := 9, code := some k13c2 }
def k13c3 : Code := { maxStack := 3, maxLocals := 7, code := jdk_52_method_21_code, exceptionTable := #[], attributes := #[] }
def k13m3 : Method := { name := "compress", desc := "([CI[BII)I", sig := { parameters := [(.array .char), .int, (.array .byte), .int, .int], returnType := some .int }, accessFlags := 9, code := some k13c3 }
/-- java/lang/StringUTF16 -/
def k13 : Class := { plain "java/lang/StringUTF16" (some 0) with
  accessFlags := 48
  interfaces := #[]
  cf := some (fileOf pool13 12 #[.nestMembers #[627, 629, 369]] #[{ accessFlags := 0, nameIndex := 9, descriptorIndex := 10, attributes := #[] }, { accessFlags := 8, nameIndex := 261, descriptorIndex := 262, attributes := #[] }, { accessFlags := 9, nameIndex := 117, descriptorIndex := 122, attributes := #[] }, { accessFlags := 9, nameIndex := 117, descriptorIndex := 118, attributes := #[] }] 48 6 #[] #[{ accessFlags := 26, nameIndex := 61, descriptorIndex := 62, attributes := #[] }, { accessFlags := 26, nameIndex := 65, descriptorIndex := 62, attributes := #[] }, { accessFlags := 24, nameIndex := 430, descriptorIndex := 62, attributes := #[] }, { accessFlags := 4120, nameIndex := 46, descriptorIndex := 47, attributes := #[] }])
  fields := #[{ name := "HI_BYTE_SHIFT", type := .int, accessFlags := 26, slot := 0, constantValue := 0 }, { name := "LO_BYTE_SHIFT", type := .int, accessFlags := 26, slot := 1, constantValue := 0 }, { name := "MAX_LENGTH", type := .int, accessFlags := 24, slot := 2, constantValue := 0 }, { name := "$assertionsDisabled", type := .boolean, accessFlags := 4120, slot := 3, constantValue := 0 }]
  methods := #[k13m0, k13m1, k13m2, k13m3]
  instanceTypes := #[]
  staticTypes := #[.int, .int, .int, .boolean]
  resolved := Array.replicate 635 none
  statics := none }

def pool14 : Array CpInfo := pool [(2, .class_ 4), (1, u "java/lang/Object"), (0, u "<init>"), (0, u "()V"), (12, .class_ 20), (0, u "java/util/Collections"), (63, u "r"), (0, u "Ljava/util/Random;"), (80, .class_ 167), (0, u "java/util/Collections$UnmodifiableCollection"), (6, .class_ 175), (0, u "java/util/Collections$UnmodifiableSequencedCollection"), (6, .class_ 183), (0, u "java/util/Collections$UnmodifiableSet"), (6, .class_ 191), (0, u "java/util/Collections$UnmodifiableSequencedSet"), (6, .class_ 199), (0, u "java/util/Collections$UnmodifiableSortedSet"), (6, .class_ 207), (0, u "java/util/Collections$UnmodifiableNavigableSet"), (4, .class_ 213), (0, u "java/util/Collections$UnmodifiableList"), (1, .class_ 216), (0, u "java/util/Collections$UnmodifiableRandomAccessList"), (6, .class_ 224), (0, u "java/util/Collections$UnmodifiableMap"), (6, .class_ 232), (0, u "java/util/Collections$UnmodifiableSequencedMap"), (4, .class_ 238), (0, u "java/util/Collections$UnmodifiableSortedMap"), (6, .class_ 246), (0, u "java/util/Collections$UnmodifiableNavigableMap"), (3, .class_ 251), (0, u "java/util/Collections$SynchronizedCollection"), (4, .class_ 257), (0, u "java/util/Collections$SynchronizedSet"), (4, .class_ 263), (0, u "java/util/Collections$SynchronizedSortedSet"), (1, .class_ 266), (0, u "java/util/Collections$SynchronizedNavigableSet"), (1, .class_ 269), (0, u "java/util/Collections$SynchronizedRandomAccessList"), (1, .class_ 272), (0, u "java/util/Collections$SynchronizedList"), (5, .class_ 279), (0, u "java/util/Collections$SynchronizedMap"), (1, .class_ 282), (0, u "java/util/Collections$SynchronizedSortedMap"), (1, .class_ 285), (0, u "java/util/Collections$SynchronizedNavigableMap"), (1, .class_ 288), (0, u "java/util/Collections$CheckedCollection"), (11, .class_ 301), (0, u "java/util/Collections$CheckedQueue"), (3, .class_ 306), (0, u "java/util/Collections$CheckedSet"), (3, .class_ 311), (0, u "java/util/Collections$CheckedSortedSet"), (3, .class_ 316), (0, u "java/util/Collections$CheckedNavigableSet"), (3, .class_ 321), (0, u "java/util/Collections$CheckedRandomAccessList"), (3, .class_ 326), (0, u "java/util/Collections$CheckedList"), (1, .class_ 329), (0, u "java/util/Collections$CheckedMap"), (3, .class_ 334), (0, u "java/util/Collections$CheckedSortedMap"), (3, .class_ 339), (0, u "java/util/Collections$CheckedNavigableMap"), (4, .class_ 346), (1, u "java/util/Collections$EmptyIterator"), (3, .class_ 352), (1, u "java/util/Collections$EmptyListIterator"), (2, .class_ 357), (1, u "java/util/Collections$EmptyEnumeration"), (4, u "EMPTY_SET"), (0, u "Ljava/util/Set;"), (6, u "EMPTY_LIST"), (0, u "Ljava/util/List;"), (2, u "EMPTY_MAP"), (0, u "Ljava/util/Map;"), (4, .class_ 381), (0, u "java/util/Collections$SingletonSet"), (2, .class_ 385), (0, u "java/util/Collections$1"), (1, .class_ 388), (0, u "java/util/Collections$2"), (1, .class_ 391), (0, u "java/util/Collections$SingletonList"), (1, .class_ 394), (0, u "java/util/Collections$SingletonMap"), (22, .class_ 418), (0, u "java/util/Collections$CopiesList"), (4, .class_ 425), (1, u "java/util/Collections$ReverseComparator"), (8, .class_ 435), (0, u "java/util/Collections$ReverseComparator2"), (6, .class_ 443), (0, u "java/util/Collections$3"), (25, .class_ 470), (0, u "java/util/Collections$SetFromMap"), (2, .class_ 474), (0, u "java/util/Collections$SequencedSetFromMap"), (3, .class_ 479), (0, u "java/util/Collections$AsLIFOQueue"), (11, .class_ 492), (0, u "java/util/Collections$EmptySet"), (1, .class_ 495), (0, u "java/util/Collections$EmptyList"), (1, .class_ 498), (0, u "java/util/Collections$EmptyMap"), (1, u "BINARYSEARCH_THRESHOLD"), (0, u "I"), (2, u "REVERSE_THRESHOLD"), (1, u "SHUFFLE_THRESHOLD"), (1, u "FILL_THRESHOLD"), (1, u "ROTATE_THRESHOLD"), (1, u "COPY_THRESHOLD"), (1, u "REPLACEALL_THRESHOLD"), (1, u "INDEXOFSUBLIST_THRESHOLD"), (333, .class_ 851), (0, u "java/util/Collections$CheckedMap$CheckedEntrySet"), (0, .class_ 853), (0, u "java/util/Collections$CheckedMap$CheckedEntrySet$CheckedEntry"), (0, .class_ 855), (0, u "java/util/Collections$CheckedMap$CheckedEntrySet$1"), (0, .class_ 857), (0, u "java/util/Collections$CheckedList$1"), (0, .class_ 859), (0, u "java/util/Collections$CheckedCollection$1"), (0, .class_ 861), (0, u "java/util/Collections$UnmodifiableNavigableMap$EmptyNavigableMap"), (0, .class_ 863), (0, u "java/util/Collections$UnmodifiableMap$UnmodifiableEntrySet"), (0, .class_ 865), (0, u "java/util/Collections$UnmodifiableMap$UnmodifiableEntrySet$UnmodifiableEntry"), (0, .class_ 867), (0, u "java/util/Collections$UnmodifiableMap$UnmodifiableEntrySet$UnmodifiableEntrySetSpliterator"), (0, .class_ 869), (0, u "java/util/Collections$UnmodifiableMap$UnmodifiableEntrySet$1"), (0, .class_ 871), (0, u "java/util/Collections$UnmodifiableList$1"), (0, .class_ 873), (0, u "java/util/Collections$UnmodifiableNavigableSet$EmptyNavigableSet"), (0, .class_ 875), (0, u "java/util/Collections$UnmodifiableCollection$1")] 57

def k14m0 : Method := { name := "<init>", desc := "()V", sig := { parameters := [], returnType := none }, accessFlags := 2, code := none }
/-- java/util/Collections -/
def k14 : Class := { plain "java/util/Collections" (some 0) with
  accessFlags := 33
  interfaces := #[]
  cf := some (fileOf pool14 19 #[.nestMembers #[478, 473, 469, 434, 423, 417, 393, 390, 380, 497, 494, 491, 355, 350, 344, 338, 333, 328, 850, 852, 854, 320, 325, 856, 315, 310, 305, 300, 287, 858, 284, 281, 278, 268, 271, 265, 262, 256, 250, 245, 860, 237, 231, 223, 862, 864, 866, 868, 215, 212, 870, 206, 872, 198, 190, 182, 174, 166, 874, 442, 387, 384]] #[{ accessFlags := 2, nameIndex := 5, descriptorIndex := 6, attributes := #[] }] 33 2 #[] #[{ accessFlags := 26, nameIndex := 500, descriptorIndex := 501, attributes := #[] }, { accessFlags := 26, nameIndex := 504, descriptorIndex := 501, attributes := #[] }, { accessFlags := 26, nameIndex := 506, descriptorIndex := 501, attributes := #[] }, { accessFlags := 26, nameIndex := 508, descriptorIndex := 501, attributes := #[] }, { accessFlags := 26, nameIndex := 510, descriptorIndex := 501, attributes := #[] }, { accessFlags := 26, nameIndex := 512, descriptorIndex := 501, attributes := #[] }, { accessFlags := 26, nameIndex := 514, descriptorIndex := 501, attributes := #[] }, { accessFlags := 26, nameIndex := 516, descriptorIndex := 501, attributes := #[] }, { accessFlags := 10, nameIndex := 84, descriptorIndex := 85, attributes := #[] }, { accessFlags := 25, nameIndex := 362, descriptorIndex := 363, attributes := #[] }, { accessFlags := 25, nameIndex := 370, descriptorIndex := 371, attributes := #[] }, { accessFlags := 25, nameIndex := 374, descriptorIndex := 375, attributes := #[] }])
  fields := #[{ name := "BINARYSEARCH_THRESHOLD", type := .int, accessFlags := 26, slot := 0, constantValue := 0 }, { name := "REVERSE_THRESHOLD", type := .int, accessFlags := 26, slot := 1, constantValue := 0 }, { name := "SHUFFLE_THRESHOLD", type := .int, accessFlags := 26, slot := 2, constantValue := 0 }, { name := "FILL_THRESHOLD", type := .int, accessFlags := 26, slot := 3, constantValue := 0 }, { name := "ROTATE_THRESHOLD", type := .int, accessFlags := 26, slot := 4, constantValue := 0 }, { name := "COPY_THRESHOLD", type := .int, accessFlags := 26, slot := 5, constantValue := 0 }, { name := "REPLACEALL_THRESHOLD", type := .int, accessFlags := 26, slot := 6, constantValue := 0 }, { name := "INDEXOFSUBLIST_THRESHOLD", type := .int, accessFlags := 26, slot := 7, constantValue := 0 }, { name := "r", type := (.object "java/util/Random"), accessFlags := 10, slot := 8, constantValue := 0 }, { name := "EMPTY_SET", type := (.object "java/util/Set"), accessFlags := 25, slot := 9, constantValue := 0 }, { name := "EMPTY_LIST", type := (.object "java/util/List"), accessFlags := 25, slot := 10, constantValue := 0 }, { name := "EMPTY_MAP", type := (.object "java/util/Map"), accessFlags := 25, slot := 11, constantValue := 0 }]
  methods := #[k14m0]
  instanceTypes := #[]
  staticTypes := #[.int, .int, .int, .int, .int, .int, .int, .int, (.object "java/util/Random"), (.object "java/util/Set"), (.object "java/util/List"), (.object "java/util/Map")]
  resolved := Array.replicate 933 none
  statics := some 3 }

def pool15 : Array CpInfo := pool [(4, .class_ 6), (1, u "java/lang/Object"), (0, u "<init>"), (0, u "()V"), (5, .class_ 16), (1, u "java/lang/StringLatin1"), (104, u "$assertionsDisabled"), (0, u "Z"), (98, .class_ 223), (1, u "java/lang/StringLatin1$LinesSpliterator"), (166, .class_ 391), (0, u "java/lang/StringLatin1$CharsSpliterator")] 3

def k15m0 : Method := { name := "<init>", desc := "()V", sig := { parameters := [], returnType := none }, accessFlags := 0, code := none }
/-- java/lang/StringLatin1 -/
def k15 : Class := { plain "java/lang/StringLatin1" (some 0) with
  accessFlags := 48
  interfaces := #[]
  cf := some (fileOf pool15 14 #[.nestMembers #[390, 221]] #[{ accessFlags := 0, nameIndex := 7, descriptorIndex := 8, attributes := #[] }] 48 4 #[] #[{ accessFlags := 4120, nameIndex := 121, descriptorIndex := 122, attributes := #[] }])
  fields := #[{ name := "$assertionsDisabled", type := .boolean, accessFlags := 4120, slot := 0, constantValue := 0 }]
  methods := #[k15m0]
  instanceTypes := #[]
  staticTypes := #[.boolean]
  resolved := Array.replicate 395 none
  statics := none }

def pool16 : Array CpInfo := pool [(2, .class_ 4), (1, u "java/lang/Object"), (0, u "<init>"), (0, u "()V"), (17, .class_ 26), (1, u "jdk/internal/util/Preconditions"), (28, .class_ 56), (0, u "jdk/internal/util/Preconditions$4"), (57, .class_ 115), (0, u "jdk/internal/util/Preconditions$1"), (7, u "SIOOBE_FORMATTER"), (0, u "Ljava/util/function/BiFunction;"), (0, .class_ 126), (0, u "jdk/internal/util/Preconditions$2"), (3, u "AIOOBE_FORMATTER"), (0, .class_ 132), (0, u "jdk/internal/util/Preconditions$3"), (3, u "IOOBE_FORMATTER")] 57

def k16m0 : Method := { name := "<init>", desc := "()V", sig := { parameters := [], returnType := none }, accessFlags := 1, code := none }
/-- jdk/internal/util/Preconditions -/
def k16 : Class := { plain "jdk/internal/util/Preconditions" (some 0) with
  accessFlags := 33
  interfaces := #[]
  cf := some (fileOf pool16 24 #[.nestMembers #[55, 131, 125, 114]] #[{ accessFlags := 1, nameIndex := 5, descriptorIndex := 6, attributes := #[] }] 33 2 #[] #[{ accessFlags := 25, nameIndex := 123, descriptorIndex := 124, attributes := #[] }, { accessFlags := 25, nameIndex := 130, descriptorIndex := 124, attributes := #[] }, { accessFlags := 25, nameIndex := 136, descriptorIndex := 124, attributes := #[] }])
  fields := #[{ name := "SIOOBE_FORMATTER", type := (.object "java/util/function/BiFunction"), accessFlags := 25, slot := 0, constantValue := 0 }, { name := "AIOOBE_FORMATTER", type := (.object "java/util/function/BiFunction"), accessFlags := 25, slot := 1, constantValue := 0 }, { name := "IOOBE_FORMATTER", type := (.object "java/util/function/BiFunction"), accessFlags := 25, slot := 2, constantValue := 0 }]
  methods := #[k16m0]
  instanceTypes := #[]
  staticTypes := #[(.object "java/util/function/BiFunction"), (.object "java/util/function/BiFunction"), (.object "java/util/function/BiFunction")]
  resolved := Array.replicate 194 none
  statics := some 4 }

def pool17 : Array CpInfo := pool [(9, u "<init>"), (6, .class_ 18), (1, u "java/lang/Object"), (0, u "()V"), (1, .class_ 23), (1, u "jdk/internal/util/ArraysSupport"), (0, u "LOG2_ARRAY_LONG_INDEX_SCALE"), (0, u "I"), (2, u "U"), (0, u "Ljdk/internal/misc/Unsafe;"), (8, u "BIG_ENDIAN"), (0, u "Z"), (8, u "LOG2_BYTE_BIT_SIZE"), (4, u "LOG2_ARRAY_INT_INDEX_SCALE"), (54, u "JLA"), (0, u "Ljdk/internal/access/JavaLangAccess;"), (11, u "LOG2_ARRAY_BOOLEAN_INDEX_SCALE"), (9, u "LOG2_ARRAY_BYTE_INDEX_SCALE"), (5, u "LOG2_ARRAY_CHAR_INDEX_SCALE"), (5, u "LOG2_ARRAY_SHORT_INDEX_SCALE"), (18, u "LOG2_ARRAY_FLOAT_INDEX_SCALE"), (24, u "LOG2_ARRAY_DOUBLE_INDEX_SCALE"), (89, u "T_BOOLEAN"), (2, u "T_CHAR"), (1, u "T_FLOAT"), (1, u "T_DOUBLE"), (1, u "T_BYTE"), (1, u "T_SHORT"), (1, u "T_INT"), (1, u "T_LONG"), (1, u "SOFT_MAX_ARRAY_LENGTH")] 83

def k17m0 : Method := { name := "<init>", desc := "()V", sig := { parameters := [], returnType := none }, accessFlags := 2, code := none }
/-- jdk/internal/util/ArraysSupport -/
def k17 : Class := { plain "jdk/internal/util/ArraysSupport" (some 0) with
  accessFlags := 33
  interfaces := #[]
  cf := some (fileOf pool17 21 #[] #[{ accessFlags := 2, nameIndex := 9, descriptorIndex := 19, attributes := #[] }] 33 16 #[] #[{ accessFlags := 24, nameIndex := 28, descriptorIndex := 29, attributes := #[] }, { accessFlags := 26, nameIndex := 38, descriptorIndex := 39, attributes := #[] }, { accessFlags := 25, nameIndex := 121, descriptorIndex := 25, attributes := #[] }, { accessFlags := 25, nameIndex := 131, descriptorIndex := 25, attributes := #[] }, { accessFlags := 25, nameIndex := 137, descriptorIndex := 25, attributes := #[] }, { accessFlags := 25, nameIndex := 143, descriptorIndex := 25, attributes := #[] }, { accessFlags := 25, nameIndex := 53, descriptorIndex := 25, attributes := #[] }, { accessFlags := 25, nameIndex := 24, descriptorIndex := 25, attributes := #[] }, { accessFlags := 25, nameIndex := 162, descriptorIndex := 25, attributes := #[] }, { accessFlags := 25, nameIndex := 187, descriptorIndex := 25, attributes := #[] }, { accessFlags := 26, nameIndex := 48, descriptorIndex := 25, attributes := #[] }, { accessFlags := 25, nameIndex := 277, descriptorIndex := 25, attributes := #[] }, { accessFlags := 25, nameIndex := 280, descriptorIndex := 25, attributes := #[] }, { accessFlags := 25, nameIndex := 282, descriptorIndex := 25, attributes := #[] }, { accessFlags := 25, nameIndex := 284, descriptorIndex := 25, attributes := #[] }, { accessFlags := 25, nameIndex := 286, descriptorIndex := 25, attributes := #[] }, { accessFlags := 25, nameIndex := 288, descriptorIndex := 25, attributes := #[] }, { accessFlags := 25, nameIndex := 290, descriptorIndex := 25, attributes := #[] }, { accessFlags := 25, nameIndex := 292, descriptorIndex := 25, attributes := #[] }, { accessFlags := 26, nameIndex := 108, descriptorIndex := 109, attributes := #[] }, { accessFlags := 25, nameIndex := 294, descriptorIndex := 25, attributes := #[] }])
  fields := #[{ name := "U", type := (.object "jdk/internal/misc/Unsafe"), accessFlags := 24, slot := 0, constantValue := 0 }, { name := "BIG_ENDIAN", type := .boolean, accessFlags := 26, slot := 1, constantValue := 0 }, { name := "LOG2_ARRAY_BOOLEAN_INDEX_SCALE", type := .int, accessFlags := 25, slot := 2, constantValue := 0 }, { name := "LOG2_ARRAY_BYTE_INDEX_SCALE", type := .int, accessFlags := 25, slot := 3, constantValue := 0 }, { name := "LOG2_ARRAY_CHAR_INDEX_SCALE", type := .int, accessFlags := 25, slot := 4, constantValue := 0 }, { name := "LOG2_ARRAY_SHORT_INDEX_SCALE", type := .int, accessFlags := 25, slot := 5, constantValue := 0 }, { name := "LOG2_ARRAY_INT_INDEX_SCALE", type := .int, accessFlags := 25, slot := 6, constantValue := 0 }, { name := "LOG2_ARRAY_LONG_INDEX_SCALE", type := .int, accessFlags := 25, slot := 7, constantValue := 0 }, { name := "LOG2_ARRAY_FLOAT_INDEX_SCALE", type := .int, accessFlags := 25, slot := 8, constantValue := 0 }, { name := "LOG2_ARRAY_DOUBLE_INDEX_SCALE", type := .int, accessFlags := 25, slot := 9, constantValue := 0 }, { name := "LOG2_BYTE_BIT_SIZE", type := .int, accessFlags := 26, slot := 10, constantValue := 0 }, { name := "T_BOOLEAN", type := .int, accessFlags := 25, slot := 11, constantValue := 0 }, { name := "T_CHAR", type := .int, accessFlags := 25, slot := 12, constantValue := 0 }, { name := "T_FLOAT", type := .int, accessFlags := 25, slot := 13, constantValue := 0 }, { name := "T_DOUBLE", type := .int, accessFlags := 25, slot := 14, constantValue := 0 }, { name := "T_BYTE", type := .int, accessFlags := 25, slot := 15, constantValue := 0 }, { name := "T_SHORT", type := .int, accessFlags := 25, slot := 16, constantValue := 0 }, { name := "T_INT", type := .int, accessFlags := 25, slot := 17, constantValue := 0 }, { name := "T_LONG", type := .int, accessFlags := 25, slot := 18, constantValue := 0 }, { name := "JLA", type := (.object "jdk/internal/access/JavaLangAccess"), accessFlags := 26, slot := 19, constantValue := 0 }, { name := "SOFT_MAX_ARRAY_LENGTH", type := .int, accessFlags := 25, slot := 20, constantValue := 0 }]
  methods := #[k17m0]
  instanceTypes := #[]
  staticTypes := #[(.object "jdk/internal/misc/Unsafe"), .boolean, .int, .int, .int, .int, .int, .int, .int, .int, .int, .int, .int, .int, .int, .int, .int, .int, .int, (.object "jdk/internal/access/JavaLangAccess"), .int]
  resolved := Array.replicate 378 none
  statics := none }

def pool18 : Array CpInfo := pool [(8, .class_ 10), (1, u "java/lang/Iterable"), (24, .class_ 36), (0, u "java/lang/Object")] 25

/-- java/lang/Iterable -/
def k18 : Class := { plain "java/lang/Iterable" (some 0) with
  accessFlags := 1537
  interfaces := #[]
  cf := some (fileOf pool18 8 #[] #[] 1537 35 #[] #[])
  fields := #[]
  methods := #[]
  instanceTypes := #[]
  staticTypes := #[]
  resolved := Array.replicate 62 none
  statics := none }

def pool19 : Array CpInfo := pool [(10, .class_ 12), (1, u "java/util/Collection"), (47, .class_ 61), (0, u "java/lang/Object"), (0, .class_ 63), (0, u "java/lang/Iterable")] 51

/-- java/util/Collection -/
def k19 : Class := { plain "java/util/Collection" (some 0) with
  accessFlags := 1537
  interfaces := #[18]
  cf := some (fileOf pool19 10 #[] #[] 1537 60 #[62] #[])
  fields := #[]
  methods := #[]
  instanceTypes := #[]
  staticTypes := #[]
  resolved := Array.replicate 115 none
  statics := none }

def pool20 : Array CpInfo := pool [(2, .class_ 4), (1, u "java/lang/Object"), (0, u "<init>"), (0, u "()V"), (1, .class_ 10), (1, u "java/util/AbstractCollection"), (66, .class_ 78), (0, u "java/util/Collection")] 81

def k20m0 : Method := { name := "<init>", desc := "()V", sig := { parameters := [], returnType := none }, accessFlags := 4, code := none }
/-- java/util/AbstractCollection -/
def k20 : Class := { plain "java/util/AbstractCollection" (some 0) with
  accessFlags := 1057
  interfaces := #[19]
  cf := some (fileOf pool20 8 #[] #[{ accessFlags := 4, nameIndex := 5, descriptorIndex := 6, attributes := #[] }] 1057 2 #[77] #[])
  fields := #[]
  methods := #[k20m0]
  instanceTypes := #[]
  staticTypes := #[]
  resolved := Array.replicate 160 none
  statics := none }

def pool21 : Array CpInfo := pool [(8, .class_ 10), (1, u "java/util/SequencedCollection"), (15, .class_ 27), (0, u "java/lang/Object"), (0, .class_ 29), (0, u "java/util/Collection")] 27

/-- java/util/SequencedCollection -/
def k21 : Class := { plain "java/util/SequencedCollection" (some 0) with
  accessFlags := 1537
  interfaces := #[19]
  cf := some (fileOf pool21 8 #[] #[] 1537 26 #[28] #[])
  fields := #[]
  methods := #[]
  instanceTypes := #[]
  staticTypes := #[]
  resolved := Array.replicate 57 none
  statics := none }

def pool22 : Array CpInfo := pool [(8, .class_ 10), (1, u "java/util/List"), (92, .class_ 104), (0, u "java/lang/Object"), (15, .class_ 121), (0, u "java/util/SequencedCollection")] 129

/-- java/util/List -/
def k22 : Class := { plain "java/util/List" (some 0) with
  accessFlags := 1537
  interfaces := #[21]
  cf := some (fileOf pool22 8 #[] #[] 1537 103 #[120] #[])
  fields := #[]
  methods := #[]
  instanceTypes := #[]
  staticTypes := #[]
  resolved := Array.replicate 251 none
  statics := none }

def pool23 : Array CpInfo := pool [(2, .class_ 4), (1, u "java/util/AbstractCollection"), (0, u "<init>"), (0, u "()V"), (1, .class_ 10), (1, u "java/util/AbstractList"), (0, u "modCount"), (0, u "I"), (64, .class_ 78), (0, u "java/util/AbstractList$Itr"), (3, .class_ 83), (0, u "java/util/AbstractList$ListItr"), (9, .class_ 94), (0, u "java/util/AbstractList$RandomAccessSubList"), (3, .class_ 99), (0, u "java/util/AbstractList$SubList"), (33, .class_ 134), (0, u "java/util/List"), (73, .class_ 209), (0, u "java/util/AbstractList$SubList$1"), (0, .class_ 211), (0, u "java/util/AbstractList$RandomAccessSpliterator")] 6

def k23m0 : Method := { name := "<init>", desc := "()V", sig := { parameters := [], returnType := none }, accessFlags := 4, code := none }
/-- java/util/AbstractList -/
def k23 : Class := { plain "java/util/AbstractList" (some 20) with
  accessFlags := 1057
  interfaces := #[22]
  cf := some (fileOf pool23 8 #[.nestMembers #[93, 98, 208, 210, 82, 77]] #[{ accessFlags := 4, nameIndex := 5, descriptorIndex := 6, attributes := #[] }] 1057 2 #[133] #[{ accessFlags := 132, nameIndex := 11, descriptorIndex := 12, attributes := #[] }])
  fields := #[{ name := "modCount", type := .int, accessFlags := 132, slot := 0, constantValue := 0 }]
  methods := #[k23m0]
  instanceTypes := #[.int]
  staticTypes := #[]
  resolved := Array.replicate 218 none
  statics := none }

def pool24 : Array CpInfo := pool [(1, .class_ 2), (0, u "java/util/RandomAccess"), (0, .class_ 4), (0, u "java/lang/Object")] 2

/-- java/util/RandomAccess -/
def k24 : Class := { plain "java/util/RandomAccess" (some 0) with
  accessFlags := 1537
  interfaces := #[]
  cf := some (fileOf pool24 1 #[] #[] 1537 3 #[] #[])
  fields := #[]
  methods := #[]
  instanceTypes := #[]
  staticTypes := #[]
  resolved := Array.replicate 7 none
  statics := none }

def pool25 : Array CpInfo := pool [(2, .class_ 4), (1, u "java/util/AbstractList"), (0, u "<init>"), (0, u "()V"), (1, .class_ 10), (1, u "java/util/Collections"), (54, .class_ 66), (0, u "java/util/Collections$EmptyList"), (0, .class_ 68), (0, u "java/util/RandomAccess"), (0, .class_ 70), (0, u "java/io/Serializable"), (0, u "serialVersionUID"), (0, u "J")] 77

def k25m0 : Method := { name := "<init>", desc := "()V", sig := { parameters := [], returnType := none }, accessFlags := 2, code := none }
/-- java/util/Collections$EmptyList -/
def k25 : Class := { plain "java/util/Collections$EmptyList" (some 23) with
  accessFlags := 32
  interfaces := #[24, 2]
  cf := some (fileOf pool25 65 #[.nestHost 8] #[{ accessFlags := 2, nameIndex := 5, descriptorIndex := 6, attributes := #[] }] 32 2 #[67, 69] #[{ accessFlags := 26, nameIndex := 71, descriptorIndex := 72, attributes := #[] }])
  fields := #[{ name := "serialVersionUID", type := .long, accessFlags := 26, slot := 0, constantValue := 0 }]
  methods := #[k25m0]
  instanceTypes := #[.int]
  staticTypes := #[.long]
  resolved := Array.replicate 150 none
  statics := none }

def pool26 : Array CpInfo := pool [(2, .class_ 4), (1, u "java/lang/StackTraceElement"), (0, u "<init>"), (2, .class_ 10), (1, u "java/lang/Object"), (0, u "()V"), (2, u "format"), (0, u "B"), (2, u "classLoaderName"), (0, u "Ljava/lang/String;"), (2, u "moduleName"), (2, u "moduleVersion"), (12, u "declaringClass"), (4, u "methodName"), (2, u "fileName"), (2, u "lineNumber"), (0, u "I"), (65, u "declaringClassObject"), (0, u "Ljava/lang/Class;"), (33, .class_ 153), (1, u "java/lang/StackTraceElement$HashedModules"), (17, .class_ 172), (0, u "java/io/Serializable"), (0, u "NATIVE_METHOD"), (1, u "UNKNOWN_SOURCE"), (2, u "BUILTIN_CLASS_LOADER"), (1, u "JDK_NON_UPGRADEABLE_MODULE"), (1, u "serialVersionUID"), (0, u "J")] 51

def k26m0 : Method := { name := "<init>", desc := "()V", sig := { parameters := [], returnType := none }, accessFlags := 2, code := none }
/-- java/lang/StackTraceElement -/
def k26 : Class := { plain "java/lang/StackTraceElement" (some 0) with
  accessFlags := 49
  interfaces := #[2]
  cf := some (fileOf pool26 2 #[.nestMembers #[151]] #[{ accessFlags := 2, nameIndex := 5, descriptorIndex := 11, attributes := #[] }] 49 8 #[171] #[{ accessFlags := 26, nameIndex := 173, descriptorIndex := 19, attributes := #[] }, { accessFlags := 26, nameIndex := 175, descriptorIndex := 19, attributes := #[] }, { accessFlags := 130, nameIndex := 116, descriptorIndex := 117, attributes := #[] }, { accessFlags := 2, nameIndex := 18, descriptorIndex := 19, attributes := #[] }, { accessFlags := 2, nameIndex := 22, descriptorIndex := 19, attributes := #[] }, { accessFlags := 2, nameIndex := 25, descriptorIndex := 19, attributes := #[] }, { accessFlags := 2, nameIndex := 38, descriptorIndex := 19, attributes := #[] }, { accessFlags := 2, nameIndex := 43, descriptorIndex := 19, attributes := #[] }, { accessFlags := 2, nameIndex := 46, descriptorIndex := 19, attributes := #[] }, { accessFlags := 2, nameIndex := 49, descriptorIndex := 50, attributes := #[] }, { accessFlags := 2, nameIndex := 14, descriptorIndex := 15, attributes := #[] }, { accessFlags := 26, nameIndex := 178, descriptorIndex := 15, attributes := #[] }, { accessFlags := 26, nameIndex := 180, descriptorIndex := 15, attributes := #[] }, { accessFlags := 26, nameIndex := 182, descriptorIndex := 183, attributes := #[] }])
  fields := #[{ name := "NATIVE_METHOD", type := (.object "java/lang/String"), accessFlags := 26, slot := 0, constantValue := 0 }, { name := "UNKNOWN_SOURCE", type := (.object "java/lang/String"), accessFlags := 26, slot := 1, constantValue := 0 }, { name := "declaringClassObject", type := (.object "java/lang/Class"), accessFlags := 130, slot := 0, constantValue := 0 }, { name := "classLoaderName", type := (.object "java/lang/String"), accessFlags := 2, slot := 1, constantValue := 0 }, { name := "moduleName", type := (.object "java/lang/String"), accessFlags := 2, slot := 2, constantValue := 0 }, { name := "moduleVersion", type := (.object "java/lang/String"), accessFlags := 2, slot := 3, constantValue := 0 }, { name := "declaringClass", type := (.object "java/lang/String"), accessFlags := 2, slot := 4, constantValue := 0 }, { name := "methodName", type := (.object "java/lang/String"), accessFlags := 2, slot := 5, constantValue := 0 }, { name := "fileName", type := (.object "java/lang/String"), accessFlags := 2, slot := 6, constantValue := 0 }, { name := "lineNumber", type := .int, accessFlags := 2, slot := 7, constantValue := 0 }, { name := "format", type := .byte, accessFlags := 2, slot := 8, constantValue := 0 }, { name := "BUILTIN_CLASS_LOADER", type := .byte, accessFlags := 26, slot := 2, constantValue := 0 }, { name := "JDK_NON_UPGRADEABLE_MODULE", type := .byte, accessFlags := 26, slot := 3, constantValue := 0 }, { name := "serialVersionUID", type := .long, accessFlags := 26, slot := 4, constantValue := 0 }]
  methods := #[k26m0]
  instanceTypes := #[(.object "java/lang/Class"), (.object "java/lang/String"), (.object "java/lang/String"), (.object "java/lang/String"), (.object "java/lang/String"), (.object "java/lang/String"), (.object "java/lang/String"), .int, .byte]
  staticTypes := #[(.object "java/lang/String"), (.object "java/lang/String"), .byte, .byte, .long]
  resolved := Array.replicate 235 none
  statics := none }

def pool27 : Array CpInfo := pool [(1, u "java/lang/Cloneable"), (0, .class_ 1), (0, u "java/lang/Object"), (0, .class_ 3)] 3

/-- java/lang/Cloneable -/
def k27 : Class := { plain "java/lang/Cloneable" (some 0) with
  accessFlags := 1537
  interfaces := #[]
  cf := some (fileOf pool27 2 #[] #[] 1537 4 #[] #[])
  fields := #[]
  methods := #[]
  instanceTypes := #[]
  staticTypes := #[]
  resolved := Array.replicate 8 none
  statics := none }

/-- the primitive byte -/
def k28 : Class := { plain "byte" none with kind := .primitive 'B', accessFlags := 0x411 }
/-- [B -/
def k29 : Class := { plain "[B" (some 0) with kind := .array 28 .byte, interfaces := #[27, 2], accessFlags := 1041 }

/-- the primitive char -/
def k30 : Class := { plain "char" none with kind := .primitive 'C', accessFlags := 0x411 }
/-- [C -/
def k31 : Class := { plain "[C" (some 0) with kind := .array 30 .char, interfaces := #[27, 2], accessFlags := 1041 }

/-- the primitive int -/
def k32 : Class := { plain "int" none with kind := .primitive 'I', accessFlags := 0x411 }
/-- [I -/
def k33 : Class := { plain "[I" (some 0) with kind := .array 32 .int, interfaces := #[27, 2], accessFlags := 1041 }

/-- [Ljava/lang/Object; -/
def k34 : Class := { plain "[Ljava/lang/Object;" (some 0) with kind := .array 0 (.object "java/lang/Object"), interfaces := #[27, 2], accessFlags := 1041 }

/-- [Ljava/lang/StackTraceElement; -/
def k35 : Class := { plain "[Ljava/lang/StackTraceElement;" (some 0) with kind := .array 26 (.object "java/lang/StackTraceElement"), interfaces := #[27, 2], accessFlags := 1041 }

/-- [Ljava/lang/Throwable; -/
def k36 : Class := { plain "[Ljava/lang/Throwable;" (some 0) with kind := .array 8 (.object "java/lang/Throwable"), interfaces := #[27, 2], accessFlags := 1041 }

def heap : Heap := #[{ cls := 7, slots := #[.long 0, .int 1, .null, .int 0, .null, .int 0, .int 0], vm := .statics 7 },
  { cls := 8, slots := #[.long 0, .ref 6, .ref 7, .null, .null, .null, .null, .ref 8, .int 1], vm := .statics 8 },
  { cls := 12, slots := #[.null, .ref 5, .null, .null, .null, .null, .null, .null, .null, .null, .null, .null], vm := .statics 12 },
  { cls := 14, slots := #[.int 0, .int 0, .int 0, .int 0, .int 0, .int 0, .int 0, .int 0, .null, .null, .ref 7, .null], vm := .statics 14 },
  { cls := 16, slots := #[.null, .null, .null], vm := .statics 16 },
  { cls := 12, slots := #[.null, .int 0, .int 0, .null, .null], vm := .none },
  { cls := 35, slots := #[], vm := .none },
  { cls := 25, slots := #[.int 0], vm := .none },
  { cls := 36, slots := #[], vm := .none }]
def classes : Array Class := #[k0, k1, k2, k3, k4, k5, k6, k7, k8, k9, k10, k11, k12, k13, k14, k15, k16, k17, k18, k19, k20, k21, k22, k23, k24, k25, k26, k27, k28, k29, k30, k31, k32, k33, k34, k35, k36]
def interned : List (Array UInt16 × Addr) := []
def slotsUsed : Nat := 49
def theMethod : MethodId := ⟨1, 1⟩
def args0 : Array Value := #[.int 1, .int 65, .int 66, .int 67]
def aboutOver (below : List Frame) : State where
  vm := { classes := classes, interned := interned.toArray }
  heap := heap
  slotsUsed := slotsUsed
  threads := #[{ frames := .invoking theMethod args0 :: below }]
def below0 : List Frame := [.native { method := ⟨0, 0⟩, args := #[] }]
def about1 : State := aboutOver below0
def p0 : Program := .bare "" "" ""
def e0 : Env := launch0.env 0 0 0
theorem w_frames : about1.frames = Frame.invoking theMethod args0 :: below0 := rfl
set_option maxRecDepth 65536 in
theorem w_args : argsFit about1.vm theMethod args0 = true := by decide +kernel
set_option maxRecDepth 65536 in
theorem w_heap : heapFits about1 = true := by decide +kernel
set_option maxRecDepth 65536 in
theorem w_runnable : about1.curStatus? = some .runnable := by decide +kernel
set_option maxRecDepth 65536 in
theorem w_alone : about1.alone = true := by decide +kernel
set_option maxRecDepth 65536 in
theorem w_named : about1.methodNamed? x = some theMethod := by decide +kernel
set_option maxRecDepth 65536 in
theorem w_hears : about1.hears theMethod below0 = true := by decide +kernel
set_option maxRecDepth 65536 in
theorem w_ripe : about1.ripe theMethod args0 below0 = true := by decide +kernel
theorem w_running : about1.status = .running := rfl
set_option maxRecDepth 65536 in
theorem w_room : about1.hasRoom e0.platform room_1 = true :=
  launch0.hasRoom_least _ room_1 (by decide +kernel) (by decide +kernel) (by decide +kernel) (by decide +kernel) (by decide +kernel) (by decide +kernel)
theorem allAtoms_all (ts : List Jvm.Cond) (a : Array Jvm.Value) (st : Jvm.State) : (allAtoms ts).before a st = ts.all (fun c => c.before a st) := by
  induction ts with
  | nil => rfl
  | cons c t ih =>
    show (Jvm.Cond.and c (allAtoms t)).before a st = _
    rw [Jvm.Cond.before_and, ih, List.all_cons]
def words1 : List Jvm.Cond := Jvm.Cond.code x code maxLocals ret :: tables_1
/-- a 'code' word, met by the world's own term for the bytes: nothing is compared byte by byte -/
theorem code_word {y : MethodName} {bytes : ByteArray} {mx : Nat} {rt : Option FieldType} {a : Array Value} {s : State} {m : MethodId} {meth : Method} {c : Code} (h1 : s.methodNamed? y = some m) (h2 : s.vm.method? m = some meth) (h3 : meth.code = some c) (h4 : c.code = bytes)
    (h5 : (c.maxLocals == mx && c.exceptionTable.isEmpty && decide (c.maxStack ≤ mostOperands) && decide (meth.sig.returnType = rt) && !meth.locks && decide (parseMethodDescriptor y.desc = some meth.sig)) = true) : (Jvm.Cond.code y bytes mx rt).before a s = true := by
  simp only [Bool.and_eq_true, beq_iff_eq, Bool.not_eq_true', decide_eq_true_eq] at h5
  obtain ⟨⟨⟨⟨⟨g1, g2⟩, g3⟩, g4⟩, g5⟩, g6⟩ := h5
  simp [Cond.before, Cond.holds, Cond.value, h1, h2, h3, h4, g1, g2, g3, g4, g5, g6]
def isCode : Jvm.Cond → Bool
  | .code _ _ _ _ => true
  | _ => false
theorem all_split {L : List Jvm.Cond} {P : Jvm.Cond → Bool} (h1 : L.all (fun c => isCode c || P c) = true) (h2 : ∀ c ∈ L.filter isCode, P c = true) : L.all P = true := by
  refine List.all_eq_true.mpr fun c hc => ?_
  have h := List.all_eq_true.mp h1 c hc
  rcases Bool.eq_false_or_eq_true (isCode c) with hi | hi
  · exact h2 c (List.mem_filter.mpr ⟨hc, hi⟩)
  · simpa [hi] using h
set_option maxRecDepth 65536 in
theorem w_c0 : (Jvm.Cond.code x code maxLocals ret).before args0 about1 = true := code_word (m := ⟨1, 1⟩) (meth := k1m1) (c := k1c1) (by decide +kernel) rfl rfl rfl (by decide +kernel)
set_option maxRecDepth 65536 in
theorem w_c1 : (Jvm.Cond.code ({ cls := "java/lang/String", name := "<init>", desc := "([C)V" } : Jvm.MethodName) jdk_42_method_3_code (2 : Nat) (Option.none : Option Jvm.ClassFile.FieldType)).before args0 about1 = true := code_word (m := ⟨7, 1⟩) (meth := k7m1) (c := k7c1) (by decide +kernel) rfl rfl rfl (by decide +kernel)
set_option maxRecDepth 65536 in
theorem w_c2 : (Jvm.Cond.code ({ cls := "java/lang/String", name := "<init>", desc := "([CIILjava/lang/Void;)V" } : Jvm.MethodName) jdk_42_method_149_code (6 : Nat) (Option.none : Option Jvm.ClassFile.FieldType)).before args0 about1 = true := code_word (m := ⟨7, 3⟩) (meth := k7m3) (c := k7c3) (by decide +kernel) rfl rfl rfl (by decide +kernel)
set_option maxRecDepth 65536 in
theorem w_c3 : (Jvm.Cond.code ({ cls := "java/lang/Object", name := "<init>", desc := "()V" } : Jvm.MethodName) object_method_1_code (1 : Nat) (Option.none : Option Jvm.ClassFile.FieldType)).before args0 about1 = true := code_word (m := ⟨0, 0⟩) (meth := k0m0) (c := k0c0) (by decide +kernel) rfl rfl rfl (by decide +kernel)
set_option maxRecDepth 65536 in
theorem w_c4 : (Jvm.Cond.code ({ cls := "com/example/hushlist/hushlist/engine/StanzaException", name := "conflict", desc := "(Ljava/lang/String;)Lcom/example/hushlist/hushlist/engine/StanzaException;" } : Jvm.MethodName) prog_31_method_3_code (1 : Nat) (Option.some (Jvm.ClassFile.FieldType.object "com/example/hushlist/hushlist/engine/StanzaException"))).before args0 about1 = true := code_word (m := ⟨10, 1⟩) (meth := k10m1) (c := k10c1) (by decide +kernel) rfl rfl rfl (by decide +kernel)
set_option maxRecDepth 65536 in
theorem w_c5 : (Jvm.Cond.code ({ cls := "com/example/hushlist/hushlist/engine/StanzaException", name := "<init>", desc := "(Lcom/example/hushlist/hushlist/engine/Condition;Ljava/lang/String;)V" } : Jvm.MethodName) prog_31_method_1_code (3 : Nat) (Option.none : Option Jvm.ClassFile.FieldType)).before args0 about1 = true := code_word (m := ⟨10, 0⟩) (meth := k10m0) (c := k10c0) (by decide +kernel) rfl rfl rfl (by decide +kernel)
set_option maxRecDepth 65536 in
theorem w_c6 : (Jvm.Cond.code ({ cls := "java/lang/Exception", name := "<init>", desc := "(Ljava/lang/String;)V" } : Jvm.MethodName) jdk_59_method_2_code (2 : Nat) (Option.none : Option Jvm.ClassFile.FieldType)).before args0 about1 = true := code_word (m := ⟨9, 1⟩) (meth := k9m1) (c := k9c1) (by decide +kernel) rfl rfl rfl (by decide +kernel)
set_option maxRecDepth 65536 in
theorem w_c7 : (Jvm.Cond.code ({ cls := "java/lang/Throwable", name := "<init>", desc := "(Ljava/lang/String;)V" } : Jvm.MethodName) jdk_78_method_2_code (2 : Nat) (Option.none : Option Jvm.ClassFile.FieldType)).before args0 about1 = true := code_word (m := ⟨8, 1⟩) (meth := k8m1) (c := k8c1) (by decide +kernel) rfl rfl rfl (by decide +kernel)
set_option maxRecDepth 65536 in
theorem w_c8 : (Jvm.Cond.code ({ cls := "java/lang/Throwable", name := "<init>", desc := "()V" } : Jvm.MethodName) jdk_78_method_1_code (1 : Nat) (Option.none : Option Jvm.ClassFile.FieldType)).before args0 about1 = true := code_word (m := ⟨8, 0⟩) (meth := k8m0) (c := k8c0) (by decide +kernel) rfl rfl rfl (by decide +kernel)
set_option maxRecDepth 65536 in
theorem w_c9 : (Jvm.Cond.code ({ cls := "com/example/hushlist/hushlist/engine/StanzaException", name := "condition", desc := "()Lcom/example/hushlist/hushlist/engine/Condition;" } : Jvm.MethodName) prog_31_method_5_code (1 : Nat) (Option.some (Jvm.ClassFile.FieldType.object "com/example/hushlist/hushlist/engine/Condition"))).before args0 about1 = true := code_word (m := ⟨10, 2⟩) (meth := k10m2) (c := k10c2) (by decide +kernel) rfl rfl rfl (by decide +kernel)
set_option maxRecDepth 65536 in
theorem w_c10 : (Jvm.Cond.code ({ cls := "java/lang/Throwable", name := "getMessage", desc := "()Ljava/lang/String;" } : Jvm.MethodName) jdk_78_method_6_code (1 : Nat) (Option.some (Jvm.ClassFile.FieldType.object "java/lang/String"))).before args0 about1 = true := code_word (m := ⟨8, 2⟩) (meth := k8m2) (c := k8c2) (by decide +kernel) rfl rfl rfl (by decide +kernel)
set_option maxRecDepth 65536 in
theorem w_c11 : (Jvm.Cond.code ({ cls := "java/lang/String", name := "equals", desc := "(Ljava/lang/Object;)Z" } : Jvm.MethodName) jdk_42_method_66_code (3 : Nat) (Option.some Jvm.ClassFile.FieldType.boolean)).before args0 about1 = true := code_word (m := ⟨7, 2⟩) (meth := k7m2) (c := k7c2) (by decide +kernel) rfl rfl rfl (by decide +kernel)
set_option maxRecDepth 65536 in
theorem w_c12 : (Jvm.Cond.code ({ cls := "java/lang/StringUTF16", name := "compress", desc := "([CII)[B" } : Jvm.MethodName) jdk_52_method_16_code (6 : Nat) (Option.some (Jvm.ClassFile.FieldType.array Jvm.ClassFile.FieldType.byte))).before args0 about1 = true := code_word (m := ⟨13, 2⟩) (meth := k13m2) (c := k13c2) (by decide +kernel) rfl rfl rfl (by decide +kernel)
set_option maxRecDepth 65536 in
theorem w_c13 : (Jvm.Cond.code ({ cls := "java/lang/StringUTF16", name := "compress", desc := "([CI[BII)I" } : Jvm.MethodName) jdk_52_method_21_code (7 : Nat) (Option.some Jvm.ClassFile.FieldType.int)).before args0 about1 = true := code_word (m := ⟨13, 3⟩) (meth := k13m3) (c := k13c3) (by decide +kernel) rfl rfl rfl (by decide +kernel)
set_option maxRecDepth 65536 in
theorem w_c14 : (Jvm.Cond.code ({ cls := "java/lang/StringUTF16", name := "coderFromArrayLen", desc := "([BI)B" } : Jvm.MethodName) jdk_52_method_15_code (2 : Nat) (Option.some Jvm.ClassFile.FieldType.byte)).before args0 about1 = true := code_word (m := ⟨13, 1⟩) (meth := k13m1) (c := k13c1) (by decide +kernel) rfl rfl rfl (by decide +kernel)
def codes1 : List Jvm.Cond := [Jvm.Cond.code x code maxLocals ret, Jvm.Cond.code ({ cls := "java/lang/String", name := "<init>", desc := "([C)V" } : Jvm.MethodName) jdk_42_method_3_code (2 : Nat) (Option.none : Option Jvm.ClassFile.FieldType), Jvm.Cond.code ({ cls := "java/lang/String", name := "<init>", desc := "([CIILjava/lang/Void;)V" } : Jvm.MethodName) jdk_42_method_149_code (6 : Nat) (Option.none : Option Jvm.ClassFile.FieldType), Jvm.Cond.code ({ cls := "java/lang/Object", name := "<init>", desc := "()V" } : Jvm.MethodName) object_method_1_code (1 : Nat) (Option.none : Option Jvm.ClassFile.FieldType), Jvm.Cond.code ({ cls := "com/example/hushlist/hushlist/engine/StanzaException", name := "conflict", desc := "(Ljava/lang/String;)Lcom/example/hushlist/hushlist/engine/StanzaException;" } : Jvm.MethodName) prog_31_method_3_code (1 : Nat) (Option.some (Jvm.ClassFile.FieldType.object "com/example/hushlist/hushlist/engine/StanzaException")), Jvm.Cond.code ({ cls := "com/example/hushlist/hushlist/engine/StanzaException", name := "<init>", desc := "(Lcom/example/hushlist/hushlist/engine/Condition;Ljava/lang/String;)V" } : Jvm.MethodName) prog_31_method_1_code (3 : Nat) (Option.none : Option Jvm.ClassFile.FieldType), Jvm.Cond.code ({ cls := "java/lang/Exception", name := "<init>", desc := "(Ljava/lang/String;)V" } : Jvm.MethodName) jdk_59_method_2_code (2 : Nat) (Option.none : Option Jvm.ClassFile.FieldType), Jvm.Cond.code ({ cls := "java/lang/Throwable", name := "<init>", desc := "(Ljava/lang/String;)V" } : Jvm.MethodName) jdk_78_method_2_code (2 : Nat) (Option.none : Option Jvm.ClassFile.FieldType), Jvm.Cond.code ({ cls := "java/lang/Throwable", name := "<init>", desc := "()V" } : Jvm.MethodName) jdk_78_method_1_code (1 : Nat) (Option.none : Option Jvm.ClassFile.FieldType), Jvm.Cond.code ({ cls := "com/example/hushlist/hushlist/engine/StanzaException", name := "condition", desc := "()Lcom/example/hushlist/hushlist/engine/Condition;" } : Jvm.MethodName) prog_31_method_5_code (1 : Nat) (Option.some (Jvm.ClassFile.FieldType.object "com/example/hushlist/hushlist/engine/Condition")), Jvm.Cond.code ({ cls := "java/lang/Throwable", name := "getMessage", desc := "()Ljava/lang/String;" } : Jvm.MethodName) jdk_78_method_6_code (1 : Nat) (Option.some (Jvm.ClassFile.FieldType.object "java/lang/String")), Jvm.Cond.code ({ cls := "java/lang/String", name := "equals", desc := "(Ljava/lang/Object;)Z" } : Jvm.MethodName) jdk_42_method_66_code (3 : Nat) (Option.some Jvm.ClassFile.FieldType.boolean), Jvm.Cond.code ({ cls := "java/lang/StringUTF16", name := "compress", desc := "([CII)[B" } : Jvm.MethodName) jdk_52_method_16_code (6 : Nat) (Option.some (Jvm.ClassFile.FieldType.array Jvm.ClassFile.FieldType.byte)), Jvm.Cond.code ({ cls := "java/lang/StringUTF16", name := "compress", desc := "([CI[BII)I" } : Jvm.MethodName) jdk_52_method_21_code (7 : Nat) (Option.some Jvm.ClassFile.FieldType.int), Jvm.Cond.code ({ cls := "java/lang/StringUTF16", name := "coderFromArrayLen", desc := "([BI)B" } : Jvm.MethodName) jdk_52_method_15_code (2 : Nat) (Option.some Jvm.ClassFile.FieldType.byte)]
set_option maxRecDepth 65536 in
theorem codes_eq : words1.filter isCode = codes1 := rfl
theorem w_codes : ∀ c ∈ words1.filter isCode, c.before args0 about1 = true := by
  rw [codes_eq]
  intro c hc
  simp only [codes1, List.mem_cons, List.not_mem_nil, or_false] at hc
  rcases hc with rfl | rfl | rfl | rfl | rfl | rfl | rfl | rfl | rfl | rfl | rfl | rfl | rfl | rfl | rfl
  · exact w_c0
  · exact w_c1
  · exact w_c2
  · exact w_c3
  · exact w_c4
  · exact w_c5
  · exact w_c6
  · exact w_c7
  · exact w_c8
  · exact w_c9
  · exact w_c10
  · exact w_c11
  · exact w_c12
  · exact w_c13
  · exact w_c14
set_option maxRecDepth 65536 in
theorem w_t1 : (words1.take 24).all (fun c => isCode c || c.before args0 about1) = true := by decide +kernel
set_option maxRecDepth 65536 in
theorem w_t2 : ((words1.drop 24).take 24).all (fun c => isCode c || c.before args0 about1) = true := by decide +kernel
set_option maxRecDepth 65536 in
theorem w_t3 : (((words1.drop 24).drop 24).take 24).all (fun c => isCode c || c.before args0 about1) = true := by decide +kernel
set_option maxRecDepth 65536 in
theorem w_t4 : ((((words1.drop 24).drop 24).drop 24).take 24).all (fun c => isCode c || c.before args0 about1) = true := by decide +kernel
set_option maxRecDepth 65536 in
theorem w_t5 : ((((words1.drop 24).drop 24).drop 24).drop 24).all (fun c => isCode c || c.before args0 about1) = true := by decide +kernel
theorem w_tables : (allAtoms (Jvm.Cond.code x code maxLocals ret :: tables_1)).before args0 about1 = true := by
  rw [allAtoms_all]
  show words1.all (fun c => c.before args0 about1) = true
  refine all_split ?_ w_codes
  rw [← List.take_append_drop 24 words1, List.all_append, w_t1, ← List.take_append_drop 24 (words1.drop 24), List.all_append, w_t2, ← List.take_append_drop 24 ((words1.drop 24).drop 24), List.all_append, w_t3, ← List.take_append_drop 24 (((words1.drop 24).drop 24).drop 24), List.all_append, w_t4, w_t5]
  rfl
set_option maxRecDepth 65536 in
theorem w_rest : rest_1_c.before args0 about1 = true := by decide +kernel
set_option maxRecDepth 65536 in
theorem w_case : (Jvm.Cond.and given_1 narrow_1).before args0 about1 = true := by decide +kernel
set_option maxRecDepth 65536 in
theorem w_consts : constsHeld consts_1 about1 := Jvm.Lit.constsHeldB_iff.mp (by decide +kernel)
theorem w_applies : (headSpec (Jvm.Cond.code x code maxLocals ret :: tables_1) room_1).applies x e0.platform about1 = true :=
  (Spec.applies_iff w_frames).mpr ⟨w_running, w_runnable, w_alone, w_named, w_hears, w_ripe, w_room, w_tables⟩
theorem atStart : AtStart classFile x code maxLocals ret World_1 tables_1 room_1 Calls_1 rest_1 Pre_1 launch0 p0 e0 about1 theMethod args0 below0 :=
  ⟨lists_1, trivial, launch0.admits_env _ _ _, launch0.least_env, fairChoices_fair.cas, fairChoices_fair.clock, w_frames, w_args, w_heap, w_applies, ⟨(by decide +kernel : framesKnown about1 = true), ⟨(by decide +kernel : tablesKnown about1 = true), ⟨w_consts, trivial⟩⟩⟩, w_rest, w_case⟩
end start1
theorem witness_1 : WitnessClaimed_1 := ⟨start1.p0, start1.e0, start1.about1, start1.theMethod, start1.args0, start1.below0, start1.atStart⟩
end Jvm.Pilot.@@N@@
