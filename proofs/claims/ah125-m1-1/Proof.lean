import JvmDerived
import JvmDerived.Pilot.@@N@@Statement
import JvmDerived.Pilot.@@N@@Code
set_option linter.unusedVariables false
set_option linter.unusedSimpArgs false
namespace Jvm.Pilot.@@N@@.Own
open Jvm Sem ClassFile Op Lib Jvm.Stand Jvm.Free Jvm.LawKit Jvm.RoadKit
/-- from the state A the run comes to an end of which P holds -/
def OGo (tb : Tables) (e : Env) (below : List Frame) (P : Outcome → State → Prop) (A : State) : Prop := ∃ s₂ o, Steps tb e below A s₂ ∧ s₂.status = .running ∧ Ended s₂ below o ∧ P o s₂
theorem OGo.go {tb : Tables} {e : Env} {below : List Frame} {P : Outcome → State → Prop} {A B : State} (k : OGo tb e below P B) (h : ∀ t, Steps tb e below B t → Steps tb e below A t) : OGo tb e below P A := by
  obtain ⟨s, o, h1, h2⟩ := k; exact ⟨s, o, h _ h1, h2⟩
theorem OGo.start {tb : Tables} {e : Env} {below : List Frame} {P : Outcome → State → Prop} {T : State} {g g' : JFrame} (q : g = g') (k : OGo tb e below P (T.setTop g')) : OGo tb e below P (T.setTop g) := q ▸ k
theorem OGo.ret {p : Program} {l : Launch} {e : Env} {R : Room} {s : State} {m : MethodId} {args : Array Value} {below : List Frame} {meth : Method} {c : Code} {T : State} {locs : List Loc} {cells slots : Nat}
    (X : Stand p l e R s m args below meth c T locs cells slots) {v : Option Value} (hv : meth.sig.returnType = none → v = none) (hlocks : meth.locks = false) {A : State}
    (hA : ∀ fs, (∀ (f : JFrame) (acts : List Action), f.method = m → f.locked = none → f.entered = [] → (doReturn e (T.setTop f) acts v).1 = T.setFrames fs) → Steps p.tables e below A (T.setFrames fs))
    {Q : Option Value → Heap → List Loc → Prop} {C S : Nat} (hQ : Q v T.heap locs) (hc : cells ≤ C) (hs : slots ≤ S) :
    OGo p.tables e below (fun o U' => ∃ v L, o = .returned v ∧ Q v U'.heap L ∧ FrameEnd s o U' L C S) A := by
  obtain ⟨fs, hr, hrun, hended, hW, hsame⟩ := X.leave hv hlocks
  exact ⟨_, _, hA fs hr, hrun, hended, v, locs, rfl, hQ, ⟨_, rfl⟩, hW, hsame.mono hc hs⟩
theorem OGo.retW {p : Program} {l : Launch} {e : Env} {R : Room} {s : State} {m : MethodId} {args : Array Value} {below : List Frame} {meth : Method} {c : Code} {T : State} {locs : List Loc} {cells slots : Nat} {vm0 : Vm} {k0 : Nat}
    (X : Stand p l e R (s.setVm vm0) m args below meth c T locs cells slots) (hS : s.Since vm0 k0) (hn : k0 ≤ T.heap.size) {v : Option Value} (hv : meth.sig.returnType = none → v = none) (hlocks : meth.locks = false) {A : State}
    (hA : ∀ fs, (∀ (f : JFrame) (acts : List Action), f.method = m → f.locked = none → f.entered = [] → (doReturn e (T.setTop f) acts v).1 = T.setFrames fs) → Steps p.tables e below A (T.setFrames fs))
    {Q : Option Value → Heap → List Loc → Prop} {C S : Nat} (hQ : Q v T.heap locs) (hc : cells ≤ C) (hs : slots ≤ S) :
    OGo p.tables e below (fun o U' => ∃ v L, o = .returned v ∧ Q v U'.heap L ∧ ReturnedEndW s o U' L C S) A := by
  obtain ⟨fs, hr, hrun, hended, h1, h2, h3, h4⟩ := X.leaveW hS hn hv hlocks
  exact ⟨_, _, hA fs hr, hrun, hended, v, locs, rfl, hQ, h1, h2, h3, h4.mono hc hs⟩
theorem Sta.keep0 {Z : State} {h h' : Heap} {C n d : String} {v : Value} (F : Sta Z h C n d v) (K : Keep h h' []) : Sta Z h' C n d v := by
  obtain ⟨cf, i, k, f, st, cell, h1, h2, h3, h4, h5, r⟩ := F; exact ⟨cf, i, k, f, st, cell, h1, h2, h3, h4, K.2.1 _ _ h5 (fun q => nomatch q), r⟩
theorem Sta.keepE {Z : State} {h h' : Heap} {C n d : String} {v : Value} {ws : List Addr} (F : Sta Z h C n d v) (K : Keep h h' ws) (q : ∀ x ∈ ws, ∃ c : Cell, h[x]? = some c ∧ ∀ q, c.vm ≠ .statics q) : Sta Z h' C n d v := by
  obtain ⟨cf, i, k, f, st, cell, h1, h2, h3, h4, h5, h6, r⟩ := F
  refine ⟨cf, i, k, f, st, cell, h1, h2, h3, h4, K.2.1 _ _ h5 (fun hm => ?_), h6, r⟩
  obtain ⟨c, hc, hq⟩ := q _ hm
  cases h5.symm.trans hc
  cases hv : cell.vm <;> rw [hv] at h6 <;> first | exact hq _ hv | (simp [VmData.isStatics] at h6)
theorem staS {h : Heap} {y : Addr} {ws : List Addr} (a : ∃ c : Cell, h[y]? = some c ∧ ∀ q, c.vm ≠ .statics q) (r : ∀ x ∈ ws, ∃ c : Cell, h[x]? = some c ∧ ∀ q, c.vm ≠ .statics q) : ∀ x ∈ y :: ws, ∃ c : Cell, h[x]? = some c ∧ ∀ q, c.vm ≠ .statics q := fun x hx => (List.mem_cons.mp hx).elim (fun e => e ▸ a) (r x)
theorem own_nf {args : Array Value} {s : State} {C : String} {y y' : MethodName} (hsel : (Cond.selects C y' y').before args s = true) (e : y'.cls = y.cls) : NotFace s y := fun r0 h0 => by
  obtain ⟨c2, r2, m2, q1, q2, q3, q4, kP, hkP, hkPi⟩ := Cond.selects_spec hsel
  have a := findClass_of_methodNamed h0
  have b := findClass_of_methodNamed q3
  rw [e] at b
  have c : r0.cls = m2.cls := Option.some.inj (a.symm.trans b)
  exact ⟨kP, by rw [c]; exact hkP, hkPi⟩
theorem own_decl {a0 a1 : Array Value} {Z : State} {y : MethodName} {bytes : ByteArray} {maxL : Nat} {ret : Option FieldType} (w : (Cond.instanceMethod y).before a0 Z = true) (wc : (Cond.code y bytes maxL ret).before a0 Z = true) : (Cond.declares y).before a1 Z = true := by
  obtain ⟨m, meth, h1, h2, h3, -⟩ := Cond.instanceMethod_spec w
  obtain ⟨m2, c, h4, -, -, -, -, -, -, h5⟩ := Cond.code_spec h1 wc
  cases h2.symm.trans h4
  simp [Cond.before, Cond.holds, Cond.value, h1, h2, h3, h5]
theorem own_same {a0 : Array Value} {Z : State} {y : MethodName} (hmh : y.cls ≠ "java/lang/invoke/MethodHandle" ∧ y.cls ≠ "java/lang/invoke/VarHandle") (w : (Cond.declares y).before a0 Z = true) (nf : NotFace Z y) : (Cond.sameMethod y.cls y.cls y.name y.desc).before a0 Z = true := by
  obtain ⟨m, meth, h1, -⟩ := Cond.declares_spec w
  obtain ⟨k, hk, hi⟩ := nf m h1
  have hc := findClass_of_methodNamed h1
  have hf := State.methodFound?_of_named h1 hmh
  simp [Cond.before, Cond.holds, Cond.value, hc, hf, h1, hk, hi]
theorem fldI {args : Array Value} {s : State} {t : Term} {C n d : String} {x : Addr} {k : Int32} (ht : t.eval args s none [] s = some (.ref x)) (h : (Cond.eq (Term.field t C n d) (Term.int k)).value args s none s [] = some true) : Fld s s.heap x C n d (.int k) := by
  obtain ⟨u, w, hu, hw, hk, hk'⟩ := cmp_v (Or.inl h)
  cases (Term.int_eval k).symm.trans hw
  obtain ⟨z, rfl⟩ := hk'
  have e : z = k := by simpa [Cond.value, hu, Term.int_eval] using h
  subst e
  exact Fld.start (by rw [← fld_at ht]; exact hu)
theorem long_eval {args : Array Value} {s f : State} {o : Option Outcome} {idx : List Nat} (n : Int64) : (Term.long n).eval args f o idx s = some (.long n) := rfl
theorem fldL {args : Array Value} {s : State} {t : Term} {C n d : String} {x : Addr} {k : Int64} (ht : t.eval args s none [] s = some (.ref x)) (h : (Cond.eq (Term.field t C n d) (Term.long k)).value args s none s [] = some true) : Fld s s.heap x C n d (.long k) := by
  obtain ⟨u, w, hu, hw, hk, hk'⟩ := cmp_v (Or.inl h)
  cases (long_eval k).symm.trans hw
  obtain ⟨z, rfl⟩ := hk'
  have e : z = k := by simpa [Cond.value, hu, long_eval] using h
  subst e
  exact Fld.start (by rw [← fld_at ht]; exact hu)
theorem valL {args : Array Value} {s : State} {t : Term} {k : Int64} (h : (Cond.eq t (Term.long k)).value args s none s [] = some true) : t.eval args s none [] s = some (.long k) := by
  obtain ⟨u, w, hu, hw, hk, hk'⟩ := cmp_v (Or.inl h)
  cases (long_eval k).symm.trans hw
  obtain ⟨z, rfl⟩ := hk'
  have e : z = k := by simpa [Cond.value, hu, long_eval] using h
  subst e
  exact hu
theorem valI {args : Array Value} {s : State} {t : Term} {k : Int32} (h : (Cond.eq t (Term.int k)).value args s none s [] = some true) : t.eval args s none [] s = some (.int k) := by
  obtain ⟨u, w, hu, hw, hk, hk'⟩ := cmp_v (Or.inl h)
  cases (Term.int_eval k).symm.trans hw
  obtain ⟨z, rfl⟩ := hk'
  have e : z = k := by simpa [Cond.value, hu, Term.int_eval] using h
  subst e
  exact hu
theorem lenI {args : Array Value} {s : State} {t : Term} {x : Addr} {cl : Cell} {ty : FieldType} {k : Int32} (ht : t.eval args s none [] s = some (.ref x)) (A : Arr s s.heap x cl ty) (h : (Cond.eq (Term.length t) (Term.int k)).value args s none s [] = some true) : cl.slots.size.toInt32 = k ∧ cl.slots.size < 2 ^ 31 := by
  have hv := valI h
  have ha : s.arrayAt? x = some cl := Arr.fin (Vm.Alike.refl _) A
  simp only [Term.eval, ht, ha, Option.bind_eq_bind, Option.bind_some] at hv
  split at hv
  · rename_i q; exact ⟨by simpa using hv, q⟩
  · cases hv
theorem elemR {args : Array Value} {s : State} {t u : Term} {x y : Addr} {cl : Cell} {ty : FieldType} {k : Int32} (ht : t.eval args s none [] s = some (.ref x)) (A : Arr s s.heap x cl ty) (hu : u.eval args s none [] s = some (.ref y)) (h : (Cond.eq (Term.elem t (Term.int k)) u).value args s none s [] = some true) : cl.slots[k.toNatClampNeg]? = some (.ref y) := by
  obtain ⟨v, w, hv, hw, hk, hk'⟩ := cmp_v (Or.inl h)
  cases hu.symm.trans hw
  have e := (elem_in hv ht (Term.int_eval k) A.1).2
  rw [e]
  rcases ref_cases (v := v) hk'.2 with rfl | ⟨z, rfl⟩
  · simp [Cond.value, hv, hu] at h
  · have q : z = y := by simpa [Cond.value, hv, hu] using h
    rw [q]
end Jvm.Pilot.@@N@@.Own
namespace Jvm.Pilot.@@N@@
open Jvm Jvm.ClassFile Sem Op Lib Jvm.Free Jvm.Stand Jvm.LawKit Jvm.RoadKit Bundle Jvm.Pilot.@@N@@.Jvm.D Jvm.Pilot.@@N@@.Own
theorem d2_0 : decode prog_11_method_1_code 0 = .ok (.aload_n 0, 1) := by decide +kernel
theorem d2_1 : decode prog_11_method_1_code 1 = .ok (.invokespecial 1, 3) := by decide +kernel
theorem d2_4 : decode prog_11_method_1_code 4 = .ok (.aload_n 0, 1) := by decide +kernel
theorem d2_5 : decode prog_11_method_1_code 5 = .ok (.lload_n 1, 1) := by decide +kernel
theorem d2_6 : decode prog_11_method_1_code 6 = .ok (.putfield 7, 3) := by decide +kernel
theorem d2_9 : decode prog_11_method_1_code 9 = .ok (.aload_n 0, 1) := by decide +kernel
theorem d2_10 : decode prog_11_method_1_code 10 = .ok (.lload_n 3, 1) := by decide +kernel
theorem d2_11 : decode prog_11_method_1_code 11 = .ok (.putfield 13, 3) := by decide +kernel
theorem d2_14 : decode prog_11_method_1_code 14 = .ok (.return_, 1) := by decide +kernel
theorem pn_com_example_turnstile_turnstile_QueuedWait_Answer : plainName "com/example/turnstile/turnstile/QueuedWait$Answer" = true := by first | (simp [plainName, overriddenIn]; done) | decide +kernel
def Q2 (Z : State) (a0 : Addr) (q1 : Int64) (q2 : Int64) (u1 : Value) (u2 : Value) (h0 : Heap) (n0 : Nat) (v : Option Value) (h : Heap) (L : List Loc) : Prop := v = none ∧ Fr n0 L ∧ Keep h0 h [a0] ∧ Exa Z h a0 "com/example/turnstile/turnstile/QueuedWait$Answer" ∧ Fld Z h a0 "com/example/turnstile/turnstile/QueuedWait$Answer" "token" "J" (.long q1)
def P2 (Z : State) (a0 : Addr) (q1 : Int64) (q2 : Int64) (u1 : Value) (u2 : Value) (h0 : Heap) (n0 : Nat) (s : State) (o : Outcome) (U' : State) : Prop := ∃ v L, o = .returned v ∧ Q2 Z a0 q1 q2 u1 u2 h0 n0 v U'.heap L ∧ FrameEnd s o U' L ({ frames := 1, cells := 0, slots := 0, locals := 12 } : Room).cells ({ frames := 1, cells := 0, slots := 0, locals := 12 } : Room).slots
set_option maxRecDepth 65536 in
set_option maxHeartbeats 40000000 in
theorem rm2 (l : Launch) (Z : State) (aV : Array Value) (hw : ∀ d ∈ tables_1, d.before aV Z = true) (ws : List Jvm.Cond) (a0 : Addr) (q1 : Int64) (q2 : Int64) (u1 : Value) (u2 : Value) (h0 : Heap) (n0 : Nat) (Z0 : n0 ≤ h0.size) (E_a0 : Exa Z h0 a0 "com/example/turnstile/turnstile/QueuedWait$Answer") (F_token_a0 : Fld Z h0 a0 "com/example/turnstile/turnstile/QueuedWait$Answer" "token" "J" u1) (F_leaseExpiresInMillis_a0 : Fld Z h0 a0 "com/example/turnstile/turnstile/QueuedWait$Answer" "leaseExpiresInMillis" "J" u2) (ga : n0 ≤ a0) :
    MetFree l (⟨"com/example/turnstile/turnstile/QueuedWait$Answer", "<init>", "(JJ)V"⟩ : MethodName) (head1 (Jvm.Cond.code (⟨"com/example/turnstile/turnstile/QueuedWait$Answer", "<init>", "(JJ)V"⟩ : MethodName) prog_11_method_1_code 5 none :: ws) ({ frames := 1, cells := 0, slots := 0, locals := 12 } : Room)) (fun a U => a = #[(.ref a0), (.long q1), (.long q2)] ∧ Z.Warmed39 U.vm ∧ U.heap = h0) (fun _ _ _ _ _ => True) (fun _ U o U' => ∃ v L, o = .returned v ∧ Q2 Z a0 q1 q2 u1 u2 h0 n0 v U'.heap L ∧ FrameEnd U o U' L ({ frames := 1, cells := 0, slots := 0, locals := 12 } : Room).cells ({ frames := 1, cells := 0, slots := 0, locals := 12 } : Room).slots) := by
  refine MetFree.of_bodySF (plainFor_of_name pn_com_example_turnstile_turnstile_QueuedWait_Answer) hisR ?_
  intro p e s m args below meth c s₁ Bd hml0 hP hK
  obtain ⟨rfl, hZ, hh⟩ := hP
  have hx := Bd.exec
  have hby := Bd.bytes
  have hml : c.maxLocals = 5 := hml0
  have hown : s.vm.findClass "com/example/turnstile/turnstile/QueuedWait$Answer" = some m.cls := findClass_of_methodNamed Bd.named
  have hnm := (name_of_methodNamed Bd.named Bd.method).1
  have X0 : Stand p l e ({ frames := 1, cells := 0, slots := 0, locals := 12 } : Room) s m #[(.ref a0), (.long q1), (.long q2)] below meth c s₁ [] 0 0 := Stand.of_body Bd
  have e0 : s₁.heap = h0 := by rw [← hh, Bd.state]; rfl
  have efx : entryFrame m #[(.ref a0), (.long q1), (.long q2)] 5 = mkF m 0 #[.val (.ref a0), .val (.long q1), .second, .val (.long q2), .second] [] := by first | (simp [entryFrame, mkF, argsToLocals, Value.category]; done) | rfl
  have N0 := Fr.nil n0
  have K0 : Keep h0 h0 [a0] := Keep.refl h0 _
  refine OGo.start (g' := mkF m 0 #[.val (.ref a0), .val (.long q1), .second, .val (.long q2), .second] []) (efx) ?_
  show OGo p.tables e below (P2 Z a0 q1 q2 u1 u2 h0 n0 s) (s₁.setTop (mkF m 0 #[.val (.ref a0), .val (.long q1), .second, .val (.long q2), .second] []))
  refine OGo.go (B := s₁.setTop (mkF m 1 #[.val (.ref a0), .val (.long q1), .second, .val (.long q2), .second] [(.ref a0)])) ?_ (fun tX kX => XS.aloadN X0.here hx rfl (hb hby d2_0) rfl rfl kX)
  obtain ⟨T1, X1, e1, st1⟩ := initO X0 hx hZ hown (hw _ (List.mem_of_getElem? (i := 10) rfl)) (hw _ (List.mem_of_getElem? (i := 11) rfl)) (hw _ (List.mem_of_getElem? (i := 12) rfl)) e0 (g := (mkF m 1 #[.val (.ref a0), .val (.long q1), .second, .val (.long q2), .second] [(.ref a0)])) rfl (by rw [hml]; rfl) rfl (hb hby d2_1) (by decide) (W := 0) (by show 2 * 0 + _ ≤ _; exact Nat.le_of_eq rfl) (by decide)
  refine OGo.go (B := T1.setTop (mkF m 4 #[.val (.ref a0), .val (.long q1), .second, .val (.long q2), .second] [])) ?_ st1
  refine OGo.go (B := T1.setTop (mkF m 5 #[.val (.ref a0), .val (.long q1), .second, .val (.long q2), .second] [(.ref a0)])) ?_ (fun tX kX => XS.aloadN X1.here hx rfl (hb hby d2_4) rfl rfl kX)
  refine OGo.go (B := T1.setTop (mkF m 6 #[.val (.ref a0), .val (.long q1), .second, .val (.long q2), .second] [(.long q1), (.ref a0)])) ?_ (fun tX kX => XS.lloadN X1.here hx rfl (hb hby d2_5) rfl kX)
  obtain ⟨T2, h2, X2, e2, W2, st2⟩ := putF X1 hx hZ hown (host := "") (Or.inl (hw _ (List.mem_of_getElem? (i := 13) rfl))) Via.refl e1 F_token_a0 E_a0 (Or.inr ⟨(hw _ (List.mem_of_getElem? (i := 14) rfl)), rfl, hnm⟩) (hw _ (List.mem_of_getElem? (i := 5) rfl)) (ty := .long) (by decide) rfl rfl (g := (mkF m 6 #[.val (.ref a0), .val (.long q1), .second, .val (.long q2), .second] [(.long q1), (.ref a0)])) rfl rfl (hb hby d2_6)
  have E_a0 := E_a0.wr W2
  have F_token_a0 := F_token_a0.same W2
  have F_leaseExpiresInMillis_a0 := F_leaseExpiresInMillis_a0.other W2 (Or.inr (slot_ne (Or.inr (hw _ (List.mem_of_getElem? (i := 16) rfl))) (Or.inr (hw _ (List.mem_of_getElem? (i := 14) rfl))) (by decide) (t := .long) (t' := .long) (by decide) (by decide)))
  have K2 := K0.wr W2 (Or.inl (List.mem_of_getElem? (i := 0) rfl))
  have zn2 : n0 ≤ h2.size := Nat.le_trans Z0 (Keep.of_wr W2).1
  have N2 := Fr.snoc X2 N0 ga
  refine OGo.go (B := T2.setTop (mkF m 9 #[.val (.ref a0), .val (.long q1), .second, .val (.long q2), .second] [])) ?_ st2
  refine OGo.go (B := T2.setTop (mkF m 10 #[.val (.ref a0), .val (.long q1), .second, .val (.long q2), .second] [(.ref a0)])) ?_ (fun tX kX => XS.aloadN X2.here hx rfl (hb hby d2_9) rfl rfl kX)
  refine OGo.go (B := T2.setTop (mkF m 11 #[.val (.ref a0), .val (.long q1), .second, .val (.long q2), .second] [(.long q2), (.ref a0)])) ?_ (fun tX kX => XS.lloadN X2.here hx rfl (hb hby d2_10) rfl kX)
  obtain ⟨T3, h3, X3, e3, W3, st3⟩ := putF X2 hx hZ hown (host := "") (Or.inl (hw _ (List.mem_of_getElem? (i := 15) rfl))) Via.refl e2 F_leaseExpiresInMillis_a0 E_a0 (Or.inr ⟨(hw _ (List.mem_of_getElem? (i := 16) rfl)), rfl, hnm⟩) (hw _ (List.mem_of_getElem? (i := 5) rfl)) (ty := .long) (by decide) rfl rfl (g := (mkF m 11 #[.val (.ref a0), .val (.long q1), .second, .val (.long q2), .second] [(.long q2), (.ref a0)])) rfl rfl (hb hby d2_11)
  have E_a0 := E_a0.wr W3
  have F_token_a0 := F_token_a0.other W3 (Or.inr (slot_ne (Or.inr (hw _ (List.mem_of_getElem? (i := 14) rfl))) (Or.inr (hw _ (List.mem_of_getElem? (i := 16) rfl))) (by decide) (t := .long) (t' := .long) (by decide) (by decide)))
  have F_leaseExpiresInMillis_a0 := F_leaseExpiresInMillis_a0.same W3
  have K3 := K2.wr W3 (Or.inl (List.mem_of_getElem? (i := 0) rfl))
  have zn3 : n0 ≤ h3.size := Nat.le_trans zn2 (Keep.of_wr W3).1
  have N3 := Fr.snoc X3 N2 ga
  refine OGo.go (B := T3.setTop (mkF m 14 #[.val (.ref a0), .val (.long q1), .second, .val (.long q2), .second] [])) ?_ st3
  refine OGo.ret X3 (v := none) (fun _ => rfl) (BodyLoose.notSynchronized Bd) (fun fs hr => X3.returnOut hx Bd.returns (hb hby d2_14) hr) (Q := Q2 Z a0 q1 q2 u1 u2 h0 n0) ?_ (by decide) (by decide)
  show Q2 Z a0 q1 q2 u1 u2 h0 n0 _ T3.heap _
  rw [e3]
  exact ⟨rfl, N3, K3, E_a0, F_token_a0⟩
theorem d1_0 : decode prog_11_method_2_code 0 = .ok (.new 8, 3) := by decide +kernel
theorem d1_3 : decode prog_11_method_2_code 3 = .ok (.dup, 1) := by decide +kernel
theorem d1_4 : decode prog_11_method_2_code 4 = .ok (.lload_n 0, 1) := by decide +kernel
theorem d1_5 : decode prog_11_method_2_code 5 = .ok (.ldc2_w 16, 3) := by decide +kernel
theorem d1_8 : decode prog_11_method_2_code 8 = .ok (.invokespecial 18, 3) := by decide +kernel
theorem pd__JJ_V : parseMethodDescriptor "(JJ)V" = some ⟨[.long, .long], none⟩ := by decide +kernel
theorem d1_11 : decode prog_11_method_2_code 11 = .ok (.areturn, 1) := by decide +kernel
def Q1 (Z : State) (q0 : Int64) (h0 : Heap) (n0 : Nat) (v : Option Value) (h : Heap) (L : List Loc) : Prop := ∃ (b : Addr), v = some (.ref b) ∧ Fr n0 L ∧ Keep h0 h [] ∧ h0.size ≤ b ∧ Exa Z h b "com/example/turnstile/turnstile/QueuedWait$Answer" ∧ Fld Z h b "com/example/turnstile/turnstile/QueuedWait$Answer" "token" "J" (.long q0)
def P1 (Z : State) (q0 : Int64) (h0 : Heap) (n0 : Nat) (s : State) (o : Outcome) (U' : State) : Prop := ∃ v L, o = .returned v ∧ Q1 Z q0 h0 n0 v U'.heap L ∧ FrameEnd s o U' L ({ frames := 2, cells := 1, slots := 2, locals := 29 } : Room).cells ({ frames := 2, cells := 1, slots := 2, locals := 29 } : Room).slots
set_option maxRecDepth 65536 in
set_option maxHeartbeats 40000000 in
theorem rm1 (l : Launch) (Z : State) (aV : Array Value) (hw : ∀ d ∈ tables_1, d.before aV Z = true) (ws : List Jvm.Cond) (q0 : Int64) (h0 : Heap) (n0 : Nat) (Z0 : n0 ≤ h0.size) :
    MetFree l (⟨"com/example/turnstile/turnstile/QueuedWait$Answer", "granted", "(J)Lcom/example/turnstile/turnstile/QueuedWait$Answer;"⟩ : MethodName) (head1 (Jvm.Cond.code (⟨"com/example/turnstile/turnstile/QueuedWait$Answer", "granted", "(J)Lcom/example/turnstile/turnstile/QueuedWait$Answer;"⟩ : MethodName) prog_11_method_2_code 2 (some (.object "com/example/turnstile/turnstile/QueuedWait$Answer")) :: ws) ({ frames := 2, cells := 1, slots := 2, locals := 29 } : Room)) (fun a U => a = #[(.long q0)] ∧ Z.Warmed39 U.vm ∧ U.heap = h0) (fun _ _ _ _ _ => True) (fun _ U o U' => ∃ v L, o = .returned v ∧ Q1 Z q0 h0 n0 v U'.heap L ∧ FrameEnd U o U' L ({ frames := 2, cells := 1, slots := 2, locals := 29 } : Room).cells ({ frames := 2, cells := 1, slots := 2, locals := 29 } : Room).slots) := by
  refine MetFree.of_bodySF (plainFor_of_name pn_com_example_turnstile_turnstile_QueuedWait_Answer) hisR ?_
  intro p e s m args below meth c s₁ Bd hml0 hP hK
  obtain ⟨rfl, hZ, hh⟩ := hP
  have hx := Bd.exec
  have hby := Bd.bytes
  have hml : c.maxLocals = 2 := hml0
  have hown : s.vm.findClass "com/example/turnstile/turnstile/QueuedWait$Answer" = some m.cls := findClass_of_methodNamed Bd.named
  have hnm := (name_of_methodNamed Bd.named Bd.method).1
  have X0 : Stand p l e ({ frames := 2, cells := 1, slots := 2, locals := 29 } : Room) s m #[(.long q0)] below meth c s₁ [] 0 0 := Stand.of_body Bd
  have e0 : s₁.heap = h0 := by rw [← hh, Bd.state]; rfl
  have efx : entryFrame m #[(.long q0)] 2 = mkF m 0 #[.val (.long q0), .second] [] := by first | (simp [entryFrame, mkF, argsToLocals, Value.category]; done) | rfl
  have N0 := Fr.nil n0
  have K0 : Keep h0 h0 [] := Keep.refl h0 _
  refine OGo.start (g' := mkF m 0 #[.val (.long q0), .second] []) (efx) ?_
  show OGo p.tables e below (P1 Z q0 h0 n0 s) (s₁.setTop (mkF m 0 #[.val (.long q0), .second] []))
  obtain ⟨T1, h1, X1, e1, E1, A1, D1, C1, st1⟩ := newO X0 hx hZ hown (hw _ (List.mem_of_getElem? (i := 4) rfl)) (hw _ (List.mem_of_getElem? (i := 5) rfl)) (hw _ (List.mem_of_getElem? (i := 2) rfl)) e0 (g := (mkF m 0 #[.val (.long q0), .second] [])) rfl (hb hby d1_0) (by decide) (by decide)
  obtain ⟨b1, g1⟩ : ∃ z, z = h0.size := ⟨_, rfl⟩
  rw [← g1] at A1 D1 st1 C1
  have g_b1 : n0 ≤ b1 := Nat.le_trans Z0 (Nat.le_of_eq g1.symm)
  have sz_b1 : h0.size ≤ b1 := Nat.le_trans K0.1 (Nat.le_of_eq g1.symm)
  have zn1 : n0 ≤ h1.size := Nat.le_trans Z0 E1.1
  have K1 := K0.ext E1
  have E_b1 := A1
  have F_token_b1 : Fld Z h1 b1 "com/example/turnstile/turnstile/QueuedWait$Answer" "token" "J" (.long (0 : Int64)) := D1 (Or.inr (hw _ (List.mem_of_getElem? (i := 14) rfl))) (ty := .long) (by decide)
  have F_leaseExpiresInMillis_b1 : Fld Z h1 b1 "com/example/turnstile/turnstile/QueuedWait$Answer" "leaseExpiresInMillis" "J" (.long (0 : Int64)) := D1 (Or.inr (hw _ (List.mem_of_getElem? (i := 16) rfl))) (ty := .long) (by decide)
  refine OGo.go (B := T1.setTop (mkF m 3 #[.val (.long q0), .second] [(.ref b1)])) ?_ st1
  refine OGo.go (B := T1.setTop (mkF m 4 #[.val (.long q0), .second] [(.ref b1), (.ref b1)])) ?_ (fun tX kX => XS.dup X1.here hx rfl (hb hby d1_3) rfl rfl kX)
  refine OGo.go (B := T1.setTop (mkF m 5 #[.val (.long q0), .second] [(.long q0), (.ref b1), (.ref b1)])) ?_ (fun tX kX => XS.lloadN X1.here hx rfl (hb hby d1_4) rfl kX)
  refine OGo.go (B := T1.setTop (mkF m 8 #[.val (.long q0), .second] [(.long (-1 : Int64)), (.long q0), (.ref b1), (.ref b1)])) ?_ (fun tX kX => X1.ldc2Long hx hown (mvT hZ (hw _ (List.mem_of_getElem? (i := 6) rfl))) (g := (mkF m 5 #[.val (.long q0), .second] [(.long q0), (.ref b1), (.ref b1)])) rfl (hb hby d1_5) _ kX)
  obtain ⟨_, _, ⟨T2, L2, k2, n2⟩, -, X2, ⟨Lc2, hQ2, l2, y2, z2⟩, st2⟩ := X1.specialBack hx (y := (⟨"com/example/turnstile/turnstile/QueuedWait$Answer", "<init>", "(JJ)V"⟩ : MethodName)) rfl hown (mvT hZ (hw _ (List.mem_of_getElem? (i := 7) rfl))) (mvT hZ (hw _ (List.mem_of_getElem? (i := 8) rfl))) (mvT hZ (hw _ (List.mem_of_getElem? (i := 9) rfl))) (by decide) (backOf (W := 1) (rm2 l Z aV hw [] b1 q0 (-1 : Int64) (.long (0 : Int64)) (.long (0 : Int64)) h1 n0 zn1 E_b1 F_token_b1 F_leaseExpiresInMillis_b1 g_b1) hZ (hw _ (List.mem_of_getElem? (i := 9) rfl)) (hw _ (List.mem_of_getElem? (i := 2) rfl)) (by decide) (by decide)) (g := (mkF m 8 #[.val (.long q0), .second] [(.long (-1 : Int64)), (.long q0), (.ref b1), (.ref b1)])) rfl (by rw [hml]; rfl) (Steps.refl _) (a := b1) (argsL := [(.long q0), (.long (-1 : Int64))]) (rest := [(.ref b1)]) (lenOf pd__JJ_V rfl) rfl (by show 2 * 0 + _ ≤ _; exact Nat.le_of_eq rfl) (hb hby d1_8) (fun _ _ => ⟨rfl, e1, (by decide : 1 + 0 ≤ _), (by decide : 2 + 0 ≤ _)⟩)
  dsimp only [Pt.U, Pt.locs, Pt.cells, Pt.slots] at X2 l2 y2 z2 st2 hQ2
  subst l2 y2 z2
  obtain ⟨rfl, N2q, Kq2, E_b1_p, F_token_b1_p⟩ := hQ2
  have N2 := Fr.app N0 N2q
  have E_b1 := E_b1.keep Kq2
  have K2 := K1.trans Kq2 (allS (P := fun x => x ∈ ([] : List Addr) ∨ h0.size ≤ x) (Or.inr sz_b1) all0)
  have zn2 : n0 ≤ T2.heap.size := Nat.le_trans zn1 Kq2.1
  have E_b1 := E_b1_p
  have F_token_b1 := F_token_b1_p
  refine OGo.go (B := T2.setTop (mkF m 11 #[.val (.long q0), .second] [(.ref b1)])) ?_ (fun tX kX => st2.trans kX)
  refine OGo.ret X2 (v := (some (.ref b1))) (fun h => by rw [Bd.returns] at h; cases h) (BodyLoose.notSynchronized Bd) (fun fs hr => retOut X2 hx Bd.returns rfl (Or.inr (Or.inr (Or.inr (Or.inr ⟨rfl, rfl, rfl⟩)))) (hb hby d1_11) hr) (Q := Q1 Z q0 h0 n0) ?_ (by decide) (by decide)
  show Q1 Z q0 h0 n0 _ T2.heap _
  exact ⟨b1, rfl, N2, K2, sz_b1, E_b1, F_token_b1⟩
theorem d5_0 : decode jdk_2650_method_2_code 0 = .ok (.getstatic 17, 3) := by decide +kernel
theorem d5_3 : decode jdk_2650_method_2_code 3 = .ok (.areturn, 1) := by decide +kernel
theorem pn_java_util_OptionalLong : plainName "java/util/OptionalLong" = true := by first | (simp [plainName, overriddenIn]; done) | decide +kernel
def Q5 (Z : State) (w : Addr) (h0 : Heap) (n0 : Nat) (v : Option Value) (h : Heap) (L : List Loc) : Prop := v = some (.ref w) ∧ Fr n0 L ∧ h = h0
def P5 (Z : State) (w : Addr) (h0 : Heap) (n0 : Nat) (s : State) (o : Outcome) (U' : State) : Prop := ∃ v L, o = .returned v ∧ Q5 Z w h0 n0 v U'.heap L ∧ FrameEnd s o U' L ({ frames := 0, cells := 0, slots := 0, locals := 0 } : Room).cells ({ frames := 0, cells := 0, slots := 0, locals := 0 } : Room).slots
set_option maxRecDepth 65536 in
set_option maxHeartbeats 40000000 in
theorem rm5 (l : Launch) (Z : State) (aV : Array Value) (hw : ∀ d ∈ tables_1, d.before aV Z = true) (ws : List Jvm.Cond) (w : Addr) (h0 : Heap) (n0 : Nat) (Z0 : n0 ≤ h0.size) (S_EMPTY : Sta Z h0 "java/util/OptionalLong" "EMPTY" "Ljava/util/OptionalLong;" (.ref w)) :
    MetFree l (⟨"java/util/OptionalLong", "empty", "()Ljava/util/OptionalLong;"⟩ : MethodName) (head1 (Jvm.Cond.code (⟨"java/util/OptionalLong", "empty", "()Ljava/util/OptionalLong;"⟩ : MethodName) jdk_2650_method_2_code 0 (some (.object "java/util/OptionalLong")) :: ws) ({ frames := 0, cells := 0, slots := 0, locals := 0 } : Room)) (fun a U => a = #[] ∧ Z.Warmed39 U.vm ∧ U.heap = h0) (fun _ _ _ _ _ => True) (fun _ U o U' => ∃ v L, o = .returned v ∧ Q5 Z w h0 n0 v U'.heap L ∧ FrameEnd U o U' L ({ frames := 0, cells := 0, slots := 0, locals := 0 } : Room).cells ({ frames := 0, cells := 0, slots := 0, locals := 0 } : Room).slots) := by
  refine MetFree.of_bodySF (plainFor_of_name pn_java_util_OptionalLong) hisR ?_
  intro p e s m args below meth c s₁ Bd hml0 hP hK
  obtain ⟨rfl, hZ, hh⟩ := hP
  have hx := Bd.exec
  have hby := Bd.bytes
  have hml : c.maxLocals = 0 := hml0
  have hown : s.vm.findClass "java/util/OptionalLong" = some m.cls := findClass_of_methodNamed Bd.named
  have hnm := (name_of_methodNamed Bd.named Bd.method).1
  have X0 : Stand p l e ({ frames := 0, cells := 0, slots := 0, locals := 0 } : Room) s m #[] below meth c s₁ [] 0 0 := Stand.of_body Bd
  have e0 : s₁.heap = h0 := by rw [← hh, Bd.state]; rfl
  have efx : entryFrame m #[] 0 = mkF m 0 #[] [] := by first | (simp [entryFrame, mkF, argsToLocals, Value.category]; done) | rfl
  have N0 := Fr.nil n0
  have K0 : Keep h0 h0 [] := Keep.refl h0 _
  refine OGo.start (g' := mkF m 0 #[] []) (efx) ?_
  show OGo p.tables e below (P5 Z w h0 n0 s) (s₁.setTop (mkF m 0 #[] []))
  obtain ⟨T1, X1, e1, st1⟩ := getS2 X0 hx hZ hown (host := "") (Or.inl (hw _ (List.mem_of_getElem? (i := 26) rfl))) Via.refl e0 S_EMPTY (g := (mkF m 0 #[] [])) rfl (hb hby d5_0)
  refine OGo.go (B := T1.setTop (mkF m 3 #[] [(.ref w)])) ?_ st1
  refine OGo.ret X1 (v := (some (.ref w))) (fun h => by rw [Bd.returns] at h; cases h) (BodyLoose.notSynchronized Bd) (fun fs hr => retOut X1 hx Bd.returns rfl (Or.inr (Or.inr (Or.inr (Or.inr ⟨rfl, rfl, rfl⟩)))) (hb hby d5_3) hr) (Q := Q5 Z w h0 n0) ?_ (by decide) (by decide)
  show Q5 Z w h0 n0 _ T1.heap _
  rw [e1]
  exact ⟨rfl, N0, rfl⟩
theorem d7_0 : decode jdk_2650_method_3_code 0 = .ok (.aload_n 0, 1) := by decide +kernel
theorem d7_1 : decode jdk_2650_method_3_code 1 = .ok (.invokespecial 1, 3) := by decide +kernel
theorem d7_4 : decode jdk_2650_method_3_code 4 = .ok (.aload_n 0, 1) := by decide +kernel
theorem d7_5 : decode jdk_2650_method_3_code 5 = .ok (.iconst 1, 1) := by decide +kernel
theorem d7_6 : decode jdk_2650_method_3_code 6 = .ok (.putfield 7, 3) := by decide +kernel
theorem d7_9 : decode jdk_2650_method_3_code 9 = .ok (.aload_n 0, 1) := by decide +kernel
theorem d7_10 : decode jdk_2650_method_3_code 10 = .ok (.lload_n 1, 1) := by decide +kernel
theorem d7_11 : decode jdk_2650_method_3_code 11 = .ok (.putfield 13, 3) := by decide +kernel
theorem d7_14 : decode jdk_2650_method_3_code 14 = .ok (.return_, 1) := by decide +kernel
def Q7 (Z : State) (a0 : Addr) (q1 : Int64) (u1 : Value) (u2 : Value) (h0 : Heap) (n0 : Nat) (v : Option Value) (h : Heap) (L : List Loc) : Prop := v = none ∧ Fr n0 L ∧ Keep h0 h [a0] ∧ Exa Z h a0 "java/util/OptionalLong" ∧ Fld Z h a0 "java/util/OptionalLong" "isPresent" "Z" (.int (1 : Int32)) ∧ Fld Z h a0 "java/util/OptionalLong" "value" "J" (.long q1)
def P7 (Z : State) (a0 : Addr) (q1 : Int64) (u1 : Value) (u2 : Value) (h0 : Heap) (n0 : Nat) (s : State) (o : Outcome) (U' : State) : Prop := ∃ v L, o = .returned v ∧ Q7 Z a0 q1 u1 u2 h0 n0 v U'.heap L ∧ FrameEnd s o U' L ({ frames := 1, cells := 0, slots := 0, locals := 12 } : Room).cells ({ frames := 1, cells := 0, slots := 0, locals := 12 } : Room).slots
set_option maxRecDepth 65536 in
set_option maxHeartbeats 40000000 in
theorem rm7 (l : Launch) (Z : State) (aV : Array Value) (hw : ∀ d ∈ tables_1, d.before aV Z = true) (ws : List Jvm.Cond) (a0 : Addr) (q1 : Int64) (u1 : Value) (u2 : Value) (h0 : Heap) (n0 : Nat) (Z0 : n0 ≤ h0.size) (E_a0 : Exa Z h0 a0 "java/util/OptionalLong") (F_isPresent_a0 : Fld Z h0 a0 "java/util/OptionalLong" "isPresent" "Z" u1) (F_value_a0 : Fld Z h0 a0 "java/util/OptionalLong" "value" "J" u2) (ga : n0 ≤ a0) :
    MetFree l (⟨"java/util/OptionalLong", "<init>", "(J)V"⟩ : MethodName) (head1 (Jvm.Cond.code (⟨"java/util/OptionalLong", "<init>", "(J)V"⟩ : MethodName) jdk_2650_method_3_code 3 none :: ws) ({ frames := 1, cells := 0, slots := 0, locals := 12 } : Room)) (fun a U => a = #[(.ref a0), (.long q1)] ∧ Z.Warmed39 U.vm ∧ U.heap = h0) (fun _ _ _ _ _ => True) (fun _ U o U' => ∃ v L, o = .returned v ∧ Q7 Z a0 q1 u1 u2 h0 n0 v U'.heap L ∧ FrameEnd U o U' L ({ frames := 1, cells := 0, slots := 0, locals := 12 } : Room).cells ({ frames := 1, cells := 0, slots := 0, locals := 12 } : Room).slots) := by
  refine MetFree.of_bodySF (plainFor_of_name pn_java_util_OptionalLong) hisR ?_
  intro p e s m args below meth c s₁ Bd hml0 hP hK
  obtain ⟨rfl, hZ, hh⟩ := hP
  have hx := Bd.exec
  have hby := Bd.bytes
  have hml : c.maxLocals = 3 := hml0
  have hown : s.vm.findClass "java/util/OptionalLong" = some m.cls := findClass_of_methodNamed Bd.named
  have hnm := (name_of_methodNamed Bd.named Bd.method).1
  have X0 : Stand p l e ({ frames := 1, cells := 0, slots := 0, locals := 12 } : Room) s m #[(.ref a0), (.long q1)] below meth c s₁ [] 0 0 := Stand.of_body Bd
  have e0 : s₁.heap = h0 := by rw [← hh, Bd.state]; rfl
  have efx : entryFrame m #[(.ref a0), (.long q1)] 3 = mkF m 0 #[.val (.ref a0), .val (.long q1), .second] [] := by first | (simp [entryFrame, mkF, argsToLocals, Value.category]; done) | rfl
  have N0 := Fr.nil n0
  have K0 : Keep h0 h0 [a0] := Keep.refl h0 _
  refine OGo.start (g' := mkF m 0 #[.val (.ref a0), .val (.long q1), .second] []) (efx) ?_
  show OGo p.tables e below (P7 Z a0 q1 u1 u2 h0 n0 s) (s₁.setTop (mkF m 0 #[.val (.ref a0), .val (.long q1), .second] []))
  refine OGo.go (B := s₁.setTop (mkF m 1 #[.val (.ref a0), .val (.long q1), .second] [(.ref a0)])) ?_ (fun tX kX => XS.aloadN X0.here hx rfl (hb hby d7_0) rfl rfl kX)
  obtain ⟨T1, X1, e1, st1⟩ := initO X0 hx hZ hown (hw _ (List.mem_of_getElem? (i := 36) rfl)) (hw _ (List.mem_of_getElem? (i := 11) rfl)) (hw _ (List.mem_of_getElem? (i := 12) rfl)) e0 (g := (mkF m 1 #[.val (.ref a0), .val (.long q1), .second] [(.ref a0)])) rfl (by rw [hml]; rfl) rfl (hb hby d7_1) (by decide) (W := 0) (by show 2 * 0 + _ ≤ _; exact Nat.le_of_eq rfl) (by decide)
  refine OGo.go (B := T1.setTop (mkF m 4 #[.val (.ref a0), .val (.long q1), .second] [])) ?_ st1
  refine OGo.go (B := T1.setTop (mkF m 5 #[.val (.ref a0), .val (.long q1), .second] [(.ref a0)])) ?_ (fun tX kX => XS.aloadN X1.here hx rfl (hb hby d7_4) rfl rfl kX)
  refine OGo.go (B := T1.setTop (mkF m 6 #[.val (.ref a0), .val (.long q1), .second] [(.int (1 : Int32)), (.ref a0)])) ?_ (fun tX kX => XS.iconst X1.here hx rfl (hb hby d7_5) kX)
  obtain ⟨T2, h2, X2, e2, W2, st2⟩ := putF X1 hx hZ hown (host := "") (Or.inl (hw _ (List.mem_of_getElem? (i := 37) rfl))) Via.refl e1 F_isPresent_a0 E_a0 (Or.inr ⟨(hw _ (List.mem_of_getElem? (i := 38) rfl)), rfl, hnm⟩) (hw _ (List.mem_of_getElem? (i := 31) rfl)) (ty := .boolean) (by decide) rfl rfl (g := (mkF m 6 #[.val (.ref a0), .val (.long q1), .second] [(.int (1 : Int32)), (.ref a0)])) rfl rfl (hb hby d7_6)
  have E_a0 := E_a0.wr W2
  have F_isPresent_a0 := F_isPresent_a0.same W2
  have F_value_a0 := F_value_a0.other W2 (Or.inr (slot_ne (Or.inr (hw _ (List.mem_of_getElem? (i := 40) rfl))) (Or.inr (hw _ (List.mem_of_getElem? (i := 38) rfl))) (by decide) (t := .long) (t' := .boolean) (by decide) (by decide)))
  have K2 := K0.wr W2 (Or.inl (List.mem_of_getElem? (i := 0) rfl))
  have zn2 : n0 ≤ h2.size := Nat.le_trans Z0 (Keep.of_wr W2).1
  have N2 := Fr.snoc X2 N0 ga
  refine OGo.go (B := T2.setTop (mkF m 9 #[.val (.ref a0), .val (.long q1), .second] [])) ?_ st2
  refine OGo.go (B := T2.setTop (mkF m 10 #[.val (.ref a0), .val (.long q1), .second] [(.ref a0)])) ?_ (fun tX kX => XS.aloadN X2.here hx rfl (hb hby d7_9) rfl rfl kX)
  refine OGo.go (B := T2.setTop (mkF m 11 #[.val (.ref a0), .val (.long q1), .second] [(.long q1), (.ref a0)])) ?_ (fun tX kX => XS.lloadN X2.here hx rfl (hb hby d7_10) rfl kX)
  obtain ⟨T3, h3, X3, e3, W3, st3⟩ := putF X2 hx hZ hown (host := "") (Or.inl (hw _ (List.mem_of_getElem? (i := 39) rfl))) Via.refl e2 F_value_a0 E_a0 (Or.inr ⟨(hw _ (List.mem_of_getElem? (i := 40) rfl)), rfl, hnm⟩) (hw _ (List.mem_of_getElem? (i := 31) rfl)) (ty := .long) (by decide) rfl rfl (g := (mkF m 11 #[.val (.ref a0), .val (.long q1), .second] [(.long q1), (.ref a0)])) rfl rfl (hb hby d7_11)
  have E_a0 := E_a0.wr W3
  have F_isPresent_a0 := F_isPresent_a0.other W3 (Or.inr (slot_ne (Or.inr (hw _ (List.mem_of_getElem? (i := 38) rfl))) (Or.inr (hw _ (List.mem_of_getElem? (i := 40) rfl))) (by decide) (t := .boolean) (t' := .long) (by decide) (by decide)))
  have F_value_a0 := F_value_a0.same W3
  have K3 := K2.wr W3 (Or.inl (List.mem_of_getElem? (i := 0) rfl))
  have zn3 : n0 ≤ h3.size := Nat.le_trans zn2 (Keep.of_wr W3).1
  have N3 := Fr.snoc X3 N2 ga
  refine OGo.go (B := T3.setTop (mkF m 14 #[.val (.ref a0), .val (.long q1), .second] [])) ?_ st3
  refine OGo.ret X3 (v := none) (fun _ => rfl) (BodyLoose.notSynchronized Bd) (fun fs hr => X3.returnOut hx Bd.returns (hb hby d7_14) hr) (Q := Q7 Z a0 q1 u1 u2 h0 n0) ?_ (by decide) (by decide)
  show Q7 Z a0 q1 u1 u2 h0 n0 _ T3.heap _
  rw [e3]
  exact ⟨rfl, N3, K3, E_a0, F_isPresent_a0, F_value_a0⟩
theorem d6_0 : decode jdk_2650_method_4_code 0 = .ok (.new 8, 3) := by decide +kernel
theorem d6_3 : decode jdk_2650_method_4_code 3 = .ok (.dup, 1) := by decide +kernel
theorem d6_4 : decode jdk_2650_method_4_code 4 = .ok (.lload_n 0, 1) := by decide +kernel
theorem d6_5 : decode jdk_2650_method_4_code 5 = .ok (.invokespecial 21, 3) := by decide +kernel
theorem pd__J_V : parseMethodDescriptor "(J)V" = some ⟨[.long], none⟩ := by decide +kernel
theorem d6_8 : decode jdk_2650_method_4_code 8 = .ok (.areturn, 1) := by decide +kernel
def Q6 (Z : State) (q0 : Int64) (h0 : Heap) (n0 : Nat) (v : Option Value) (h : Heap) (L : List Loc) : Prop := ∃ (b : Addr), v = some (.ref b) ∧ Fr n0 L ∧ Keep h0 h [] ∧ h0.size ≤ b ∧ Exa Z h b "java/util/OptionalLong" ∧ Fld Z h b "java/util/OptionalLong" "isPresent" "Z" (.int (1 : Int32)) ∧ Fld Z h b "java/util/OptionalLong" "value" "J" (.long q0)
def P6 (Z : State) (q0 : Int64) (h0 : Heap) (n0 : Nat) (s : State) (o : Outcome) (U' : State) : Prop := ∃ v L, o = .returned v ∧ Q6 Z q0 h0 n0 v U'.heap L ∧ FrameEnd s o U' L ({ frames := 2, cells := 1, slots := 2, locals := 27 } : Room).cells ({ frames := 2, cells := 1, slots := 2, locals := 27 } : Room).slots
set_option maxRecDepth 65536 in
set_option maxHeartbeats 40000000 in
theorem rm6 (l : Launch) (Z : State) (aV : Array Value) (hw : ∀ d ∈ tables_1, d.before aV Z = true) (ws : List Jvm.Cond) (q0 : Int64) (h0 : Heap) (n0 : Nat) (Z0 : n0 ≤ h0.size) :
    MetFree l (⟨"java/util/OptionalLong", "of", "(J)Ljava/util/OptionalLong;"⟩ : MethodName) (head1 (Jvm.Cond.code (⟨"java/util/OptionalLong", "of", "(J)Ljava/util/OptionalLong;"⟩ : MethodName) jdk_2650_method_4_code 2 (some (.object "java/util/OptionalLong")) :: ws) ({ frames := 2, cells := 1, slots := 2, locals := 27 } : Room)) (fun a U => a = #[(.long q0)] ∧ Z.Warmed39 U.vm ∧ U.heap = h0) (fun _ _ _ _ _ => True) (fun _ U o U' => ∃ v L, o = .returned v ∧ Q6 Z q0 h0 n0 v U'.heap L ∧ FrameEnd U o U' L ({ frames := 2, cells := 1, slots := 2, locals := 27 } : Room).cells ({ frames := 2, cells := 1, slots := 2, locals := 27 } : Room).slots) := by
  refine MetFree.of_bodySF (plainFor_of_name pn_java_util_OptionalLong) hisR ?_
  intro p e s m args below meth c s₁ Bd hml0 hP hK
  obtain ⟨rfl, hZ, hh⟩ := hP
  have hx := Bd.exec
  have hby := Bd.bytes
  have hml : c.maxLocals = 2 := hml0
  have hown : s.vm.findClass "java/util/OptionalLong" = some m.cls := findClass_of_methodNamed Bd.named
  have hnm := (name_of_methodNamed Bd.named Bd.method).1
  have X0 : Stand p l e ({ frames := 2, cells := 1, slots := 2, locals := 27 } : Room) s m #[(.long q0)] below meth c s₁ [] 0 0 := Stand.of_body Bd
  have e0 : s₁.heap = h0 := by rw [← hh, Bd.state]; rfl
  have efx : entryFrame m #[(.long q0)] 2 = mkF m 0 #[.val (.long q0), .second] [] := by first | (simp [entryFrame, mkF, argsToLocals, Value.category]; done) | rfl
  have N0 := Fr.nil n0
  have K0 : Keep h0 h0 [] := Keep.refl h0 _
  refine OGo.start (g' := mkF m 0 #[.val (.long q0), .second] []) (efx) ?_
  show OGo p.tables e below (P6 Z q0 h0 n0 s) (s₁.setTop (mkF m 0 #[.val (.long q0), .second] []))
  obtain ⟨T1, h1, X1, e1, E1, A1, D1, C1, st1⟩ := newO X0 hx hZ hown (hw _ (List.mem_of_getElem? (i := 30) rfl)) (hw _ (List.mem_of_getElem? (i := 31) rfl)) (hw _ (List.mem_of_getElem? (i := 24) rfl)) e0 (g := (mkF m 0 #[.val (.long q0), .second] [])) rfl (hb hby d6_0) (by decide) (by decide)
  obtain ⟨b1, g1⟩ : ∃ z, z = h0.size := ⟨_, rfl⟩
  rw [← g1] at A1 D1 st1 C1
  have g_b1 : n0 ≤ b1 := Nat.le_trans Z0 (Nat.le_of_eq g1.symm)
  have sz_b1 : h0.size ≤ b1 := Nat.le_trans K0.1 (Nat.le_of_eq g1.symm)
  have zn1 : n0 ≤ h1.size := Nat.le_trans Z0 E1.1
  have K1 := K0.ext E1
  have E_b1 := A1
  have F_isPresent_b1 : Fld Z h1 b1 "java/util/OptionalLong" "isPresent" "Z" (.int (0 : Int32)) := D1 (Or.inr (hw _ (List.mem_of_getElem? (i := 38) rfl))) (ty := .boolean) (by decide)
  have F_value_b1 : Fld Z h1 b1 "java/util/OptionalLong" "value" "J" (.long (0 : Int64)) := D1 (Or.inr (hw _ (List.mem_of_getElem? (i := 40) rfl))) (ty := .long) (by decide)
  refine OGo.go (B := T1.setTop (mkF m 3 #[.val (.long q0), .second] [(.ref b1)])) ?_ st1
  refine OGo.go (B := T1.setTop (mkF m 4 #[.val (.long q0), .second] [(.ref b1), (.ref b1)])) ?_ (fun tX kX => XS.dup X1.here hx rfl (hb hby d6_3) rfl rfl kX)
  refine OGo.go (B := T1.setTop (mkF m 5 #[.val (.long q0), .second] [(.long q0), (.ref b1), (.ref b1)])) ?_ (fun tX kX => XS.lloadN X1.here hx rfl (hb hby d6_4) rfl kX)
  obtain ⟨_, _, ⟨T2, L2, k2, n2⟩, -, X2, ⟨Lc2, hQ2, l2, y2, z2⟩, st2⟩ := X1.specialBack hx (y := (⟨"java/util/OptionalLong", "<init>", "(J)V"⟩ : MethodName)) rfl hown (mvT hZ (hw _ (List.mem_of_getElem? (i := 32) rfl))) (mvT hZ (hw _ (List.mem_of_getElem? (i := 33) rfl))) (mvT hZ (hw _ (List.mem_of_getElem? (i := 35) rfl))) (by decide) (backOf (W := 1) (rm7 l Z aV hw [] b1 q0 (.int (0 : Int32)) (.long (0 : Int64)) h1 n0 zn1 E_b1 F_isPresent_b1 F_value_b1 g_b1) hZ (hw _ (List.mem_of_getElem? (i := 35) rfl)) (hw _ (List.mem_of_getElem? (i := 24) rfl)) (by decide) (by decide)) (g := (mkF m 5 #[.val (.long q0), .second] [(.long q0), (.ref b1), (.ref b1)])) rfl (by rw [hml]; rfl) (Steps.refl _) (a := b1) (argsL := [(.long q0)]) (rest := [(.ref b1)]) (lenOf pd__J_V rfl) rfl (by show 2 * 0 + _ ≤ _; exact Nat.le_of_eq rfl) (hb hby d6_5) (fun _ _ => ⟨rfl, e1, (by decide : 1 + 0 ≤ _), (by decide : 2 + 0 ≤ _)⟩)
  dsimp only [Pt.U, Pt.locs, Pt.cells, Pt.slots] at X2 l2 y2 z2 st2 hQ2
  subst l2 y2 z2
  obtain ⟨rfl, N2q, Kq2, E_b1_p, F_isPresent_b1_p, F_value_b1_p⟩ := hQ2
  have N2 := Fr.app N0 N2q
  have E_b1 := E_b1.keep Kq2
  have K2 := K1.trans Kq2 (allS (P := fun x => x ∈ ([] : List Addr) ∨ h0.size ≤ x) (Or.inr sz_b1) all0)
  have zn2 : n0 ≤ T2.heap.size := Nat.le_trans zn1 Kq2.1
  have E_b1 := E_b1_p
  have F_isPresent_b1 := F_isPresent_b1_p
  have F_value_b1 := F_value_b1_p
  refine OGo.go (B := T2.setTop (mkF m 8 #[.val (.long q0), .second] [(.ref b1)])) ?_ (fun tX kX => st2.trans kX)
  refine OGo.ret X2 (v := (some (.ref b1))) (fun h => by rw [Bd.returns] at h; cases h) (BodyLoose.notSynchronized Bd) (fun fs hr => retOut X2 hx Bd.returns rfl (Or.inr (Or.inr (Or.inr (Or.inr ⟨rfl, rfl, rfl⟩)))) (hb hby d6_8) hr) (Q := Q6 Z q0 h0 n0) ?_ (by decide) (by decide)
  show Q6 Z q0 h0 n0 _ T2.heap _
  exact ⟨b1, rfl, N2, K2, sz_b1, E_b1, F_isPresent_b1, F_value_b1⟩
theorem d9_0 : decode jdk_2650_method_6_code 0 = .ok (.aload_n 0, 1) := by decide +kernel
theorem d9_1 : decode jdk_2650_method_6_code 1 = .ok (.getfield 7, 3) := by decide +kernel
theorem d9_4 : decode jdk_2650_method_6_code 4 = .ok (.ireturn, 1) := by decide +kernel
def Q9 (Z : State) (a0 : Addr) (i : Int32) (h0 : Heap) (n0 : Nat) (v : Option Value) (h : Heap) (L : List Loc) : Prop := v = some (.int (i &&& 1)) ∧ Fr n0 L ∧ h = h0
def P9 (Z : State) (a0 : Addr) (i : Int32) (h0 : Heap) (n0 : Nat) (s : State) (o : Outcome) (U' : State) : Prop := ∃ v L, o = .returned v ∧ Q9 Z a0 i h0 n0 v U'.heap L ∧ FrameEnd s o U' L ({ frames := 0, cells := 0, slots := 0, locals := 0 } : Room).cells ({ frames := 0, cells := 0, slots := 0, locals := 0 } : Room).slots
set_option maxRecDepth 65536 in
set_option maxHeartbeats 40000000 in
theorem rm9 (l : Launch) (Z : State) (aV : Array Value) (hw : ∀ d ∈ tables_1, d.before aV Z = true) (ws : List Jvm.Cond) (a0 : Addr) (i : Int32) (h0 : Heap) (n0 : Nat) (Z0 : n0 ≤ h0.size) (F_isPresent_a0 : Fld Z h0 a0 "java/util/OptionalLong" "isPresent" "Z" (.int i)) :
    MetFree l (⟨"java/util/OptionalLong", "isPresent", "()Z"⟩ : MethodName) (head1 (Jvm.Cond.code (⟨"java/util/OptionalLong", "isPresent", "()Z"⟩ : MethodName) jdk_2650_method_6_code 1 (some .boolean) :: ws) ({ frames := 0, cells := 0, slots := 0, locals := 0 } : Room)) (fun a U => a = #[(.ref a0)] ∧ Z.Warmed39 U.vm ∧ U.heap = h0) (fun _ _ _ _ _ => True) (fun _ U o U' => ∃ v L, o = .returned v ∧ Q9 Z a0 i h0 n0 v U'.heap L ∧ FrameEnd U o U' L ({ frames := 0, cells := 0, slots := 0, locals := 0 } : Room).cells ({ frames := 0, cells := 0, slots := 0, locals := 0 } : Room).slots) := by
  refine MetFree.of_bodySF (plainFor_of_name pn_java_util_OptionalLong) hisR ?_
  intro p e s m args below meth c s₁ Bd hml0 hP hK
  obtain ⟨rfl, hZ, hh⟩ := hP
  have hx := Bd.exec
  have hby := Bd.bytes
  have hml : c.maxLocals = 1 := hml0
  have hown : s.vm.findClass "java/util/OptionalLong" = some m.cls := findClass_of_methodNamed Bd.named
  have hnm := (name_of_methodNamed Bd.named Bd.method).1
  have X0 : Stand p l e ({ frames := 0, cells := 0, slots := 0, locals := 0 } : Room) s m #[(.ref a0)] below meth c s₁ [] 0 0 := Stand.of_body Bd
  have e0 : s₁.heap = h0 := by rw [← hh, Bd.state]; rfl
  have efx : entryFrame m #[(.ref a0)] 1 = mkF m 0 #[.val (.ref a0)] [] := by first | (simp [entryFrame, mkF, argsToLocals, Value.category]; done) | rfl
  have N0 := Fr.nil n0
  have K0 : Keep h0 h0 [] := Keep.refl h0 _
  refine OGo.start (g' := mkF m 0 #[.val (.ref a0)] []) (efx) ?_
  show OGo p.tables e below (P9 Z a0 i h0 n0 s) (s₁.setTop (mkF m 0 #[.val (.ref a0)] []))
  refine OGo.go (B := s₁.setTop (mkF m 1 #[.val (.ref a0)] [(.ref a0)])) ?_ (fun tX kX => XS.aloadN X0.here hx rfl (hb hby d9_0) rfl rfl kX)
  obtain ⟨T1, X1, e1, st1⟩ := getF X0 hx hZ hown (host := "") (Or.inl (hw _ (List.mem_of_getElem? (i := 37) rfl))) Via.refl e0 F_isPresent_a0 (g := (mkF m 1 #[.val (.ref a0)] [(.ref a0)])) rfl rfl (hb hby d9_1)
  refine OGo.go (B := T1.setTop (mkF m 4 #[.val (.ref a0)] [(.int i)])) ?_ st1
  refine OGo.ret X1 (v := (some (.int (i &&& 1)))) (fun h => by rw [Bd.returns] at h; cases h) (BodyLoose.notSynchronized Bd) (fun fs hr => retN X1 hx (t := .boolean) (z := i) Bd.returns (by simp) (hb hby d9_4) hr) (Q := Q9 Z a0 i h0 n0) ?_ (by decide) (by decide)
  show Q9 Z a0 i h0 n0 _ T1.heap _
  rw [e1]
  exact ⟨rfl, N0, rfl⟩
theorem d10_0 : decode jdk_2650_method_5_code 0 = .ok (.aload_n 0, 1) := by decide +kernel
theorem d10_1 : decode jdk_2650_method_5_code 1 = .ok (.getfield 7, 3) := by decide +kernel
theorem d10_4 : decode jdk_2650_method_5_code 4 = .ok (.ifCond .ne 13, 3) := by decide +kernel
theorem d10_17 : decode jdk_2650_method_5_code 17 = .ok (.aload_n 0, 1) := by decide +kernel
theorem d10_18 : decode jdk_2650_method_5_code 18 = .ok (.getfield 13, 3) := by decide +kernel
theorem d10_21 : decode jdk_2650_method_5_code 21 = .ok (.lreturn, 1) := by decide +kernel
def Q10 (Z : State) (a0 : Addr) (i : Int32) (x : Int64) (h0 : Heap) (n0 : Nat) (v : Option Value) (h : Heap) (L : List Loc) : Prop := v = some (.long x) ∧ Fr n0 L ∧ h = h0
def P10 (Z : State) (a0 : Addr) (i : Int32) (x : Int64) (h0 : Heap) (n0 : Nat) (s : State) (o : Outcome) (U' : State) : Prop := ∃ v L, o = .returned v ∧ Q10 Z a0 i x h0 n0 v U'.heap L ∧ FrameEnd s o U' L ({ frames := 0, cells := 0, slots := 0, locals := 0 } : Room).cells ({ frames := 0, cells := 0, slots := 0, locals := 0 } : Room).slots
set_option maxRecDepth 65536 in
set_option maxHeartbeats 40000000 in
theorem rm10 (l : Launch) (Z : State) (aV : Array Value) (hw : ∀ d ∈ tables_1, d.before aV Z = true) (ws : List Jvm.Cond) (a0 : Addr) (i : Int32) (x : Int64) (h0 : Heap) (n0 : Nat) (Z0 : n0 ≤ h0.size) (F_isPresent_a0 : Fld Z h0 a0 "java/util/OptionalLong" "isPresent" "Z" (.int i)) (F_value_a0 : Fld Z h0 a0 "java/util/OptionalLong" "value" "J" (.long x)) (hi : ¬ i = 0) :
    MetFree l (⟨"java/util/OptionalLong", "getAsLong", "()J"⟩ : MethodName) (head1 (Jvm.Cond.code (⟨"java/util/OptionalLong", "getAsLong", "()J"⟩ : MethodName) jdk_2650_method_5_code 1 (some .long) :: ws) ({ frames := 0, cells := 0, slots := 0, locals := 0 } : Room)) (fun a U => a = #[(.ref a0)] ∧ Z.Warmed39 U.vm ∧ U.heap = h0) (fun _ _ _ _ _ => True) (fun _ U o U' => ∃ v L, o = .returned v ∧ Q10 Z a0 i x h0 n0 v U'.heap L ∧ FrameEnd U o U' L ({ frames := 0, cells := 0, slots := 0, locals := 0 } : Room).cells ({ frames := 0, cells := 0, slots := 0, locals := 0 } : Room).slots) := by
  refine MetFree.of_bodySF (plainFor_of_name pn_java_util_OptionalLong) hisR ?_
  intro p e s m args below meth c s₁ Bd hml0 hP hK
  obtain ⟨rfl, hZ, hh⟩ := hP
  have hx := Bd.exec
  have hby := Bd.bytes
  have hml : c.maxLocals = 1 := hml0
  have hown : s.vm.findClass "java/util/OptionalLong" = some m.cls := findClass_of_methodNamed Bd.named
  have hnm := (name_of_methodNamed Bd.named Bd.method).1
  have X0 : Stand p l e ({ frames := 0, cells := 0, slots := 0, locals := 0 } : Room) s m #[(.ref a0)] below meth c s₁ [] 0 0 := Stand.of_body Bd
  have e0 : s₁.heap = h0 := by rw [← hh, Bd.state]; rfl
  have efx : entryFrame m #[(.ref a0)] 1 = mkF m 0 #[.val (.ref a0)] [] := by first | (simp [entryFrame, mkF, argsToLocals, Value.category]; done) | rfl
  have N0 := Fr.nil n0
  have K0 : Keep h0 h0 [] := Keep.refl h0 _
  refine OGo.start (g' := mkF m 0 #[.val (.ref a0)] []) (efx) ?_
  show OGo p.tables e below (P10 Z a0 i x h0 n0 s) (s₁.setTop (mkF m 0 #[.val (.ref a0)] []))
  refine OGo.go (B := s₁.setTop (mkF m 1 #[.val (.ref a0)] [(.ref a0)])) ?_ (fun tX kX => XS.aloadN X0.here hx rfl (hb hby d10_0) rfl rfl kX)
  obtain ⟨T1, X1, e1, st1⟩ := getF X0 hx hZ hown (host := "") (Or.inl (hw _ (List.mem_of_getElem? (i := 37) rfl))) Via.refl e0 F_isPresent_a0 (g := (mkF m 1 #[.val (.ref a0)] [(.ref a0)])) rfl rfl (hb hby d10_1)
  refine OGo.go (B := T1.setTop (mkF m 4 #[.val (.ref a0)] [(.int i)])) ?_ st1
  refine OGo.go (B := T1.setTop (mkF m 17 #[.val (.ref a0)] [])) ?_ (fun tX kX => XS.ifYes X1.here hx rfl (pc0 := 4) (pc' := 17) rfl (hb hby d10_4) rfl ((if0 _ _).trans (feq hi).2) (by decide) (by decide) kX)
  refine OGo.go (B := T1.setTop (mkF m 18 #[.val (.ref a0)] [(.ref a0)])) ?_ (fun tX kX => XS.aloadN X1.here hx rfl (hb hby d10_17) rfl rfl kX)
  obtain ⟨T2, X2, e2, st2⟩ := getF X1 hx hZ hown (host := "") (Or.inl (hw _ (List.mem_of_getElem? (i := 39) rfl))) Via.refl e1 F_value_a0 (g := (mkF m 18 #[.val (.ref a0)] [(.ref a0)])) rfl rfl (hb hby d10_18)
  refine OGo.go (B := T2.setTop (mkF m 21 #[.val (.ref a0)] [(.long x)])) ?_ st2
  refine OGo.ret X2 (v := (some (.long x))) (fun h => by rw [Bd.returns] at h; cases h) (BodyLoose.notSynchronized Bd) (fun fs hr => retOut X2 hx Bd.returns rfl (Or.inr (Or.inl ⟨rfl, rfl, _, rfl⟩)) (hb hby d10_21) hr) (Q := Q10 Z a0 i x h0 n0) ?_ (by decide) (by decide)
  show Q10 Z a0 i x h0 n0 _ T2.heap _
  rw [e2]
  exact ⟨rfl, N0, rfl⟩
theorem d4_0 : decode prog_11_method_4_code 0 = .ok (.invokestatic 21, 3) := by decide +kernel
theorem pd___Ljava_util_OptionalLong_ : parseMethodDescriptor "()Ljava/util/OptionalLong;" = some ⟨[], some (.object "java/util/OptionalLong")⟩ := by decide +kernel
theorem d4_3 : decode prog_11_method_4_code 3 = .ok (.astore_n 1, 1) := by decide +kernel
theorem d4_4 : decode prog_11_method_4_code 4 = .ok (.aload_n 0, 1) := by decide +kernel
theorem d4_5 : decode prog_11_method_4_code 5 = .ok (.getfield 7, 3) := by decide +kernel
theorem d4_8 : decode prog_11_method_4_code 8 = .ok (.lconst 0, 1) := by decide +kernel
theorem d4_9 : decode prog_11_method_4_code 9 = .ok (.lcmp, 1) := by decide +kernel
theorem d4_10 : decode prog_11_method_4_code 10 = .ok (.ifCond .le 11, 3) := by decide +kernel
theorem d4_13 : decode prog_11_method_4_code 13 = .ok (.aload_n 0, 1) := by decide +kernel
theorem d4_14 : decode prog_11_method_4_code 14 = .ok (.getfield 7, 3) := by decide +kernel
theorem d4_17 : decode prog_11_method_4_code 17 = .ok (.invokestatic 27, 3) := by decide +kernel
theorem pd__J_Ljava_util_OptionalLong_ : parseMethodDescriptor "(J)Ljava/util/OptionalLong;" = some ⟨[.long], some (.object "java/util/OptionalLong")⟩ := by decide +kernel
theorem d4_20 : decode prog_11_method_4_code 20 = .ok (.astore_n 1, 1) := by decide +kernel
theorem d4_21 : decode prog_11_method_4_code 21 = .ok (.aload_n 1, 1) := by decide +kernel
theorem d4_22 : decode prog_11_method_4_code 22 = .ok (.areturn, 1) := by decide +kernel
def Q4 (Z : State) (a0 : Addr) (q : Int64) (w : Addr) (wv : Int64) (h0 : Heap) (n0 : Nat) (v : Option Value) (h : Heap) (L : List Loc) : Prop := ∃ (b : Addr) (i : Int32) (x : Int64), v = some (.ref b) ∧ Fr n0 L ∧ Keep h0 h [] ∧ Exa Z h b "java/util/OptionalLong" ∧ Fld Z h b "java/util/OptionalLong" "isPresent" "Z" (.int i) ∧ Fld Z h b "java/util/OptionalLong" "value" "J" (.long x) ∧ ((0 : Int64) < q → i = 1 ∧ x = q) ∧ (¬ (0 : Int64) < q → i = 0)
def P4 (Z : State) (a0 : Addr) (q : Int64) (w : Addr) (wv : Int64) (h0 : Heap) (n0 : Nat) (s : State) (o : Outcome) (U' : State) : Prop := ∃ v L, o = .returned v ∧ Q4 Z a0 q w wv h0 n0 v U'.heap L ∧ FrameEnd s o U' L ({ frames := 3, cells := 1, slots := 2, locals := 40 } : Room).cells ({ frames := 3, cells := 1, slots := 2, locals := 40 } : Room).slots
set_option maxRecDepth 65536 in
set_option maxHeartbeats 40000000 in
theorem rm4 (l : Launch) (Z : State) (aV : Array Value) (hw : ∀ d ∈ tables_1, d.before aV Z = true) (ws : List Jvm.Cond) (a0 : Addr) (q : Int64) (w : Addr) (wv : Int64) (h0 : Heap) (n0 : Nat) (Z0 : n0 ≤ h0.size) (F_token_a0 : Fld Z h0 a0 "com/example/turnstile/turnstile/QueuedWait$Answer" "token" "J" (.long q)) (S_EMPTY : Sta Z h0 "java/util/OptionalLong" "EMPTY" "Ljava/util/OptionalLong;" (.ref w)) (E_w : Exa Z h0 w "java/util/OptionalLong") (F_isPresent_w : Fld Z h0 w "java/util/OptionalLong" "isPresent" "Z" (.int (0 : Int32))) (F_value_w : Fld Z h0 w "java/util/OptionalLong" "value" "J" (.long wv)) :
    MetFree l (⟨"com/example/turnstile/turnstile/QueuedWait$Answer", "token", "()Ljava/util/OptionalLong;"⟩ : MethodName) (head1 (Jvm.Cond.code (⟨"com/example/turnstile/turnstile/QueuedWait$Answer", "token", "()Ljava/util/OptionalLong;"⟩ : MethodName) prog_11_method_4_code 2 (some (.object "java/util/OptionalLong")) :: ws) ({ frames := 3, cells := 1, slots := 2, locals := 40 } : Room)) (fun a U => a = #[(.ref a0)] ∧ Z.Warmed39 U.vm ∧ U.heap = h0) (fun _ _ _ _ _ => True) (fun _ U o U' => ∃ v L, o = .returned v ∧ Q4 Z a0 q w wv h0 n0 v U'.heap L ∧ FrameEnd U o U' L ({ frames := 3, cells := 1, slots := 2, locals := 40 } : Room).cells ({ frames := 3, cells := 1, slots := 2, locals := 40 } : Room).slots) := by
  refine MetFree.of_bodySF (plainFor_of_name pn_com_example_turnstile_turnstile_QueuedWait_Answer) hisR ?_
  intro p e s m args below meth c s₁ Bd hml0 hP hK
  obtain ⟨rfl, hZ, hh⟩ := hP
  have hx := Bd.exec
  have hby := Bd.bytes
  have hml : c.maxLocals = 2 := hml0
  have hown : s.vm.findClass "com/example/turnstile/turnstile/QueuedWait$Answer" = some m.cls := findClass_of_methodNamed Bd.named
  have hnm := (name_of_methodNamed Bd.named Bd.method).1
  have X0 : Stand p l e ({ frames := 3, cells := 1, slots := 2, locals := 40 } : Room) s m #[(.ref a0)] below meth c s₁ [] 0 0 := Stand.of_body Bd
  have e0 : s₁.heap = h0 := by rw [← hh, Bd.state]; rfl
  have efx : entryFrame m #[(.ref a0)] 2 = mkF m 0 #[.val (.ref a0), .unset] [] := by first | (simp [entryFrame, mkF, argsToLocals, Value.category]; done) | rfl
  have N0 := Fr.nil n0
  have K0 : Keep h0 h0 [] := Keep.refl h0 _
  refine OGo.start (g' := mkF m 0 #[.val (.ref a0), .unset] []) (efx) ?_
  show OGo p.tables e below (P4 Z a0 q w wv h0 n0 s) (s₁.setTop (mkF m 0 #[.val (.ref a0), .unset] []))
  obtain ⟨_, _, ⟨T1, L1, k1, n1⟩, -, X1, ⟨Lc1, hQ1, l1, y1, z1⟩, st1⟩ := Jvm.LawKit.callS X0 hx (y := (⟨"java/util/OptionalLong", "empty", "()Ljava/util/OptionalLong;"⟩ : MethodName)) hown (mvT hZ (hw _ (List.mem_of_getElem? (i := 22) rfl))) (mvT hZ (hw _ (List.mem_of_getElem? (i := 23) rfl))) (mvT hZ (hw _ (List.mem_of_getElem? (i := 24) rfl))) (mvT hZ (hw _ (List.mem_of_getElem? (i := 25) rfl))) (by decide) (backOf (W := 0) (rm5 l Z aV hw [] w h0 n0 Z0 S_EMPTY) hZ (hw _ (List.mem_of_getElem? (i := 25) rfl)) (hw _ (List.mem_of_getElem? (i := 24) rfl)) (by decide) (by decide)) (g := (mkF m 0 #[.val (.ref a0), .unset] [])) rfl (by rw [hml]; rfl) (argsL := []) (rest := []) (lenOf pd___Ljava_util_OptionalLong_ rfl) rfl (by show 2 * 0 + _ ≤ _; exact Nat.le_of_eq rfl) (hb hby d4_0) (fun _ _ => ⟨rfl, e0, (by decide : 0 + 0 ≤ _), (by decide : 0 + 0 ≤ _)⟩)
  dsimp only [Pt.U, Pt.locs, Pt.cells, Pt.slots] at X1 l1 y1 z1 st1 hQ1
  subst l1 y1 z1
  obtain ⟨rfl, N1q, e1⟩ := hQ1
  have N1 := Fr.app N0 N1q
  refine OGo.go (B := T1.setTop (mkF m 3 #[.val (.ref a0), .unset] [(.ref w)])) ?_ st1
  refine OGo.go (B := T1.setTop (mkF m 4 #[.val (.ref a0), .val (.ref w)] [])) ?_ (fun tX kX => XS.astoreN X1.here hx rfl (hb hby d4_3) rfl rfl (l' := #[.val (.ref a0), .val (.ref w)]) rfl kX)
  refine OGo.go (B := T1.setTop (mkF m 5 #[.val (.ref a0), .val (.ref w)] [(.ref a0)])) ?_ (fun tX kX => XS.aloadN X1.here hx rfl (hb hby d4_4) rfl rfl kX)
  obtain ⟨T2, X2, e2, st2⟩ := getF X1 hx hZ hown (host := "") (Or.inl (hw _ (List.mem_of_getElem? (i := 13) rfl))) Via.refl e1 F_token_a0 (g := (mkF m 5 #[.val (.ref a0), .val (.ref w)] [(.ref a0)])) rfl rfl (hb hby d4_5)
  refine OGo.go (B := T2.setTop (mkF m 8 #[.val (.ref a0), .val (.ref w)] [(.long q)])) ?_ st2
  refine OGo.go (B := T2.setTop (mkF m 9 #[.val (.ref a0), .val (.ref w)] [(.long (0 : Int64)), (.long q)])) ?_ (fun tX kX => XS.lconst X2.here hx rfl (hb hby d4_8) kX)
  refine OGo.go (B := T2.setTop (mkF m 10 #[.val (.ref a0), .val (.ref w)] [(.int (lcmpW q (0 : Int64)))])) ?_ (fun tX kX => XS.lcmp X2.here hx rfl (hb hby d4_9) rfl kX)
  by_cases hc10 : (0 : Int64) < q
  ·
    refine OGo.go (B := T2.setTop (mkF m 13 #[.val (.ref a0), .val (.ref w)] [])) ?_ (fun tX kX => XS.ifNo X2.here hx rfl (hb hby d4_10) rfl ((if0 _ _).trans (tlt ((lw_gt _ _).mpr hc10)).2.2.2) kX)
    refine OGo.go (B := T2.setTop (mkF m 14 #[.val (.ref a0), .val (.ref w)] [(.ref a0)])) ?_ (fun tX kX => XS.aloadN X2.here hx rfl (hb hby d4_13) rfl rfl kX)
    obtain ⟨T3, X3, e3, st3⟩ := getF X2 hx hZ hown (host := "") (Or.inl (hw _ (List.mem_of_getElem? (i := 13) rfl))) Via.refl e2 F_token_a0 (g := (mkF m 14 #[.val (.ref a0), .val (.ref w)] [(.ref a0)])) rfl rfl (hb hby d4_14)
    refine OGo.go (B := T3.setTop (mkF m 17 #[.val (.ref a0), .val (.ref w)] [(.long q)])) ?_ st3
    obtain ⟨_, _, ⟨T4, L4, k4, n4⟩, -, X4, ⟨Lc4, hQ4, l4, y4, z4⟩, st4⟩ := Jvm.LawKit.callS X3 hx (y := (⟨"java/util/OptionalLong", "of", "(J)Ljava/util/OptionalLong;"⟩ : MethodName)) hown (mvT hZ (hw _ (List.mem_of_getElem? (i := 27) rfl))) (mvT hZ (hw _ (List.mem_of_getElem? (i := 28) rfl))) (mvT hZ (hw _ (List.mem_of_getElem? (i := 24) rfl))) (mvT hZ (hw _ (List.mem_of_getElem? (i := 29) rfl))) (by decide) (backOf (W := 0) (rm6 l Z aV hw [] q h0 n0 Z0) hZ (hw _ (List.mem_of_getElem? (i := 29) rfl)) (hw _ (List.mem_of_getElem? (i := 24) rfl)) (by decide) (by decide)) (g := (mkF m 17 #[.val (.ref a0), .val (.ref w)] [(.long q)])) rfl (by rw [hml]; rfl) (argsL := [(.long q)]) (rest := []) (lenOf pd__J_Ljava_util_OptionalLong_ rfl) rfl (by show 2 * 0 + _ ≤ _; exact Nat.le_of_eq rfl) (hb hby d4_17) (fun _ _ => ⟨rfl, e3, (by decide : 0 + 1 ≤ _), (by decide : 0 + 2 ≤ _)⟩)
    dsimp only [Pt.U, Pt.locs, Pt.cells, Pt.slots] at X4 l4 y4 z4 st4 hQ4
    subst l4 y4 z4
    obtain ⟨b_4, rfl, N4q, Kq4, sz4_b, E_b_4_p, F_isPresent_b_4_p, F_value_b_4_p⟩ := hQ4
    have N4 := Fr.app N1 N4q
    have ne_a0_b_4 : a0 ≠ b_4 := Nat.ne_of_lt (Nat.lt_of_lt_of_le F_token_a0.lt sz4_b)
    have ne_w_b_4 : w ≠ b_4 := Nat.ne_of_lt (Nat.lt_of_lt_of_le E_w.lt sz4_b)
    have S_EMPTY := Sta.keep0 S_EMPTY Kq4
    have F_token_a0 := F_token_a0.keep Kq4 nin0
    have E_w := E_w.keep Kq4
    have F_isPresent_w := F_isPresent_w.keep Kq4 nin0
    have F_value_w := F_value_w.keep Kq4 nin0
    have g_b_4 : n0 ≤ b_4 := Nat.le_trans Z0 sz4_b
    have sz_b_4 : h0.size ≤ b_4 := Nat.le_trans K0.1 sz4_b
    have K4 := K0.trans Kq4 all0
    have zn4 : n0 ≤ T4.heap.size := Nat.le_trans Z0 Kq4.1
    have E_b_4 := E_b_4_p
    have F_isPresent_b_4 := F_isPresent_b_4_p
    have F_value_b_4 := F_value_b_4_p
    refine OGo.go (B := T4.setTop (mkF m 20 #[.val (.ref a0), .val (.ref w)] [(.ref b_4)])) ?_ st4
    refine OGo.go (B := T4.setTop (mkF m 21 #[.val (.ref a0), .val (.ref b_4)] [])) ?_ (fun tX kX => XS.astoreN X4.here hx rfl (hb hby d4_20) rfl rfl (l' := #[.val (.ref a0), .val (.ref b_4)]) rfl kX)
    refine OGo.go (B := T4.setTop (mkF m 22 #[.val (.ref a0), .val (.ref b_4)] [(.ref b_4)])) ?_ (fun tX kX => XS.aloadN X4.here hx rfl (hb hby d4_21) rfl rfl kX)
    refine OGo.ret X4 (v := (some (.ref b_4))) (fun h => by rw [Bd.returns] at h; cases h) (BodyLoose.notSynchronized Bd) (fun fs hr => retOut X4 hx Bd.returns rfl (Or.inr (Or.inr (Or.inr (Or.inr ⟨rfl, rfl, rfl⟩)))) (hb hby d4_22) hr) (Q := Q4 Z a0 q w wv h0 n0) ?_ (by decide) (by decide)
    show Q4 Z a0 q w wv h0 n0 _ T4.heap _
    exact ⟨b_4, (1 : Int32), q, rfl, N4, K4, E_b_4, F_isPresent_b_4, F_value_b_4, (fun _ => ⟨rfl, rfl⟩), (fun h => absurd hc10 h)⟩
  ·
    refine OGo.go (B := T2.setTop (mkF m 21 #[.val (.ref a0), .val (.ref w)] [])) ?_ (fun tX kX => XS.ifYes X2.here hx rfl (pc0 := 10) (pc' := 21) rfl (hb hby d4_10) rfl ((if0 _ _).trans (flt (fun q => hc10 ((lw_gt _ _).mp q))).2.2.2) (by decide) (by decide) kX)
    refine OGo.go (B := T2.setTop (mkF m 22 #[.val (.ref a0), .val (.ref w)] [(.ref w)])) ?_ (fun tX kX => XS.aloadN X2.here hx rfl (hb hby d4_21) rfl rfl kX)
    refine OGo.ret X2 (v := (some (.ref w))) (fun h => by rw [Bd.returns] at h; cases h) (BodyLoose.notSynchronized Bd) (fun fs hr => retOut X2 hx Bd.returns rfl (Or.inr (Or.inr (Or.inr (Or.inr ⟨rfl, rfl, rfl⟩)))) (hb hby d4_22) hr) (Q := Q4 Z a0 q w wv h0 n0) ?_ (by decide) (by decide)
    show Q4 Z a0 q w wv h0 n0 _ T2.heap _
    rw [e2]
    exact ⟨w, (0 : Int32), wv, rfl, N1, K0, E_w, F_isPresent_w, F_value_w, (fun h => absurd h hc10), (fun _ => rfl)⟩
theorem d8_0 : decode method_2_code 0 = .ok (.lload_n 1, 1) := by decide +kernel
theorem d8_1 : decode method_2_code 1 = .ok (.lconst 0, 1) := by decide +kernel
theorem d8_2 : decode method_2_code 2 = .ok (.lcmp, 1) := by decide +kernel
theorem d8_3 : decode method_2_code 3 = .ok (.ifCond .le 25, 3) := by decide +kernel
theorem d8_6 : decode method_2_code 6 = .ok (.aload_n 0, 1) := by decide +kernel
theorem d8_7 : decode method_2_code 7 = .ok (.invokevirtual 7, 3) := by decide +kernel
theorem pd___Z : parseMethodDescriptor "()Z" = some ⟨[], some .boolean⟩ := by decide +kernel
theorem d8_10 : decode method_2_code 10 = .ok (.ifCond .eq 16, 3) := by decide +kernel
theorem d8_13 : decode method_2_code 13 = .ok (.aload_n 0, 1) := by decide +kernel
theorem d8_14 : decode method_2_code 14 = .ok (.invokevirtual 13, 3) := by decide +kernel
theorem pd___J : parseMethodDescriptor "()J" = some ⟨[], some .long⟩ := by decide +kernel
theorem d8_17 : decode method_2_code 17 = .ok (.lload_n 1, 1) := by decide +kernel
theorem d8_18 : decode method_2_code 18 = .ok (.lcmp, 1) := by decide +kernel
theorem d8_19 : decode method_2_code 19 = .ok (.ifCond .ne 7, 3) := by decide +kernel
theorem d8_22 : decode method_2_code 22 = .ok (.iconst 1, 1) := by decide +kernel
theorem d8_23 : decode method_2_code 23 = .ok (.goto 4, 3) := by decide +kernel
theorem d8_27 : decode method_2_code 27 = .ok (.ireturn, 1) := by decide +kernel
theorem d8_28 : decode method_2_code 28 = .ok (.aload_n 0, 1) := by decide +kernel
theorem d8_29 : decode method_2_code 29 = .ok (.invokevirtual 7, 3) := by decide +kernel
theorem d8_32 : decode method_2_code 32 = .ok (.ifCond .ne 7, 3) := by decide +kernel
theorem d8_35 : decode method_2_code 35 = .ok (.iconst 1, 1) := by decide +kernel
theorem d8_36 : decode method_2_code 36 = .ok (.goto 4, 3) := by decide +kernel
theorem d8_40 : decode method_2_code 40 = .ok (.ireturn, 1) := by decide +kernel
theorem pn_com_example_turnstile_turnstile_AnswerGrantedPinLaw : plainName "com/example/turnstile/turnstile/AnswerGrantedPinLaw" = true := by first | (simp [plainName, overriddenIn]; done) | decide +kernel
def Q8 (Z : State) (a0 : Addr) (q1 : Int64) (i : Int32) (x : Int64) (h0 : Heap) (n0 : Nat) (v : Option Value) (h : Heap) (L : List Loc) : Prop := v = some (.int (1 : Int32)) ∧ Fr n0 L ∧ h = h0
def P8 (Z : State) (a0 : Addr) (q1 : Int64) (i : Int32) (x : Int64) (h0 : Heap) (n0 : Nat) (s : State) (o : Outcome) (U' : State) : Prop := ∃ v L, o = .returned v ∧ Q8 Z a0 q1 i x h0 n0 v U'.heap L ∧ FrameEnd s o U' L ({ frames := 1, cells := 0, slots := 0, locals := 12 } : Room).cells ({ frames := 1, cells := 0, slots := 0, locals := 12 } : Room).slots
set_option maxRecDepth 65536 in
set_option maxHeartbeats 40000000 in
theorem rm8 (l : Launch) (Z : State) (aV : Array Value) (hw : ∀ d ∈ tables_1, d.before aV Z = true) (ws : List Jvm.Cond) (a0 : Addr) (q1 : Int64) (i : Int32) (x : Int64) (h0 : Heap) (n0 : Nat) (Z0 : n0 ≤ h0.size) (E_a0 : Exa Z h0 a0 "java/util/OptionalLong") (F_isPresent_a0 : Fld Z h0 a0 "java/util/OptionalLong" "isPresent" "Z" (.int i)) (F_value_a0 : Fld Z h0 a0 "java/util/OptionalLong" "value" "J" (.long x)) (hp : (0 : Int64) < q1 → i = 1 ∧ x = q1) (hn : ¬ (0 : Int64) < q1 → i = 0) :
    MetFree l (⟨"com/example/turnstile/turnstile/AnswerGrantedPinLaw", "holds", "(Ljava/util/OptionalLong;J)Z"⟩ : MethodName) (head1 (Jvm.Cond.code (⟨"com/example/turnstile/turnstile/AnswerGrantedPinLaw", "holds", "(Ljava/util/OptionalLong;J)Z"⟩ : MethodName) method_2_code 3 (some .boolean) :: ws) ({ frames := 1, cells := 0, slots := 0, locals := 12 } : Room)) (fun a U => a = #[(.ref a0), (.long q1)] ∧ Z.Warmed39 U.vm ∧ U.heap = h0) (fun _ _ _ _ _ => True) (fun _ U o U' => ∃ v L, o = .returned v ∧ Q8 Z a0 q1 i x h0 n0 v U'.heap L ∧ FrameEnd U o U' L ({ frames := 1, cells := 0, slots := 0, locals := 12 } : Room).cells ({ frames := 1, cells := 0, slots := 0, locals := 12 } : Room).slots) := by
  refine MetFree.of_bodySF (plainFor_of_name pn_com_example_turnstile_turnstile_AnswerGrantedPinLaw) hisR ?_
  intro p e s m args below meth c s₁ Bd hml0 hP hK
  obtain ⟨rfl, hZ, hh⟩ := hP
  have hx := Bd.exec
  have hby := Bd.bytes
  have hml : c.maxLocals = 3 := hml0
  have hown : s.vm.findClass "com/example/turnstile/turnstile/AnswerGrantedPinLaw" = some m.cls := findClass_of_methodNamed Bd.named
  have hnm := (name_of_methodNamed Bd.named Bd.method).1
  have X0 : Stand p l e ({ frames := 1, cells := 0, slots := 0, locals := 12 } : Room) s m #[(.ref a0), (.long q1)] below meth c s₁ [] 0 0 := Stand.of_body Bd
  have e0 : s₁.heap = h0 := by rw [← hh, Bd.state]; rfl
  have efx : entryFrame m #[(.ref a0), (.long q1)] 3 = mkF m 0 #[.val (.ref a0), .val (.long q1), .second] [] := by first | (simp [entryFrame, mkF, argsToLocals, Value.category]; done) | rfl
  have N0 := Fr.nil n0
  have K0 : Keep h0 h0 [] := Keep.refl h0 _
  refine OGo.start (g' := mkF m 0 #[.val (.ref a0), .val (.long q1), .second] []) (efx) ?_
  show OGo p.tables e below (P8 Z a0 q1 i x h0 n0 s) (s₁.setTop (mkF m 0 #[.val (.ref a0), .val (.long q1), .second] []))
  refine OGo.go (B := s₁.setTop (mkF m 1 #[.val (.ref a0), .val (.long q1), .second] [(.long q1)])) ?_ (fun tX kX => XS.lloadN X0.here hx rfl (hb hby d8_0) rfl kX)
  refine OGo.go (B := s₁.setTop (mkF m 2 #[.val (.ref a0), .val (.long q1), .second] [(.long (0 : Int64)), (.long q1)])) ?_ (fun tX kX => XS.lconst X0.here hx rfl (hb hby d8_1) kX)
  refine OGo.go (B := s₁.setTop (mkF m 3 #[.val (.ref a0), .val (.long q1), .second] [(.int (lcmpW q1 (0 : Int64)))])) ?_ (fun tX kX => XS.lcmp X0.here hx rfl (hb hby d8_2) rfl kX)
  by_cases hc3 : (0 : Int64) < q1
  ·
    refine OGo.go (B := s₁.setTop (mkF m 6 #[.val (.ref a0), .val (.long q1), .second] [])) ?_ (fun tX kX => XS.ifNo X0.here hx rfl (hb hby d8_3) rfl ((if0 _ _).trans (tlt ((lw_gt _ _).mpr hc3)).2.2.2) kX)
    refine OGo.go (B := s₁.setTop (mkF m 7 #[.val (.ref a0), .val (.long q1), .second] [(.ref a0)])) ?_ (fun tX kX => XS.aloadN X0.here hx rfl (hb hby d8_6) rfl rfl kX)
    obtain ⟨cq1, kq1, q1a, q1b, q1c⟩ := isOf hZ e0 E_a0
    obtain ⟨_, _, ⟨T1, L1, k1, n1⟩, -, X1, ⟨Lc1, hQ1, l1, y1, z1⟩, st1⟩ := X0.virtualBack hx (y := (⟨"java/util/OptionalLong", "isPresent", "()Z"⟩ : MethodName)) (z := (⟨"java/util/OptionalLong", "isPresent", "()Z"⟩ : MethodName)) hown (mvT hZ (hw _ (List.mem_of_getElem? (i := 45) rfl))) (mvT hZ (hw _ (List.mem_of_getElem? (i := 46) rfl))) (notFace_of_selects (args := #[]) (mvT hZ (hw _ (List.mem_of_getElem? (i := 48) rfl)))) (mvT hZ (hw _ (List.mem_of_getElem? (i := 48) rfl))) (mvT hZ (hw _ (List.mem_of_getElem? (i := 47) rfl))) (by decide) (backOf (W := 0) (rm9 l Z aV hw [] a0 i h0 n0 Z0 F_isPresent_a0) hZ (hw _ (List.mem_of_getElem? (i := 49) rfl)) (hw _ (List.mem_of_getElem? (i := 24) rfl)) (by decide) (by decide)) q1a q1c (g := (mkF m 7 #[.val (.ref a0), .val (.long q1), .second] [(.ref a0)])) rfl (by rw [hml]; rfl) (Steps.refl _) (argsL := []) (rest := []) (lenOf pd___Z rfl) rfl (by show 2 * 0 + _ ≤ _; exact Nat.le_of_eq rfl) (hb hby d8_7) (fun _ _ => ⟨rfl, e0, (by decide : 0 + 0 ≤ _), (by decide : 0 + 0 ≤ _)⟩)
    dsimp only [Pt.U, Pt.locs, Pt.cells, Pt.slots] at X1 l1 y1 z1 st1 hQ1
    subst l1 y1 z1
    obtain ⟨rfl, N1q, e1⟩ := hQ1
    have N1 := Fr.app N0 N1q
    refine OGo.go (B := T1.setTop (mkF m 10 #[.val (.ref a0), .val (.long q1), .second] [(.int (i &&& 1))])) ?_ (fun tX kX => st1.trans kX)
    refine OGo.go (B := T1.setTop (mkF m 13 #[.val (.ref a0), .val (.long q1), .second] [])) ?_ (fun tX kX => XS.ifNo X1.here hx rfl (hb hby d8_10) rfl ((if0 _ _).trans (feq (by rw [(hp hc3).1]; decide)).1) kX)
    refine OGo.go (B := T1.setTop (mkF m 14 #[.val (.ref a0), .val (.long q1), .second] [(.ref a0)])) ?_ (fun tX kX => XS.aloadN X1.here hx rfl (hb hby d8_13) rfl rfl kX)
    obtain ⟨cq2, kq2, q2a, q2b, q2c⟩ := isOf hZ e1 E_a0
    obtain ⟨_, _, ⟨T2, L2, k2, n2⟩, -, X2, ⟨Lc2, hQ2, l2, y2, z2⟩, st2⟩ := X1.virtualBack hx (y := (⟨"java/util/OptionalLong", "getAsLong", "()J"⟩ : MethodName)) (z := (⟨"java/util/OptionalLong", "getAsLong", "()J"⟩ : MethodName)) hown (mvT hZ (hw _ (List.mem_of_getElem? (i := 50) rfl))) (mvT hZ (hw _ (List.mem_of_getElem? (i := 51) rfl))) (notFace_of_selects (args := #[]) (mvT hZ (hw _ (List.mem_of_getElem? (i := 53) rfl)))) (mvT hZ (hw _ (List.mem_of_getElem? (i := 53) rfl))) (mvT hZ (hw _ (List.mem_of_getElem? (i := 52) rfl))) (by decide) (backOf (W := 0) (rm10 l Z aV hw [] a0 i x h0 n0 Z0 F_isPresent_a0 F_value_a0 (by rw [(hp hc3).1]; decide)) hZ (hw _ (List.mem_of_getElem? (i := 54) rfl)) (hw _ (List.mem_of_getElem? (i := 24) rfl)) (by decide) (by decide)) q2a q2c (g := (mkF m 14 #[.val (.ref a0), .val (.long q1), .second] [(.ref a0)])) rfl (by rw [hml]; rfl) (Steps.refl _) (argsL := []) (rest := []) (lenOf pd___J rfl) rfl (by show 2 * 0 + _ ≤ _; exact Nat.le_of_eq rfl) (hb hby d8_14) (fun _ _ => ⟨rfl, e1, (by decide : 0 + 0 ≤ _), (by decide : 0 + 0 ≤ _)⟩)
    dsimp only [Pt.U, Pt.locs, Pt.cells, Pt.slots] at X2 l2 y2 z2 st2 hQ2
    subst l2 y2 z2
    obtain ⟨rfl, N2q, e2⟩ := hQ2
    have N2 := Fr.app N1 N2q
    refine OGo.go (B := T2.setTop (mkF m 17 #[.val (.ref a0), .val (.long q1), .second] [(.long x)])) ?_ (fun tX kX => st2.trans kX)
    refine OGo.go (B := T2.setTop (mkF m 18 #[.val (.ref a0), .val (.long q1), .second] [(.long q1), (.long x)])) ?_ (fun tX kX => XS.lloadN X2.here hx rfl (hb hby d8_17) rfl kX)
    refine OGo.go (B := T2.setTop (mkF m 19 #[.val (.ref a0), .val (.long q1), .second] [(.int (lcmpW x q1))])) ?_ (fun tX kX => XS.lcmp X2.here hx rfl (hb hby d8_18) rfl kX)
    refine OGo.go (B := T2.setTop (mkF m 22 #[.val (.ref a0), .val (.long q1), .second] [])) ?_ (fun tX kX => XS.ifNo X2.here hx rfl (hb hby d8_19) rfl ((if0 _ _).trans (teq ((lw_eq _ _).mpr (hp hc3).2)).2) kX)
    refine OGo.go (B := T2.setTop (mkF m 23 #[.val (.ref a0), .val (.long q1), .second] [(.int (1 : Int32))])) ?_ (fun tX kX => XS.iconst X2.here hx rfl (hb hby d8_22) kX)
    refine OGo.go (B := T2.setTop (mkF m 27 #[.val (.ref a0), .val (.long q1), .second] [(.int (1 : Int32))])) ?_ (fun tX kX => XS.goto X2.here hx rfl (pc0 := 23) (pc' := 27) rfl (hb hby d8_23) (by decide) (by decide) kX)
    refine OGo.ret X2 (v := (some (.int (1 : Int32)))) (fun h => by rw [Bd.returns] at h; cases h) (BodyLoose.notSynchronized Bd) (fun fs hr => retN X2 hx (t := .boolean) (z := (1 : Int32)) Bd.returns (by simp) (hb hby d8_27) hr) (Q := Q8 Z a0 q1 i x h0 n0) ?_ (by decide) (by decide)
    show Q8 Z a0 q1 i x h0 n0 _ T2.heap _
    rw [e2]
    exact ⟨rfl, N2, rfl⟩
  ·
    refine OGo.go (B := s₁.setTop (mkF m 28 #[.val (.ref a0), .val (.long q1), .second] [])) ?_ (fun tX kX => XS.ifYes X0.here hx rfl (pc0 := 3) (pc' := 28) rfl (hb hby d8_3) rfl ((if0 _ _).trans (flt (fun q => hc3 ((lw_gt _ _).mp q))).2.2.2) (by decide) (by decide) kX)
    refine OGo.go (B := s₁.setTop (mkF m 29 #[.val (.ref a0), .val (.long q1), .second] [(.ref a0)])) ?_ (fun tX kX => XS.aloadN X0.here hx rfl (hb hby d8_28) rfl rfl kX)
    obtain ⟨cq3, kq3, q3a, q3b, q3c⟩ := isOf hZ e0 E_a0
    obtain ⟨_, _, ⟨T3, L3, k3, n3⟩, -, X3, ⟨Lc3, hQ3, l3, y3, z3⟩, st3⟩ := X0.virtualBack hx (y := (⟨"java/util/OptionalLong", "isPresent", "()Z"⟩ : MethodName)) (z := (⟨"java/util/OptionalLong", "isPresent", "()Z"⟩ : MethodName)) hown (mvT hZ (hw _ (List.mem_of_getElem? (i := 45) rfl))) (mvT hZ (hw _ (List.mem_of_getElem? (i := 46) rfl))) (notFace_of_selects (args := #[]) (mvT hZ (hw _ (List.mem_of_getElem? (i := 48) rfl)))) (mvT hZ (hw _ (List.mem_of_getElem? (i := 48) rfl))) (mvT hZ (hw _ (List.mem_of_getElem? (i := 47) rfl))) (by decide) (backOf (W := 0) (rm9 l Z aV hw [] a0 i h0 n0 Z0 F_isPresent_a0) hZ (hw _ (List.mem_of_getElem? (i := 49) rfl)) (hw _ (List.mem_of_getElem? (i := 24) rfl)) (by decide) (by decide)) q3a q3c (g := (mkF m 29 #[.val (.ref a0), .val (.long q1), .second] [(.ref a0)])) rfl (by rw [hml]; rfl) (Steps.refl _) (argsL := []) (rest := []) (lenOf pd___Z rfl) rfl (by show 2 * 0 + _ ≤ _; exact Nat.le_of_eq rfl) (hb hby d8_29) (fun _ _ => ⟨rfl, e0, (by decide : 0 + 0 ≤ _), (by decide : 0 + 0 ≤ _)⟩)
    dsimp only [Pt.U, Pt.locs, Pt.cells, Pt.slots] at X3 l3 y3 z3 st3 hQ3
    subst l3 y3 z3
    obtain ⟨rfl, N3q, e3⟩ := hQ3
    have N3 := Fr.app N0 N3q
    refine OGo.go (B := T3.setTop (mkF m 32 #[.val (.ref a0), .val (.long q1), .second] [(.int (i &&& 1))])) ?_ (fun tX kX => st3.trans kX)
    refine OGo.go (B := T3.setTop (mkF m 35 #[.val (.ref a0), .val (.long q1), .second] [])) ?_ (fun tX kX => XS.ifNo X3.here hx rfl (hb hby d8_32) rfl ((if0 _ _).trans (teq (by rw [hn hc3]; decide)).2) kX)
    refine OGo.go (B := T3.setTop (mkF m 36 #[.val (.ref a0), .val (.long q1), .second] [(.int (1 : Int32))])) ?_ (fun tX kX => XS.iconst X3.here hx rfl (hb hby d8_35) kX)
    refine OGo.go (B := T3.setTop (mkF m 40 #[.val (.ref a0), .val (.long q1), .second] [(.int (1 : Int32))])) ?_ (fun tX kX => XS.goto X3.here hx rfl (pc0 := 36) (pc' := 40) rfl (hb hby d8_36) (by decide) (by decide) kX)
    refine OGo.ret X3 (v := (some (.int (1 : Int32)))) (fun h => by rw [Bd.returns] at h; cases h) (BodyLoose.notSynchronized Bd) (fun fs hr => retN X3 hx (t := .boolean) (z := (1 : Int32)) Bd.returns (by simp) (hb hby d8_40) hr) (Q := Q8 Z a0 q1 i x h0 n0) ?_ (by decide) (by decide)
    show Q8 Z a0 q1 i x h0 n0 _ T3.heap _
    rw [e3]
    exact ⟨rfl, N3, rfl⟩
theorem pd__J_Lcom_example_turnstile_turnstile_QueuedWait_Answer_ : parseMethodDescriptor "(J)Lcom/example/turnstile/turnstile/QueuedWait$Answer;" = some ⟨[.long], some (.object "com/example/turnstile/turnstile/QueuedWait$Answer")⟩ := by decide +kernel
theorem pd__Ljava_util_OptionalLong_J_Z : parseMethodDescriptor "(Ljava/util/OptionalLong;J)Z" = some ⟨[(.object "java/util/OptionalLong"), .long], some .boolean⟩ := by decide +kernel
def Q0 (Z : State) (q0 : Int64) (q1 : Int64) (w : Addr) (wv : Int64) (h0 : Heap) (n0 : Nat) (v : Option Value) (h : Heap) (L : List Loc) : Prop := v = some (.int (1 : Int32)) ∧ Fr n0 L
def P0 (Z : State) (q0 : Int64) (q1 : Int64) (w : Addr) (wv : Int64) (h0 : Heap) (n0 : Nat) (s : State) (o : Outcome) (U' : State) : Prop := ∃ v L, o = .returned v ∧ Q0 Z q0 q1 w wv h0 n0 v U'.heap L ∧ FrameEnd s o U' L room_1.cells room_1.slots
set_option maxRecDepth 65536 in
set_option maxHeartbeats 40000000 in
theorem rm0 (l : Launch) (Z : State) (aV : Array Value) (hw : ∀ d ∈ tables_1, d.before aV Z = true) (ws : List Jvm.Cond) (q0 : Int64) (q1 : Int64) (w : Addr) (wv : Int64) (h0 : Heap) (n0 : Nat) (Z0 : n0 ≤ h0.size) (S_EMPTY : Sta Z h0 "java/util/OptionalLong" "EMPTY" "Ljava/util/OptionalLong;" (.ref w)) (E_w : Exa Z h0 w "java/util/OptionalLong") (F_isPresent_w : Fld Z h0 w "java/util/OptionalLong" "isPresent" "Z" (.int (0 : Int32))) (F_value_w : Fld Z h0 w "java/util/OptionalLong" "value" "J" (.long wv)) :
    MetFree l x (head1 (Jvm.Cond.code x code maxLocals ret :: ws) room_1) (fun a U => a = #[(.long q0), (.long q1)] ∧ Z.Warmed39 U.vm ∧ U.heap = h0) (fun _ _ _ _ _ => True) (fun _ U o U' => ∃ v L, o = .returned v ∧ Q0 Z q0 q1 w wv h0 n0 v U'.heap L ∧ FrameEnd U o U' L room_1.cells room_1.slots) := by
  refine MetFree.of_bodySF (plainFor_of_name pn_com_example_turnstile_turnstile_AnswerGrantedPinLaw) hisR ?_
  intro p e s m args below meth c s₁ Bd hml0 hP hK
  obtain ⟨rfl, hZ, hh⟩ := hP
  have hx := Bd.exec
  have hby := Bd.bytes
  have hml : c.maxLocals = 8 := hml0
  have hown : s.vm.findClass "com/example/turnstile/turnstile/AnswerGrantedPinLaw" = some m.cls := findClass_of_methodNamed Bd.named
  have hnm := (name_of_methodNamed Bd.named Bd.method).1
  have X0 : Stand p l e room_1 s m #[(.long q0), (.long q1)] below meth c s₁ [] 0 0 := Stand.of_body Bd
  have e0 : s₁.heap = h0 := by rw [← hh, Bd.state]; rfl
  have efx : entryFrame m #[(.long q0), (.long q1)] maxLocals = mkF m 0 #[.val (.long q0), .second, .val (.long q1), .second, .unset, .unset, .unset, .unset] [] := by first | (simp [entryFrame, mkF, argsToLocals, Value.category, maxLocals]; done) | rfl
  have N0 := Fr.nil n0
  have K0 : Keep h0 h0 [] := Keep.refl h0 _
  refine OGo.start (g' := mkF m 0 #[.val (.long q0), .second, .val (.long q1), .second, .unset, .unset, .unset, .unset] []) (efx) ?_
  show OGo p.tables e below (P0 Z q0 q1 w wv h0 n0 s) (s₁.setTop (mkF m 0 #[.val (.long q0), .second, .val (.long q1), .second, .unset, .unset, .unset, .unset] []))
  refine OGo.go (B := s₁.setTop (mkF m 1 #[.val (.long q0), .second, .val (.long q1), .second, .unset, .unset, .unset, .unset] [(.long q0)])) ?_ (fun tX kX => XS.lloadN X0.here hx rfl (hb hby at_0) rfl kX)
  obtain ⟨_, _, ⟨T1, L1, k1, n1⟩, -, X1, ⟨Lc1, hQ1, l1, y1, z1⟩, st1⟩ := Jvm.LawKit.callS X0 hx (y := (⟨"com/example/turnstile/turnstile/QueuedWait$Answer", "granted", "(J)Lcom/example/turnstile/turnstile/QueuedWait$Answer;"⟩ : MethodName)) hown (mvT hZ (hw _ (List.mem_of_getElem? (i := 0) rfl))) (mvT hZ (hw _ (List.mem_of_getElem? (i := 1) rfl))) (mvT hZ (hw _ (List.mem_of_getElem? (i := 2) rfl))) (mvT hZ (hw _ (List.mem_of_getElem? (i := 3) rfl))) (by decide) (backOf (W := 0) (rm1 l Z aV hw [] q0 h0 n0 Z0) hZ (hw _ (List.mem_of_getElem? (i := 3) rfl)) (hw _ (List.mem_of_getElem? (i := 2) rfl)) (by decide) (by decide)) (g := (mkF m 1 #[.val (.long q0), .second, .val (.long q1), .second, .unset, .unset, .unset, .unset] [(.long q0)])) rfl (by rw [hml]; rfl) (argsL := [(.long q0)]) (rest := []) (lenOf pd__J_Lcom_example_turnstile_turnstile_QueuedWait_Answer_ rfl) rfl (by show 2 * 0 + _ ≤ _; exact Nat.le_of_eq rfl) (hb hby at_1) (fun _ _ => ⟨rfl, e0, (by decide : 0 + 1 ≤ _), (by decide : 0 + 2 ≤ _)⟩)
  dsimp only [Pt.U, Pt.locs, Pt.cells, Pt.slots] at X1 l1 y1 z1 st1 hQ1
  subst l1 y1 z1
  obtain ⟨b_1, rfl, N1q, Kq1, sz1_b, E_b_1_p, F_token_b_1_p⟩ := hQ1
  have N1 := Fr.app N0 N1q
  have ne_w_b_1 : w ≠ b_1 := Nat.ne_of_lt (Nat.lt_of_lt_of_le E_w.lt sz1_b)
  have S_EMPTY := Sta.keep0 S_EMPTY Kq1
  have E_w := E_w.keep Kq1
  have F_isPresent_w := F_isPresent_w.keep Kq1 nin0
  have F_value_w := F_value_w.keep Kq1 nin0
  have g_b_1 : n0 ≤ b_1 := Nat.le_trans Z0 sz1_b
  have sz_b_1 : h0.size ≤ b_1 := Nat.le_trans K0.1 sz1_b
  have K1 := K0.trans Kq1 all0
  have zn1 : n0 ≤ T1.heap.size := Nat.le_trans Z0 Kq1.1
  have E_b_1 := E_b_1_p
  have F_token_b_1 := F_token_b_1_p
  refine OGo.go (B := T1.setTop (mkF m 4 #[.val (.long q0), .second, .val (.long q1), .second, .unset, .unset, .unset, .unset] [(.ref b_1)])) ?_ st1
  refine OGo.go (B := T1.setTop (mkF m 6 #[.val (.long q0), .second, .val (.long q1), .second, .val (.ref b_1), .unset, .unset, .unset] [])) ?_ (fun tX kX => XS.astore X1.here hx rfl (hb hby at_4) rfl rfl (l' := #[.val (.long q0), .second, .val (.long q1), .second, .val (.ref b_1), .unset, .unset, .unset]) rfl kX)
  refine OGo.go (B := T1.setTop (mkF m 7 #[.val (.long q0), .second, .val (.long q1), .second, .val (.ref b_1), .unset, .unset, .unset] [(.long q1)])) ?_ (fun tX kX => XS.lloadN X1.here hx rfl (hb hby at_6) rfl kX)
  obtain ⟨_, _, ⟨T2, L2, k2, n2⟩, -, X2, ⟨Lc2, hQ2, l2, y2, z2⟩, st2⟩ := Jvm.LawKit.callS X1 hx (y := (⟨"com/example/turnstile/turnstile/QueuedWait$Answer", "granted", "(J)Lcom/example/turnstile/turnstile/QueuedWait$Answer;"⟩ : MethodName)) hown (mvT hZ (hw _ (List.mem_of_getElem? (i := 0) rfl))) (mvT hZ (hw _ (List.mem_of_getElem? (i := 1) rfl))) (mvT hZ (hw _ (List.mem_of_getElem? (i := 2) rfl))) (mvT hZ (hw _ (List.mem_of_getElem? (i := 3) rfl))) (by decide) (backOf (W := 0) (rm1 l Z aV hw [] q1 T1.heap n0 zn1) hZ (hw _ (List.mem_of_getElem? (i := 3) rfl)) (hw _ (List.mem_of_getElem? (i := 2) rfl)) (by decide) (by decide)) (g := (mkF m 7 #[.val (.long q0), .second, .val (.long q1), .second, .val (.ref b_1), .unset, .unset, .unset] [(.long q1)])) rfl (by rw [hml]; rfl) (argsL := [(.long q1)]) (rest := []) (lenOf pd__J_Lcom_example_turnstile_turnstile_QueuedWait_Answer_ rfl) rfl (by show 2 * 0 + _ ≤ _; exact Nat.le_of_eq rfl) (hb hby at_7) (fun _ _ => ⟨rfl, rfl, (by decide : 1 + 1 ≤ _), (by decide : 2 + 2 ≤ _)⟩)
  dsimp only [Pt.U, Pt.locs, Pt.cells, Pt.slots] at X2 l2 y2 z2 st2 hQ2
  subst l2 y2 z2
  obtain ⟨b_2, rfl, N2q, Kq2, sz2_b, E_b_2_p, F_token_b_2_p⟩ := hQ2
  have N2 := Fr.app N1 N2q
  have ne_w_b_2 : w ≠ b_2 := Nat.ne_of_lt (Nat.lt_of_lt_of_le E_w.lt sz2_b)
  have ne_b_1_b_2 : b_1 ≠ b_2 := Nat.ne_of_lt (Nat.lt_of_lt_of_le E_b_1.lt sz2_b)
  have S_EMPTY := Sta.keep0 S_EMPTY Kq2
  have E_w := E_w.keep Kq2
  have F_isPresent_w := F_isPresent_w.keep Kq2 nin0
  have F_value_w := F_value_w.keep Kq2 nin0
  have E_b_1 := E_b_1.keep Kq2
  have F_token_b_1 := F_token_b_1.keep Kq2 nin0
  have g_b_2 : n0 ≤ b_2 := Nat.le_trans zn1 sz2_b
  have sz_b_2 : h0.size ≤ b_2 := Nat.le_trans K1.1 sz2_b
  have K2 := K1.trans Kq2 all0
  have zn2 : n0 ≤ T2.heap.size := Nat.le_trans zn1 Kq2.1
  have E_b_2 := E_b_2_p
  have F_token_b_2 := F_token_b_2_p
  refine OGo.go (B := T2.setTop (mkF m 10 #[.val (.long q0), .second, .val (.long q1), .second, .val (.ref b_1), .unset, .unset, .unset] [(.ref b_2)])) ?_ st2
  refine OGo.go (B := T2.setTop (mkF m 12 #[.val (.long q0), .second, .val (.long q1), .second, .val (.ref b_1), .val (.ref b_2), .unset, .unset] [])) ?_ (fun tX kX => XS.astore X2.here hx rfl (hb hby at_10) rfl rfl (l' := #[.val (.long q0), .second, .val (.long q1), .second, .val (.ref b_1), .val (.ref b_2), .unset, .unset]) rfl kX)
  refine OGo.go (B := T2.setTop (mkF m 14 #[.val (.long q0), .second, .val (.long q1), .second, .val (.ref b_1), .val (.ref b_2), .unset, .unset] [(.ref b_1)])) ?_ (fun tX kX => XS.aload X2.here hx rfl (hb hby at_12) rfl rfl kX)
  obtain ⟨cq3, kq3, q3a, q3b, q3c⟩ := isOf hZ rfl E_b_1
  obtain ⟨_, _, ⟨T3, L3, k3, n3⟩, -, X3, ⟨Lc3, hQ3, l3, y3, z3⟩, st3⟩ := X2.virtualBack hx (y := (⟨"com/example/turnstile/turnstile/QueuedWait$Answer", "token", "()Ljava/util/OptionalLong;"⟩ : MethodName)) (z := (⟨"com/example/turnstile/turnstile/QueuedWait$Answer", "token", "()Ljava/util/OptionalLong;"⟩ : MethodName)) hown (mvT hZ (hw _ (List.mem_of_getElem? (i := 17) rfl))) (mvT hZ (hw _ (List.mem_of_getElem? (i := 18) rfl))) (notFace_of_selects (args := #[]) (mvT hZ (hw _ (List.mem_of_getElem? (i := 20) rfl)))) (mvT hZ (hw _ (List.mem_of_getElem? (i := 20) rfl))) (mvT hZ (hw _ (List.mem_of_getElem? (i := 19) rfl))) (by decide) (backOf (W := 0) (rm4 l Z aV hw [] b_1 q0 w wv T2.heap n0 zn2 F_token_b_1 S_EMPTY E_w F_isPresent_w F_value_w) hZ (hw _ (List.mem_of_getElem? (i := 21) rfl)) (hw _ (List.mem_of_getElem? (i := 2) rfl)) (by decide) (by decide)) q3a q3c (g := (mkF m 14 #[.val (.long q0), .second, .val (.long q1), .second, .val (.ref b_1), .val (.ref b_2), .unset, .unset] [(.ref b_1)])) rfl (by rw [hml]; rfl) (Steps.refl _) (argsL := []) (rest := []) (lenOf pd___Ljava_util_OptionalLong_ rfl) rfl (by show 2 * 0 + _ ≤ _; exact Nat.le_of_eq rfl) (hb hby at_14) (fun _ _ => ⟨rfl, rfl, (by decide : 2 + 1 ≤ _), (by decide : 4 + 2 ≤ _)⟩)
  dsimp only [Pt.U, Pt.locs, Pt.cells, Pt.slots] at X3 l3 y3 z3 st3 hQ3
  subst l3 y3 z3
  obtain ⟨b_3, i_3, x_3, rfl, N3q, Kq3, E_b_3_p, F_isPresent_b_3_p, F_value_b_3_p, hr3_0, hr3_1⟩ := hQ3
  have N3 := Fr.app N2 N3q
  have S_EMPTY := Sta.keep0 S_EMPTY Kq3
  have E_w := E_w.keep Kq3
  have F_isPresent_w := F_isPresent_w.keep Kq3 nin0
  have F_value_w := F_value_w.keep Kq3 nin0
  have E_b_1 := E_b_1.keep Kq3
  have F_token_b_1 := F_token_b_1.keep Kq3 nin0
  have E_b_2 := E_b_2.keep Kq3
  have F_token_b_2 := F_token_b_2.keep Kq3 nin0
  have K3 := K2.trans Kq3 all0
  have zn3 : n0 ≤ T3.heap.size := Nat.le_trans zn2 Kq3.1
  have E_b_3 := E_b_3_p
  have F_isPresent_b_3 := F_isPresent_b_3_p
  have F_value_b_3 := F_value_b_3_p
  refine OGo.go (B := T3.setTop (mkF m 17 #[.val (.long q0), .second, .val (.long q1), .second, .val (.ref b_1), .val (.ref b_2), .unset, .unset] [(.ref b_3)])) ?_ (fun tX kX => st3.trans kX)
  refine OGo.go (B := T3.setTop (mkF m 19 #[.val (.long q0), .second, .val (.long q1), .second, .val (.ref b_1), .val (.ref b_2), .val (.ref b_3), .unset] [])) ?_ (fun tX kX => XS.astore X3.here hx rfl (hb hby at_17) rfl rfl (l' := #[.val (.long q0), .second, .val (.long q1), .second, .val (.ref b_1), .val (.ref b_2), .val (.ref b_3), .unset]) rfl kX)
  refine OGo.go (B := T3.setTop (mkF m 21 #[.val (.long q0), .second, .val (.long q1), .second, .val (.ref b_1), .val (.ref b_2), .val (.ref b_3), .unset] [(.ref b_2)])) ?_ (fun tX kX => XS.aload X3.here hx rfl (hb hby at_19) rfl rfl kX)
  obtain ⟨cq4, kq4, q4a, q4b, q4c⟩ := isOf hZ rfl E_b_2
  obtain ⟨_, _, ⟨T4, L4, k4, n4⟩, -, X4, ⟨Lc4, hQ4, l4, y4, z4⟩, st4⟩ := X3.virtualBack hx (y := (⟨"com/example/turnstile/turnstile/QueuedWait$Answer", "token", "()Ljava/util/OptionalLong;"⟩ : MethodName)) (z := (⟨"com/example/turnstile/turnstile/QueuedWait$Answer", "token", "()Ljava/util/OptionalLong;"⟩ : MethodName)) hown (mvT hZ (hw _ (List.mem_of_getElem? (i := 17) rfl))) (mvT hZ (hw _ (List.mem_of_getElem? (i := 18) rfl))) (notFace_of_selects (args := #[]) (mvT hZ (hw _ (List.mem_of_getElem? (i := 20) rfl)))) (mvT hZ (hw _ (List.mem_of_getElem? (i := 20) rfl))) (mvT hZ (hw _ (List.mem_of_getElem? (i := 19) rfl))) (by decide) (backOf (W := 0) (rm4 l Z aV hw [] b_2 q1 w wv T3.heap n0 zn3 F_token_b_2 S_EMPTY E_w F_isPresent_w F_value_w) hZ (hw _ (List.mem_of_getElem? (i := 21) rfl)) (hw _ (List.mem_of_getElem? (i := 2) rfl)) (by decide) (by decide)) q4a q4c (g := (mkF m 21 #[.val (.long q0), .second, .val (.long q1), .second, .val (.ref b_1), .val (.ref b_2), .val (.ref b_3), .unset] [(.ref b_2)])) rfl (by rw [hml]; rfl) (Steps.refl _) (argsL := []) (rest := []) (lenOf pd___Ljava_util_OptionalLong_ rfl) rfl (by show 2 * 0 + _ ≤ _; exact Nat.le_of_eq rfl) (hb hby at_21) (fun _ _ => ⟨rfl, rfl, (by decide : 3 + 1 ≤ _), (by decide : 6 + 2 ≤ _)⟩)
  dsimp only [Pt.U, Pt.locs, Pt.cells, Pt.slots] at X4 l4 y4 z4 st4 hQ4
  subst l4 y4 z4
  obtain ⟨b_4, i_4, x_4, rfl, N4q, Kq4, E_b_4_p, F_isPresent_b_4_p, F_value_b_4_p, hr4_0, hr4_1⟩ := hQ4
  have N4 := Fr.app N3 N4q
  have S_EMPTY := Sta.keep0 S_EMPTY Kq4
  have E_w := E_w.keep Kq4
  have F_isPresent_w := F_isPresent_w.keep Kq4 nin0
  have F_value_w := F_value_w.keep Kq4 nin0
  have E_b_1 := E_b_1.keep Kq4
  have F_token_b_1 := F_token_b_1.keep Kq4 nin0
  have E_b_2 := E_b_2.keep Kq4
  have F_token_b_2 := F_token_b_2.keep Kq4 nin0
  have E_b_3 := E_b_3.keep Kq4
  have F_isPresent_b_3 := F_isPresent_b_3.keep Kq4 nin0
  have F_value_b_3 := F_value_b_3.keep Kq4 nin0
  have K4 := K3.trans Kq4 all0
  have zn4 : n0 ≤ T4.heap.size := Nat.le_trans zn3 Kq4.1
  have E_b_4 := E_b_4_p
  have F_isPresent_b_4 := F_isPresent_b_4_p
  have F_value_b_4 := F_value_b_4_p
  refine OGo.go (B := T4.setTop (mkF m 24 #[.val (.long q0), .second, .val (.long q1), .second, .val (.ref b_1), .val (.ref b_2), .val (.ref b_3), .unset] [(.ref b_4)])) ?_ (fun tX kX => st4.trans kX)
  refine OGo.go (B := T4.setTop (mkF m 26 #[.val (.long q0), .second, .val (.long q1), .second, .val (.ref b_1), .val (.ref b_2), .val (.ref b_3), .val (.ref b_4)] [])) ?_ (fun tX kX => XS.astore X4.here hx rfl (hb hby at_24) rfl rfl (l' := #[.val (.long q0), .second, .val (.long q1), .second, .val (.ref b_1), .val (.ref b_2), .val (.ref b_3), .val (.ref b_4)]) rfl kX)
  refine OGo.go (B := T4.setTop (mkF m 28 #[.val (.long q0), .second, .val (.long q1), .second, .val (.ref b_1), .val (.ref b_2), .val (.ref b_3), .val (.ref b_4)] [(.ref b_3)])) ?_ (fun tX kX => XS.aload X4.here hx rfl (hb hby at_26) rfl rfl kX)
  refine OGo.go (B := T4.setTop (mkF m 29 #[.val (.long q0), .second, .val (.long q1), .second, .val (.ref b_1), .val (.ref b_2), .val (.ref b_3), .val (.ref b_4)] [(.long q0), (.ref b_3)])) ?_ (fun tX kX => XS.lloadN X4.here hx rfl (hb hby at_28) rfl kX)
  obtain ⟨_, _, ⟨T5, L5, k5, n5⟩, -, X5, ⟨Lc5, hQ5, l5, y5, z5⟩, st5⟩ := Jvm.LawKit.callS X4 hx (y := (⟨"com/example/turnstile/turnstile/AnswerGrantedPinLaw", "holds", "(Ljava/util/OptionalLong;J)Z"⟩ : MethodName)) hown (mvT hZ (hw _ (List.mem_of_getElem? (i := 41) rfl))) (mvT hZ (hw _ (List.mem_of_getElem? (i := 42) rfl))) (mvT hZ (hw _ (List.mem_of_getElem? (i := 43) rfl))) (mvT hZ (hw _ (List.mem_of_getElem? (i := 44) rfl))) (by decide) (backOf (W := 0) (rm8 l Z aV hw [] b_3 q0 i_3 x_3 T4.heap n0 zn4 E_b_3 F_isPresent_b_3 F_value_b_3 hr3_0 hr3_1) hZ (hw _ (List.mem_of_getElem? (i := 44) rfl)) (hw _ (List.mem_of_getElem? (i := 43) rfl)) (by decide) (by decide)) (g := (mkF m 29 #[.val (.long q0), .second, .val (.long q1), .second, .val (.ref b_1), .val (.ref b_2), .val (.ref b_3), .val (.ref b_4)] [(.long q0), (.ref b_3)])) rfl (by rw [hml]; rfl) (argsL := [(.ref b_3), (.long q0)]) (rest := []) (lenOf pd__Ljava_util_OptionalLong_J_Z rfl) rfl (by show 2 * 0 + _ ≤ _; exact Nat.le_of_eq rfl) (hb hby at_29) (fun _ _ => ⟨rfl, rfl, (by decide : 4 + 0 ≤ _), (by decide : 8 + 0 ≤ _)⟩)
  dsimp only [Pt.U, Pt.locs, Pt.cells, Pt.slots] at X5 l5 y5 z5 st5 hQ5
  subst l5 y5 z5
  obtain ⟨rfl, N5q, e5⟩ := hQ5
  have N5 := Fr.app N4 N5q
  refine OGo.go (B := T5.setTop (mkF m 32 #[.val (.long q0), .second, .val (.long q1), .second, .val (.ref b_1), .val (.ref b_2), .val (.ref b_3), .val (.ref b_4)] [(.int (1 : Int32))])) ?_ st5
  refine OGo.go (B := T5.setTop (mkF m 35 #[.val (.long q0), .second, .val (.long q1), .second, .val (.ref b_1), .val (.ref b_2), .val (.ref b_3), .val (.ref b_4)] [])) ?_ (fun tX kX => XS.ifNo X5.here hx rfl (hb hby at_32) rfl ((if0 _ _).trans (feq (by decide)).1) kX)
  refine OGo.go (B := T5.setTop (mkF m 37 #[.val (.long q0), .second, .val (.long q1), .second, .val (.ref b_1), .val (.ref b_2), .val (.ref b_3), .val (.ref b_4)] [(.ref b_4)])) ?_ (fun tX kX => XS.aload X5.here hx rfl (hb hby at_35) rfl rfl kX)
  refine OGo.go (B := T5.setTop (mkF m 38 #[.val (.long q0), .second, .val (.long q1), .second, .val (.ref b_1), .val (.ref b_2), .val (.ref b_3), .val (.ref b_4)] [(.long q1), (.ref b_4)])) ?_ (fun tX kX => XS.lloadN X5.here hx rfl (hb hby at_37) rfl kX)
  obtain ⟨_, _, ⟨T6, L6, k6, n6⟩, -, X6, ⟨Lc6, hQ6, l6, y6, z6⟩, st6⟩ := Jvm.LawKit.callS X5 hx (y := (⟨"com/example/turnstile/turnstile/AnswerGrantedPinLaw", "holds", "(Ljava/util/OptionalLong;J)Z"⟩ : MethodName)) hown (mvT hZ (hw _ (List.mem_of_getElem? (i := 41) rfl))) (mvT hZ (hw _ (List.mem_of_getElem? (i := 42) rfl))) (mvT hZ (hw _ (List.mem_of_getElem? (i := 43) rfl))) (mvT hZ (hw _ (List.mem_of_getElem? (i := 44) rfl))) (by decide) (backOf (W := 0) (rm8 l Z aV hw [] b_4 q1 i_4 x_4 T4.heap n0 zn4 E_b_4 F_isPresent_b_4 F_value_b_4 hr4_0 hr4_1) hZ (hw _ (List.mem_of_getElem? (i := 44) rfl)) (hw _ (List.mem_of_getElem? (i := 43) rfl)) (by decide) (by decide)) (g := (mkF m 38 #[.val (.long q0), .second, .val (.long q1), .second, .val (.ref b_1), .val (.ref b_2), .val (.ref b_3), .val (.ref b_4)] [(.long q1), (.ref b_4)])) rfl (by rw [hml]; rfl) (argsL := [(.ref b_4), (.long q1)]) (rest := []) (lenOf pd__Ljava_util_OptionalLong_J_Z rfl) rfl (by show 2 * 0 + _ ≤ _; exact Nat.le_of_eq rfl) (hb hby at_38) (fun _ _ => ⟨rfl, e5, (by decide : 4 + 0 ≤ _), (by decide : 8 + 0 ≤ _)⟩)
  dsimp only [Pt.U, Pt.locs, Pt.cells, Pt.slots] at X6 l6 y6 z6 st6 hQ6
  subst l6 y6 z6
  obtain ⟨rfl, N6q, e6⟩ := hQ6
  have N6 := Fr.app N5 N6q
  refine OGo.go (B := T6.setTop (mkF m 41 #[.val (.long q0), .second, .val (.long q1), .second, .val (.ref b_1), .val (.ref b_2), .val (.ref b_3), .val (.ref b_4)] [(.int (1 : Int32))])) ?_ st6
  refine OGo.go (B := T6.setTop (mkF m 44 #[.val (.long q0), .second, .val (.long q1), .second, .val (.ref b_1), .val (.ref b_2), .val (.ref b_3), .val (.ref b_4)] [])) ?_ (fun tX kX => XS.ifNo X6.here hx rfl (hb hby at_41) rfl ((if0 _ _).trans (feq (by decide)).1) kX)
  refine OGo.go (B := T6.setTop (mkF m 45 #[.val (.long q0), .second, .val (.long q1), .second, .val (.ref b_1), .val (.ref b_2), .val (.ref b_3), .val (.ref b_4)] [(.int (1 : Int32))])) ?_ (fun tX kX => XS.iconst X6.here hx rfl (hb hby at_44) kX)
  refine OGo.go (B := T6.setTop (mkF m 49 #[.val (.long q0), .second, .val (.long q1), .second, .val (.ref b_1), .val (.ref b_2), .val (.ref b_3), .val (.ref b_4)] [(.int (1 : Int32))])) ?_ (fun tX kX => XS.goto X6.here hx rfl (pc0 := 45) (pc' := 49) rfl (hb hby at_45) (by decide) (by decide) kX)
  refine OGo.ret X6 (v := (some (.int (1 : Int32)))) (fun h => by rw [Bd.returns] at h; cases h) (BodyLoose.notSynchronized Bd) (fun fs hr => retN X6 hx (t := .boolean) (z := (1 : Int32)) Bd.returns (by simp) (hb hby at_49) hr) (Q := Q0 Z q0 q1 w wv h0 n0) ?_ (by decide) (by decide)
  show Q0 Z q0 q1 w wv h0 n0 _ T6.heap _
  rw [e6]
  exact ⟨rfl, N6⟩
set_option maxRecDepth 65536 in
set_option maxHeartbeats 40000000 in
theorem comes_1 {Post : Tables → Env → Array Value → State → Outcome → State → Prop} (hpost : ∀ tb e args s v u, (limb_1_1.after args s (.returned v) u = true ∧ limb_1_2.after args s (.returned v) u = true ∧ True) → FrameEnd s (.returned v) u (Jvm.fieldLocs frame_1_writes args s ++ Jvm.arrayLocs frame_1_arrays args s ++ Jvm.staticLocs frame_1_statics s) 16 128 → Post tb e args s (.returned v) u) :
    ArmFor flags0 classFile x code maxLocals ret World_1 tables_1 room_1 Calls_1 rest_1 Pre_1 Post := by
  intro l hfl _ _ p e ha hc hk s m args below hf hA hF happ hP
  obtain ⟨hcalls, hrest, hpre⟩ := hP
  obtain ⟨-, -, -, hnamed, -, -, -, hat⟩ := (Spec.applies_iff hf).mp happ
  obtain ⟨hg, hn⟩ := and_e (Cond.before_iff.mp (show (Jvm.Cond.and given_1 narrow_1).before args s = true from hpre))
  obtain ⟨gc0, gr0⟩ := and_e hg
  obtain ⟨gc1, gr1⟩ := and_e gr0
  obtain ⟨w0, w1, rfl⟩ : ∃ w0 w1 : Value, args = #[w0, w1] := by
    have hs : args.size = 2 := by simpa [Cond.value, given_1] using gc0
    obtain ⟨L⟩ := args
    match L, hs with
    | [w0, w1], _ => exact ⟨w0, w1, rfl⟩
  have hw := fun d (hd : d ∈ tables_1) => atoms_spec (ws := Jvm.Cond.code x code maxLocals ret :: tables_1) hat d (List.mem_cons_of_mem _ hd)
  have hfit : Fit s := fun {y c} hc i hi => by
    obtain ⟨ha, rfl⟩ := Array.getElem?_eq_some_iff.mp hc
    have q := List.all_eq_true.mp ((Array.all_eq_true_iff_forall_mem.mp hF) _ (Array.getElem_mem ha)) i (List.mem_range.mpr hi)
    simpa [Array.getElem?_eq_getElem hi] using q
  obtain ⟨hsets, hown0⟩ := atoms_of _ (rest_1_c_eq ▸ (show rest_1_c.before _ s = true from hrest))
  have hset := fun k (hk : k ∈ jdkStatics_1) => Cond.before_iff.mp (hsets k hk)
  obtain ⟨i0, ei0⟩ := isL_v gc1
  obtain rfl : w0 = (.long i0) := Option.some.inj ei0
  obtain ⟨i1, ei1⟩ := isL_v gr1
  obtain rfl : w1 = (.long i1) := Option.some.inj ei1
  obtain ⟨wE, evE⟩ := exa_v (hset _ (List.mem_of_getElem? (i := 2) rfl))
  have SE := Sta.start evE (Or.inl (hsets _ (List.mem_of_getElem? (i := 1) rfl)))
  have EE := Exa.start evE (hset _ (List.mem_of_getElem? (i := 2) rfl))
  have FE := fldI evE (hset _ (List.mem_of_getElem? (i := 3) rfl))
  have FV := fldL evE (hset _ (List.mem_of_getElem? (i := 4) rfl))
  obtain ⟨n, o, h1, h2, h3, _, L, rfl, ⟨rfl, N⟩, hq⟩ := rm0 l s _ hw tables_1 i0 i1 wE (0 : Int64) s.heap s.heap.size (Nat.le_refl _) SE EE FE FV p e ha hc hk s m _ below hf ((Spec.applies_iff_loose hf).mp happ).1 ⟨rfl, State.Warmed39.refl s, rfl⟩ trivial
  refine ⟨n, _, h1, h2, h3, hpost _ _ _ _ _ _ ⟨Cond.after_iff.mpr rfl, Cond.after_iff.mpr (eq_i res_at (Term.int_eval (1)) rfl), trivial⟩ ⟨hq.1, hq.2.1, (hq.2.2.sift fun y hy => Or.inr (N y hy)).mono (by decide) (by decide)⟩⟩
theorem main_1_1 : Claimed_1_1 := comes_1 fun _ _ _ _ _ _ h hF => ⟨h.1, hF⟩
theorem main_1_2 : Claimed_1_2 := comes_1 fun _ _ _ _ _ _ h hF => ⟨h.2.1, hF⟩
end Jvm.Pilot.@@N@@
namespace Jvm.Pilot.@@N@@
open Jvm Jvm.ClassFile Sem Op Lib Jvm.Free Jvm.Stand Jvm.Pilot.@@N@@.Jvm.D
/-! MADE BY PROGRAM (witnessworld.py) out of the Statement's table words and the real class files: 10 classes; the members and pool entries that the words name. The judged class is class 1, her method 2. -/
namespace start1
open Jvm.ClassFile
def u (s : String) : CpInfo := .utf8 (stringToUtf16 s)
/-- a pool by its gaps: so many unusable entries, then the entry; so many at the end -/
def gap : Nat → List CpInfo → List CpInfo
  | 0, r => r
  | n + 1, r => .unusable :: gap n r
def poolList (es : List (Nat × CpInfo)) (last : Nat) : List CpInfo := es.foldr (fun e r => gap e.1 (e.2 :: r)) (gap last [])
def pool (es : List (Nat × CpInfo)) (last : Nat) : Array CpInfo := ⟨poolList es last⟩
def fileOf (pool : Array CpInfo) (this : Nat) (attrs : Array Attribute := #[]) (ms : Array MethodInfo := #[]) (fl : Nat := 33) (sup : Nat := 0) (ifs : Array Nat := #[]) (fds : Array FieldInfo := #[]) : ClassFile where
  minorVersion := 0
  majorVersion := 65
  constantPool := pool
  accessFlags := fl
  thisClass := this
  superClass := sup
  interfaces := ifs
  fields := fds
  methods := ms
  attributes := attrs
def plain (name : String) (sup : Option ClassId) : Class where
  name := name
  kind := .ordinary
  loader := none
  accessFlags := 33
  super := sup
  interfaces := #[]
  cf := none
  fields := #[]
  methods := #[]
  instanceTypes := #[]
  staticTypes := #[]
  resolved := #[]
  callSites := []
  init := .initialized
  statics := none
  mirror := none

def pool0 : Array CpInfo := pool [(5, u "<init>"), (0, u "()V"), (1, .class_ 10), (1, u "java/lang/Object")] 113

def k0c0 : Code := { maxStack := 0, maxLocals := 1, code := object_method_1_code, exceptionTable := #[], attributes := #[] }
def k0m0 : Method := { name := "<init>", desc := "()V", sig := { parameters := [], returnType := none }, accessFlags := 1, code := some k0c0 }
/-- java/lang/Object -/
def k0 : Class := { plain "java/lang/Object" none with
  accessFlags := 33
  interfaces := #[]
  cf := some (fileOf pool0 8 #[] #[{ accessFlags := 1, nameIndex := 5, descriptorIndex := 6, attributes := #[] }] 33 0 #[] #[])
  fields := #[]
  methods := #[k0m0]
  instanceTypes := #[]
  staticTypes := #[]
  resolved := Array.replicate 124 none
  statics := none }

def pool1 : Array CpInfo := pool [(2, .class_ 4), (1, u "java/lang/Object"), (0, u "<init>"), (0, u "()V"), (0, .methodref 8 9), (0, .class_ 10), (0, .nameAndType 11 12), (0, u "java/util/OptionalLong"), (0, u "isPresent"), (0, u "()Z"), (0, .methodref 8 14), (0, .nameAndType 15 16), (0, u "getAsLong"), (0, u "()J"), (0, .methodref 18 19), (0, .class_ 20), (0, .nameAndType 21 22), (0, u "com/example/turnstile/turnstile/QueuedWait$Answer"), (0, u "granted"), (0, u "(J)Lcom/example/turnstile/turnstile/QueuedWait$Answer;"), (0, .methodref 18 24), (0, .nameAndType 25 26), (0, u "token"), (0, u "()Ljava/util/OptionalLong;"), (0, .methodref 28 29), (0, .class_ 30), (0, .nameAndType 31 32), (0, u "com/example/turnstile/turnstile/AnswerGrantedPinLaw"), (0, u "holds"), (0, u "(Ljava/util/OptionalLong;J)Z"), (3, u "law"), (0, u "(JJ)Z")] 6

def k1m0 : Method := { name := "<init>", desc := "()V", sig := { parameters := [], returnType := none }, accessFlags := 1, code := none }
def k1c1 : Code := { maxStack := 4, maxLocals := 3, code := method_2_code, exceptionTable := #[], attributes := #[] }
def k1m1 : Method := { name := "holds", desc := "(Ljava/util/OptionalLong;J)Z", sig := { parameters := [(.object "java/util/OptionalLong"), .long], returnType := some .boolean }, accessFlags := 10, code := some k1c1 }
def k1c2 : Code := { maxStack := 3, maxLocals := 8, code := code, exceptionTable := #[], attributes := #[] }
def k1m2 : Method := { name := "law", desc := "(JJ)Z", sig := { parameters := [.long, .long], returnType := some .boolean }, accessFlags := 9, code := some k1c2 }
/-- com/example/turnstile/turnstile/AnswerGrantedPinLaw -/
def k1 : Class := { plain "com/example/turnstile/turnstile/AnswerGrantedPinLaw" (some 0) with
  accessFlags := 49
  interfaces := #[]
  cf := some (fileOf pool1 28 #[] #[{ accessFlags := 1, nameIndex := 5, descriptorIndex := 6, attributes := #[] }, { accessFlags := 10, nameIndex := 31, descriptorIndex := 32, attributes := #[] }, { accessFlags := 9, nameIndex := 36, descriptorIndex := 37, attributes := #[] }] 49 2 #[] #[])
  fields := #[]
  methods := #[k1m0, k1m1, k1m2]
  instanceTypes := #[]
  staticTypes := #[]
  resolved := Array.replicate 44 none
  statics := none }

def pool2 : Array CpInfo := pool [(1, .methodref 2 3), (0, .class_ 4), (0, .nameAndType 5 6), (0, u "java/lang/Object"), (0, u "<init>"), (0, u "()V"), (0, .fieldref 8 9), (0, .class_ 10), (0, .nameAndType 11 12), (0, u "com/example/turnstile/turnstile/QueuedWait$Answer"), (0, u "token"), (0, u "J"), (0, .fieldref 8 14), (0, .nameAndType 15 12), (0, u "leaseExpiresInMillis"), (0, .long 18446744073709551615), (1, .methodref 8 19), (0, .nameAndType 5 20), (0, u "(JJ)V"), (0, .methodref 22 23), (0, .class_ 24), (0, .nameAndType 25 26), (0, u "java/util/OptionalLong"), (0, u "empty"), (0, u "()Ljava/util/OptionalLong;"), (0, .methodref 22 28), (0, .nameAndType 29 30), (0, u "of"), (0, u "(J)Ljava/util/OptionalLong;"), (2, u "granted"), (0, u "(J)Lcom/example/turnstile/turnstile/QueuedWait$Answer;"), (5, .class_ 41), (0, u "com/example/turnstile/turnstile/QueuedWait")] 2

def k2c0 : Code := { maxStack := 3, maxLocals := 5, code := prog_11_method_1_code, exceptionTable := #[], attributes := #[] }
def k2m0 : Method := { name := "<init>", desc := "(JJ)V", sig := { parameters := [.long, .long], returnType := none }, accessFlags := 2, code := some k2c0 }
def k2c1 : Code := { maxStack := 6, maxLocals := 2, code := prog_11_method_2_code, exceptionTable := #[], attributes := #[] }
def k2m1 : Method := { name := "granted", desc := "(J)Lcom/example/turnstile/turnstile/QueuedWait$Answer;", sig := { parameters := [.long], returnType := some (.object "com/example/turnstile/turnstile/QueuedWait$Answer") }, accessFlags := 9, code := some k2c1 }
def k2c2 : Code := { maxStack := 4, maxLocals := 2, code := prog_11_method_4_code, exceptionTable := #[], attributes := #[] }
def k2m2 : Method := { name := "token", desc := "()Ljava/util/OptionalLong;", sig := { parameters := [], returnType := some (.object "java/util/OptionalLong") }, accessFlags := 1, code := some k2c2 }
/-- com/example/turnstile/turnstile/QueuedWait$Answer -/
def k2 : Class := { plain "com/example/turnstile/turnstile/QueuedWait$Answer" (some 0) with
  accessFlags := 49
  interfaces := #[]
  cf := some (fileOf pool2 8 #[.nestHost 40] #[{ accessFlags := 2, nameIndex := 5, descriptorIndex := 20, attributes := #[] }, { accessFlags := 9, nameIndex := 33, descriptorIndex := 34, attributes := #[] }, { accessFlags := 1, nameIndex := 11, descriptorIndex := 26, attributes := #[] }] 49 2 #[] #[{ accessFlags := 18, nameIndex := 11, descriptorIndex := 12, attributes := #[] }, { accessFlags := 18, nameIndex := 15, descriptorIndex := 12, attributes := #[] }])
  fields := #[{ name := "token", type := .long, accessFlags := 18, slot := 0, constantValue := 0 }, { name := "leaseExpiresInMillis", type := .long, accessFlags := 18, slot := 1, constantValue := 0 }]
  methods := #[k2m0, k2m1, k2m2]
  instanceTypes := #[.long, .long]
  staticTypes := #[]
  resolved := Array.replicate 44 none
  statics := none }

def pool3 : Array CpInfo := pool [(1, .methodref 2 3), (0, .class_ 4), (0, .nameAndType 5 6), (0, u "java/lang/Object"), (0, u "<init>"), (0, u "()V"), (0, .fieldref 8 9), (0, .class_ 10), (0, .nameAndType 11 12), (0, u "java/util/OptionalLong"), (0, u "isPresent"), (0, u "Z"), (0, .fieldref 8 14), (0, .nameAndType 15 16), (0, u "value"), (0, u "J"), (0, .fieldref 8 18), (0, .nameAndType 19 20), (0, u "EMPTY"), (0, u "Ljava/util/OptionalLong;"), (0, .methodref 8 22), (0, .nameAndType 5 23), (0, u "(J)V"), (21, u "of"), (3, u "empty"), (5, u "getAsLong"), (0, u "()J"), (39, u "()Ljava/util/OptionalLong;"), (0, u "(J)Ljava/util/OptionalLong;"), (1, u "()Z")] 38

def k3m0 : Method := { name := "<init>", desc := "()V", sig := { parameters := [], returnType := none }, accessFlags := 2, code := none }
def k3c1 : Code := { maxStack := 1, maxLocals := 0, code := jdk_2650_method_2_code, exceptionTable := #[], attributes := #[] }
def k3m1 : Method := { name := "empty", desc := "()Ljava/util/OptionalLong;", sig := { parameters := [], returnType := some (.object "java/util/OptionalLong") }, accessFlags := 9, code := some k3c1 }
def k3c2 : Code := { maxStack := 3, maxLocals := 3, code := jdk_2650_method_3_code, exceptionTable := #[], attributes := #[] }
def k3m2 : Method := { name := "<init>", desc := "(J)V", sig := { parameters := [.long], returnType := none }, accessFlags := 2, code := some k3c2 }
def k3c3 : Code := { maxStack := 4, maxLocals := 2, code := jdk_2650_method_4_code, exceptionTable := #[], attributes := #[] }
def k3m3 : Method := { name := "of", desc := "(J)Ljava/util/OptionalLong;", sig := { parameters := [.long], returnType := some (.object "java/util/OptionalLong") }, accessFlags := 9, code := some k3c3 }
def k3c4 : Code := { maxStack := 3, maxLocals := 1, code := jdk_2650_method_5_code, exceptionTable := #[], attributes := #[] }
def k3m4 : Method := { name := "getAsLong", desc := "()J", sig := { parameters := [], returnType := some .long }, accessFlags := 1, code := some k3c4 }
def k3c5 : Code := { maxStack := 1, maxLocals := 1, code := jdk_2650_method_6_code, exceptionTable := #[], attributes := #[] }
def k3m5 : Method := { name := "isPresent", desc := "()Z", sig := { parameters := [], returnType := some .boolean }, accessFlags := 1, code := some k3c5 }
/-- java/util/OptionalLong -/
def k3 : Class := { plain "java/util/OptionalLong" (some 0) with
  accessFlags := 49
  interfaces := #[]
  cf := some (fileOf pool3 8 #[] #[{ accessFlags := 2, nameIndex := 5, descriptorIndex := 6, attributes := #[] }, { accessFlags := 9, nameIndex := 49, descriptorIndex := 96, attributes := #[] }, { accessFlags := 2, nameIndex := 5, descriptorIndex := 23, attributes := #[] }, { accessFlags := 9, nameIndex := 45, descriptorIndex := 97, attributes := #[] }, { accessFlags := 1, nameIndex := 55, descriptorIndex := 56, attributes := #[] }, { accessFlags := 1, nameIndex := 11, descriptorIndex := 99, attributes := #[] }] 49 2 #[] #[{ accessFlags := 26, nameIndex := 19, descriptorIndex := 20, attributes := #[] }, { accessFlags := 18, nameIndex := 11, descriptorIndex := 12, attributes := #[] }, { accessFlags := 18, nameIndex := 15, descriptorIndex := 16, attributes := #[] }])
  fields := #[{ name := "EMPTY", type := (.object "java/util/OptionalLong"), accessFlags := 26, slot := 0, constantValue := 0 }, { name := "isPresent", type := .boolean, accessFlags := 18, slot := 0, constantValue := 0 }, { name := "value", type := .long, accessFlags := 18, slot := 1, constantValue := 0 }]
  methods := #[k3m0, k3m1, k3m2, k3m3, k3m4, k3m5]
  instanceTypes := #[.boolean, .long]
  staticTypes := #[(.object "java/util/OptionalLong")]
  resolved := Array.replicate 138 none
  statics := some 0 }

def pool4 : Array CpInfo := pool [(1, u "java/lang/Cloneable"), (0, .class_ 1), (0, u "java/lang/Object"), (0, .class_ 3)] 3

/-- java/lang/Cloneable -/
def k4 : Class := { plain "java/lang/Cloneable" (some 0) with
  accessFlags := 1537
  interfaces := #[]
  cf := some (fileOf pool4 2 #[] #[] 1537 4 #[] #[])
  fields := #[]
  methods := #[]
  instanceTypes := #[]
  staticTypes := #[]
  resolved := Array.replicate 8 none
  statics := none }

def pool5 : Array CpInfo := pool [(1, u "java/io/Serializable"), (0, .class_ 1), (0, u "java/lang/Object"), (0, .class_ 3)] 3

/-- java/io/Serializable -/
def k5 : Class := { plain "java/io/Serializable" (some 0) with
  accessFlags := 1537
  interfaces := #[]
  cf := some (fileOf pool5 2 #[] #[] 1537 4 #[] #[])
  fields := #[]
  methods := #[]
  instanceTypes := #[]
  staticTypes := #[]
  resolved := Array.replicate 8 none
  statics := none }

/-- the primitive byte -/
def k6 : Class := { plain "byte" none with kind := .primitive 'B', accessFlags := 0x411 }
/-- [B -/
def k7 : Class := { plain "[B" (some 0) with kind := .array 6 .byte, interfaces := #[4, 5], accessFlags := 1041 }

/-- the primitive int -/
def k8 : Class := { plain "int" none with kind := .primitive 'I', accessFlags := 0x411 }
/-- [I -/
def k9 : Class := { plain "[I" (some 0) with kind := .array 8 .int, interfaces := #[4, 5], accessFlags := 1041 }

def heap : Heap := #[{ cls := 3, slots := #[.ref 1], vm := .statics 3 },
  { cls := 3, slots := #[.int 0, .long 0], vm := .none }]
def classes : Array Class := #[k0, k1, k2, k3, k4, k5, k6, k7, k8, k9]
def interned : List (Array UInt16 × Addr) := []
def slotsUsed : Nat := 3
def theMethod : MethodId := ⟨1, 2⟩
def args0 : Array Value := #[.long 5, .long (-3)]
def aboutOver (below : List Frame) : State where
  vm := { classes := classes, interned := interned.toArray }
  heap := heap
  slotsUsed := slotsUsed
  threads := #[{ frames := .invoking theMethod args0 :: below }]
def below0 : List Frame := [.native { method := ⟨0, 0⟩, args := #[] }]
def about1 : State := aboutOver below0
def p0 : Program := .bare "" "" ""
def e0 : Env := launch0.env 0 0 0
theorem w_frames : about1.frames = Frame.invoking theMethod args0 :: below0 := rfl
set_option maxRecDepth 65536 in
theorem w_args : argsFit about1.vm theMethod args0 = true := by decide +kernel
set_option maxRecDepth 65536 in
theorem w_heap : heapFits about1 = true := by decide +kernel
set_option maxRecDepth 65536 in
theorem w_runnable : about1.curStatus? = some .runnable := by decide +kernel
set_option maxRecDepth 65536 in
theorem w_alone : about1.alone = true := by decide +kernel
set_option maxRecDepth 65536 in
theorem w_named : about1.methodNamed? x = some theMethod := by decide +kernel
set_option maxRecDepth 65536 in
theorem w_hears : about1.hears theMethod below0 = true := by decide +kernel
set_option maxRecDepth 65536 in
theorem w_ripe : about1.ripe theMethod args0 below0 = true := by decide +kernel
theorem w_running : about1.status = .running := rfl
set_option maxRecDepth 65536 in
theorem w_room : about1.hasRoom e0.platform room_1 = true :=
  launch0.hasRoom_least _ room_1 (by decide +kernel) (by decide +kernel) (by decide +kernel) (by decide +kernel) (by decide +kernel) (by decide +kernel)
theorem allAtoms_all (ts : List Jvm.Cond) (a : Array Jvm.Value) (st : Jvm.State) : (allAtoms ts).before a st = ts.all (fun c => c.before a st) := by
  induction ts with
  | nil => rfl
  | cons c t ih =>
    show (Jvm.Cond.and c (allAtoms t)).before a st = _
    rw [Jvm.Cond.before_and, ih, List.all_cons]
def words1 : List Jvm.Cond := Jvm.Cond.code x code maxLocals ret :: tables_1
/-- a 'code' word, met by the world's own term for the bytes: nothing is compared byte by byte -/
theorem code_word {y : MethodName} {bytes : ByteArray} {mx : Nat} {rt : Option FieldType} {a : Array Value} {s : State} {m : MethodId} {meth : Method} {c : Code} (h1 : s.methodNamed? y = some m) (h2 : s.vm.method? m = some meth) (h3 : meth.code = some c) (h4 : c.code = bytes)
    (h5 : (c.maxLocals == mx && c.exceptionTable.isEmpty && decide (c.maxStack ≤ mostOperands) && decide (meth.sig.returnType = rt) && !meth.locks && decide (parseMethodDescriptor y.desc = some meth.sig)) = true) : (Jvm.Cond.code y bytes mx rt).before a s = true := by
  simp only [Bool.and_eq_true, beq_iff_eq, Bool.not_eq_true', decide_eq_true_eq] at h5
  obtain ⟨⟨⟨⟨⟨g1, g2⟩, g3⟩, g4⟩, g5⟩, g6⟩ := h5
  simp [Cond.before, Cond.holds, Cond.value, h1, h2, h3, h4, g1, g2, g3, g4, g5, g6]
def isCode : Jvm.Cond → Bool
  | .code _ _ _ _ => true
  | _ => false
theorem all_split {L : List Jvm.Cond} {P : Jvm.Cond → Bool} (h1 : L.all (fun c => isCode c || P c) = true) (h2 : ∀ c ∈ L.filter isCode, P c = true) : L.all P = true := by
  refine List.all_eq_true.mpr fun c hc => ?_
  have h := List.all_eq_true.mp h1 c hc
  rcases Bool.eq_false_or_eq_true (isCode c) with hi | hi
  · exact h2 c (List.mem_filter.mpr ⟨hc, hi⟩)
  · simpa [hi] using h
set_option maxRecDepth 65536 in
theorem w_c0 : (Jvm.Cond.code x code maxLocals ret).before args0 about1 = true := code_word (m := ⟨1, 2⟩) (meth := k1m2) (c := k1c2) (by decide +kernel) rfl rfl rfl (by decide +kernel)
set_option maxRecDepth 65536 in
theorem w_c1 : (Jvm.Cond.code ({ cls := "com/example/turnstile/turnstile/QueuedWait$Answer", name := "granted", desc := "(J)Lcom/example/turnstile/turnstile/QueuedWait$Answer;" } : Jvm.MethodName) prog_11_method_2_code (2 : Nat) (Option.some (Jvm.ClassFile.FieldType.object "com/example/turnstile/turnstile/QueuedWait$Answer"))).before args0 about1 = true := code_word (m := ⟨2, 1⟩) (meth := k2m1) (c := k2c1) (by decide +kernel) rfl rfl rfl (by decide +kernel)
set_option maxRecDepth 65536 in
theorem w_c2 : (Jvm.Cond.code ({ cls := "com/example/turnstile/turnstile/QueuedWait$Answer", name := "<init>", desc := "(JJ)V" } : Jvm.MethodName) prog_11_method_1_code (5 : Nat) (Option.none : Option Jvm.ClassFile.FieldType)).before args0 about1 = true := code_word (m := ⟨2, 0⟩) (meth := k2m0) (c := k2c0) (by decide +kernel) rfl rfl rfl (by decide +kernel)
set_option maxRecDepth 65536 in
theorem w_c3 : (Jvm.Cond.code ({ cls := "java/lang/Object", name := "<init>", desc := "()V" } : Jvm.MethodName) object_method_1_code (1 : Nat) (Option.none : Option Jvm.ClassFile.FieldType)).before args0 about1 = true := code_word (m := ⟨0, 0⟩) (meth := k0m0) (c := k0c0) (by decide +kernel) rfl rfl rfl (by decide +kernel)
set_option maxRecDepth 65536 in
theorem w_c4 : (Jvm.Cond.code ({ cls := "com/example/turnstile/turnstile/QueuedWait$Answer", name := "token", desc := "()Ljava/util/OptionalLong;" } : Jvm.MethodName) prog_11_method_4_code (2 : Nat) (Option.some (Jvm.ClassFile.FieldType.object "java/util/OptionalLong"))).before args0 about1 = true := code_word (m := ⟨2, 2⟩) (meth := k2m2) (c := k2c2) (by decide +kernel) rfl rfl rfl (by decide +kernel)
set_option maxRecDepth 65536 in
theorem w_c5 : (Jvm.Cond.code ({ cls := "java/util/OptionalLong", name := "empty", desc := "()Ljava/util/OptionalLong;" } : Jvm.MethodName) jdk_2650_method_2_code (0 : Nat) (Option.some (Jvm.ClassFile.FieldType.object "java/util/OptionalLong"))).before args0 about1 = true := code_word (m := ⟨3, 1⟩) (meth := k3m1) (c := k3c1) (by decide +kernel) rfl rfl rfl (by decide +kernel)
set_option maxRecDepth 65536 in
theorem w_c6 : (Jvm.Cond.code ({ cls := "java/util/OptionalLong", name := "of", desc := "(J)Ljava/util/OptionalLong;" } : Jvm.MethodName) jdk_2650_method_4_code (2 : Nat) (Option.some (Jvm.ClassFile.FieldType.object "java/util/OptionalLong"))).before args0 about1 = true := code_word (m := ⟨3, 3⟩) (meth := k3m3) (c := k3c3) (by decide +kernel) rfl rfl rfl (by decide +kernel)
set_option maxRecDepth 65536 in
theorem w_c7 : (Jvm.Cond.code ({ cls := "java/util/OptionalLong", name := "<init>", desc := "(J)V" } : Jvm.MethodName) jdk_2650_method_3_code (3 : Nat) (Option.none : Option Jvm.ClassFile.FieldType)).before args0 about1 = true := code_word (m := ⟨3, 2⟩) (meth := k3m2) (c := k3c2) (by decide +kernel) rfl rfl rfl (by decide +kernel)
set_option maxRecDepth 65536 in
theorem w_c8 : (Jvm.Cond.code ({ cls := "com/example/turnstile/turnstile/AnswerGrantedPinLaw", name := "holds", desc := "(Ljava/util/OptionalLong;J)Z" } : Jvm.MethodName) method_2_code (3 : Nat) (Option.some Jvm.ClassFile.FieldType.boolean)).before args0 about1 = true := code_word (m := ⟨1, 1⟩) (meth := k1m1) (c := k1c1) (by decide +kernel) rfl rfl rfl (by decide +kernel)
set_option maxRecDepth 65536 in
theorem w_c9 : (Jvm.Cond.code ({ cls := "java/util/OptionalLong", name := "isPresent", desc := "()Z" } : Jvm.MethodName) jdk_2650_method_6_code (1 : Nat) (Option.some Jvm.ClassFile.FieldType.boolean)).before args0 about1 = true := code_word (m := ⟨3, 5⟩) (meth := k3m5) (c := k3c5) (by decide +kernel) rfl rfl rfl (by decide +kernel)
set_option maxRecDepth 65536 in
theorem w_c10 : (Jvm.Cond.code ({ cls := "java/util/OptionalLong", name := "getAsLong", desc := "()J" } : Jvm.MethodName) jdk_2650_method_5_code (1 : Nat) (Option.some Jvm.ClassFile.FieldType.long)).before args0 about1 = true := code_word (m := ⟨3, 4⟩) (meth := k3m4) (c := k3c4) (by decide +kernel) rfl rfl rfl (by decide +kernel)
def codes1 : List Jvm.Cond := [Jvm.Cond.code x code maxLocals ret, Jvm.Cond.code ({ cls := "com/example/turnstile/turnstile/QueuedWait$Answer", name := "granted", desc := "(J)Lcom/example/turnstile/turnstile/QueuedWait$Answer;" } : Jvm.MethodName) prog_11_method_2_code (2 : Nat) (Option.some (Jvm.ClassFile.FieldType.object "com/example/turnstile/turnstile/QueuedWait$Answer")), Jvm.Cond.code ({ cls := "com/example/turnstile/turnstile/QueuedWait$Answer", name := "<init>", desc := "(JJ)V" } : Jvm.MethodName) prog_11_method_1_code (5 : Nat) (Option.none : Option Jvm.ClassFile.FieldType), Jvm.Cond.code ({ cls := "java/lang/Object", name := "<init>", desc := "()V" } : Jvm.MethodName) object_method_1_code (1 : Nat) (Option.none : Option Jvm.ClassFile.FieldType), Jvm.Cond.code ({ cls := "com/example/turnstile/turnstile/QueuedWait$Answer", name := "token", desc := "()Ljava/util/OptionalLong;" } : Jvm.MethodName) prog_11_method_4_code (2 : Nat) (Option.some (Jvm.ClassFile.FieldType.object "java/util/OptionalLong")), Jvm.Cond.code ({ cls := "java/util/OptionalLong", name := "empty", desc := "()Ljava/util/OptionalLong;" } : Jvm.MethodName) jdk_2650_method_2_code (0 : Nat) (Option.some (Jvm.ClassFile.FieldType.object "java/util/OptionalLong")), Jvm.Cond.code ({ cls := "java/util/OptionalLong", name := "of", desc := "(J)Ljava/util/OptionalLong;" } : Jvm.MethodName) jdk_2650_method_4_code (2 : Nat) (Option.some (Jvm.ClassFile.FieldType.object "java/util/OptionalLong")), Jvm.Cond.code ({ cls := "java/util/OptionalLong", name := "<init>", desc := "(J)V" } : Jvm.MethodName) jdk_2650_method_3_code (3 : Nat) (Option.none : Option Jvm.ClassFile.FieldType), Jvm.Cond.code ({ cls := "com/example/turnstile/turnstile/AnswerGrantedPinLaw", name := "holds", desc := "(Ljava/util/OptionalLong;J)Z" } : Jvm.MethodName) method_2_code (3 : Nat) (Option.some Jvm.ClassFile.FieldType.boolean), Jvm.Cond.code ({ cls := "java/util/OptionalLong", name := "isPresent", desc := "()Z" } : Jvm.MethodName) jdk_2650_method_6_code (1 : Nat) (Option.some Jvm.ClassFile.FieldType.boolean), Jvm.Cond.code ({ cls := "java/util/OptionalLong", name := "getAsLong", desc := "()J" } : Jvm.MethodName) jdk_2650_method_5_code (1 : Nat) (Option.some Jvm.ClassFile.FieldType.long)]
set_option maxRecDepth 65536 in
theorem codes_eq : words1.filter isCode = codes1 := rfl
theorem w_codes : ∀ c ∈ words1.filter isCode, c.before args0 about1 = true := by
  rw [codes_eq]
  intro c hc
  simp only [codes1, List.mem_cons, List.not_mem_nil, or_false] at hc
  rcases hc with rfl | rfl | rfl | rfl | rfl | rfl | rfl | rfl | rfl | rfl | rfl
  · exact w_c0
  · exact w_c1
  · exact w_c2
  · exact w_c3
  · exact w_c4
  · exact w_c5
  · exact w_c6
  · exact w_c7
  · exact w_c8
  · exact w_c9
  · exact w_c10
set_option maxRecDepth 65536 in
theorem w_t1 : (words1.take 24).all (fun c => isCode c || c.before args0 about1) = true := by decide +kernel
set_option maxRecDepth 65536 in
theorem w_t2 : ((words1.drop 24).take 24).all (fun c => isCode c || c.before args0 about1) = true := by decide +kernel
set_option maxRecDepth 65536 in
theorem w_t3 : ((words1.drop 24).drop 24).all (fun c => isCode c || c.before args0 about1) = true := by decide +kernel
theorem w_tables : (allAtoms (Jvm.Cond.code x code maxLocals ret :: tables_1)).before args0 about1 = true := by
  rw [allAtoms_all]
  show words1.all (fun c => c.before args0 about1) = true
  refine all_split ?_ w_codes
  rw [← List.take_append_drop 24 words1, List.all_append, w_t1, ← List.take_append_drop 24 (words1.drop 24), List.all_append, w_t2, w_t3]
  rfl
set_option maxRecDepth 65536 in
theorem w_rest : rest_1_c.before args0 about1 = true := by decide +kernel
set_option maxRecDepth 65536 in
theorem w_case : (Jvm.Cond.and given_1 narrow_1).before args0 about1 = true := by decide +kernel
theorem w_applies : (headSpec (Jvm.Cond.code x code maxLocals ret :: tables_1) room_1).applies x e0.platform about1 = true :=
  (Spec.applies_iff w_frames).mpr ⟨w_running, w_runnable, w_alone, w_named, w_hears, w_ripe, w_room, w_tables⟩
theorem atStart : AtStart classFile x code maxLocals ret World_1 tables_1 room_1 Calls_1 rest_1 Pre_1 launch0 p0 e0 about1 theMethod args0 below0 :=
  ⟨lists_1, trivial, launch0.admits_env _ _ _, launch0.least_env, fairChoices_fair.cas, fairChoices_fair.clock, w_frames, w_args, w_heap, w_applies, trivial, w_rest, w_case⟩
end start1
theorem witness_1 : WitnessClaimed_1 := ⟨start1.p0, start1.e0, start1.about1, start1.theMethod, start1.args0, start1.below0, start1.atStart⟩
end Jvm.Pilot.@@N@@
