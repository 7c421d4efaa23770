import JvmDerived
import JvmDerived.Pilot.@@N@@Statement
import JvmDerived.Pilot.@@N@@Code
set_option linter.unusedVariables false
set_option linter.unusedSimpArgs false
namespace Jvm.Pilot.@@N@@.Own
open Jvm Sem ClassFile Op Lib Jvm.Stand Jvm.Free Jvm.LawKit Jvm.RoadKit
/-- from the state A the run comes to an end of which P holds -/
def OGo (tb : Tables) (e : Env) (below : List Frame) (P : Outcome → State → Prop) (A : State) : Prop := ∃ s₂ o, Steps tb e below A s₂ ∧ s₂.status = .running ∧ Ended s₂ below o ∧ P o s₂
theorem OGo.go {tb : Tables} {e : Env} {below : List Frame} {P : Outcome → State → Prop} {A B : State} (k : OGo tb e below P B) (h : ∀ t, Steps tb e below B t → Steps tb e below A t) : OGo tb e below P A := by
  obtain ⟨s, o, h1, h2⟩ := k; exact ⟨s, o, h _ h1, h2⟩
theorem OGo.start {tb : Tables} {e : Env} {below : List Frame} {P : Outcome → State → Prop} {T : State} {g g' : JFrame} (q : g = g') (k : OGo tb e below P (T.setTop g')) : OGo tb e below P (T.setTop g) := q ▸ k
theorem OGo.ret {p : Program} {l : Launch} {e : Env} {R : Room} {s : State} {m : MethodId} {args : Array Value} {below : List Frame} {meth : Method} {c : Code} {T : State} {locs : List Loc} {cells slots : Nat}
    (X : Stand p l e R s m args below meth c T locs cells slots) {v : Option Value} (hv : meth.sig.returnType = none → v = none) (hlocks : meth.locks = false) {A : State}
    (hA : ∀ fs, (∀ (f : JFrame) (acts : List Action), f.method = m → f.locked = none → f.entered = [] → (doReturn e (T.setTop f) acts v).1 = T.setFrames fs) → Steps p.tables e below A (T.setFrames fs))
    {Q : Option Value → Heap → List Loc → Prop} {C S : Nat} (hQ : Q v T.heap locs) (hc : cells ≤ C) (hs : slots ≤ S) :
    OGo p.tables e below (fun o U' => ∃ v L, o = .returned v ∧ Q v U'.heap L ∧ FrameEnd s o U' L C S) A := by
  obtain ⟨fs, hr, hrun, hended, hW, hsame⟩ := X.leave hv hlocks
  exact ⟨_, _, hA fs hr, hrun, hended, v, locs, rfl, hQ, ⟨_, rfl⟩, hW, hsame.mono hc hs⟩
theorem OGo.retW {p : Program} {l : Launch} {e : Env} {R : Room} {s : State} {m : MethodId} {args : Array Value} {below : List Frame} {meth : Method} {c : Code} {T : State} {locs : List Loc} {cells slots : Nat} {vm0 : Vm} {k0 : Nat}
    (X : Stand p l e R (s.setVm vm0) m args below meth c T locs cells slots) (hS : s.Since vm0 k0) (hn : k0 ≤ T.heap.size) {v : Option Value} (hv : meth.sig.returnType = none → v = none) (hlocks : meth.locks = false) {A : State}
    (hA : ∀ fs, (∀ (f : JFrame) (acts : List Action), f.method = m → f.locked = none → f.entered = [] → (doReturn e (T.setTop f) acts v).1 = T.setFrames fs) → Steps p.tables e below A (T.setFrames fs))
    {Q : Option Value → Heap → List Loc → Prop} {C S : Nat} (hQ : Q v T.heap locs) (hc : cells ≤ C) (hs : slots ≤ S) :
    OGo p.tables e below (fun o U' => ∃ v L, o = .returned v ∧ Q v U'.heap L ∧ ReturnedEndW s o U' L C S) A := by
  obtain ⟨fs, hr, hrun, hended, h1, h2, h3, h4⟩ := X.leaveW hS hn hv hlocks
  exact ⟨_, _, hA fs hr, hrun, hended, v, locs, rfl, hQ, h1, h2, h3, h4.mono hc hs⟩
theorem Sta.keep0 {Z : State} {h h' : Heap} {C n d : String} {v : Value} (F : Sta Z h C n d v) (K : Keep h h' []) : Sta Z h' C n d v := by
  obtain ⟨cf, i, k, f, st, cell, h1, h2, h3, h4, h5, r⟩ := F; exact ⟨cf, i, k, f, st, cell, h1, h2, h3, h4, K.2.1 _ _ h5 (fun q => nomatch q), r⟩
theorem Sta.keepE {Z : State} {h h' : Heap} {C n d : String} {v : Value} {ws : List Addr} (F : Sta Z h C n d v) (K : Keep h h' ws) (q : ∀ x ∈ ws, ∃ c : Cell, h[x]? = some c ∧ ∀ q, c.vm ≠ .statics q) : Sta Z h' C n d v := by
  obtain ⟨cf, i, k, f, st, cell, h1, h2, h3, h4, h5, h6, r⟩ := F
  refine ⟨cf, i, k, f, st, cell, h1, h2, h3, h4, K.2.1 _ _ h5 (fun hm => ?_), h6, r⟩
  obtain ⟨c, hc, hq⟩ := q _ hm
  cases h5.symm.trans hc
  cases hv : cell.vm <;> rw [hv] at h6 <;> first | exact hq _ hv | (simp [VmData.isStatics] at h6)
theorem staS {h : Heap} {y : Addr} {ws : List Addr} (a : ∃ c : Cell, h[y]? = some c ∧ ∀ q, c.vm ≠ .statics q) (r : ∀ x ∈ ws, ∃ c : Cell, h[x]? = some c ∧ ∀ q, c.vm ≠ .statics q) : ∀ x ∈ y :: ws, ∃ c : Cell, h[x]? = some c ∧ ∀ q, c.vm ≠ .statics q := fun x hx => (List.mem_cons.mp hx).elim (fun e => e ▸ a) (r x)
theorem own_nf {args : Array Value} {s : State} {C : String} {y y' : MethodName} (hsel : (Cond.selects C y' y').before args s = true) (e : y'.cls = y.cls) : NotFace s y := fun r0 h0 => by
  obtain ⟨c2, r2, m2, q1, q2, q3, q4, kP, hkP, hkPi⟩ := Cond.selects_spec hsel
  have a := findClass_of_methodNamed h0
  have b := findClass_of_methodNamed q3
  rw [e] at b
  have c : r0.cls = m2.cls := Option.some.inj (a.symm.trans b)
  exact ⟨kP, by rw [c]; exact hkP, hkPi⟩
theorem own_decl {a0 a1 : Array Value} {Z : State} {y : MethodName} {bytes : ByteArray} {maxL : Nat} {ret : Option FieldType} (w : (Cond.instanceMethod y).before a0 Z = true) (wc : (Cond.code y bytes maxL ret).before a0 Z = true) : (Cond.declares y).before a1 Z = true := by
  obtain ⟨m, meth, h1, h2, h3, -⟩ := Cond.instanceMethod_spec w
  obtain ⟨m2, c, h4, -, -, -, -, -, -, h5⟩ := Cond.code_spec h1 wc
  cases h2.symm.trans h4
  simp [Cond.before, Cond.holds, Cond.value, h1, h2, h3, h5]
theorem own_same {a0 : Array Value} {Z : State} {y : MethodName} (hmh : y.cls ≠ "java/lang/invoke/MethodHandle" ∧ y.cls ≠ "java/lang/invoke/VarHandle") (w : (Cond.declares y).before a0 Z = true) (nf : NotFace Z y) : (Cond.sameMethod y.cls y.cls y.name y.desc).before a0 Z = true := by
  obtain ⟨m, meth, h1, -⟩ := Cond.declares_spec w
  obtain ⟨k, hk, hi⟩ := nf m h1
  have hc := findClass_of_methodNamed h1
  have hf := State.methodFound?_of_named h1 hmh
  simp [Cond.before, Cond.holds, Cond.value, hc, hf, h1, hk, hi]
theorem fldI {args : Array Value} {s : State} {t : Term} {C n d : String} {x : Addr} {k : Int32} (ht : t.eval args s none [] s = some (.ref x)) (h : (Cond.eq (Term.field t C n d) (Term.int k)).value args s none s [] = some true) : Fld s s.heap x C n d (.int k) := by
  obtain ⟨u, w, hu, hw, hk, hk'⟩ := cmp_v (Or.inl h)
  cases (Term.int_eval k).symm.trans hw
  obtain ⟨z, rfl⟩ := hk'
  have e : z = k := by simpa [Cond.value, hu, Term.int_eval] using h
  subst e
  exact Fld.start (by rw [← fld_at ht]; exact hu)
theorem long_eval {args : Array Value} {s f : State} {o : Option Outcome} {idx : List Nat} (n : Int64) : (Term.long n).eval args f o idx s = some (.long n) := rfl
theorem fldL {args : Array Value} {s : State} {t : Term} {C n d : String} {x : Addr} {k : Int64} (ht : t.eval args s none [] s = some (.ref x)) (h : (Cond.eq (Term.field t C n d) (Term.long k)).value args s none s [] = some true) : Fld s s.heap x C n d (.long k) := by
  obtain ⟨u, w, hu, hw, hk, hk'⟩ := cmp_v (Or.inl h)
  cases (long_eval k).symm.trans hw
  obtain ⟨z, rfl⟩ := hk'
  have e : z = k := by simpa [Cond.value, hu, long_eval] using h
  subst e
  exact Fld.start (by rw [← fld_at ht]; exact hu)
theorem valL {args : Array Value} {s : State} {t : Term} {k : Int64} (h : (Cond.eq t (Term.long k)).value args s none s [] = some true) : t.eval args s none [] s = some (.long k) := by
  obtain ⟨u, w, hu, hw, hk, hk'⟩ := cmp_v (Or.inl h)
  cases (long_eval k).symm.trans hw
  obtain ⟨z, rfl⟩ := hk'
  have e : z = k := by simpa [Cond.value, hu, long_eval] using h
  subst e
  exact hu
theorem valI {args : Array Value} {s : State} {t : Term} {k : Int32} (h : (Cond.eq t (Term.int k)).value args s none s [] = some true) : t.eval args s none [] s = some (.int k) := by
  obtain ⟨u, w, hu, hw, hk, hk'⟩ := cmp_v (Or.inl h)
  cases (Term.int_eval k).symm.trans hw
  obtain ⟨z, rfl⟩ := hk'
  have e : z = k := by simpa [Cond.value, hu, Term.int_eval] using h
  subst e
  exact hu
theorem lenI {args : Array Value} {s : State} {t : Term} {x : Addr} {cl : Cell} {ty : FieldType} {k : Int32} (ht : t.eval args s none [] s = some (.ref x)) (A : Arr s s.heap x cl ty) (h : (Cond.eq (Term.length t) (Term.int k)).value args s none s [] = some true) : cl.slots.size.toInt32 = k ∧ cl.slots.size < 2 ^ 31 := by
  have hv := valI h
  have ha : s.arrayAt? x = some cl := Arr.fin (Vm.Alike.refl _) A
  simp only [Term.eval, ht, ha, Option.bind_eq_bind, Option.bind_some] at hv
  split at hv
  · rename_i q; exact ⟨by simpa using hv, q⟩
  · cases hv
theorem elemR {args : Array Value} {s : State} {t u : Term} {x y : Addr} {cl : Cell} {ty : FieldType} {k : Int32} (ht : t.eval args s none [] s = some (.ref x)) (A : Arr s s.heap x cl ty) (hu : u.eval args s none [] s = some (.ref y)) (h : (Cond.eq (Term.elem t (Term.int k)) u).value args s none s [] = some true) : cl.slots[k.toNatClampNeg]? = some (.ref y) := by
  obtain ⟨v, w, hv, hw, hk, hk'⟩ := cmp_v (Or.inl h)
  cases hu.symm.trans hw
  have e := (elem_in hv ht (Term.int_eval k) A.1).2
  rw [e]
  rcases ref_cases (v := v) hk'.2 with rfl | ⟨z, rfl⟩
  · simp [Cond.value, hv, hu] at h
  · have q : z = y := by simpa [Cond.value, hv, hu] using h
    rw [q]
end Jvm.Pilot.@@N@@.Own
namespace Jvm.Pilot.@@N@@
open Jvm Jvm.ClassFile Sem Op Lib Jvm.Free Jvm.Stand Jvm.LawKit Jvm.RoadKit Bundle Jvm.Pilot.@@N@@.Jvm.D Jvm.Pilot.@@N@@.Own
theorem own_small (P : Int32 → Prop) (h : ∀ n : Nat, n < 64 → P (Int32.ofNat n)) (v : Int32) (h1 : 0 ≤ v.toInt) (h2 : v.toInt < 64) : P v := by
  have e : v = Int32.ofNat v.toInt.toNat := by
    apply Int32.toInt_inj.mp
    rw [Int32.toInt_ofNat_small (by omega)]; omega
  rw [e]; exact h _ (by omega)
theorem own_mask (v : Int32) (h1 : 0 ≤ v.toInt) (h2 : v.toInt < 64) : v.toInt64 &&& ((63 : Int64) ^^^ (-1 : Int64)) = 0 := own_small (fun v => v.toInt64 &&& ((63 : Int64) ^^^ (-1 : Int64)) = 0) (by decide +kernel) v h1 h2
theorem own_back (v : Int32) : v.toInt64.toInt32 = v := Int32.toInt32_toInt64 v
theorem own_range (x : Int64) : 1 ≤ (((x &&& (9223372036854775807 : Int64)) - ((x &&& (9223372036854775807 : Int64)) / (63 : Int64)) * (63 : Int64)).toInt32 + (1 : Int32)).toInt ∧ (((x &&& (9223372036854775807 : Int64)) - ((x &&& (9223372036854775807 : Int64)) / (63 : Int64)) * (63 : Int64)).toInt32 + (1 : Int32)).toInt < 64 := by
  have z1 : (1 : Int32).toInt = 1 := by decide
  have a := c_maskL x 9223372036854775807 63 (by decide) (by decide)
  have b := (c_lrem (x &&& (9223372036854775807 : Int64)) 63 63 (by decide)).1 (by omega)
  have c := c_l2i ((x &&& (9223372036854775807 : Int64)) - ((x &&& (9223372036854775807 : Int64)) / (63 : Int64)) * (63 : Int64))
  have r := rng32 ((x &&& (9223372036854775807 : Int64)) - ((x &&& (9223372036854775807 : Int64)) / (63 : Int64)) * (63 : Int64)).toInt32
  have d := c_iadd ((x &&& (9223372036854775807 : Int64)) - ((x &&& (9223372036854775807 : Int64)) / (63 : Int64)) * (63 : Int64)).toInt32 1
  have r2 := rng32 (((x &&& (9223372036854775807 : Int64)) - ((x &&& (9223372036854775807 : Int64)) / (63 : Int64)) * (63 : Int64)).toInt32 + (1 : Int32))
  omega
theorem own_ge (v : Int32) (h1 : 1 ≤ v.toInt) : ¬ v.toInt64 < (1 : Int64) := by
  rw [Int64.lt_iff_toInt_lt, Int32.toInt_toInt64]; simpa using h1
theorem d2_0 : decode prog_1_method_1_code 0 = .ok (.aload_n 0, 1) := by decide +kernel
theorem d2_1 : decode prog_1_method_1_code 1 = .ok (.invokespecial 1, 3) := by decide +kernel
theorem d2_4 : decode prog_1_method_1_code 4 = .ok (.aload_n 0, 1) := by decide +kernel
theorem d2_5 : decode prog_1_method_1_code 5 = .ok (.iload_n 1, 1) := by decide +kernel
theorem d2_6 : decode prog_1_method_1_code 6 = .ok (.putfield 7, 3) := by decide +kernel
theorem d2_9 : decode prog_1_method_1_code 9 = .ok (.return_, 1) := by decide +kernel
theorem pn_com_example_wary_warden_warywarden_access_AccessControlOperations : plainName "com/example/wary_warden/warywarden/access/AccessControlOperations" = true := by first | (simp [plainName, overriddenIn]; done) | decide +kernel
def Q2 (Z : State) (a0 : Addr) (p1 : Int32) (u1 : Value) (h0 : Heap) (n0 : Nat) (v : Option Value) (h : Heap) (L : List Loc) : Prop := v = none ∧ Fr n0 L ∧ Keep h0 h [a0] ∧ Exa Z h a0 "com/example/wary_warden/warywarden/access/AccessControlOperations" ∧ Fld Z h a0 "com/example/wary_warden/warywarden/access/AccessControlOperations" "acop" "I" (.int p1)
def P2 (Z : State) (a0 : Addr) (p1 : Int32) (u1 : Value) (h0 : Heap) (n0 : Nat) (s : State) (o : Outcome) (U' : State) : Prop := ∃ v L, o = .returned v ∧ Q2 Z a0 p1 u1 h0 n0 v U'.heap L ∧ FrameEnd s o U' L ({ frames := 1, cells := 0, slots := 0, locals := 12 } : Room).cells ({ frames := 1, cells := 0, slots := 0, locals := 12 } : Room).slots
set_option maxRecDepth 65536 in
set_option maxHeartbeats 40000000 in
theorem rm2 (l : Launch) (Z : State) (aV : Array Value) (hw : ∀ d ∈ tables_1, d.before aV Z = true) (ws : List Jvm.Cond) (a0 : Addr) (p1 : Int32) (u1 : Value) (h0 : Heap) (n0 : Nat) (Z0 : n0 ≤ h0.size) (E_a0 : Exa Z h0 a0 "com/example/wary_warden/warywarden/access/AccessControlOperations") (F_acop_a0 : Fld Z h0 a0 "com/example/wary_warden/warywarden/access/AccessControlOperations" "acop" "I" u1) (ga : n0 ≤ a0) :
    MetFree l (⟨"com/example/wary_warden/warywarden/access/AccessControlOperations", "<init>", "(I)V"⟩ : MethodName) (head1 (Jvm.Cond.code (⟨"com/example/wary_warden/warywarden/access/AccessControlOperations", "<init>", "(I)V"⟩ : MethodName) prog_1_method_1_code 2 none :: ws) ({ frames := 1, cells := 0, slots := 0, locals := 12 } : Room)) (fun a U => a = #[(.ref a0), (.int p1)] ∧ Z.Warmed39 U.vm ∧ U.heap = h0) (fun _ _ _ _ _ => True) (fun _ U o U' => ∃ v L, o = .returned v ∧ Q2 Z a0 p1 u1 h0 n0 v U'.heap L ∧ FrameEnd U o U' L ({ frames := 1, cells := 0, slots := 0, locals := 12 } : Room).cells ({ frames := 1, cells := 0, slots := 0, locals := 12 } : Room).slots) := by
  refine MetFree.of_bodySF (plainFor_of_name pn_com_example_wary_warden_warywarden_access_AccessControlOperations) hisR ?_
  intro p e s m args below meth c s₁ Bd hml0 hP hK
  obtain ⟨rfl, hZ, hh⟩ := hP
  have hx := Bd.exec
  have hby := Bd.bytes
  have hml : c.maxLocals = 2 := hml0
  have hown : s.vm.findClass "com/example/wary_warden/warywarden/access/AccessControlOperations" = some m.cls := findClass_of_methodNamed Bd.named
  have hnm := (name_of_methodNamed Bd.named Bd.method).1
  have X0 : Stand p l e ({ frames := 1, cells := 0, slots := 0, locals := 12 } : Room) s m #[(.ref a0), (.int p1)] below meth c s₁ [] 0 0 := Stand.of_body Bd
  have e0 : s₁.heap = h0 := by rw [← hh, Bd.state]; rfl
  have efx : entryFrame m #[(.ref a0), (.int p1)] 2 = mkF m 0 #[.val (.ref a0), .val (.int p1)] [] := by first | (simp [entryFrame, mkF, argsToLocals, Value.category]; done) | rfl
  have N0 := Fr.nil n0
  have K0 : Keep h0 h0 [a0] := Keep.refl h0 _
  refine OGo.start (g' := mkF m 0 #[.val (.ref a0), .val (.int p1)] []) (efx) ?_
  show OGo p.tables e below (P2 Z a0 p1 u1 h0 n0 s) (s₁.setTop (mkF m 0 #[.val (.ref a0), .val (.int p1)] []))
  refine OGo.go (B := s₁.setTop (mkF m 1 #[.val (.ref a0), .val (.int p1)] [(.ref a0)])) ?_ (fun tX kX => XS.aloadN X0.here hx rfl (hb hby d2_0) rfl rfl kX)
  obtain ⟨T1, X1, e1, st1⟩ := initO X0 hx hZ hown (hw _ (List.mem_of_getElem? (i := 14) rfl)) (hw _ (List.mem_of_getElem? (i := 15) rfl)) (hw _ (List.mem_of_getElem? (i := 16) rfl)) e0 (g := (mkF m 1 #[.val (.ref a0), .val (.int p1)] [(.ref a0)])) rfl (by rw [hml]; rfl) rfl (hb hby d2_1) (by decide) (W := 0) (by show 2 * 0 + _ ≤ _; exact Nat.le_of_eq rfl) (by decide)
  refine OGo.go (B := T1.setTop (mkF m 4 #[.val (.ref a0), .val (.int p1)] [])) ?_ st1
  refine OGo.go (B := T1.setTop (mkF m 5 #[.val (.ref a0), .val (.int p1)] [(.ref a0)])) ?_ (fun tX kX => XS.aloadN X1.here hx rfl (hb hby d2_4) rfl rfl kX)
  refine OGo.go (B := T1.setTop (mkF m 6 #[.val (.ref a0), .val (.int p1)] [(.int p1), (.ref a0)])) ?_ (fun tX kX => XS.iloadN X1.here hx rfl (hb hby d2_5) rfl kX)
  obtain ⟨T2, h2, X2, e2, W2, st2⟩ := putF X1 hx hZ hown (host := "") (Or.inl (hw _ (List.mem_of_getElem? (i := 17) rfl))) Via.refl e1 F_acop_a0 E_a0 (Or.inr ⟨(hw _ (List.mem_of_getElem? (i := 18) rfl)), rfl, hnm⟩) (hw _ (List.mem_of_getElem? (i := 10) rfl)) (ty := .int) (by decide) rfl rfl (g := (mkF m 6 #[.val (.ref a0), .val (.int p1)] [(.int p1), (.ref a0)])) rfl rfl (hb hby d2_6)
  have E_a0 := E_a0.wr W2
  have F_acop_a0 := F_acop_a0.same W2
  have K2 := K0.wr W2 (Or.inl (List.mem_of_getElem? (i := 0) rfl))
  have zn2 : n0 ≤ h2.size := Nat.le_trans Z0 (Keep.of_wr W2).1
  have N2 := Fr.snoc X2 N0 ga
  refine OGo.go (B := T2.setTop (mkF m 9 #[.val (.ref a0), .val (.int p1)] [])) ?_ st2
  refine OGo.ret X2 (v := none) (fun _ => rfl) (BodyLoose.notSynchronized Bd) (fun fs hr => X2.returnOut hx Bd.returns (hb hby d2_9) hr) (Q := Q2 Z a0 p1 u1 h0 n0) ?_ (by decide) (by decide)
  show Q2 Z a0 p1 u1 h0 n0 _ T2.heap _
  rw [e2]
  exact ⟨rfl, N2, K2, E_a0, F_acop_a0⟩
theorem d1_0 : decode prog_1_method_2_code 0 = .ok (.lload_n 0, 1) := by decide +kernel
theorem d1_1 : decode prog_1_method_2_code 1 = .ok (.lconst 1, 1) := by decide +kernel
theorem d1_2 : decode prog_1_method_2_code 2 = .ok (.lcmp, 1) := by decide +kernel
theorem d1_3 : decode prog_1_method_2_code 3 = .ok (.ifCond .lt 17, 3) := by decide +kernel
theorem d1_6 : decode prog_1_method_2_code 6 = .ok (.lload_n 0, 1) := by decide +kernel
theorem d1_7 : decode prog_1_method_2_code 7 = .ok (.getstatic 13, 3) := by decide +kernel
theorem d1_10 : decode prog_1_method_2_code 10 = .ok (.ldc2_w 17, 3) := by decide +kernel
theorem d1_13 : decode prog_1_method_2_code 13 = .ok (.lxor, 1) := by decide +kernel
theorem d1_14 : decode prog_1_method_2_code 14 = .ok (.land, 1) := by decide +kernel
theorem d1_15 : decode prog_1_method_2_code 15 = .ok (.lconst 0, 1) := by decide +kernel
theorem d1_16 : decode prog_1_method_2_code 16 = .ok (.lcmp, 1) := by decide +kernel
theorem d1_17 : decode prog_1_method_2_code 17 = .ok (.ifCond .eq 20, 3) := by decide +kernel
theorem d1_37 : decode prog_1_method_2_code 37 = .ok (.new 8, 3) := by decide +kernel
theorem d1_40 : decode prog_1_method_2_code 40 = .ok (.dup, 1) := by decide +kernel
theorem d1_41 : decode prog_1_method_2_code 41 = .ok (.lload_n 0, 1) := by decide +kernel
theorem d1_42 : decode prog_1_method_2_code 42 = .ok (.l2i, 1) := by decide +kernel
theorem d1_43 : decode prog_1_method_2_code 43 = .ok (.invokespecial 28, 3) := by decide +kernel
theorem pd__I_V : parseMethodDescriptor "(I)V" = some ⟨[.int], none⟩ := by decide +kernel
theorem d1_46 : decode prog_1_method_2_code 46 = .ok (.areturn, 1) := by decide +kernel
def Q1 (Z : State) (q0 : Int64) (h0 : Heap) (n0 : Nat) (v : Option Value) (h : Heap) (L : List Loc) : Prop := ∃ (b : Addr), v = some (.ref b) ∧ Fr n0 L ∧ Keep h0 h [] ∧ h0.size ≤ b ∧ Exa Z h b "com/example/wary_warden/warywarden/access/AccessControlOperations" ∧ Fld Z h b "com/example/wary_warden/warywarden/access/AccessControlOperations" "acop" "I" (.int (q0.toInt32))
def P1 (Z : State) (q0 : Int64) (h0 : Heap) (n0 : Nat) (s : State) (o : Outcome) (U' : State) : Prop := ∃ v L, o = .returned v ∧ Q1 Z q0 h0 n0 v U'.heap L ∧ FrameEnd s o U' L ({ frames := 2, cells := 1, slots := 1, locals := 26 } : Room).cells ({ frames := 2, cells := 1, slots := 1, locals := 26 } : Room).slots
set_option maxRecDepth 65536 in
set_option maxHeartbeats 40000000 in
theorem rm1 (l : Launch) (Z : State) (aV : Array Value) (hw : ∀ d ∈ tables_1, d.before aV Z = true) (ws : List Jvm.Cond) (q0 : Int64) (h0 : Heap) (n0 : Nat) (Z0 : n0 ≤ h0.size) (S_DEFINED_BITS : Sta Z h0 "com/example/wary_warden/warywarden/access/AccessControlOperations" "DEFINED_BITS" "J" (.long (63 : Int64))) (hq1 : ¬ q0 < (1 : Int64)) (hq2 : q0 &&& ((63 : Int64) ^^^ (-1 : Int64)) = 0) :
    MetFree l (⟨"com/example/wary_warden/warywarden/access/AccessControlOperations", "fromAcop", "(J)Lcom/example/wary_warden/warywarden/access/AccessControlOperations;"⟩ : MethodName) (head1 (Jvm.Cond.code (⟨"com/example/wary_warden/warywarden/access/AccessControlOperations", "fromAcop", "(J)Lcom/example/wary_warden/warywarden/access/AccessControlOperations;"⟩ : MethodName) prog_1_method_2_code 2 (some (.object "com/example/wary_warden/warywarden/access/AccessControlOperations")) :: ws) ({ frames := 2, cells := 1, slots := 1, locals := 26 } : Room)) (fun a U => a = #[(.long q0)] ∧ Z.Warmed39 U.vm ∧ U.heap = h0) (fun _ _ _ _ _ => True) (fun _ U o U' => ∃ v L, o = .returned v ∧ Q1 Z q0 h0 n0 v U'.heap L ∧ FrameEnd U o U' L ({ frames := 2, cells := 1, slots := 1, locals := 26 } : Room).cells ({ frames := 2, cells := 1, slots := 1, locals := 26 } : Room).slots) := by
  refine MetFree.of_bodySF (plainFor_of_name pn_com_example_wary_warden_warywarden_access_AccessControlOperations) hisR ?_
  intro p e s m args below meth c s₁ Bd hml0 hP hK
  obtain ⟨rfl, hZ, hh⟩ := hP
  have hx := Bd.exec
  have hby := Bd.bytes
  have hml : c.maxLocals = 2 := hml0
  have hown : s.vm.findClass "com/example/wary_warden/warywarden/access/AccessControlOperations" = some m.cls := findClass_of_methodNamed Bd.named
  have hnm := (name_of_methodNamed Bd.named Bd.method).1
  have X0 : Stand p l e ({ frames := 2, cells := 1, slots := 1, locals := 26 } : Room) s m #[(.long q0)] below meth c s₁ [] 0 0 := Stand.of_body Bd
  have e0 : s₁.heap = h0 := by rw [← hh, Bd.state]; rfl
  have efx : entryFrame m #[(.long q0)] 2 = mkF m 0 #[.val (.long q0), .second] [] := by first | (simp [entryFrame, mkF, argsToLocals, Value.category]; done) | rfl
  have N0 := Fr.nil n0
  have K0 : Keep h0 h0 [] := Keep.refl h0 _
  refine OGo.start (g' := mkF m 0 #[.val (.long q0), .second] []) (efx) ?_
  show OGo p.tables e below (P1 Z q0 h0 n0 s) (s₁.setTop (mkF m 0 #[.val (.long q0), .second] []))
  refine OGo.go (B := s₁.setTop (mkF m 1 #[.val (.long q0), .second] [(.long q0)])) ?_ (fun tX kX => XS.lloadN X0.here hx rfl (hb hby d1_0) rfl kX)
  refine OGo.go (B := s₁.setTop (mkF m 2 #[.val (.long q0), .second] [(.long (1 : Int64)), (.long q0)])) ?_ (fun tX kX => XS.lconst X0.here hx rfl (hb hby d1_1) kX)
  refine OGo.go (B := s₁.setTop (mkF m 3 #[.val (.long q0), .second] [(.int (lcmpW q0 (1 : Int64)))])) ?_ (fun tX kX => XS.lcmp X0.here hx rfl (hb hby d1_2) rfl kX)
  refine OGo.go (B := s₁.setTop (mkF m 6 #[.val (.long q0), .second] [])) ?_ (fun tX kX => XS.ifNo X0.here hx rfl (hb hby d1_3) rfl ((if0 _ _).trans (flt (fun q => hq1 ((lw_lt _ _).mp q))).1) kX)
  refine OGo.go (B := s₁.setTop (mkF m 7 #[.val (.long q0), .second] [(.long q0)])) ?_ (fun tX kX => XS.lloadN X0.here hx rfl (hb hby d1_6) rfl kX)
  obtain ⟨T1, X1, e1, st1⟩ := getS2 X0 hx hZ hown (host := "") (Or.inl (hw _ (List.mem_of_getElem? (i := 6) rfl))) Via.refl e0 S_DEFINED_BITS (g := (mkF m 7 #[.val (.long q0), .second] [(.long q0)])) rfl (hb hby d1_7)
  refine OGo.go (B := T1.setTop (mkF m 10 #[.val (.long q0), .second] [(.long (63 : Int64)), (.long q0)])) ?_ st1
  refine OGo.go (B := T1.setTop (mkF m 13 #[.val (.long q0), .second] [(.long (-1 : Int64)), (.long (63 : Int64)), (.long q0)])) ?_ (fun tX kX => X1.ldc2Long hx hown (mvT hZ (hw _ (List.mem_of_getElem? (i := 8) rfl))) (g := (mkF m 10 #[.val (.long q0), .second] [(.long (63 : Int64)), (.long q0)])) rfl (hb hby d1_10) _ kX)
  refine OGo.go (B := T1.setTop (mkF m 14 #[.val (.long q0), .second] [(.long ((63 : Int64) ^^^ (-1 : Int64))), (.long q0)])) ?_ (fun tX kX => XS.lxor X1.here hx rfl (hb hby d1_13) rfl kX)
  refine OGo.go (B := T1.setTop (mkF m 15 #[.val (.long q0), .second] [(.long (q0 &&& ((63 : Int64) ^^^ (-1 : Int64))))])) ?_ (fun tX kX => XS.land X1.here hx rfl (hb hby d1_14) rfl kX)
  refine OGo.go (B := T1.setTop (mkF m 16 #[.val (.long q0), .second] [(.long (0 : Int64)), (.long (q0 &&& ((63 : Int64) ^^^ (-1 : Int64))))])) ?_ (fun tX kX => XS.lconst X1.here hx rfl (hb hby d1_15) kX)
  refine OGo.go (B := T1.setTop (mkF m 17 #[.val (.long q0), .second] [(.int (lcmpW (q0 &&& ((63 : Int64) ^^^ (-1 : Int64))) (0 : Int64)))])) ?_ (fun tX kX => XS.lcmp X1.here hx rfl (hb hby d1_16) rfl kX)
  refine OGo.go (B := T1.setTop (mkF m 37 #[.val (.long q0), .second] [])) ?_ (fun tX kX => XS.ifYes X1.here hx rfl (pc0 := 17) (pc' := 37) rfl (hb hby d1_17) rfl ((if0 _ _).trans (teq ((lw_eq _ _).mpr hq2)).1) (by decide) (by decide) kX)
  obtain ⟨T2, h2, X2, e2, E2, A2, D2, C2, st2⟩ := newO X1 hx hZ hown (hw _ (List.mem_of_getElem? (i := 9) rfl)) (hw _ (List.mem_of_getElem? (i := 10) rfl)) (hw _ (List.mem_of_getElem? (i := 4) rfl)) e1 (g := (mkF m 37 #[.val (.long q0), .second] [])) rfl (hb hby d1_37) (by decide) (by decide)
  obtain ⟨b2, g2⟩ : ∃ z, z = h0.size := ⟨_, rfl⟩
  rw [← g2] at A2 D2 st2 C2
  have S_DEFINED_BITS := S_DEFINED_BITS.ext E2
  have g_b2 : n0 ≤ b2 := Nat.le_trans Z0 (Nat.le_of_eq g2.symm)
  have sz_b2 : h0.size ≤ b2 := Nat.le_trans K0.1 (Nat.le_of_eq g2.symm)
  have zn2 : n0 ≤ h2.size := Nat.le_trans Z0 E2.1
  have K2 := K0.ext E2
  have E_b2 := A2
  have F_acop_b2 : Fld Z h2 b2 "com/example/wary_warden/warywarden/access/AccessControlOperations" "acop" "I" (.int (0 : Int32)) := D2 (Or.inr (hw _ (List.mem_of_getElem? (i := 18) rfl))) (ty := .int) (by decide)
  refine OGo.go (B := T2.setTop (mkF m 40 #[.val (.long q0), .second] [(.ref b2)])) ?_ st2
  refine OGo.go (B := T2.setTop (mkF m 41 #[.val (.long q0), .second] [(.ref b2), (.ref b2)])) ?_ (fun tX kX => XS.dup X2.here hx rfl (hb hby d1_40) rfl rfl kX)
  refine OGo.go (B := T2.setTop (mkF m 42 #[.val (.long q0), .second] [(.long q0), (.ref b2), (.ref b2)])) ?_ (fun tX kX => XS.lloadN X2.here hx rfl (hb hby d1_41) rfl kX)
  refine OGo.go (B := T2.setTop (mkF m 43 #[.val (.long q0), .second] [(.int (q0.toInt32)), (.ref b2), (.ref b2)])) ?_ (fun tX kX => XS.l2i X2.here hx rfl (hb hby d1_42) rfl kX)
  obtain ⟨_, _, ⟨T3, L3, k3, n3⟩, -, X3, ⟨Lc3, hQ3, l3, y3, z3⟩, st3⟩ := X2.specialBack hx (y := (⟨"com/example/wary_warden/warywarden/access/AccessControlOperations", "<init>", "(I)V"⟩ : MethodName)) rfl hown (mvT hZ (hw _ (List.mem_of_getElem? (i := 11) rfl))) (mvT hZ (hw _ (List.mem_of_getElem? (i := 12) rfl))) (mvT hZ (hw _ (List.mem_of_getElem? (i := 13) rfl))) (by decide) (backOf (W := 1) (rm2 l Z aV hw [] b2 (q0.toInt32) (.int (0 : Int32)) h2 n0 zn2 E_b2 F_acop_b2 g_b2) hZ (hw _ (List.mem_of_getElem? (i := 13) rfl)) (hw _ (List.mem_of_getElem? (i := 4) rfl)) (by decide) (by decide)) (g := (mkF m 43 #[.val (.long q0), .second] [(.int (q0.toInt32)), (.ref b2), (.ref b2)])) rfl (by rw [hml]; rfl) (Steps.refl _) (a := b2) (argsL := [(.int (q0.toInt32))]) (rest := [(.ref b2)]) (lenOf pd__I_V rfl) rfl (by show 2 * 0 + _ ≤ _; exact Nat.le_of_eq rfl) (hb hby d1_43) (fun _ _ => ⟨rfl, e2, (by decide : 1 + 0 ≤ _), (by decide : 1 + 0 ≤ _)⟩)
  dsimp only [Pt.U, Pt.locs, Pt.cells, Pt.slots] at X3 l3 y3 z3 st3 hQ3
  subst l3 y3 z3
  obtain ⟨rfl, N3q, Kq3, E_b2_p, F_acop_b2_p⟩ := hQ3
  have N3 := Fr.app N0 N3q
  have S_DEFINED_BITS := Sta.keepE S_DEFINED_BITS Kq3 (staS E_b2.cell (fun x hx' => nomatch hx'))
  have E_b2 := E_b2.keep Kq3
  have K3 := K2.trans Kq3 (allS (P := fun x => x ∈ ([] : List Addr) ∨ h0.size ≤ x) (Or.inr sz_b2) all0)
  have zn3 : n0 ≤ T3.heap.size := Nat.le_trans zn2 Kq3.1
  have E_b2 := E_b2_p
  have F_acop_b2 := F_acop_b2_p
  refine OGo.go (B := T3.setTop (mkF m 46 #[.val (.long q0), .second] [(.ref b2)])) ?_ (fun tX kX => st3.trans kX)
  refine OGo.ret X3 (v := (some (.ref b2))) (fun h => by rw [Bd.returns] at h; cases h) (BodyLoose.notSynchronized Bd) (fun fs hr => retOut X3 hx Bd.returns rfl (Or.inr (Or.inr (Or.inr (Or.inr ⟨rfl, rfl, rfl⟩)))) (hb hby d1_46) hr) (Q := Q1 Z q0 h0 n0) ?_ (by decide) (by decide)
  show Q1 Z q0 h0 n0 _ T3.heap _
  exact ⟨b2, rfl, N3, K3, sz_b2, E_b2, F_acop_b2⟩
theorem d4_0 : decode prog_1_method_4_code 0 = .ok (.aload_n 0, 1) := by decide +kernel
theorem d4_1 : decode prog_1_method_4_code 1 = .ok (.getfield 7, 3) := by decide +kernel
theorem d4_4 : decode prog_1_method_4_code 4 = .ok (.ireturn, 1) := by decide +kernel
def Q4 (Z : State) (a0 : Addr) (i : Int32) (h0 : Heap) (n0 : Nat) (v : Option Value) (h : Heap) (L : List Loc) : Prop := v = some (.int i) ∧ Fr n0 L ∧ h = h0
def P4 (Z : State) (a0 : Addr) (i : Int32) (h0 : Heap) (n0 : Nat) (s : State) (o : Outcome) (U' : State) : Prop := ∃ v L, o = .returned v ∧ Q4 Z a0 i h0 n0 v U'.heap L ∧ FrameEnd s o U' L ({ frames := 0, cells := 0, slots := 0, locals := 0 } : Room).cells ({ frames := 0, cells := 0, slots := 0, locals := 0 } : Room).slots
set_option maxRecDepth 65536 in
set_option maxHeartbeats 40000000 in
theorem rm4 (l : Launch) (Z : State) (aV : Array Value) (hw : ∀ d ∈ tables_1, d.before aV Z = true) (ws : List Jvm.Cond) (a0 : Addr) (i : Int32) (h0 : Heap) (n0 : Nat) (Z0 : n0 ≤ h0.size) (F_acop_a0 : Fld Z h0 a0 "com/example/wary_warden/warywarden/access/AccessControlOperations" "acop" "I" (.int i)) :
    MetFree l (⟨"com/example/wary_warden/warywarden/access/AccessControlOperations", "acop", "()I"⟩ : MethodName) (head1 (Jvm.Cond.code (⟨"com/example/wary_warden/warywarden/access/AccessControlOperations", "acop", "()I"⟩ : MethodName) prog_1_method_4_code 1 (some .int) :: ws) ({ frames := 0, cells := 0, slots := 0, locals := 0 } : Room)) (fun a U => a = #[(.ref a0)] ∧ Z.Warmed39 U.vm ∧ U.heap = h0) (fun _ _ _ _ _ => True) (fun _ U o U' => ∃ v L, o = .returned v ∧ Q4 Z a0 i h0 n0 v U'.heap L ∧ FrameEnd U o U' L ({ frames := 0, cells := 0, slots := 0, locals := 0 } : Room).cells ({ frames := 0, cells := 0, slots := 0, locals := 0 } : Room).slots) := by
  refine MetFree.of_bodySF (plainFor_of_name pn_com_example_wary_warden_warywarden_access_AccessControlOperations) hisR ?_
  intro p e s m args below meth c s₁ Bd hml0 hP hK
  obtain ⟨rfl, hZ, hh⟩ := hP
  have hx := Bd.exec
  have hby := Bd.bytes
  have hml : c.maxLocals = 1 := hml0
  have hown : s.vm.findClass "com/example/wary_warden/warywarden/access/AccessControlOperations" = some m.cls := findClass_of_methodNamed Bd.named
  have hnm := (name_of_methodNamed Bd.named Bd.method).1
  have X0 : Stand p l e ({ frames := 0, cells := 0, slots := 0, locals := 0 } : Room) s m #[(.ref a0)] below meth c s₁ [] 0 0 := Stand.of_body Bd
  have e0 : s₁.heap = h0 := by rw [← hh, Bd.state]; rfl
  have efx : entryFrame m #[(.ref a0)] 1 = mkF m 0 #[.val (.ref a0)] [] := by first | (simp [entryFrame, mkF, argsToLocals, Value.category]; done) | rfl
  have N0 := Fr.nil n0
  have K0 : Keep h0 h0 [] := Keep.refl h0 _
  refine OGo.start (g' := mkF m 0 #[.val (.ref a0)] []) (efx) ?_
  show OGo p.tables e below (P4 Z a0 i h0 n0 s) (s₁.setTop (mkF m 0 #[.val (.ref a0)] []))
  refine OGo.go (B := s₁.setTop (mkF m 1 #[.val (.ref a0)] [(.ref a0)])) ?_ (fun tX kX => XS.aloadN X0.here hx rfl (hb hby d4_0) rfl rfl kX)
  obtain ⟨T1, X1, e1, st1⟩ := getF X0 hx hZ hown (host := "") (Or.inl (hw _ (List.mem_of_getElem? (i := 17) rfl))) Via.refl e0 F_acop_a0 (g := (mkF m 1 #[.val (.ref a0)] [(.ref a0)])) rfl rfl (hb hby d4_1)
  refine OGo.go (B := T1.setTop (mkF m 4 #[.val (.ref a0)] [(.int i)])) ?_ st1
  refine OGo.ret X1 (v := (some (.int i))) (fun h => by rw [Bd.returns] at h; cases h) (BodyLoose.notSynchronized Bd) (fun fs hr => retOut X1 hx Bd.returns rfl (Or.inl ⟨rfl, Or.inl rfl, _, rfl⟩) (hb hby d4_4) hr) (Q := Q4 Z a0 i h0 n0) ?_ (by decide) (by decide)
  show Q4 Z a0 i h0 n0 _ T1.heap _
  rw [e1]
  exact ⟨rfl, N0, rfl⟩
theorem d6_0 : decode prog_4_method_4_code 0 = .ok (.aload_n 0, 1) := by decide +kernel
theorem d6_1 : decode prog_4_method_4_code 1 = .ok (.getfield 41, 3) := by decide +kernel
theorem d6_4 : decode prog_4_method_4_code 4 = .ok (.ireturn, 1) := by decide +kernel
theorem pn_com_example_wary_warden_warywarden_access_Operation : plainName "com/example/wary_warden/warywarden/access/Operation" = true := by first | (simp [plainName, overriddenIn]; done) | decide +kernel
def Q6 (Z : State) (a0 : Addr) (i : Int32) (h0 : Heap) (n0 : Nat) (v : Option Value) (h : Heap) (L : List Loc) : Prop := v = some (.int i) ∧ Fr n0 L ∧ h = h0
def P6 (Z : State) (a0 : Addr) (i : Int32) (h0 : Heap) (n0 : Nat) (s : State) (o : Outcome) (U' : State) : Prop := ∃ v L, o = .returned v ∧ Q6 Z a0 i h0 n0 v U'.heap L ∧ FrameEnd s o U' L ({ frames := 0, cells := 0, slots := 0, locals := 0 } : Room).cells ({ frames := 0, cells := 0, slots := 0, locals := 0 } : Room).slots
set_option maxRecDepth 65536 in
set_option maxHeartbeats 40000000 in
theorem rm6 (l : Launch) (Z : State) (aV : Array Value) (hw : ∀ d ∈ tables_1, d.before aV Z = true) (ws : List Jvm.Cond) (a0 : Addr) (i : Int32) (h0 : Heap) (n0 : Nat) (Z0 : n0 ≤ h0.size) (F_acopBit_a0 : Fld Z h0 a0 "com/example/wary_warden/warywarden/access/Operation" "acopBit" "I" (.int i)) :
    MetFree l (⟨"com/example/wary_warden/warywarden/access/Operation", "acopBit", "()I"⟩ : MethodName) (head1 (Jvm.Cond.code (⟨"com/example/wary_warden/warywarden/access/Operation", "acopBit", "()I"⟩ : MethodName) prog_4_method_4_code 1 (some .int) :: ws) ({ frames := 0, cells := 0, slots := 0, locals := 0 } : Room)) (fun a U => a = #[(.ref a0)] ∧ Z.Warmed39 U.vm ∧ U.heap = h0) (fun _ _ _ _ _ => True) (fun _ U o U' => ∃ v L, o = .returned v ∧ Q6 Z a0 i h0 n0 v U'.heap L ∧ FrameEnd U o U' L ({ frames := 0, cells := 0, slots := 0, locals := 0 } : Room).cells ({ frames := 0, cells := 0, slots := 0, locals := 0 } : Room).slots) := by
  refine MetFree.of_bodySF (plainFor_of_name pn_com_example_wary_warden_warywarden_access_Operation) hisR ?_
  intro p e s m args below meth c s₁ Bd hml0 hP hK
  obtain ⟨rfl, hZ, hh⟩ := hP
  have hx := Bd.exec
  have hby := Bd.bytes
  have hml : c.maxLocals = 1 := hml0
  have hown : s.vm.findClass "com/example/wary_warden/warywarden/access/Operation" = some m.cls := findClass_of_methodNamed Bd.named
  have hnm := (name_of_methodNamed Bd.named Bd.method).1
  have X0 : Stand p l e ({ frames := 0, cells := 0, slots := 0, locals := 0 } : Room) s m #[(.ref a0)] below meth c s₁ [] 0 0 := Stand.of_body Bd
  have e0 : s₁.heap = h0 := by rw [← hh, Bd.state]; rfl
  have efx : entryFrame m #[(.ref a0)] 1 = mkF m 0 #[.val (.ref a0)] [] := by first | (simp [entryFrame, mkF, argsToLocals, Value.category]; done) | rfl
  have N0 := Fr.nil n0
  have K0 : Keep h0 h0 [] := Keep.refl h0 _
  refine OGo.start (g' := mkF m 0 #[.val (.ref a0)] []) (efx) ?_
  show OGo p.tables e below (P6 Z a0 i h0 n0 s) (s₁.setTop (mkF m 0 #[.val (.ref a0)] []))
  refine OGo.go (B := s₁.setTop (mkF m 1 #[.val (.ref a0)] [(.ref a0)])) ?_ (fun tX kX => XS.aloadN X0.here hx rfl (hb hby d6_0) rfl rfl kX)
  obtain ⟨T1, X1, e1, st1⟩ := getF X0 hx hZ hown (host := "") (Or.inl (hw _ (List.mem_of_getElem? (i := 37) rfl))) Via.refl e0 F_acopBit_a0 (g := (mkF m 1 #[.val (.ref a0)] [(.ref a0)])) rfl rfl (hb hby d6_1)
  refine OGo.go (B := T1.setTop (mkF m 4 #[.val (.ref a0)] [(.int i)])) ?_ st1
  refine OGo.ret X1 (v := (some (.int i))) (fun h => by rw [Bd.returns] at h; cases h) (BodyLoose.notSynchronized Bd) (fun fs hr => retOut X1 hx Bd.returns rfl (Or.inl ⟨rfl, Or.inl rfl, _, rfl⟩) (hb hby d6_4) hr) (Q := Q6 Z a0 i h0 n0) ?_ (by decide) (by decide)
  show Q6 Z a0 i h0 n0 _ T1.heap _
  rw [e1]
  exact ⟨rfl, N0, rfl⟩
theorem d5_0 : decode prog_1_method_3_code 0 = .ok (.aload_n 0, 1) := by decide +kernel
theorem d5_1 : decode prog_1_method_3_code 1 = .ok (.getfield 7, 3) := by decide +kernel
theorem d5_4 : decode prog_1_method_3_code 4 = .ok (.aload_n 1, 1) := by decide +kernel
theorem d5_5 : decode prog_1_method_3_code 5 = .ok (.invokevirtual 31, 3) := by decide +kernel
theorem pd___I : parseMethodDescriptor "()I" = some ⟨[], some .int⟩ := by decide +kernel
theorem d5_8 : decode prog_1_method_3_code 8 = .ok (.iand, 1) := by decide +kernel
theorem d5_9 : decode prog_1_method_3_code 9 = .ok (.ifCond .eq 7, 3) := by decide +kernel
theorem d5_16 : decode prog_1_method_3_code 16 = .ok (.iconst 0, 1) := by decide +kernel
theorem d5_17 : decode prog_1_method_3_code 17 = .ok (.ireturn, 1) := by decide +kernel
theorem d5_12 : decode prog_1_method_3_code 12 = .ok (.iconst 1, 1) := by decide +kernel
theorem d5_13 : decode prog_1_method_3_code 13 = .ok (.goto 4, 3) := by decide +kernel
def Q5 (Z : State) (a0 : Addr) (a1 : Addr) (i : Int32) (j : Int32) (h0 : Heap) (n0 : Nat) (v : Option Value) (h : Heap) (L : List Loc) : Prop := v = some (.int (if (i &&& j) = (0 : Int32) then (0 : Int32) else (1 : Int32))) ∧ Fr n0 L ∧ h = h0
def P5 (Z : State) (a0 : Addr) (a1 : Addr) (i : Int32) (j : Int32) (h0 : Heap) (n0 : Nat) (s : State) (o : Outcome) (U' : State) : Prop := ∃ v L, o = .returned v ∧ Q5 Z a0 a1 i j h0 n0 v U'.heap L ∧ FrameEnd s o U' L ({ frames := 1, cells := 0, slots := 0, locals := 13 } : Room).cells ({ frames := 1, cells := 0, slots := 0, locals := 13 } : Room).slots
set_option maxRecDepth 65536 in
set_option maxHeartbeats 40000000 in
theorem rm5 (l : Launch) (Z : State) (aV : Array Value) (hw : ∀ d ∈ tables_1, d.before aV Z = true) (ws : List Jvm.Cond) (a0 : Addr) (a1 : Addr) (i : Int32) (j : Int32) (h0 : Heap) (n0 : Nat) (Z0 : n0 ≤ h0.size) (F_acop_a0 : Fld Z h0 a0 "com/example/wary_warden/warywarden/access/AccessControlOperations" "acop" "I" (.int i)) (E_a1 : Exa Z h0 a1 "com/example/wary_warden/warywarden/access/Operation") (F_acopBit_a1 : Fld Z h0 a1 "com/example/wary_warden/warywarden/access/Operation" "acopBit" "I" (.int j)) :
    MetFree l (⟨"com/example/wary_warden/warywarden/access/AccessControlOperations", "grants", "(Lcom/example/wary_warden/warywarden/access/Operation;)Z"⟩ : MethodName) (head1 (Jvm.Cond.code (⟨"com/example/wary_warden/warywarden/access/AccessControlOperations", "grants", "(Lcom/example/wary_warden/warywarden/access/Operation;)Z"⟩ : MethodName) prog_1_method_3_code 2 (some .boolean) :: ws) ({ frames := 1, cells := 0, slots := 0, locals := 13 } : Room)) (fun a U => a = #[(.ref a0), (.ref a1)] ∧ Z.Warmed39 U.vm ∧ U.heap = h0) (fun _ _ _ _ _ => True) (fun _ U o U' => ∃ v L, o = .returned v ∧ Q5 Z a0 a1 i j h0 n0 v U'.heap L ∧ FrameEnd U o U' L ({ frames := 1, cells := 0, slots := 0, locals := 13 } : Room).cells ({ frames := 1, cells := 0, slots := 0, locals := 13 } : Room).slots) := by
  refine MetFree.of_bodySF (plainFor_of_name pn_com_example_wary_warden_warywarden_access_AccessControlOperations) hisR ?_
  intro p e s m args below meth c s₁ Bd hml0 hP hK
  obtain ⟨rfl, hZ, hh⟩ := hP
  have hx := Bd.exec
  have hby := Bd.bytes
  have hml : c.maxLocals = 2 := hml0
  have hown : s.vm.findClass "com/example/wary_warden/warywarden/access/AccessControlOperations" = some m.cls := findClass_of_methodNamed Bd.named
  have hnm := (name_of_methodNamed Bd.named Bd.method).1
  have X0 : Stand p l e ({ frames := 1, cells := 0, slots := 0, locals := 13 } : Room) s m #[(.ref a0), (.ref a1)] below meth c s₁ [] 0 0 := Stand.of_body Bd
  have e0 : s₁.heap = h0 := by rw [← hh, Bd.state]; rfl
  have efx : entryFrame m #[(.ref a0), (.ref a1)] 2 = mkF m 0 #[.val (.ref a0), .val (.ref a1)] [] := by first | (simp [entryFrame, mkF, argsToLocals, Value.category]; done) | rfl
  have N0 := Fr.nil n0
  have K0 : Keep h0 h0 [] := Keep.refl h0 _
  refine OGo.start (g' := mkF m 0 #[.val (.ref a0), .val (.ref a1)] []) (efx) ?_
  show OGo p.tables e below (P5 Z a0 a1 i j h0 n0 s) (s₁.setTop (mkF m 0 #[.val (.ref a0), .val (.ref a1)] []))
  refine OGo.go (B := s₁.setTop (mkF m 1 #[.val (.ref a0), .val (.ref a1)] [(.ref a0)])) ?_ (fun tX kX => XS.aloadN X0.here hx rfl (hb hby d5_0) rfl rfl kX)
  obtain ⟨T1, X1, e1, st1⟩ := getF X0 hx hZ hown (host := "") (Or.inl (hw _ (List.mem_of_getElem? (i := 17) rfl))) Via.refl e0 F_acop_a0 (g := (mkF m 1 #[.val (.ref a0), .val (.ref a1)] [(.ref a0)])) rfl rfl (hb hby d5_1)
  refine OGo.go (B := T1.setTop (mkF m 4 #[.val (.ref a0), .val (.ref a1)] [(.int i)])) ?_ st1
  refine OGo.go (B := T1.setTop (mkF m 5 #[.val (.ref a0), .val (.ref a1)] [(.ref a1), (.int i)])) ?_ (fun tX kX => XS.aloadN X1.here hx rfl (hb hby d5_4) rfl rfl kX)
  obtain ⟨cq2, kq2, q2a, q2b, q2c⟩ := isOf hZ e1 E_a1
  obtain ⟨_, _, ⟨T2, L2, k2, n2⟩, -, X2, ⟨Lc2, hQ2, l2, y2, z2⟩, st2⟩ := X1.virtualBack hx (y := (⟨"com/example/wary_warden/warywarden/access/Operation", "acopBit", "()I"⟩ : MethodName)) (z := (⟨"com/example/wary_warden/warywarden/access/Operation", "acopBit", "()I"⟩ : MethodName)) hown (mvT hZ (hw _ (List.mem_of_getElem? (i := 32) rfl))) (mvT hZ (hw _ (List.mem_of_getElem? (i := 33) rfl))) (notFace_of_selects (args := #[]) (mvT hZ (hw _ (List.mem_of_getElem? (i := 35) rfl)))) (mvT hZ (hw _ (List.mem_of_getElem? (i := 35) rfl))) (mvT hZ (hw _ (List.mem_of_getElem? (i := 34) rfl))) (by decide) (backOf (W := 1) (rm6 l Z aV hw [] a1 j h0 n0 Z0 F_acopBit_a1) hZ (hw _ (List.mem_of_getElem? (i := 36) rfl)) (hw _ (List.mem_of_getElem? (i := 25) rfl)) (by decide) (by decide)) q2a q2c (g := (mkF m 5 #[.val (.ref a0), .val (.ref a1)] [(.ref a1), (.int i)])) rfl (by rw [hml]; rfl) (Steps.refl _) (argsL := []) (rest := [(.int i)]) (lenOf pd___I rfl) rfl (by show 2 * 0 + _ ≤ _; exact Nat.le_of_eq rfl) (hb hby d5_5) (fun _ _ => ⟨rfl, e1, (by decide : 0 + 0 ≤ _), (by decide : 0 + 0 ≤ _)⟩)
  dsimp only [Pt.U, Pt.locs, Pt.cells, Pt.slots] at X2 l2 y2 z2 st2 hQ2
  subst l2 y2 z2
  obtain ⟨rfl, N2q, e2⟩ := hQ2
  have N2 := Fr.app N0 N2q
  refine OGo.go (B := T2.setTop (mkF m 8 #[.val (.ref a0), .val (.ref a1)] [(.int j), (.int i)])) ?_ (fun tX kX => st2.trans kX)
  refine OGo.go (B := T2.setTop (mkF m 9 #[.val (.ref a0), .val (.ref a1)] [(.int (i &&& j))])) ?_ (fun tX kX => XS.iand X2.here hx rfl (hb hby d5_8) rfl kX)
  by_cases hc9 : (i &&& j) = (0 : Int32)
  ·
    refine OGo.go (B := T2.setTop (mkF m 16 #[.val (.ref a0), .val (.ref a1)] [])) ?_ (fun tX kX => XS.ifYes X2.here hx rfl (pc0 := 9) (pc' := 16) rfl (hb hby d5_9) rfl ((if0 _ _).trans (teq hc9).1) (by decide) (by decide) kX)
    refine OGo.go (B := T2.setTop (mkF m 17 #[.val (.ref a0), .val (.ref a1)] [(.int (0 : Int32))])) ?_ (fun tX kX => XS.iconst X2.here hx rfl (hb hby d5_16) kX)
    refine OGo.ret X2 (v := (some (.int (0 : Int32)))) (fun h => by rw [Bd.returns] at h; cases h) (BodyLoose.notSynchronized Bd) (fun fs hr => retN X2 hx (t := .boolean) (z := (0 : Int32)) Bd.returns (by simp) (hb hby d5_17) hr) (Q := Q5 Z a0 a1 i j h0 n0) ?_ (by decide) (by decide)
    show Q5 Z a0 a1 i j h0 n0 _ T2.heap _
    rw [e2]
    exact ⟨(congrArg (fun z => some (Value.int z)) (if_pos hc9).symm), N2, rfl⟩
  ·
    refine OGo.go (B := T2.setTop (mkF m 12 #[.val (.ref a0), .val (.ref a1)] [])) ?_ (fun tX kX => XS.ifNo X2.here hx rfl (hb hby d5_9) rfl ((if0 _ _).trans (feq hc9).1) kX)
    refine OGo.go (B := T2.setTop (mkF m 13 #[.val (.ref a0), .val (.ref a1)] [(.int (1 : Int32))])) ?_ (fun tX kX => XS.iconst X2.here hx rfl (hb hby d5_12) kX)
    refine OGo.go (B := T2.setTop (mkF m 17 #[.val (.ref a0), .val (.ref a1)] [(.int (1 : Int32))])) ?_ (fun tX kX => XS.goto X2.here hx rfl (pc0 := 13) (pc' := 17) rfl (hb hby d5_13) (by decide) (by decide) kX)
    refine OGo.ret X2 (v := (some (.int (1 : Int32)))) (fun h => by rw [Bd.returns] at h; cases h) (BodyLoose.notSynchronized Bd) (fun fs hr => retN X2 hx (t := .boolean) (z := (1 : Int32)) Bd.returns (by simp) (hb hby d5_17) hr) (Q := Q5 Z a0 a1 i j h0 n0) ?_ (by decide) (by decide)
    show Q5 Z a0 a1 i j h0 n0 _ T2.heap _
    rw [e2]
    exact ⟨(congrArg (fun z => some (Value.int z)) (if_neg hc9).symm), N2, rfl⟩
theorem pd__J_Lcom_example_wary_warden_warywarden_access_AccessControlOperations_ : parseMethodDescriptor "(J)Lcom/example/wary_warden/warywarden/access/AccessControlOperations;" = some ⟨[.long], some (.object "com/example/wary_warden/warywarden/access/AccessControlOperations")⟩ := by decide +kernel
theorem pd__Lcom_example_wary_warden_warywarden_access_Operation__Z : parseMethodDescriptor "(Lcom/example/wary_warden/warywarden/access/Operation;)Z" = some ⟨[(.object "com/example/wary_warden/warywarden/access/Operation")], some .boolean⟩ := by decide +kernel
theorem pn_com_example_wary_warden_warywarden_access_AccessControlOperationsFromAcopPinLaw : plainName "com/example/wary_warden/warywarden/access/AccessControlOperationsFromAcopPinLaw" = true := by first | (simp [plainName, overriddenIn]; done) | decide +kernel
def Q0 (Z : State) (q0 : Int64) (u_CREATE : Addr) (u_RETRIEVE : Addr) (u_UPDATE : Addr) (u_DELETE : Addr) (u_NOTIFY : Addr) (u_DISCOVER : Addr) (h0 : Heap) (n0 : Nat) (v : Option Value) (h : Heap) (L : List Loc) : Prop := v = some (.int (1 : Int32)) ∧ Fr n0 L
def P0 (Z : State) (q0 : Int64) (u_CREATE : Addr) (u_RETRIEVE : Addr) (u_UPDATE : Addr) (u_DELETE : Addr) (u_NOTIFY : Addr) (u_DISCOVER : Addr) (h0 : Heap) (n0 : Nat) (s : State) (o : Outcome) (U' : State) : Prop := ∃ v L, o = .returned v ∧ Q0 Z q0 u_CREATE u_RETRIEVE u_UPDATE u_DELETE u_NOTIFY u_DISCOVER h0 n0 v U'.heap L ∧ FrameEnd s o U' L room_1.cells room_1.slots
set_option maxRecDepth 65536 in
set_option maxHeartbeats 40000000 in
theorem rm0 (l : Launch) (Z : State) (aV : Array Value) (hw : ∀ d ∈ tables_1, d.before aV Z = true) (ws : List Jvm.Cond) (q0 : Int64) (u_CREATE : Addr) (u_RETRIEVE : Addr) (u_UPDATE : Addr) (u_DELETE : Addr) (u_NOTIFY : Addr) (u_DISCOVER : Addr) (h0 : Heap) (n0 : Nat) (Z0 : n0 ≤ h0.size) (S_DEFINED_BITS : Sta Z h0 "com/example/wary_warden/warywarden/access/AccessControlOperations" "DEFINED_BITS" "J" (.long (63 : Int64))) (S_CREATE : Sta Z h0 "com/example/wary_warden/warywarden/access/Operation" "CREATE" "Lcom/example/wary_warden/warywarden/access/Operation;" (.ref u_CREATE)) (E_u_CREATE : Exa Z h0 u_CREATE "com/example/wary_warden/warywarden/access/Operation") (F_acopBit_u_CREATE : Fld Z h0 u_CREATE "com/example/wary_warden/warywarden/access/Operation" "acopBit" "I" (.int (1 : Int32))) (S_RETRIEVE : Sta Z h0 "com/example/wary_warden/warywarden/access/Operation" "RETRIEVE" "Lcom/example/wary_warden/warywarden/access/Operation;" (.ref u_RETRIEVE)) (E_u_RETRIEVE : Exa Z h0 u_RETRIEVE "com/example/wary_warden/warywarden/access/Operation") (F_acopBit_u_RETRIEVE : Fld Z h0 u_RETRIEVE "com/example/wary_warden/warywarden/access/Operation" "acopBit" "I" (.int (2 : Int32))) (S_UPDATE : Sta Z h0 "com/example/wary_warden/warywarden/access/Operation" "UPDATE" "Lcom/example/wary_warden/warywarden/access/Operation;" (.ref u_UPDATE)) (E_u_UPDATE : Exa Z h0 u_UPDATE "com/example/wary_warden/warywarden/access/Operation") (F_acopBit_u_UPDATE : Fld Z h0 u_UPDATE "com/example/wary_warden/warywarden/access/Operation" "acopBit" "I" (.int (4 : Int32))) (S_DELETE : Sta Z h0 "com/example/wary_warden/warywarden/access/Operation" "DELETE" "Lcom/example/wary_warden/warywarden/access/Operation;" (.ref u_DELETE)) (E_u_DELETE : Exa Z h0 u_DELETE "com/example/wary_warden/warywarden/access/Operation") (F_acopBit_u_DELETE : Fld Z h0 u_DELETE "com/example/wary_warden/warywarden/access/Operation" "acopBit" "I" (.int (8 : Int32))) (S_NOTIFY : Sta Z h0 "com/example/wary_warden/warywarden/access/Operation" "NOTIFY" "Lcom/example/wary_warden/warywarden/access/Operation;" (.ref u_NOTIFY)) (E_u_NOTIFY : Exa Z h0 u_NOTIFY "com/example/wary_warden/warywarden/access/Operation") (F_acopBit_u_NOTIFY : Fld Z h0 u_NOTIFY "com/example/wary_warden/warywarden/access/Operation" "acopBit" "I" (.int (16 : Int32))) (S_DISCOVER : Sta Z h0 "com/example/wary_warden/warywarden/access/Operation" "DISCOVER" "Lcom/example/wary_warden/warywarden/access/Operation;" (.ref u_DISCOVER)) (E_u_DISCOVER : Exa Z h0 u_DISCOVER "com/example/wary_warden/warywarden/access/Operation") (F_acopBit_u_DISCOVER : Fld Z h0 u_DISCOVER "com/example/wary_warden/warywarden/access/Operation" "acopBit" "I" (.int (32 : Int32))) :
    MetFree l x (head1 (Jvm.Cond.code x code maxLocals ret :: ws) room_1) (fun a U => a = #[(.long q0)] ∧ Z.Warmed39 U.vm ∧ U.heap = h0) (fun _ _ _ _ _ => True) (fun _ U o U' => ∃ v L, o = .returned v ∧ Q0 Z q0 u_CREATE u_RETRIEVE u_UPDATE u_DELETE u_NOTIFY u_DISCOVER h0 n0 v U'.heap L ∧ FrameEnd U o U' L room_1.cells room_1.slots) := by
  refine MetFree.of_bodySF (plainFor_of_name pn_com_example_wary_warden_warywarden_access_AccessControlOperationsFromAcopPinLaw) hisR ?_
  intro p e s m args below meth c s₁ Bd hml0 hP hK
  obtain ⟨rfl, hZ, hh⟩ := hP
  have hx := Bd.exec
  have hby := Bd.bytes
  have hml : c.maxLocals = 4 := hml0
  have hown : s.vm.findClass "com/example/wary_warden/warywarden/access/AccessControlOperationsFromAcopPinLaw" = some m.cls := findClass_of_methodNamed Bd.named
  have hnm := (name_of_methodNamed Bd.named Bd.method).1
  have X0 : Stand p l e room_1 s m #[(.long q0)] below meth c s₁ [] 0 0 := Stand.of_body Bd
  have e0 : s₁.heap = h0 := by rw [← hh, Bd.state]; rfl
  have efx : entryFrame m #[(.long q0)] maxLocals = mkF m 0 #[.val (.long q0), .second, .unset, .unset] [] := by first | (simp [entryFrame, mkF, argsToLocals, Value.category, maxLocals]; done) | rfl
  have N0 := Fr.nil n0
  have K0 : Keep h0 h0 [] := Keep.refl h0 _
  refine OGo.start (g' := mkF m 0 #[.val (.long q0), .second, .unset, .unset] []) (efx) ?_
  show OGo p.tables e below (P0 Z q0 u_CREATE u_RETRIEVE u_UPDATE u_DELETE u_NOTIFY u_DISCOVER h0 n0 s) (s₁.setTop (mkF m 0 #[.val (.long q0), .second, .unset, .unset] []))
  refine OGo.go (B := s₁.setTop (mkF m 1 #[.val (.long q0), .second, .unset, .unset] [(.long q0)])) ?_ (fun tX kX => XS.lloadN X0.here hx rfl (hb hby at_0) rfl kX)
  refine OGo.go (B := s₁.setTop (mkF m 4 #[.val (.long q0), .second, .unset, .unset] [(.long (9223372036854775807 : Int64)), (.long q0)])) ?_ (fun tX kX => X0.ldc2Long hx hown (mvT hZ (hw _ (List.mem_of_getElem? (i := 0) rfl))) (g := (mkF m 1 #[.val (.long q0), .second, .unset, .unset] [(.long q0)])) rfl (hb hby at_1) _ kX)
  refine OGo.go (B := s₁.setTop (mkF m 5 #[.val (.long q0), .second, .unset, .unset] [(.long (q0 &&& (9223372036854775807 : Int64)))])) ?_ (fun tX kX => XS.land X0.here hx rfl (hb hby at_4) rfl kX)
  refine OGo.go (B := s₁.setTop (mkF m 8 #[.val (.long q0), .second, .unset, .unset] [(.long (63 : Int64)), (.long (q0 &&& (9223372036854775807 : Int64)))])) ?_ (fun tX kX => X0.ldc2Long hx hown (mvT hZ (hw _ (List.mem_of_getElem? (i := 1) rfl))) (g := (mkF m 5 #[.val (.long q0), .second, .unset, .unset] [(.long (q0 &&& (9223372036854775807 : Int64)))])) rfl (hb hby at_5) _ kX)
  refine OGo.go (B := s₁.setTop (mkF m 9 #[.val (.long q0), .second, .unset, .unset] [(.long ((q0 &&& (9223372036854775807 : Int64)) - ((q0 &&& (9223372036854775807 : Int64)) / (63 : Int64)) * (63 : Int64)))])) ?_ (fun tX kX => XS.lrem X0.here hx rfl (hb hby at_8) rfl (by decide) kX)
  refine OGo.go (B := s₁.setTop (mkF m 10 #[.val (.long q0), .second, .unset, .unset] [(.int (((q0 &&& (9223372036854775807 : Int64)) - ((q0 &&& (9223372036854775807 : Int64)) / (63 : Int64)) * (63 : Int64)).toInt32))])) ?_ (fun tX kX => XS.l2i X0.here hx rfl (hb hby at_9) rfl kX)
  refine OGo.go (B := s₁.setTop (mkF m 11 #[.val (.long q0), .second, .unset, .unset] [(.int (1 : Int32)), (.int (((q0 &&& (9223372036854775807 : Int64)) - ((q0 &&& (9223372036854775807 : Int64)) / (63 : Int64)) * (63 : Int64)).toInt32))])) ?_ (fun tX kX => XS.iconst X0.here hx rfl (hb hby at_10) kX)
  refine OGo.go (B := s₁.setTop (mkF m 12 #[.val (.long q0), .second, .unset, .unset] [(.int ((((q0 &&& (9223372036854775807 : Int64)) - ((q0 &&& (9223372036854775807 : Int64)) / (63 : Int64)) * (63 : Int64)).toInt32) + (1 : Int32)))])) ?_ (fun tX kX => XS.iadd X0.here hx rfl (hb hby at_11) rfl kX)
  have hv := own_range q0
  generalize ((((q0 &&& (9223372036854775807 : Int64)) - ((q0 &&& (9223372036854775807 : Int64)) / (63 : Int64)) * (63 : Int64)).toInt32) + (1 : Int32)) = v at hv ⊢
  refine OGo.go (B := s₁.setTop (mkF m 13 #[.val (.long q0), .second, .val (.int v), .unset] [])) ?_ (fun tX kX => XS.istoreN X0.here hx rfl (hb hby at_12) rfl (l' := #[.val (.long q0), .second, .val (.int v), .unset]) rfl kX)
  refine OGo.go (B := s₁.setTop (mkF m 14 #[.val (.long q0), .second, .val (.int v), .unset] [(.int v)])) ?_ (fun tX kX => XS.iloadN X0.here hx rfl (hb hby at_13) rfl kX)
  refine OGo.go (B := s₁.setTop (mkF m 15 #[.val (.long q0), .second, .val (.int v), .unset] [(.long (v.toInt64))])) ?_ (fun tX kX => XS.i2l X0.here hx rfl (hb hby at_14) rfl kX)
  obtain ⟨_, _, ⟨T1, L1, k1, n1⟩, -, X1, ⟨Lc1, hQ1, l1, y1, z1⟩, st1⟩ := Jvm.LawKit.callS X0 hx (y := (⟨"com/example/wary_warden/warywarden/access/AccessControlOperations", "fromAcop", "(J)Lcom/example/wary_warden/warywarden/access/AccessControlOperations;"⟩ : MethodName)) hown (mvT hZ (hw _ (List.mem_of_getElem? (i := 2) rfl))) (mvT hZ (hw _ (List.mem_of_getElem? (i := 3) rfl))) (mvT hZ (hw _ (List.mem_of_getElem? (i := 4) rfl))) (mvT hZ (hw _ (List.mem_of_getElem? (i := 5) rfl))) (by decide) (backOf (W := 0) (rm1 l Z aV hw [] (v.toInt64) h0 n0 Z0 S_DEFINED_BITS (own_ge v hv.1) (own_mask v (by omega) hv.2)) hZ (hw _ (List.mem_of_getElem? (i := 5) rfl)) (hw _ (List.mem_of_getElem? (i := 4) rfl)) (by decide) (by decide)) (g := (mkF m 15 #[.val (.long q0), .second, .val (.int v), .unset] [(.long (v.toInt64))])) rfl (by rw [hml]; rfl) (argsL := [(.long (v.toInt64))]) (rest := []) (lenOf pd__J_Lcom_example_wary_warden_warywarden_access_AccessControlOperations_ rfl) rfl (by show 2 * 0 + _ ≤ _; exact Nat.le_of_eq rfl) (hb hby at_15) (fun _ _ => ⟨rfl, e0, (by decide : 0 + 1 ≤ _), (by decide : 0 + 1 ≤ _)⟩)
  dsimp only [Pt.U, Pt.locs, Pt.cells, Pt.slots] at X1 l1 y1 z1 st1 hQ1
  subst l1 y1 z1
  obtain ⟨b_1, rfl, N1q, Kq1, sz1_b, E_b_1_p, F_acop_b_1_p⟩ := hQ1
  have N1 := Fr.app N0 N1q
  have ne_u_CREATE_b_1 : u_CREATE ≠ b_1 := Nat.ne_of_lt (Nat.lt_of_lt_of_le E_u_CREATE.lt sz1_b)
  have ne_u_RETRIEVE_b_1 : u_RETRIEVE ≠ b_1 := Nat.ne_of_lt (Nat.lt_of_lt_of_le E_u_RETRIEVE.lt sz1_b)
  have ne_u_UPDATE_b_1 : u_UPDATE ≠ b_1 := Nat.ne_of_lt (Nat.lt_of_lt_of_le E_u_UPDATE.lt sz1_b)
  have ne_u_DELETE_b_1 : u_DELETE ≠ b_1 := Nat.ne_of_lt (Nat.lt_of_lt_of_le E_u_DELETE.lt sz1_b)
  have ne_u_NOTIFY_b_1 : u_NOTIFY ≠ b_1 := Nat.ne_of_lt (Nat.lt_of_lt_of_le E_u_NOTIFY.lt sz1_b)
  have ne_u_DISCOVER_b_1 : u_DISCOVER ≠ b_1 := Nat.ne_of_lt (Nat.lt_of_lt_of_le E_u_DISCOVER.lt sz1_b)
  have S_DEFINED_BITS := Sta.keep0 S_DEFINED_BITS Kq1
  have S_CREATE := Sta.keep0 S_CREATE Kq1
  have S_RETRIEVE := Sta.keep0 S_RETRIEVE Kq1
  have S_UPDATE := Sta.keep0 S_UPDATE Kq1
  have S_DELETE := Sta.keep0 S_DELETE Kq1
  have S_NOTIFY := Sta.keep0 S_NOTIFY Kq1
  have S_DISCOVER := Sta.keep0 S_DISCOVER Kq1
  have E_u_CREATE := E_u_CREATE.keep Kq1
  have F_acopBit_u_CREATE := F_acopBit_u_CREATE.keep Kq1 nin0
  have E_u_RETRIEVE := E_u_RETRIEVE.keep Kq1
  have F_acopBit_u_RETRIEVE := F_acopBit_u_RETRIEVE.keep Kq1 nin0
  have E_u_UPDATE := E_u_UPDATE.keep Kq1
  have F_acopBit_u_UPDATE := F_acopBit_u_UPDATE.keep Kq1 nin0
  have E_u_DELETE := E_u_DELETE.keep Kq1
  have F_acopBit_u_DELETE := F_acopBit_u_DELETE.keep Kq1 nin0
  have E_u_NOTIFY := E_u_NOTIFY.keep Kq1
  have F_acopBit_u_NOTIFY := F_acopBit_u_NOTIFY.keep Kq1 nin0
  have E_u_DISCOVER := E_u_DISCOVER.keep Kq1
  have F_acopBit_u_DISCOVER := F_acopBit_u_DISCOVER.keep Kq1 nin0
  have g_b_1 : n0 ≤ b_1 := Nat.le_trans Z0 sz1_b
  have sz_b_1 : h0.size ≤ b_1 := Nat.le_trans K0.1 sz1_b
  have K1 := K0.trans Kq1 all0
  have zn1 : n0 ≤ T1.heap.size := Nat.le_trans Z0 Kq1.1
  have E_b_1 := E_b_1_p
  have F_acop_b_1 := F_acop_b_1_p
  refine OGo.go (B := T1.setTop (mkF m 18 #[.val (.long q0), .second, .val (.int v), .unset] [(.ref b_1)])) ?_ st1
  rw [own_back] at F_acop_b_1
  refine OGo.go (B := T1.setTop (mkF m 19 #[.val (.long q0), .second, .val (.int v), .val (.ref b_1)] [])) ?_ (fun tX kX => XS.astoreN X1.here hx rfl (hb hby at_18) rfl rfl (l' := #[.val (.long q0), .second, .val (.int v), .val (.ref b_1)]) rfl kX)
  refine OGo.go (B := T1.setTop (mkF m 20 #[.val (.long q0), .second, .val (.int v), .val (.ref b_1)] [(.ref b_1)])) ?_ (fun tX kX => XS.aloadN X1.here hx rfl (hb hby at_19) rfl rfl kX)
  obtain ⟨cq2, kq2, q2a, q2b, q2c⟩ := isOf hZ rfl E_b_1
  obtain ⟨_, _, ⟨T2, L2, k2, n2⟩, -, X2, ⟨Lc2, hQ2, l2, y2, z2⟩, st2⟩ := X1.virtualBack hx (y := (⟨"com/example/wary_warden/warywarden/access/AccessControlOperations", "acop", "()I"⟩ : MethodName)) (z := (⟨"com/example/wary_warden/warywarden/access/AccessControlOperations", "acop", "()I"⟩ : MethodName)) hown (mvT hZ (hw _ (List.mem_of_getElem? (i := 19) rfl))) (mvT hZ (hw _ (List.mem_of_getElem? (i := 20) rfl))) (notFace_of_selects (args := #[]) (mvT hZ (hw _ (List.mem_of_getElem? (i := 22) rfl)))) (mvT hZ (hw _ (List.mem_of_getElem? (i := 22) rfl))) (mvT hZ (hw _ (List.mem_of_getElem? (i := 21) rfl))) (by decide) (backOf (W := 0) (rm4 l Z aV hw [] b_1 v T1.heap n0 zn1 F_acop_b_1) hZ (hw _ (List.mem_of_getElem? (i := 23) rfl)) (hw _ (List.mem_of_getElem? (i := 4) rfl)) (by decide) (by decide)) q2a q2c (g := (mkF m 20 #[.val (.long q0), .second, .val (.int v), .val (.ref b_1)] [(.ref b_1)])) rfl (by rw [hml]; rfl) (Steps.refl _) (argsL := []) (rest := []) (lenOf pd___I rfl) rfl (by show 2 * 0 + _ ≤ _; exact Nat.le_of_eq rfl) (hb hby at_20) (fun _ _ => ⟨rfl, rfl, (by decide : 1 + 0 ≤ _), (by decide : 1 + 0 ≤ _)⟩)
  dsimp only [Pt.U, Pt.locs, Pt.cells, Pt.slots] at X2 l2 y2 z2 st2 hQ2
  subst l2 y2 z2
  obtain ⟨rfl, N2q, e2⟩ := hQ2
  have N2 := Fr.app N1 N2q
  refine OGo.go (B := T2.setTop (mkF m 23 #[.val (.long q0), .second, .val (.int v), .val (.ref b_1)] [(.int v)])) ?_ (fun tX kX => st2.trans kX)
  refine OGo.go (B := T2.setTop (mkF m 24 #[.val (.long q0), .second, .val (.int v), .val (.ref b_1)] [(.int v), (.int v)])) ?_ (fun tX kX => XS.iloadN X2.here hx rfl (hb hby at_23) rfl kX)
  refine OGo.go (B := T2.setTop (mkF m 29 #[.val (.long q0), .second, .val (.int v), .val (.ref b_1)] [])) ?_ (fun tX kX => XS.icmpYes X2.here hx rfl (pc0 := 24) (pc' := 29) rfl (hb hby at_24) rfl (teq rfl).1 (by decide) (by decide) kX)
  refine OGo.go (B := T2.setTop (mkF m 30 #[.val (.long q0), .second, .val (.int v), .val (.ref b_1)] [(.ref b_1)])) ?_ (fun tX kX => XS.aloadN X2.here hx rfl (hb hby at_29) rfl rfl kX)
  obtain ⟨T3, X3, e3, st3⟩ := getS2 X2 hx hZ hown (host := "") (Or.inl (hw _ (List.mem_of_getElem? (i := 24) rfl))) Via.refl e2 S_CREATE (g := (mkF m 30 #[.val (.long q0), .second, .val (.int v), .val (.ref b_1)] [(.ref b_1)])) rfl (hb hby at_30)
  refine OGo.go (B := T3.setTop (mkF m 33 #[.val (.long q0), .second, .val (.int v), .val (.ref b_1)] [(.ref u_CREATE), (.ref b_1)])) ?_ st3
  obtain ⟨cq4, kq4, q4a, q4b, q4c⟩ := isOf hZ e3 E_b_1
  obtain ⟨_, _, ⟨T4, L4, k4, n4⟩, -, X4, ⟨Lc4, hQ4, l4, y4, z4⟩, st4⟩ := X3.virtualBack hx (y := (⟨"com/example/wary_warden/warywarden/access/AccessControlOperations", "grants", "(Lcom/example/wary_warden/warywarden/access/Operation;)Z"⟩ : MethodName)) (z := (⟨"com/example/wary_warden/warywarden/access/AccessControlOperations", "grants", "(Lcom/example/wary_warden/warywarden/access/Operation;)Z"⟩ : MethodName)) hown (mvT hZ (hw _ (List.mem_of_getElem? (i := 27) rfl))) (mvT hZ (hw _ (List.mem_of_getElem? (i := 28) rfl))) (notFace_of_selects (args := #[]) (mvT hZ (hw _ (List.mem_of_getElem? (i := 30) rfl)))) (mvT hZ (hw _ (List.mem_of_getElem? (i := 30) rfl))) (mvT hZ (hw _ (List.mem_of_getElem? (i := 29) rfl))) (by decide) (backOf (W := 0) (rm5 l Z aV hw [] b_1 u_CREATE v (1 : Int32) T1.heap n0 zn1 F_acop_b_1 E_u_CREATE F_acopBit_u_CREATE) hZ (hw _ (List.mem_of_getElem? (i := 31) rfl)) (hw _ (List.mem_of_getElem? (i := 4) rfl)) (by decide) (by decide)) q4a q4c (g := (mkF m 33 #[.val (.long q0), .second, .val (.int v), .val (.ref b_1)] [(.ref u_CREATE), (.ref b_1)])) rfl (by rw [hml]; rfl) (Steps.refl _) (argsL := [(.ref u_CREATE)]) (rest := []) (lenOf pd__Lcom_example_wary_warden_warywarden_access_Operation__Z rfl) rfl (by show 2 * 0 + _ ≤ _; exact Nat.le_of_eq rfl) (hb hby at_33) (fun _ _ => ⟨rfl, e3, (by decide : 1 + 0 ≤ _), (by decide : 1 + 0 ≤ _)⟩)
  dsimp only [Pt.U, Pt.locs, Pt.cells, Pt.slots] at X4 l4 y4 z4 st4 hQ4
  subst l4 y4 z4
  obtain ⟨rfl, N4q, e4⟩ := hQ4
  have N4 := Fr.app N2 N4q
  refine OGo.go (B := T4.setTop (mkF m 36 #[.val (.long q0), .second, .val (.int v), .val (.ref b_1)] [(.int (if (v &&& (1 : Int32)) = (0 : Int32) then (0 : Int32) else (1 : Int32)))])) ?_ (fun tX kX => st4.trans kX)
  refine OGo.go (B := T4.setTop (mkF m 37 #[.val (.long q0), .second, .val (.int v), .val (.ref b_1)] [(.int v), (.int (if (v &&& (1 : Int32)) = (0 : Int32) then (0 : Int32) else (1 : Int32)))])) ?_ (fun tX kX => XS.iloadN X4.here hx rfl (hb hby at_36) rfl kX)
  refine OGo.go (B := T4.setTop (mkF m 38 #[.val (.long q0), .second, .val (.int v), .val (.ref b_1)] [(.int (1 : Int32)), (.int v), (.int (if (v &&& (1 : Int32)) = (0 : Int32) then (0 : Int32) else (1 : Int32)))])) ?_ (fun tX kX => XS.iconst X4.here hx rfl (hb hby at_37) kX)
  refine OGo.go (B := T4.setTop (mkF m 39 #[.val (.long q0), .second, .val (.int v), .val (.ref b_1)] [(.int (v &&& (1 : Int32))), (.int (if (v &&& (1 : Int32)) = (0 : Int32) then (0 : Int32) else (1 : Int32)))])) ?_ (fun tX kX => XS.iand X4.here hx rfl (hb hby at_38) rfl kX)
  refine OGo.go (B := T4.setTop (mkF m 47 #[.val (.long q0), .second, .val (.int v), .val (.ref b_1)] [(.int (if (v &&& (1 : Int32)) = (0 : Int32) then (0 : Int32) else (1 : Int32))), (.int (if (v &&& (1 : Int32)) = (0 : Int32) then (0 : Int32) else (1 : Int32)))])) ?_ (fun tX kX => ?_)
  rotate_left
  ·
    by_cases hd39 : (v &&& (1 : Int32)) = (0 : Int32)
    ·
      rw [if_pos hd39] at kX
      refine XS.ifYes X4.here hx rfl (pc0 := 39) (pc' := 46) rfl (hb hby at_39) rfl ((if0 _ _).trans (teq hd39).1) (by decide) (by decide) ?_
      show Steps p.tables e below (T4.setTop (mkF m 46 #[.val (.long q0), .second, .val (.int v), .val (.ref b_1)] [(.int (if (v &&& (1 : Int32)) = (0 : Int32) then (0 : Int32) else (1 : Int32)))])) _
      refine XS.iconst X4.here hx rfl (hb hby at_46) ?_
      show Steps p.tables e below (T4.setTop (mkF m 47 #[.val (.long q0), .second, .val (.int v), .val (.ref b_1)] [(.int (0 : Int32)), (.int (if (v &&& (1 : Int32)) = (0 : Int32) then (0 : Int32) else (1 : Int32)))])) _
      first | exact kX | (rw [if_pos hd39]; exact kX)
    ·
      rw [if_neg hd39] at kX
      refine XS.ifNo X4.here hx rfl (hb hby at_39) rfl ((if0 _ _).trans (feq hd39).1) ?_
      show Steps p.tables e below (T4.setTop (mkF m 42 #[.val (.long q0), .second, .val (.int v), .val (.ref b_1)] [(.int (if (v &&& (1 : Int32)) = (0 : Int32) then (0 : Int32) else (1 : Int32)))])) _
      refine XS.iconst X4.here hx rfl (hb hby at_42) ?_
      show Steps p.tables e below (T4.setTop (mkF m 43 #[.val (.long q0), .second, .val (.int v), .val (.ref b_1)] [(.int (1 : Int32)), (.int (if (v &&& (1 : Int32)) = (0 : Int32) then (0 : Int32) else (1 : Int32)))])) _
      refine XS.goto X4.here hx rfl (pc0 := 43) (pc' := 47) rfl (hb hby at_43) (by decide) (by decide) ?_
      show Steps p.tables e below (T4.setTop (mkF m 47 #[.val (.long q0), .second, .val (.int v), .val (.ref b_1)] [(.int (1 : Int32)), (.int (if (v &&& (1 : Int32)) = (0 : Int32) then (0 : Int32) else (1 : Int32)))])) _
      first | exact kX | (rw [if_neg hd39]; exact kX)
  refine OGo.go (B := T4.setTop (mkF m 52 #[.val (.long q0), .second, .val (.int v), .val (.ref b_1)] [])) ?_ (fun tX kX => XS.icmpYes X4.here hx rfl (pc0 := 47) (pc' := 52) rfl (hb hby at_47) rfl (teq rfl).1 (by decide) (by decide) kX)
  refine OGo.go (B := T4.setTop (mkF m 53 #[.val (.long q0), .second, .val (.int v), .val (.ref b_1)] [(.ref b_1)])) ?_ (fun tX kX => XS.aloadN X4.here hx rfl (hb hby at_52) rfl rfl kX)
  obtain ⟨T5, X5, e5, st5⟩ := getS2 X4 hx hZ hown (host := "") (Or.inl (hw _ (List.mem_of_getElem? (i := 39) rfl))) Via.refl e4 S_RETRIEVE (g := (mkF m 53 #[.val (.long q0), .second, .val (.int v), .val (.ref b_1)] [(.ref b_1)])) rfl (hb hby at_53)
  refine OGo.go (B := T5.setTop (mkF m 56 #[.val (.long q0), .second, .val (.int v), .val (.ref b_1)] [(.ref u_RETRIEVE), (.ref b_1)])) ?_ st5
  obtain ⟨cq6, kq6, q6a, q6b, q6c⟩ := isOf hZ e5 E_b_1
  obtain ⟨_, _, ⟨T6, L6, k6, n6⟩, -, X6, ⟨Lc6, hQ6, l6, y6, z6⟩, st6⟩ := X5.virtualBack hx (y := (⟨"com/example/wary_warden/warywarden/access/AccessControlOperations", "grants", "(Lcom/example/wary_warden/warywarden/access/Operation;)Z"⟩ : MethodName)) (z := (⟨"com/example/wary_warden/warywarden/access/AccessControlOperations", "grants", "(Lcom/example/wary_warden/warywarden/access/Operation;)Z"⟩ : MethodName)) hown (mvT hZ (hw _ (List.mem_of_getElem? (i := 27) rfl))) (mvT hZ (hw _ (List.mem_of_getElem? (i := 28) rfl))) (notFace_of_selects (args := #[]) (mvT hZ (hw _ (List.mem_of_getElem? (i := 30) rfl)))) (mvT hZ (hw _ (List.mem_of_getElem? (i := 30) rfl))) (mvT hZ (hw _ (List.mem_of_getElem? (i := 29) rfl))) (by decide) (backOf (W := 0) (rm5 l Z aV hw [] b_1 u_RETRIEVE v (2 : Int32) T1.heap n0 zn1 F_acop_b_1 E_u_RETRIEVE F_acopBit_u_RETRIEVE) hZ (hw _ (List.mem_of_getElem? (i := 31) rfl)) (hw _ (List.mem_of_getElem? (i := 4) rfl)) (by decide) (by decide)) q6a q6c (g := (mkF m 56 #[.val (.long q0), .second, .val (.int v), .val (.ref b_1)] [(.ref u_RETRIEVE), (.ref b_1)])) rfl (by rw [hml]; rfl) (Steps.refl _) (argsL := [(.ref u_RETRIEVE)]) (rest := []) (lenOf pd__Lcom_example_wary_warden_warywarden_access_Operation__Z rfl) rfl (by show 2 * 0 + _ ≤ _; exact Nat.le_of_eq rfl) (hb hby at_56) (fun _ _ => ⟨rfl, e5, (by decide : 1 + 0 ≤ _), (by decide : 1 + 0 ≤ _)⟩)
  dsimp only [Pt.U, Pt.locs, Pt.cells, Pt.slots] at X6 l6 y6 z6 st6 hQ6
  subst l6 y6 z6
  obtain ⟨rfl, N6q, e6⟩ := hQ6
  have N6 := Fr.app N4 N6q
  refine OGo.go (B := T6.setTop (mkF m 59 #[.val (.long q0), .second, .val (.int v), .val (.ref b_1)] [(.int (if (v &&& (2 : Int32)) = (0 : Int32) then (0 : Int32) else (1 : Int32)))])) ?_ (fun tX kX => st6.trans kX)
  refine OGo.go (B := T6.setTop (mkF m 60 #[.val (.long q0), .second, .val (.int v), .val (.ref b_1)] [(.int v), (.int (if (v &&& (2 : Int32)) = (0 : Int32) then (0 : Int32) else (1 : Int32)))])) ?_ (fun tX kX => XS.iloadN X6.here hx rfl (hb hby at_59) rfl kX)
  refine OGo.go (B := T6.setTop (mkF m 61 #[.val (.long q0), .second, .val (.int v), .val (.ref b_1)] [(.int (2 : Int32)), (.int v), (.int (if (v &&& (2 : Int32)) = (0 : Int32) then (0 : Int32) else (1 : Int32)))])) ?_ (fun tX kX => XS.iconst X6.here hx rfl (hb hby at_60) kX)
  refine OGo.go (B := T6.setTop (mkF m 62 #[.val (.long q0), .second, .val (.int v), .val (.ref b_1)] [(.int (v &&& (2 : Int32))), (.int (if (v &&& (2 : Int32)) = (0 : Int32) then (0 : Int32) else (1 : Int32)))])) ?_ (fun tX kX => XS.iand X6.here hx rfl (hb hby at_61) rfl kX)
  refine OGo.go (B := T6.setTop (mkF m 70 #[.val (.long q0), .second, .val (.int v), .val (.ref b_1)] [(.int (if (v &&& (2 : Int32)) = (0 : Int32) then (0 : Int32) else (1 : Int32))), (.int (if (v &&& (2 : Int32)) = (0 : Int32) then (0 : Int32) else (1 : Int32)))])) ?_ (fun tX kX => ?_)
  rotate_left
  ·
    by_cases hd62 : (v &&& (2 : Int32)) = (0 : Int32)
    ·
      rw [if_pos hd62] at kX
      refine XS.ifYes X6.here hx rfl (pc0 := 62) (pc' := 69) rfl (hb hby at_62) rfl ((if0 _ _).trans (teq hd62).1) (by decide) (by decide) ?_
      show Steps p.tables e below (T6.setTop (mkF m 69 #[.val (.long q0), .second, .val (.int v), .val (.ref b_1)] [(.int (if (v &&& (2 : Int32)) = (0 : Int32) then (0 : Int32) else (1 : Int32)))])) _
      refine XS.iconst X6.here hx rfl (hb hby at_69) ?_
      show Steps p.tables e below (T6.setTop (mkF m 70 #[.val (.long q0), .second, .val (.int v), .val (.ref b_1)] [(.int (0 : Int32)), (.int (if (v &&& (2 : Int32)) = (0 : Int32) then (0 : Int32) else (1 : Int32)))])) _
      first | exact kX | (rw [if_pos hd62]; exact kX)
    ·
      rw [if_neg hd62] at kX
      refine XS.ifNo X6.here hx rfl (hb hby at_62) rfl ((if0 _ _).trans (feq hd62).1) ?_
      show Steps p.tables e below (T6.setTop (mkF m 65 #[.val (.long q0), .second, .val (.int v), .val (.ref b_1)] [(.int (if (v &&& (2 : Int32)) = (0 : Int32) then (0 : Int32) else (1 : Int32)))])) _
      refine XS.iconst X6.here hx rfl (hb hby at_65) ?_
      show Steps p.tables e below (T6.setTop (mkF m 66 #[.val (.long q0), .second, .val (.int v), .val (.ref b_1)] [(.int (1 : Int32)), (.int (if (v &&& (2 : Int32)) = (0 : Int32) then (0 : Int32) else (1 : Int32)))])) _
      refine XS.goto X6.here hx rfl (pc0 := 66) (pc' := 70) rfl (hb hby at_66) (by decide) (by decide) ?_
      show Steps p.tables e below (T6.setTop (mkF m 70 #[.val (.long q0), .second, .val (.int v), .val (.ref b_1)] [(.int (1 : Int32)), (.int (if (v &&& (2 : Int32)) = (0 : Int32) then (0 : Int32) else (1 : Int32)))])) _
      first | exact kX | (rw [if_neg hd62]; exact kX)
  refine OGo.go (B := T6.setTop (mkF m 75 #[.val (.long q0), .second, .val (.int v), .val (.ref b_1)] [])) ?_ (fun tX kX => XS.icmpYes X6.here hx rfl (pc0 := 70) (pc' := 75) rfl (hb hby at_70) rfl (teq rfl).1 (by decide) (by decide) kX)
  refine OGo.go (B := T6.setTop (mkF m 76 #[.val (.long q0), .second, .val (.int v), .val (.ref b_1)] [(.ref b_1)])) ?_ (fun tX kX => XS.aloadN X6.here hx rfl (hb hby at_75) rfl rfl kX)
  obtain ⟨T7, X7, e7, st7⟩ := getS2 X6 hx hZ hown (host := "") (Or.inl (hw _ (List.mem_of_getElem? (i := 41) rfl))) Via.refl e6 S_UPDATE (g := (mkF m 76 #[.val (.long q0), .second, .val (.int v), .val (.ref b_1)] [(.ref b_1)])) rfl (hb hby at_76)
  refine OGo.go (B := T7.setTop (mkF m 79 #[.val (.long q0), .second, .val (.int v), .val (.ref b_1)] [(.ref u_UPDATE), (.ref b_1)])) ?_ st7
  obtain ⟨cq8, kq8, q8a, q8b, q8c⟩ := isOf hZ e7 E_b_1
  obtain ⟨_, _, ⟨T8, L8, k8, n8⟩, -, X8, ⟨Lc8, hQ8, l8, y8, z8⟩, st8⟩ := X7.virtualBack hx (y := (⟨"com/example/wary_warden/warywarden/access/AccessControlOperations", "grants", "(Lcom/example/wary_warden/warywarden/access/Operation;)Z"⟩ : MethodName)) (z := (⟨"com/example/wary_warden/warywarden/access/AccessControlOperations", "grants", "(Lcom/example/wary_warden/warywarden/access/Operation;)Z"⟩ : MethodName)) hown (mvT hZ (hw _ (List.mem_of_getElem? (i := 27) rfl))) (mvT hZ (hw _ (List.mem_of_getElem? (i := 28) rfl))) (notFace_of_selects (args := #[]) (mvT hZ (hw _ (List.mem_of_getElem? (i := 30) rfl)))) (mvT hZ (hw _ (List.mem_of_getElem? (i := 30) rfl))) (mvT hZ (hw _ (List.mem_of_getElem? (i := 29) rfl))) (by decide) (backOf (W := 0) (rm5 l Z aV hw [] b_1 u_UPDATE v (4 : Int32) T1.heap n0 zn1 F_acop_b_1 E_u_UPDATE F_acopBit_u_UPDATE) hZ (hw _ (List.mem_of_getElem? (i := 31) rfl)) (hw _ (List.mem_of_getElem? (i := 4) rfl)) (by decide) (by decide)) q8a q8c (g := (mkF m 79 #[.val (.long q0), .second, .val (.int v), .val (.ref b_1)] [(.ref u_UPDATE), (.ref b_1)])) rfl (by rw [hml]; rfl) (Steps.refl _) (argsL := [(.ref u_UPDATE)]) (rest := []) (lenOf pd__Lcom_example_wary_warden_warywarden_access_Operation__Z rfl) rfl (by show 2 * 0 + _ ≤ _; exact Nat.le_of_eq rfl) (hb hby at_79) (fun _ _ => ⟨rfl, e7, (by decide : 1 + 0 ≤ _), (by decide : 1 + 0 ≤ _)⟩)
  dsimp only [Pt.U, Pt.locs, Pt.cells, Pt.slots] at X8 l8 y8 z8 st8 hQ8
  subst l8 y8 z8
  obtain ⟨rfl, N8q, e8⟩ := hQ8
  have N8 := Fr.app N6 N8q
  refine OGo.go (B := T8.setTop (mkF m 82 #[.val (.long q0), .second, .val (.int v), .val (.ref b_1)] [(.int (if (v &&& (4 : Int32)) = (0 : Int32) then (0 : Int32) else (1 : Int32)))])) ?_ (fun tX kX => st8.trans kX)
  refine OGo.go (B := T8.setTop (mkF m 83 #[.val (.long q0), .second, .val (.int v), .val (.ref b_1)] [(.int v), (.int (if (v &&& (4 : Int32)) = (0 : Int32) then (0 : Int32) else (1 : Int32)))])) ?_ (fun tX kX => XS.iloadN X8.here hx rfl (hb hby at_82) rfl kX)
  refine OGo.go (B := T8.setTop (mkF m 84 #[.val (.long q0), .second, .val (.int v), .val (.ref b_1)] [(.int (4 : Int32)), (.int v), (.int (if (v &&& (4 : Int32)) = (0 : Int32) then (0 : Int32) else (1 : Int32)))])) ?_ (fun tX kX => XS.iconst X8.here hx rfl (hb hby at_83) kX)
  refine OGo.go (B := T8.setTop (mkF m 85 #[.val (.long q0), .second, .val (.int v), .val (.ref b_1)] [(.int (v &&& (4 : Int32))), (.int (if (v &&& (4 : Int32)) = (0 : Int32) then (0 : Int32) else (1 : Int32)))])) ?_ (fun tX kX => XS.iand X8.here hx rfl (hb hby at_84) rfl kX)
  refine OGo.go (B := T8.setTop (mkF m 93 #[.val (.long q0), .second, .val (.int v), .val (.ref b_1)] [(.int (if (v &&& (4 : Int32)) = (0 : Int32) then (0 : Int32) else (1 : Int32))), (.int (if (v &&& (4 : Int32)) = (0 : Int32) then (0 : Int32) else (1 : Int32)))])) ?_ (fun tX kX => ?_)
  rotate_left
  ·
    by_cases hd85 : (v &&& (4 : Int32)) = (0 : Int32)
    ·
      rw [if_pos hd85] at kX
      refine XS.ifYes X8.here hx rfl (pc0 := 85) (pc' := 92) rfl (hb hby at_85) rfl ((if0 _ _).trans (teq hd85).1) (by decide) (by decide) ?_
      show Steps p.tables e below (T8.setTop (mkF m 92 #[.val (.long q0), .second, .val (.int v), .val (.ref b_1)] [(.int (if (v &&& (4 : Int32)) = (0 : Int32) then (0 : Int32) else (1 : Int32)))])) _
      refine XS.iconst X8.here hx rfl (hb hby at_92) ?_
      show Steps p.tables e below (T8.setTop (mkF m 93 #[.val (.long q0), .second, .val (.int v), .val (.ref b_1)] [(.int (0 : Int32)), (.int (if (v &&& (4 : Int32)) = (0 : Int32) then (0 : Int32) else (1 : Int32)))])) _
      first | exact kX | (rw [if_pos hd85]; exact kX)
    ·
      rw [if_neg hd85] at kX
      refine XS.ifNo X8.here hx rfl (hb hby at_85) rfl ((if0 _ _).trans (feq hd85).1) ?_
      show Steps p.tables e below (T8.setTop (mkF m 88 #[.val (.long q0), .second, .val (.int v), .val (.ref b_1)] [(.int (if (v &&& (4 : Int32)) = (0 : Int32) then (0 : Int32) else (1 : Int32)))])) _
      refine XS.iconst X8.here hx rfl (hb hby at_88) ?_
      show Steps p.tables e below (T8.setTop (mkF m 89 #[.val (.long q0), .second, .val (.int v), .val (.ref b_1)] [(.int (1 : Int32)), (.int (if (v &&& (4 : Int32)) = (0 : Int32) then (0 : Int32) else (1 : Int32)))])) _
      refine XS.goto X8.here hx rfl (pc0 := 89) (pc' := 93) rfl (hb hby at_89) (by decide) (by decide) ?_
      show Steps p.tables e below (T8.setTop (mkF m 93 #[.val (.long q0), .second, .val (.int v), .val (.ref b_1)] [(.int (1 : Int32)), (.int (if (v &&& (4 : Int32)) = (0 : Int32) then (0 : Int32) else (1 : Int32)))])) _
      first | exact kX | (rw [if_neg hd85]; exact kX)
  refine OGo.go (B := T8.setTop (mkF m 98 #[.val (.long q0), .second, .val (.int v), .val (.ref b_1)] [])) ?_ (fun tX kX => XS.icmpYes X8.here hx rfl (pc0 := 93) (pc' := 98) rfl (hb hby at_93) rfl (teq rfl).1 (by decide) (by decide) kX)
  refine OGo.go (B := T8.setTop (mkF m 99 #[.val (.long q0), .second, .val (.int v), .val (.ref b_1)] [(.ref b_1)])) ?_ (fun tX kX => XS.aloadN X8.here hx rfl (hb hby at_98) rfl rfl kX)
  obtain ⟨T9, X9, e9, st9⟩ := getS2 X8 hx hZ hown (host := "") (Or.inl (hw _ (List.mem_of_getElem? (i := 43) rfl))) Via.refl e8 S_DELETE (g := (mkF m 99 #[.val (.long q0), .second, .val (.int v), .val (.ref b_1)] [(.ref b_1)])) rfl (hb hby at_99)
  refine OGo.go (B := T9.setTop (mkF m 102 #[.val (.long q0), .second, .val (.int v), .val (.ref b_1)] [(.ref u_DELETE), (.ref b_1)])) ?_ st9
  obtain ⟨cq10, kq10, q10a, q10b, q10c⟩ := isOf hZ e9 E_b_1
  obtain ⟨_, _, ⟨T10, L10, k10, n10⟩, -, X10, ⟨Lc10, hQ10, l10, y10, z10⟩, st10⟩ := X9.virtualBack hx (y := (⟨"com/example/wary_warden/warywarden/access/AccessControlOperations", "grants", "(Lcom/example/wary_warden/warywarden/access/Operation;)Z"⟩ : MethodName)) (z := (⟨"com/example/wary_warden/warywarden/access/AccessControlOperations", "grants", "(Lcom/example/wary_warden/warywarden/access/Operation;)Z"⟩ : MethodName)) hown (mvT hZ (hw _ (List.mem_of_getElem? (i := 27) rfl))) (mvT hZ (hw _ (List.mem_of_getElem? (i := 28) rfl))) (notFace_of_selects (args := #[]) (mvT hZ (hw _ (List.mem_of_getElem? (i := 30) rfl)))) (mvT hZ (hw _ (List.mem_of_getElem? (i := 30) rfl))) (mvT hZ (hw _ (List.mem_of_getElem? (i := 29) rfl))) (by decide) (backOf (W := 0) (rm5 l Z aV hw [] b_1 u_DELETE v (8 : Int32) T1.heap n0 zn1 F_acop_b_1 E_u_DELETE F_acopBit_u_DELETE) hZ (hw _ (List.mem_of_getElem? (i := 31) rfl)) (hw _ (List.mem_of_getElem? (i := 4) rfl)) (by decide) (by decide)) q10a q10c (g := (mkF m 102 #[.val (.long q0), .second, .val (.int v), .val (.ref b_1)] [(.ref u_DELETE), (.ref b_1)])) rfl (by rw [hml]; rfl) (Steps.refl _) (argsL := [(.ref u_DELETE)]) (rest := []) (lenOf pd__Lcom_example_wary_warden_warywarden_access_Operation__Z rfl) rfl (by show 2 * 0 + _ ≤ _; exact Nat.le_of_eq rfl) (hb hby at_102) (fun _ _ => ⟨rfl, e9, (by decide : 1 + 0 ≤ _), (by decide : 1 + 0 ≤ _)⟩)
  dsimp only [Pt.U, Pt.locs, Pt.cells, Pt.slots] at X10 l10 y10 z10 st10 hQ10
  subst l10 y10 z10
  obtain ⟨rfl, N10q, e10⟩ := hQ10
  have N10 := Fr.app N8 N10q
  refine OGo.go (B := T10.setTop (mkF m 105 #[.val (.long q0), .second, .val (.int v), .val (.ref b_1)] [(.int (if (v &&& (8 : Int32)) = (0 : Int32) then (0 : Int32) else (1 : Int32)))])) ?_ (fun tX kX => st10.trans kX)
  refine OGo.go (B := T10.setTop (mkF m 106 #[.val (.long q0), .second, .val (.int v), .val (.ref b_1)] [(.int v), (.int (if (v &&& (8 : Int32)) = (0 : Int32) then (0 : Int32) else (1 : Int32)))])) ?_ (fun tX kX => XS.iloadN X10.here hx rfl (hb hby at_105) rfl kX)
  refine OGo.go (B := T10.setTop (mkF m 108 #[.val (.long q0), .second, .val (.int v), .val (.ref b_1)] [(.int (8 : Int32)), (.int v), (.int (if (v &&& (8 : Int32)) = (0 : Int32) then (0 : Int32) else (1 : Int32)))])) ?_ (fun tX kX => XS.bipush X10.here hx rfl (hb hby at_106) kX)
  refine OGo.go (B := T10.setTop (mkF m 109 #[.val (.long q0), .second, .val (.int v), .val (.ref b_1)] [(.int (v &&& (8 : Int32))), (.int (if (v &&& (8 : Int32)) = (0 : Int32) then (0 : Int32) else (1 : Int32)))])) ?_ (fun tX kX => XS.iand X10.here hx rfl (hb hby at_108) rfl kX)
  refine OGo.go (B := T10.setTop (mkF m 117 #[.val (.long q0), .second, .val (.int v), .val (.ref b_1)] [(.int (if (v &&& (8 : Int32)) = (0 : Int32) then (0 : Int32) else (1 : Int32))), (.int (if (v &&& (8 : Int32)) = (0 : Int32) then (0 : Int32) else (1 : Int32)))])) ?_ (fun tX kX => ?_)
  rotate_left
  ·
    by_cases hd109 : (v &&& (8 : Int32)) = (0 : Int32)
    ·
      rw [if_pos hd109] at kX
      refine XS.ifYes X10.here hx rfl (pc0 := 109) (pc' := 116) rfl (hb hby at_109) rfl ((if0 _ _).trans (teq hd109).1) (by decide) (by decide) ?_
      show Steps p.tables e below (T10.setTop (mkF m 116 #[.val (.long q0), .second, .val (.int v), .val (.ref b_1)] [(.int (if (v &&& (8 : Int32)) = (0 : Int32) then (0 : Int32) else (1 : Int32)))])) _
      refine XS.iconst X10.here hx rfl (hb hby at_116) ?_
      show Steps p.tables e below (T10.setTop (mkF m 117 #[.val (.long q0), .second, .val (.int v), .val (.ref b_1)] [(.int (0 : Int32)), (.int (if (v &&& (8 : Int32)) = (0 : Int32) then (0 : Int32) else (1 : Int32)))])) _
      first | exact kX | (rw [if_pos hd109]; exact kX)
    ·
      rw [if_neg hd109] at kX
      refine XS.ifNo X10.here hx rfl (hb hby at_109) rfl ((if0 _ _).trans (feq hd109).1) ?_
      show Steps p.tables e below (T10.setTop (mkF m 112 #[.val (.long q0), .second, .val (.int v), .val (.ref b_1)] [(.int (if (v &&& (8 : Int32)) = (0 : Int32) then (0 : Int32) else (1 : Int32)))])) _
      refine XS.iconst X10.here hx rfl (hb hby at_112) ?_
      show Steps p.tables e below (T10.setTop (mkF m 113 #[.val (.long q0), .second, .val (.int v), .val (.ref b_1)] [(.int (1 : Int32)), (.int (if (v &&& (8 : Int32)) = (0 : Int32) then (0 : Int32) else (1 : Int32)))])) _
      refine XS.goto X10.here hx rfl (pc0 := 113) (pc' := 117) rfl (hb hby at_113) (by decide) (by decide) ?_
      show Steps p.tables e below (T10.setTop (mkF m 117 #[.val (.long q0), .second, .val (.int v), .val (.ref b_1)] [(.int (1 : Int32)), (.int (if (v &&& (8 : Int32)) = (0 : Int32) then (0 : Int32) else (1 : Int32)))])) _
      first | exact kX | (rw [if_neg hd109]; exact kX)
  refine OGo.go (B := T10.setTop (mkF m 122 #[.val (.long q0), .second, .val (.int v), .val (.ref b_1)] [])) ?_ (fun tX kX => XS.icmpYes X10.here hx rfl (pc0 := 117) (pc' := 122) rfl (hb hby at_117) rfl (teq rfl).1 (by decide) (by decide) kX)
  refine OGo.go (B := T10.setTop (mkF m 123 #[.val (.long q0), .second, .val (.int v), .val (.ref b_1)] [(.ref b_1)])) ?_ (fun tX kX => XS.aloadN X10.here hx rfl (hb hby at_122) rfl rfl kX)
  obtain ⟨T11, X11, e11, st11⟩ := getS2 X10 hx hZ hown (host := "") (Or.inl (hw _ (List.mem_of_getElem? (i := 45) rfl))) Via.refl e10 S_NOTIFY (g := (mkF m 123 #[.val (.long q0), .second, .val (.int v), .val (.ref b_1)] [(.ref b_1)])) rfl (hb hby at_123)
  refine OGo.go (B := T11.setTop (mkF m 126 #[.val (.long q0), .second, .val (.int v), .val (.ref b_1)] [(.ref u_NOTIFY), (.ref b_1)])) ?_ st11
  obtain ⟨cq12, kq12, q12a, q12b, q12c⟩ := isOf hZ e11 E_b_1
  obtain ⟨_, _, ⟨T12, L12, k12, n12⟩, -, X12, ⟨Lc12, hQ12, l12, y12, z12⟩, st12⟩ := X11.virtualBack hx (y := (⟨"com/example/wary_warden/warywarden/access/AccessControlOperations", "grants", "(Lcom/example/wary_warden/warywarden/access/Operation;)Z"⟩ : MethodName)) (z := (⟨"com/example/wary_warden/warywarden/access/AccessControlOperations", "grants", "(Lcom/example/wary_warden/warywarden/access/Operation;)Z"⟩ : MethodName)) hown (mvT hZ (hw _ (List.mem_of_getElem? (i := 27) rfl))) (mvT hZ (hw _ (List.mem_of_getElem? (i := 28) rfl))) (notFace_of_selects (args := #[]) (mvT hZ (hw _ (List.mem_of_getElem? (i := 30) rfl)))) (mvT hZ (hw _ (List.mem_of_getElem? (i := 30) rfl))) (mvT hZ (hw _ (List.mem_of_getElem? (i := 29) rfl))) (by decide) (backOf (W := 0) (rm5 l Z aV hw [] b_1 u_NOTIFY v (16 : Int32) T1.heap n0 zn1 F_acop_b_1 E_u_NOTIFY F_acopBit_u_NOTIFY) hZ (hw _ (List.mem_of_getElem? (i := 31) rfl)) (hw _ (List.mem_of_getElem? (i := 4) rfl)) (by decide) (by decide)) q12a q12c (g := (mkF m 126 #[.val (.long q0), .second, .val (.int v), .val (.ref b_1)] [(.ref u_NOTIFY), (.ref b_1)])) rfl (by rw [hml]; rfl) (Steps.refl _) (argsL := [(.ref u_NOTIFY)]) (rest := []) (lenOf pd__Lcom_example_wary_warden_warywarden_access_Operation__Z rfl) rfl (by show 2 * 0 + _ ≤ _; exact Nat.le_of_eq rfl) (hb hby at_126) (fun _ _ => ⟨rfl, e11, (by decide : 1 + 0 ≤ _), (by decide : 1 + 0 ≤ _)⟩)
  dsimp only [Pt.U, Pt.locs, Pt.cells, Pt.slots] at X12 l12 y12 z12 st12 hQ12
  subst l12 y12 z12
  obtain ⟨rfl, N12q, e12⟩ := hQ12
  have N12 := Fr.app N10 N12q
  refine OGo.go (B := T12.setTop (mkF m 129 #[.val (.long q0), .second, .val (.int v), .val (.ref b_1)] [(.int (if (v &&& (16 : Int32)) = (0 : Int32) then (0 : Int32) else (1 : Int32)))])) ?_ (fun tX kX => st12.trans kX)
  refine OGo.go (B := T12.setTop (mkF m 130 #[.val (.long q0), .second, .val (.int v), .val (.ref b_1)] [(.int v), (.int (if (v &&& (16 : Int32)) = (0 : Int32) then (0 : Int32) else (1 : Int32)))])) ?_ (fun tX kX => XS.iloadN X12.here hx rfl (hb hby at_129) rfl kX)
  refine OGo.go (B := T12.setTop (mkF m 132 #[.val (.long q0), .second, .val (.int v), .val (.ref b_1)] [(.int (16 : Int32)), (.int v), (.int (if (v &&& (16 : Int32)) = (0 : Int32) then (0 : Int32) else (1 : Int32)))])) ?_ (fun tX kX => XS.bipush X12.here hx rfl (hb hby at_130) kX)
  refine OGo.go (B := T12.setTop (mkF m 133 #[.val (.long q0), .second, .val (.int v), .val (.ref b_1)] [(.int (v &&& (16 : Int32))), (.int (if (v &&& (16 : Int32)) = (0 : Int32) then (0 : Int32) else (1 : Int32)))])) ?_ (fun tX kX => XS.iand X12.here hx rfl (hb hby at_132) rfl kX)
  refine OGo.go (B := T12.setTop (mkF m 141 #[.val (.long q0), .second, .val (.int v), .val (.ref b_1)] [(.int (if (v &&& (16 : Int32)) = (0 : Int32) then (0 : Int32) else (1 : Int32))), (.int (if (v &&& (16 : Int32)) = (0 : Int32) then (0 : Int32) else (1 : Int32)))])) ?_ (fun tX kX => ?_)
  rotate_left
  ·
    by_cases hd133 : (v &&& (16 : Int32)) = (0 : Int32)
    ·
      rw [if_pos hd133] at kX
      refine XS.ifYes X12.here hx rfl (pc0 := 133) (pc' := 140) rfl (hb hby at_133) rfl ((if0 _ _).trans (teq hd133).1) (by decide) (by decide) ?_
      show Steps p.tables e below (T12.setTop (mkF m 140 #[.val (.long q0), .second, .val (.int v), .val (.ref b_1)] [(.int (if (v &&& (16 : Int32)) = (0 : Int32) then (0 : Int32) else (1 : Int32)))])) _
      refine XS.iconst X12.here hx rfl (hb hby at_140) ?_
      show Steps p.tables e below (T12.setTop (mkF m 141 #[.val (.long q0), .second, .val (.int v), .val (.ref b_1)] [(.int (0 : Int32)), (.int (if (v &&& (16 : Int32)) = (0 : Int32) then (0 : Int32) else (1 : Int32)))])) _
      first | exact kX | (rw [if_pos hd133]; exact kX)
    ·
      rw [if_neg hd133] at kX
      refine XS.ifNo X12.here hx rfl (hb hby at_133) rfl ((if0 _ _).trans (feq hd133).1) ?_
      show Steps p.tables e below (T12.setTop (mkF m 136 #[.val (.long q0), .second, .val (.int v), .val (.ref b_1)] [(.int (if (v &&& (16 : Int32)) = (0 : Int32) then (0 : Int32) else (1 : Int32)))])) _
      refine XS.iconst X12.here hx rfl (hb hby at_136) ?_
      show Steps p.tables e below (T12.setTop (mkF m 137 #[.val (.long q0), .second, .val (.int v), .val (.ref b_1)] [(.int (1 : Int32)), (.int (if (v &&& (16 : Int32)) = (0 : Int32) then (0 : Int32) else (1 : Int32)))])) _
      refine XS.goto X12.here hx rfl (pc0 := 137) (pc' := 141) rfl (hb hby at_137) (by decide) (by decide) ?_
      show Steps p.tables e below (T12.setTop (mkF m 141 #[.val (.long q0), .second, .val (.int v), .val (.ref b_1)] [(.int (1 : Int32)), (.int (if (v &&& (16 : Int32)) = (0 : Int32) then (0 : Int32) else (1 : Int32)))])) _
      first | exact kX | (rw [if_neg hd133]; exact kX)
  refine OGo.go (B := T12.setTop (mkF m 146 #[.val (.long q0), .second, .val (.int v), .val (.ref b_1)] [])) ?_ (fun tX kX => XS.icmpYes X12.here hx rfl (pc0 := 141) (pc' := 146) rfl (hb hby at_141) rfl (teq rfl).1 (by decide) (by decide) kX)
  refine OGo.go (B := T12.setTop (mkF m 147 #[.val (.long q0), .second, .val (.int v), .val (.ref b_1)] [(.ref b_1)])) ?_ (fun tX kX => XS.aloadN X12.here hx rfl (hb hby at_146) rfl rfl kX)
  obtain ⟨T13, X13, e13, st13⟩ := getS2 X12 hx hZ hown (host := "") (Or.inl (hw _ (List.mem_of_getElem? (i := 47) rfl))) Via.refl e12 S_DISCOVER (g := (mkF m 147 #[.val (.long q0), .second, .val (.int v), .val (.ref b_1)] [(.ref b_1)])) rfl (hb hby at_147)
  refine OGo.go (B := T13.setTop (mkF m 150 #[.val (.long q0), .second, .val (.int v), .val (.ref b_1)] [(.ref u_DISCOVER), (.ref b_1)])) ?_ st13
  obtain ⟨cq14, kq14, q14a, q14b, q14c⟩ := isOf hZ e13 E_b_1
  obtain ⟨_, _, ⟨T14, L14, k14, n14⟩, -, X14, ⟨Lc14, hQ14, l14, y14, z14⟩, st14⟩ := X13.virtualBack hx (y := (⟨"com/example/wary_warden/warywarden/access/AccessControlOperations", "grants", "(Lcom/example/wary_warden/warywarden/access/Operation;)Z"⟩ : MethodName)) (z := (⟨"com/example/wary_warden/warywarden/access/AccessControlOperations", "grants", "(Lcom/example/wary_warden/warywarden/access/Operation;)Z"⟩ : MethodName)) hown (mvT hZ (hw _ (List.mem_of_getElem? (i := 27) rfl))) (mvT hZ (hw _ (List.mem_of_getElem? (i := 28) rfl))) (notFace_of_selects (args := #[]) (mvT hZ (hw _ (List.mem_of_getElem? (i := 30) rfl)))) (mvT hZ (hw _ (List.mem_of_getElem? (i := 30) rfl))) (mvT hZ (hw _ (List.mem_of_getElem? (i := 29) rfl))) (by decide) (backOf (W := 0) (rm5 l Z aV hw [] b_1 u_DISCOVER v (32 : Int32) T1.heap n0 zn1 F_acop_b_1 E_u_DISCOVER F_acopBit_u_DISCOVER) hZ (hw _ (List.mem_of_getElem? (i := 31) rfl)) (hw _ (List.mem_of_getElem? (i := 4) rfl)) (by decide) (by decide)) q14a q14c (g := (mkF m 150 #[.val (.long q0), .second, .val (.int v), .val (.ref b_1)] [(.ref u_DISCOVER), (.ref b_1)])) rfl (by rw [hml]; rfl) (Steps.refl _) (argsL := [(.ref u_DISCOVER)]) (rest := []) (lenOf pd__Lcom_example_wary_warden_warywarden_access_Operation__Z rfl) rfl (by show 2 * 0 + _ ≤ _; exact Nat.le_of_eq rfl) (hb hby at_150) (fun _ _ => ⟨rfl, e13, (by decide : 1 + 0 ≤ _), (by decide : 1 + 0 ≤ _)⟩)
  dsimp only [Pt.U, Pt.locs, Pt.cells, Pt.slots] at X14 l14 y14 z14 st14 hQ14
  subst l14 y14 z14
  obtain ⟨rfl, N14q, e14⟩ := hQ14
  have N14 := Fr.app N12 N14q
  refine OGo.go (B := T14.setTop (mkF m 153 #[.val (.long q0), .second, .val (.int v), .val (.ref b_1)] [(.int (if (v &&& (32 : Int32)) = (0 : Int32) then (0 : Int32) else (1 : Int32)))])) ?_ (fun tX kX => st14.trans kX)
  refine OGo.go (B := T14.setTop (mkF m 154 #[.val (.long q0), .second, .val (.int v), .val (.ref b_1)] [(.int v), (.int (if (v &&& (32 : Int32)) = (0 : Int32) then (0 : Int32) else (1 : Int32)))])) ?_ (fun tX kX => XS.iloadN X14.here hx rfl (hb hby at_153) rfl kX)
  refine OGo.go (B := T14.setTop (mkF m 156 #[.val (.long q0), .second, .val (.int v), .val (.ref b_1)] [(.int (32 : Int32)), (.int v), (.int (if (v &&& (32 : Int32)) = (0 : Int32) then (0 : Int32) else (1 : Int32)))])) ?_ (fun tX kX => XS.bipush X14.here hx rfl (hb hby at_154) kX)
  refine OGo.go (B := T14.setTop (mkF m 157 #[.val (.long q0), .second, .val (.int v), .val (.ref b_1)] [(.int (v &&& (32 : Int32))), (.int (if (v &&& (32 : Int32)) = (0 : Int32) then (0 : Int32) else (1 : Int32)))])) ?_ (fun tX kX => XS.iand X14.here hx rfl (hb hby at_156) rfl kX)
  refine OGo.go (B := T14.setTop (mkF m 165 #[.val (.long q0), .second, .val (.int v), .val (.ref b_1)] [(.int (if (v &&& (32 : Int32)) = (0 : Int32) then (0 : Int32) else (1 : Int32))), (.int (if (v &&& (32 : Int32)) = (0 : Int32) then (0 : Int32) else (1 : Int32)))])) ?_ (fun tX kX => ?_)
  rotate_left
  ·
    by_cases hd157 : (v &&& (32 : Int32)) = (0 : Int32)
    ·
      rw [if_pos hd157] at kX
      refine XS.ifYes X14.here hx rfl (pc0 := 157) (pc' := 164) rfl (hb hby at_157) rfl ((if0 _ _).trans (teq hd157).1) (by decide) (by decide) ?_
      show Steps p.tables e below (T14.setTop (mkF m 164 #[.val (.long q0), .second, .val (.int v), .val (.ref b_1)] [(.int (if (v &&& (32 : Int32)) = (0 : Int32) then (0 : Int32) else (1 : Int32)))])) _
      refine XS.iconst X14.here hx rfl (hb hby at_164) ?_
      show Steps p.tables e below (T14.setTop (mkF m 165 #[.val (.long q0), .second, .val (.int v), .val (.ref b_1)] [(.int (0 : Int32)), (.int (if (v &&& (32 : Int32)) = (0 : Int32) then (0 : Int32) else (1 : Int32)))])) _
      first | exact kX | (rw [if_pos hd157]; exact kX)
    ·
      rw [if_neg hd157] at kX
      refine XS.ifNo X14.here hx rfl (hb hby at_157) rfl ((if0 _ _).trans (feq hd157).1) ?_
      show Steps p.tables e below (T14.setTop (mkF m 160 #[.val (.long q0), .second, .val (.int v), .val (.ref b_1)] [(.int (if (v &&& (32 : Int32)) = (0 : Int32) then (0 : Int32) else (1 : Int32)))])) _
      refine XS.iconst X14.here hx rfl (hb hby at_160) ?_
      show Steps p.tables e below (T14.setTop (mkF m 161 #[.val (.long q0), .second, .val (.int v), .val (.ref b_1)] [(.int (1 : Int32)), (.int (if (v &&& (32 : Int32)) = (0 : Int32) then (0 : Int32) else (1 : Int32)))])) _
      refine XS.goto X14.here hx rfl (pc0 := 161) (pc' := 165) rfl (hb hby at_161) (by decide) (by decide) ?_
      show Steps p.tables e below (T14.setTop (mkF m 165 #[.val (.long q0), .second, .val (.int v), .val (.ref b_1)] [(.int (1 : Int32)), (.int (if (v &&& (32 : Int32)) = (0 : Int32) then (0 : Int32) else (1 : Int32)))])) _
      first | exact kX | (rw [if_neg hd157]; exact kX)
  refine OGo.go (B := T14.setTop (mkF m 170 #[.val (.long q0), .second, .val (.int v), .val (.ref b_1)] [])) ?_ (fun tX kX => XS.icmpYes X14.here hx rfl (pc0 := 165) (pc' := 170) rfl (hb hby at_165) rfl (teq rfl).1 (by decide) (by decide) kX)
  refine OGo.go (B := T14.setTop (mkF m 171 #[.val (.long q0), .second, .val (.int v), .val (.ref b_1)] [(.int (1 : Int32))])) ?_ (fun tX kX => XS.iconst X14.here hx rfl (hb hby at_170) kX)
  refine OGo.ret X14 (v := (some (.int (1 : Int32)))) (fun h => by rw [Bd.returns] at h; cases h) (BodyLoose.notSynchronized Bd) (fun fs hr => retN X14 hx (t := .boolean) (z := (1 : Int32)) Bd.returns (by simp) (hb hby at_171) hr) (Q := Q0 Z q0 u_CREATE u_RETRIEVE u_UPDATE u_DELETE u_NOTIFY u_DISCOVER h0 n0) ?_ (by decide) (by decide)
  show Q0 Z q0 u_CREATE u_RETRIEVE u_UPDATE u_DELETE u_NOTIFY u_DISCOVER h0 n0 _ T14.heap _
  rw [e14]
  exact ⟨rfl, N14⟩
set_option maxRecDepth 65536 in
set_option maxHeartbeats 40000000 in
theorem comes_1 {Post : Tables → Env → Array Value → State → Outcome → State → Prop} (hpost : ∀ tb e args s v u, (limb_1_1.after args s (.returned v) u = true ∧ limb_1_2.after args s (.returned v) u = true ∧ True) → FrameEnd s (.returned v) u (Jvm.fieldLocs frame_1_writes args s ++ Jvm.arrayLocs frame_1_arrays args s ++ Jvm.staticLocs frame_1_statics s) 16 128 → Post tb e args s (.returned v) u) :
    ArmFor flags0 classFile x code maxLocals ret World_1 tables_1 room_1 Calls_1 rest_1 Pre_1 Post := by
  intro l hfl _ _ p e ha hc hk s m args below hf hA hF happ hP
  obtain ⟨hcalls, hrest, hpre⟩ := hP
  obtain ⟨-, -, -, hnamed, -, -, -, hat⟩ := (Spec.applies_iff hf).mp happ
  obtain ⟨hg, hn⟩ := and_e (Cond.before_iff.mp (show (Jvm.Cond.and given_1 narrow_1).before args s = true from hpre))
  obtain ⟨gc0, gr0⟩ := and_e hg
  obtain ⟨w0, rfl⟩ : ∃ w0 : Value, args = #[w0] := by
    have hs : args.size = 1 := by simpa [Cond.value, given_1] using gc0
    obtain ⟨L⟩ := args
    match L, hs with
    | [w0], _ => exact ⟨w0, rfl⟩
  have hw := fun d (hd : d ∈ tables_1) => atoms_spec (ws := Jvm.Cond.code x code maxLocals ret :: tables_1) hat d (List.mem_cons_of_mem _ hd)
  have hfit : Fit s := fun {y c} hc i hi => by
    obtain ⟨ha, rfl⟩ := Array.getElem?_eq_some_iff.mp hc
    have q := List.all_eq_true.mp ((Array.all_eq_true_iff_forall_mem.mp hF) _ (Array.getElem_mem ha)) i (List.mem_range.mpr hi)
    simpa [Array.getElem?_eq_getElem hi] using q
  obtain ⟨i0, ei0⟩ := isL_v gr0
  obtain rfl : w0 = (.long i0) := Option.some.inj ei0
  obtain ⟨nc0, nr0⟩ := and_e hn
  obtain ⟨nc1, nr1⟩ := and_e nr0
  obtain ⟨nc2, nr2⟩ := and_e nr1
  obtain ⟨nc3, nr3⟩ := and_e nr2
  obtain ⟨nc4, nr4⟩ := and_e nr3
  obtain ⟨nc5, nr5⟩ := and_e nr4
  obtain ⟨nc6, nr6⟩ := and_e nr5
  obtain ⟨nc7, nr7⟩ := and_e nr6
  obtain ⟨nc8, nr8⟩ := and_e nr7
  obtain ⟨nc9, nr9⟩ := and_e nr8
  obtain ⟨nc10, nr10⟩ := and_e nr9
  obtain ⟨nc11, nr11⟩ := and_e nr10
  have nc12 := nr11
  have ev_DEFINED_BITS := valL nc0
  have S_DEFINED_BITS := Sta.start ev_DEFINED_BITS (Or.inr ⟨(hw _ (List.mem_of_getElem? (i := 4) rfl)), (hw _ (List.mem_of_getElem? (i := 7) rfl))⟩)
  obtain ⟨u_CREATE, ev_CREATE⟩ := exa_v nc1
  have S_CREATE := Sta.start ev_CREATE (Or.inr ⟨(hw _ (List.mem_of_getElem? (i := 25) rfl)), (hw _ (List.mem_of_getElem? (i := 26) rfl))⟩)
  have E_u_CREATE := Exa.start ev_CREATE nc1
  have F_acopBit_u_CREATE := fldI ev_CREATE nc2
  obtain ⟨u_RETRIEVE, ev_RETRIEVE⟩ := exa_v nc3
  have S_RETRIEVE := Sta.start ev_RETRIEVE (Or.inr ⟨(hw _ (List.mem_of_getElem? (i := 25) rfl)), (hw _ (List.mem_of_getElem? (i := 40) rfl))⟩)
  have E_u_RETRIEVE := Exa.start ev_RETRIEVE nc3
  have F_acopBit_u_RETRIEVE := fldI ev_RETRIEVE nc4
  obtain ⟨u_UPDATE, ev_UPDATE⟩ := exa_v nc5
  have S_UPDATE := Sta.start ev_UPDATE (Or.inr ⟨(hw _ (List.mem_of_getElem? (i := 25) rfl)), (hw _ (List.mem_of_getElem? (i := 42) rfl))⟩)
  have E_u_UPDATE := Exa.start ev_UPDATE nc5
  have F_acopBit_u_UPDATE := fldI ev_UPDATE nc6
  obtain ⟨u_DELETE, ev_DELETE⟩ := exa_v nc7
  have S_DELETE := Sta.start ev_DELETE (Or.inr ⟨(hw _ (List.mem_of_getElem? (i := 25) rfl)), (hw _ (List.mem_of_getElem? (i := 44) rfl))⟩)
  have E_u_DELETE := Exa.start ev_DELETE nc7
  have F_acopBit_u_DELETE := fldI ev_DELETE nc8
  obtain ⟨u_NOTIFY, ev_NOTIFY⟩ := exa_v nc9
  have S_NOTIFY := Sta.start ev_NOTIFY (Or.inr ⟨(hw _ (List.mem_of_getElem? (i := 25) rfl)), (hw _ (List.mem_of_getElem? (i := 46) rfl))⟩)
  have E_u_NOTIFY := Exa.start ev_NOTIFY nc9
  have F_acopBit_u_NOTIFY := fldI ev_NOTIFY nc10
  obtain ⟨u_DISCOVER, ev_DISCOVER⟩ := exa_v nc11
  have S_DISCOVER := Sta.start ev_DISCOVER (Or.inr ⟨(hw _ (List.mem_of_getElem? (i := 25) rfl)), (hw _ (List.mem_of_getElem? (i := 48) rfl))⟩)
  have E_u_DISCOVER := Exa.start ev_DISCOVER nc11
  have F_acopBit_u_DISCOVER := fldI ev_DISCOVER nc12
  obtain ⟨n, o, h1, h2, h3, _, L, rfl, ⟨rfl, N⟩, hq⟩ := rm0 l s _ hw tables_1 i0 u_CREATE u_RETRIEVE u_UPDATE u_DELETE u_NOTIFY u_DISCOVER s.heap s.heap.size (Nat.le_refl _) S_DEFINED_BITS S_CREATE E_u_CREATE F_acopBit_u_CREATE S_RETRIEVE E_u_RETRIEVE F_acopBit_u_RETRIEVE S_UPDATE E_u_UPDATE F_acopBit_u_UPDATE S_DELETE E_u_DELETE F_acopBit_u_DELETE S_NOTIFY E_u_NOTIFY F_acopBit_u_NOTIFY S_DISCOVER E_u_DISCOVER F_acopBit_u_DISCOVER p e ha hc hk s m _ below hf ((Spec.applies_iff_loose hf).mp happ).1 ⟨rfl, State.Warmed39.refl s, rfl⟩ trivial
  refine ⟨n, _, h1, h2, h3, hpost _ _ _ _ _ _ ⟨Cond.after_iff.mpr rfl, Cond.after_iff.mpr (eq_i res_at (Term.int_eval (1)) rfl), trivial⟩ ⟨hq.1, hq.2.1, (hq.2.2.sift fun y hy => Or.inr (N y hy)).mono (by decide) (by decide)⟩⟩
theorem main_1_1 : Claimed_1_1 := comes_1 fun _ _ _ _ _ _ h hF => ⟨h.1, hF⟩
theorem main_1_2 : Claimed_1_2 := comes_1 fun _ _ _ _ _ _ h hF => ⟨h.2.1, hF⟩
end Jvm.Pilot.@@N@@
namespace Jvm.Pilot.@@N@@
open Jvm Jvm.ClassFile Sem Op Lib Jvm.Free Jvm.Stand Jvm.Pilot.@@N@@.Jvm.D
/-! MADE BY PROGRAM (witnessworld.py) out of the Statement's table words and the real class files: 13 classes; the members and pool entries that the words name. The judged class is class 1, her method 1. -/
namespace start1
open Jvm.ClassFile
def u (s : String) : CpInfo := .utf8 (stringToUtf16 s)
/-- a pool by its gaps: so many unusable entries, then the entry; so many at the end -/
def gap : Nat → List CpInfo → List CpInfo
  | 0, r => r
  | n + 1, r => .unusable :: gap n r
def poolList (es : List (Nat × CpInfo)) (last : Nat) : List CpInfo := es.foldr (fun e r => gap e.1 (e.2 :: r)) (gap last [])
def pool (es : List (Nat × CpInfo)) (last : Nat) : Array CpInfo := ⟨poolList es last⟩
def fileOf (pool : Array CpInfo) (this : Nat) (attrs : Array Attribute := #[]) (ms : Array MethodInfo := #[]) (fl : Nat := 33) (sup : Nat := 0) (ifs : Array Nat := #[]) (fds : Array FieldInfo := #[]) : ClassFile where
  minorVersion := 0
  majorVersion := 65
  constantPool := pool
  accessFlags := fl
  thisClass := this
  superClass := sup
  interfaces := ifs
  fields := fds
  methods := ms
  attributes := attrs
def plain (name : String) (sup : Option ClassId) : Class where
  name := name
  kind := .ordinary
  loader := none
  accessFlags := 33
  super := sup
  interfaces := #[]
  cf := none
  fields := #[]
  methods := #[]
  instanceTypes := #[]
  staticTypes := #[]
  resolved := #[]
  callSites := []
  init := .initialized
  statics := none
  mirror := none

def pool0 : Array CpInfo := pool [(5, u "<init>"), (0, u "()V"), (1, .class_ 10), (1, u "java/lang/Object")] 113

def k0c0 : Code := { maxStack := 0, maxLocals := 1, code := object_method_1_code, exceptionTable := #[], attributes := #[] }
def k0m0 : Method := { name := "<init>", desc := "()V", sig := { parameters := [], returnType := none }, accessFlags := 1, code := some k0c0 }
/-- java/lang/Object -/
def k0 : Class := { plain "java/lang/Object" none with
  accessFlags := 33
  interfaces := #[]
  cf := some (fileOf pool0 8 #[] #[{ accessFlags := 1, nameIndex := 5, descriptorIndex := 6, attributes := #[] }] 33 0 #[] #[])
  fields := #[]
  methods := #[k0m0]
  instanceTypes := #[]
  staticTypes := #[]
  resolved := Array.replicate 124 none
  statics := none }

def pool1 : Array CpInfo := pool [(2, .class_ 4), (1, u "java/lang/Object"), (0, u "<init>"), (0, u "()V"), (0, .long 9223372036854775807), (1, .long 63), (1, .methodref 12 13), (0, .class_ 14), (0, .nameAndType 15 16), (0, u "com/example/wary_warden/warywarden/access/AccessControlOperations"), (0, u "fromAcop"), (0, u "(J)Lcom/example/wary_warden/warywarden/access/AccessControlOperations;"), (0, .methodref 12 18), (0, .nameAndType 19 20), (0, u "acop"), (0, u "()I"), (0, .fieldref 22 23), (0, .class_ 24), (0, .nameAndType 25 26), (0, u "com/example/wary_warden/warywarden/access/Operation"), (0, u "CREATE"), (0, u "Lcom/example/wary_warden/warywarden/access/Operation;"), (0, .methodref 12 28), (0, .nameAndType 29 30), (0, u "grants"), (0, u "(Lcom/example/wary_warden/warywarden/access/Operation;)Z"), (0, .fieldref 22 32), (0, .nameAndType 33 26), (0, u "RETRIEVE"), (0, .fieldref 22 35), (0, .nameAndType 36 26), (0, u "UPDATE"), (0, .fieldref 22 38), (0, .nameAndType 39 26), (0, u "DELETE"), (0, .fieldref 22 41), (0, .nameAndType 42 26), (0, u "NOTIFY"), (0, .fieldref 22 44), (0, .nameAndType 45 26), (0, u "DISCOVER"), (0, .class_ 47), (0, u "com/example/wary_warden/warywarden/access/AccessControlOperationsFromAcopPinLaw"), (2, u "law"), (0, u "(J)Z")] 3

def k1m0 : Method := { name := "<init>", desc := "()V", sig := { parameters := [], returnType := none }, accessFlags := 1, code := none }
def k1c1 : Code := { maxStack := 4, maxLocals := 4, code := code, exceptionTable := #[], attributes := #[] }
def k1m1 : Method := { name := "law", desc := "(J)Z", sig := { parameters := [.long], returnType := some .boolean }, accessFlags := 9, code := some k1c1 }
/-- com/example/wary_warden/warywarden/access/AccessControlOperationsFromAcopPinLaw -/
def k1 : Class := { plain "com/example/wary_warden/warywarden/access/AccessControlOperationsFromAcopPinLaw" (some 0) with
  accessFlags := 49
  interfaces := #[]
  cf := some (fileOf pool1 46 #[] #[{ accessFlags := 1, nameIndex := 5, descriptorIndex := 6, attributes := #[] }, { accessFlags := 9, nameIndex := 50, descriptorIndex := 51, attributes := #[] }] 49 2 #[] #[])
  fields := #[]
  methods := #[k1m0, k1m1]
  instanceTypes := #[]
  staticTypes := #[]
  resolved := Array.replicate 55 none
  statics := none }

def pool2 : Array CpInfo := pool [(1, .methodref 2 3), (0, .class_ 4), (0, .nameAndType 5 6), (0, u "java/lang/Object"), (0, u "<init>"), (0, u "()V"), (0, .fieldref 8 9), (0, .class_ 10), (0, .nameAndType 11 12), (0, u "com/example/wary_warden/warywarden/access/AccessControlOperations"), (0, u "acop"), (0, u "I"), (0, .fieldref 8 14), (0, .nameAndType 15 16), (0, u "DEFINED_BITS"), (0, u "J"), (0, .long 18446744073709551615), (10, .methodref 8 29), (0, .nameAndType 5 30), (0, u "(I)V"), (0, .methodref 32 33), (0, .class_ 34), (0, .nameAndType 35 36), (0, u "com/example/wary_warden/warywarden/access/Operation"), (0, u "acopBit"), (0, u "()I"), (10, u "fromAcop"), (0, u "(J)Lcom/example/wary_warden/warywarden/access/AccessControlOperations;"), (1, u "grants"), (0, u "(Lcom/example/wary_warden/warywarden/access/Operation;)Z")] 20

def k2c0 : Code := { maxStack := 2, maxLocals := 2, code := prog_1_method_1_code, exceptionTable := #[], attributes := #[] }
def k2m0 : Method := { name := "<init>", desc := "(I)V", sig := { parameters := [.int], returnType := none }, accessFlags := 2, code := some k2c0 }
def k2c1 : Code := { maxStack := 6, maxLocals := 2, code := prog_1_method_2_code, exceptionTable := #[], attributes := #[] }
def k2m1 : Method := { name := "fromAcop", desc := "(J)Lcom/example/wary_warden/warywarden/access/AccessControlOperations;", sig := { parameters := [.long], returnType := some (.object "com/example/wary_warden/warywarden/access/AccessControlOperations") }, accessFlags := 9, code := some k2c1 }
def k2c2 : Code := { maxStack := 2, maxLocals := 2, code := prog_1_method_3_code, exceptionTable := #[], attributes := #[] }
def k2m2 : Method := { name := "grants", desc := "(Lcom/example/wary_warden/warywarden/access/Operation;)Z", sig := { parameters := [(.object "com/example/wary_warden/warywarden/access/Operation")], returnType := some .boolean }, accessFlags := 1, code := some k2c2 }
def k2c3 : Code := { maxStack := 1, maxLocals := 1, code := prog_1_method_4_code, exceptionTable := #[], attributes := #[] }
def k2m3 : Method := { name := "acop", desc := "()I", sig := { parameters := [], returnType := some .int }, accessFlags := 1, code := some k2c3 }
/-- com/example/wary_warden/warywarden/access/AccessControlOperations -/
def k2 : Class := { plain "com/example/wary_warden/warywarden/access/AccessControlOperations" (some 0) with
  accessFlags := 33
  interfaces := #[]
  cf := some (fileOf pool2 8 #[] #[{ accessFlags := 2, nameIndex := 5, descriptorIndex := 30, attributes := #[] }, { accessFlags := 9, nameIndex := 47, descriptorIndex := 48, attributes := #[] }, { accessFlags := 1, nameIndex := 50, descriptorIndex := 51, attributes := #[] }, { accessFlags := 1, nameIndex := 11, descriptorIndex := 36, attributes := #[] }] 33 2 #[] #[{ accessFlags := 26, nameIndex := 15, descriptorIndex := 16, attributes := #[] }, { accessFlags := 18, nameIndex := 11, descriptorIndex := 12, attributes := #[] }])
  fields := #[{ name := "DEFINED_BITS", type := .long, accessFlags := 26, slot := 0, constantValue := 0 }, { name := "acop", type := .int, accessFlags := 18, slot := 0, constantValue := 0 }]
  methods := #[k2m0, k2m1, k2m2, k2m3]
  instanceTypes := #[.int]
  staticTypes := #[.long]
  resolved := Array.replicate 72 none
  statics := some 0 }

def pool3 : Array CpInfo := pool [(1, .class_ 2), (0, u "java/lang/constant/Constable"), (0, .class_ 4), (0, u "java/lang/Object")] 6

/-- java/lang/constant/Constable -/
def k3 : Class := { plain "java/lang/constant/Constable" (some 0) with
  accessFlags := 1537
  interfaces := #[]
  cf := some (fileOf pool3 1 #[] #[] 1537 3 #[] #[])
  fields := #[]
  methods := #[]
  instanceTypes := #[]
  staticTypes := #[]
  resolved := Array.replicate 11 none
  statics := none }

def pool4 : Array CpInfo := pool [(1, .class_ 2), (0, u "java/lang/Comparable"), (0, .class_ 4), (0, u "java/lang/Object")] 7

/-- java/lang/Comparable -/
def k4 : Class := { plain "java/lang/Comparable" (some 0) with
  accessFlags := 1537
  interfaces := #[]
  cf := some (fileOf pool4 1 #[] #[] 1537 3 #[] #[])
  fields := #[]
  methods := #[]
  instanceTypes := #[]
  staticTypes := #[]
  resolved := Array.replicate 12 none
  statics := none }

def pool5 : Array CpInfo := pool [(1, .class_ 2), (0, u "java/io/Serializable"), (0, .class_ 4), (0, u "java/lang/Object")] 2

/-- java/io/Serializable -/
def k5 : Class := { plain "java/io/Serializable" (some 0) with
  accessFlags := 1537
  interfaces := #[]
  cf := some (fileOf pool5 1 #[] #[] 1537 3 #[] #[])
  fields := #[]
  methods := #[]
  instanceTypes := #[]
  staticTypes := #[]
  resolved := Array.replicate 7 none
  statics := none }

def pool6 : Array CpInfo := pool [(2, .class_ 4), (1, u "java/lang/Enum"), (0, u "name"), (0, u "Ljava/lang/String;"), (2, u "ordinal"), (0, u "I"), (1, .class_ 14), (1, u "java/lang/Object"), (4, u "hash"), (86, .class_ 108), (1, u "java/lang/Enum$EnumDesc"), (2, .class_ 112), (0, u "java/lang/constant/Constable"), (0, .class_ 114), (0, u "java/lang/Comparable"), (0, .class_ 116), (0, u "java/io/Serializable")] 87

/-- java/lang/Enum -/
def k6 : Class := { plain "java/lang/Enum" (some 0) with
  accessFlags := 1057
  interfaces := #[3, 4, 5]
  cf := some (fileOf pool6 2 #[.nestMembers #[106]] #[] 1057 12 #[111, 113, 115] #[{ accessFlags := 18, nameIndex := 5, descriptorIndex := 6, attributes := #[] }, { accessFlags := 18, nameIndex := 9, descriptorIndex := 10, attributes := #[] }, { accessFlags := 2, nameIndex := 19, descriptorIndex := 10, attributes := #[] }])
  fields := #[{ name := "name", type := (.object "java/lang/String"), accessFlags := 18, slot := 0, constantValue := 0 }, { name := "ordinal", type := .int, accessFlags := 18, slot := 1, constantValue := 0 }, { name := "hash", type := .int, accessFlags := 2, slot := 2, constantValue := 0 }]
  methods := #[]
  instanceTypes := #[(.object "java/lang/String"), .int, .int]
  staticTypes := #[]
  resolved := Array.replicate 204 none
  statics := none }

def pool7 : Array CpInfo := pool [(1, .class_ 2), (0, u "com/example/wary_warden/warywarden/access/Operation"), (2, u "CREATE"), (0, u "Lcom/example/wary_warden/warywarden/access/Operation;"), (2, u "RETRIEVE"), (2, u "UPDATE"), (2, u "DELETE"), (2, u "NOTIFY"), (2, u "DISCOVER"), (2, u "$VALUES"), (0, u "[Lcom/example/wary_warden/warywarden/access/Operation;"), (6, .class_ 34), (1, u "java/lang/Enum"), (6, .fieldref 1 42), (0, .nameAndType 43 44), (0, u "acopBit"), (0, u "I"), (20, u "()I")] 5

def k7c0 : Code := { maxStack := 1, maxLocals := 1, code := prog_4_method_4_code, exceptionTable := #[], attributes := #[] }
def k7m0 : Method := { name := "acopBit", desc := "()I", sig := { parameters := [], returnType := some .int }, accessFlags := 1, code := some k7c0 }
/-- com/example/wary_warden/warywarden/access/Operation -/
def k7 : Class := { plain "com/example/wary_warden/warywarden/access/Operation" (some 6) with
  accessFlags := 16433
  interfaces := #[]
  cf := some (fileOf pool7 1 #[] #[{ accessFlags := 1, nameIndex := 43, descriptorIndex := 65, attributes := #[] }] 16433 32 #[] #[{ accessFlags := 16409, nameIndex := 5, descriptorIndex := 6, attributes := #[] }, { accessFlags := 16409, nameIndex := 9, descriptorIndex := 6, attributes := #[] }, { accessFlags := 16409, nameIndex := 12, descriptorIndex := 6, attributes := #[] }, { accessFlags := 16409, nameIndex := 15, descriptorIndex := 6, attributes := #[] }, { accessFlags := 16409, nameIndex := 18, descriptorIndex := 6, attributes := #[] }, { accessFlags := 16409, nameIndex := 21, descriptorIndex := 6, attributes := #[] }, { accessFlags := 18, nameIndex := 43, descriptorIndex := 44, attributes := #[] }, { accessFlags := 4122, nameIndex := 24, descriptorIndex := 25, attributes := #[] }])
  fields := #[{ name := "CREATE", type := (.object "com/example/wary_warden/warywarden/access/Operation"), accessFlags := 16409, slot := 0, constantValue := 0 }, { name := "RETRIEVE", type := (.object "com/example/wary_warden/warywarden/access/Operation"), accessFlags := 16409, slot := 1, constantValue := 0 }, { name := "UPDATE", type := (.object "com/example/wary_warden/warywarden/access/Operation"), accessFlags := 16409, slot := 2, constantValue := 0 }, { name := "DELETE", type := (.object "com/example/wary_warden/warywarden/access/Operation"), accessFlags := 16409, slot := 3, constantValue := 0 }, { name := "NOTIFY", type := (.object "com/example/wary_warden/warywarden/access/Operation"), accessFlags := 16409, slot := 4, constantValue := 0 }, { name := "DISCOVER", type := (.object "com/example/wary_warden/warywarden/access/Operation"), accessFlags := 16409, slot := 5, constantValue := 0 }, { name := "acopBit", type := .int, accessFlags := 18, slot := 3, constantValue := 0 }, { name := "$VALUES", type := (.array (.object "com/example/wary_warden/warywarden/access/Operation")), accessFlags := 4122, slot := 6, constantValue := 0 }]
  methods := #[k7m0]
  instanceTypes := #[(.object "java/lang/String"), .int, .int, .int]
  staticTypes := #[(.object "com/example/wary_warden/warywarden/access/Operation"), (.object "com/example/wary_warden/warywarden/access/Operation"), (.object "com/example/wary_warden/warywarden/access/Operation"), (.object "com/example/wary_warden/warywarden/access/Operation"), (.object "com/example/wary_warden/warywarden/access/Operation"), (.object "com/example/wary_warden/warywarden/access/Operation"), (.array (.object "com/example/wary_warden/warywarden/access/Operation"))]
  resolved := Array.replicate 71 none
  statics := some 1 }

def pool8 : Array CpInfo := pool [(1, u "java/lang/Cloneable"), (0, .class_ 1), (0, u "java/lang/Object"), (0, .class_ 3)] 3

/-- java/lang/Cloneable -/
def k8 : Class := { plain "java/lang/Cloneable" (some 0) with
  accessFlags := 1537
  interfaces := #[]
  cf := some (fileOf pool8 2 #[] #[] 1537 4 #[] #[])
  fields := #[]
  methods := #[]
  instanceTypes := #[]
  staticTypes := #[]
  resolved := Array.replicate 8 none
  statics := none }

/-- the primitive byte -/
def k9 : Class := { plain "byte" none with kind := .primitive 'B', accessFlags := 0x411 }
/-- [B -/
def k10 : Class := { plain "[B" (some 0) with kind := .array 9 .byte, interfaces := #[8, 5], accessFlags := 1041 }

/-- the primitive int -/
def k11 : Class := { plain "int" none with kind := .primitive 'I', accessFlags := 0x411 }
/-- [I -/
def k12 : Class := { plain "[I" (some 0) with kind := .array 11 .int, interfaces := #[8, 5], accessFlags := 1041 }

def heap : Heap := #[{ cls := 2, slots := #[.long 63], vm := .statics 2 },
  { cls := 7, slots := #[.ref 2, .ref 3, .ref 4, .ref 5, .ref 6, .ref 7, .null], vm := .statics 7 },
  { cls := 7, slots := #[.null, .int 0, .int 0, .int 1], vm := .none },
  { cls := 7, slots := #[.null, .int 1, .int 0, .int 2], vm := .none },
  { cls := 7, slots := #[.null, .int 2, .int 0, .int 4], vm := .none },
  { cls := 7, slots := #[.null, .int 3, .int 0, .int 8], vm := .none },
  { cls := 7, slots := #[.null, .int 4, .int 0, .int 16], vm := .none },
  { cls := 7, slots := #[.null, .int 5, .int 0, .int 32], vm := .none }]
def classes : Array Class := #[k0, k1, k2, k3, k4, k5, k6, k7, k8, k9, k10, k11, k12]
def interned : List (Array UInt16 × Addr) := []
def slotsUsed : Nat := 32
def theMethod : MethodId := ⟨1, 1⟩
def args0 : Array Value := #[.long 5]
def aboutOver (below : List Frame) : State where
  vm := { classes := classes, interned := interned.toArray }
  heap := heap
  slotsUsed := slotsUsed
  threads := #[{ frames := .invoking theMethod args0 :: below }]
def below0 : List Frame := [.native { method := ⟨0, 0⟩, args := #[] }]
def about1 : State := aboutOver below0
def p0 : Program := .bare "" "" ""
def e0 : Env := launch0.env 0 0 0
theorem w_frames : about1.frames = Frame.invoking theMethod args0 :: below0 := rfl
set_option maxRecDepth 65536 in
theorem w_args : argsFit about1.vm theMethod args0 = true := by decide +kernel
set_option maxRecDepth 65536 in
theorem w_heap : heapFits about1 = true := by decide +kernel
set_option maxRecDepth 65536 in
theorem w_runnable : about1.curStatus? = some .runnable := by decide +kernel
set_option maxRecDepth 65536 in
theorem w_alone : about1.alone = true := by decide +kernel
set_option maxRecDepth 65536 in
theorem w_named : about1.methodNamed? x = some theMethod := by decide +kernel
set_option maxRecDepth 65536 in
theorem w_hears : about1.hears theMethod below0 = true := by decide +kernel
set_option maxRecDepth 65536 in
theorem w_ripe : about1.ripe theMethod args0 below0 = true := by decide +kernel
theorem w_running : about1.status = .running := rfl
set_option maxRecDepth 65536 in
theorem w_room : about1.hasRoom e0.platform room_1 = true :=
  launch0.hasRoom_least _ room_1 (by decide +kernel) (by decide +kernel) (by decide +kernel) (by decide +kernel) (by decide +kernel) (by decide +kernel)
theorem allAtoms_all (ts : List Jvm.Cond) (a : Array Jvm.Value) (st : Jvm.State) : (allAtoms ts).before a st = ts.all (fun c => c.before a st) := by
  induction ts with
  | nil => rfl
  | cons c t ih =>
    show (Jvm.Cond.and c (allAtoms t)).before a st = _
    rw [Jvm.Cond.before_and, ih, List.all_cons]
def words1 : List Jvm.Cond := Jvm.Cond.code x code maxLocals ret :: tables_1
/-- a 'code' word, met by the world's own term for the bytes: nothing is compared byte by byte -/
theorem code_word {y : MethodName} {bytes : ByteArray} {mx : Nat} {rt : Option FieldType} {a : Array Value} {s : State} {m : MethodId} {meth : Method} {c : Code} (h1 : s.methodNamed? y = some m) (h2 : s.vm.method? m = some meth) (h3 : meth.code = some c) (h4 : c.code = bytes)
    (h5 : (c.maxLocals == mx && c.exceptionTable.isEmpty && decide (c.maxStack ≤ mostOperands) && decide (meth.sig.returnType = rt) && !meth.locks && decide (parseMethodDescriptor y.desc = some meth.sig)) = true) : (Jvm.Cond.code y bytes mx rt).before a s = true := by
  simp only [Bool.and_eq_true, beq_iff_eq, Bool.not_eq_true', decide_eq_true_eq] at h5
  obtain ⟨⟨⟨⟨⟨g1, g2⟩, g3⟩, g4⟩, g5⟩, g6⟩ := h5
  simp [Cond.before, Cond.holds, Cond.value, h1, h2, h3, h4, g1, g2, g3, g4, g5, g6]
def isCode : Jvm.Cond → Bool
  | .code _ _ _ _ => true
  | _ => false
theorem all_split {L : List Jvm.Cond} {P : Jvm.Cond → Bool} (h1 : L.all (fun c => isCode c || P c) = true) (h2 : ∀ c ∈ L.filter isCode, P c = true) : L.all P = true := by
  refine List.all_eq_true.mpr fun c hc => ?_
  have h := List.all_eq_true.mp h1 c hc
  rcases Bool.eq_false_or_eq_true (isCode c) with hi | hi
  · exact h2 c (List.mem_filter.mpr ⟨hc, hi⟩)
  · simpa [hi] using h
set_option maxRecDepth 65536 in
theorem w_c0 : (Jvm.Cond.code x code maxLocals ret).before args0 about1 = true := code_word (m := ⟨1, 1⟩) (meth := k1m1) (c := k1c1) (by decide +kernel) rfl rfl rfl (by decide +kernel)
set_option maxRecDepth 65536 in
theorem w_c1 : (Jvm.Cond.code ({ cls := "com/example/wary_warden/warywarden/access/AccessControlOperations", name := "fromAcop", desc := "(J)Lcom/example/wary_warden/warywarden/access/AccessControlOperations;" } : Jvm.MethodName) prog_1_method_2_code (2 : Nat) (Option.some (Jvm.ClassFile.FieldType.object "com/example/wary_warden/warywarden/access/AccessControlOperations"))).before args0 about1 = true := code_word (m := ⟨2, 1⟩) (meth := k2m1) (c := k2c1) (by decide +kernel) rfl rfl rfl (by decide +kernel)
set_option maxRecDepth 65536 in
theorem w_c2 : (Jvm.Cond.code ({ cls := "com/example/wary_warden/warywarden/access/AccessControlOperations", name := "<init>", desc := "(I)V" } : Jvm.MethodName) prog_1_method_1_code (2 : Nat) (Option.none : Option Jvm.ClassFile.FieldType)).before args0 about1 = true := code_word (m := ⟨2, 0⟩) (meth := k2m0) (c := k2c0) (by decide +kernel) rfl rfl rfl (by decide +kernel)
set_option maxRecDepth 65536 in
theorem w_c3 : (Jvm.Cond.code ({ cls := "java/lang/Object", name := "<init>", desc := "()V" } : Jvm.MethodName) object_method_1_code (1 : Nat) (Option.none : Option Jvm.ClassFile.FieldType)).before args0 about1 = true := code_word (m := ⟨0, 0⟩) (meth := k0m0) (c := k0c0) (by decide +kernel) rfl rfl rfl (by decide +kernel)
set_option maxRecDepth 65536 in
theorem w_c4 : (Jvm.Cond.code ({ cls := "com/example/wary_warden/warywarden/access/AccessControlOperations", name := "acop", desc := "()I" } : Jvm.MethodName) prog_1_method_4_code (1 : Nat) (Option.some Jvm.ClassFile.FieldType.int)).before args0 about1 = true := code_word (m := ⟨2, 3⟩) (meth := k2m3) (c := k2c3) (by decide +kernel) rfl rfl rfl (by decide +kernel)
set_option maxRecDepth 65536 in
theorem w_c5 : (Jvm.Cond.code ({ cls := "com/example/wary_warden/warywarden/access/AccessControlOperations", name := "grants", desc := "(Lcom/example/wary_warden/warywarden/access/Operation;)Z" } : Jvm.MethodName) prog_1_method_3_code (2 : Nat) (Option.some Jvm.ClassFile.FieldType.boolean)).before args0 about1 = true := code_word (m := ⟨2, 2⟩) (meth := k2m2) (c := k2c2) (by decide +kernel) rfl rfl rfl (by decide +kernel)
set_option maxRecDepth 65536 in
theorem w_c6 : (Jvm.Cond.code ({ cls := "com/example/wary_warden/warywarden/access/Operation", name := "acopBit", desc := "()I" } : Jvm.MethodName) prog_4_method_4_code (1 : Nat) (Option.some Jvm.ClassFile.FieldType.int)).before args0 about1 = true := code_word (m := ⟨7, 0⟩) (meth := k7m0) (c := k7c0) (by decide +kernel) rfl rfl rfl (by decide +kernel)
def codes1 : List Jvm.Cond := [Jvm.Cond.code x code maxLocals ret, Jvm.Cond.code ({ cls := "com/example/wary_warden/warywarden/access/AccessControlOperations", name := "fromAcop", desc := "(J)Lcom/example/wary_warden/warywarden/access/AccessControlOperations;" } : Jvm.MethodName) prog_1_method_2_code (2 : Nat) (Option.some (Jvm.ClassFile.FieldType.object "com/example/wary_warden/warywarden/access/AccessControlOperations")), Jvm.Cond.code ({ cls := "com/example/wary_warden/warywarden/access/AccessControlOperations", name := "<init>", desc := "(I)V" } : Jvm.MethodName) prog_1_method_1_code (2 : Nat) (Option.none : Option Jvm.ClassFile.FieldType), Jvm.Cond.code ({ cls := "java/lang/Object", name := "<init>", desc := "()V" } : Jvm.MethodName) object_method_1_code (1 : Nat) (Option.none : Option Jvm.ClassFile.FieldType), Jvm.Cond.code ({ cls := "com/example/wary_warden/warywarden/access/AccessControlOperations", name := "acop", desc := "()I" } : Jvm.MethodName) prog_1_method_4_code (1 : Nat) (Option.some Jvm.ClassFile.FieldType.int), Jvm.Cond.code ({ cls := "com/example/wary_warden/warywarden/access/AccessControlOperations", name := "grants", desc := "(Lcom/example/wary_warden/warywarden/access/Operation;)Z" } : Jvm.MethodName) prog_1_method_3_code (2 : Nat) (Option.some Jvm.ClassFile.FieldType.boolean), Jvm.Cond.code ({ cls := "com/example/wary_warden/warywarden/access/Operation", name := "acopBit", desc := "()I" } : Jvm.MethodName) prog_4_method_4_code (1 : Nat) (Option.some Jvm.ClassFile.FieldType.int)]
set_option maxRecDepth 65536 in
theorem codes_eq : words1.filter isCode = codes1 := rfl
theorem w_codes : ∀ c ∈ words1.filter isCode, c.before args0 about1 = true := by
  rw [codes_eq]
  intro c hc
  simp only [codes1, List.mem_cons, List.not_mem_nil, or_false] at hc
  rcases hc with rfl | rfl | rfl | rfl | rfl | rfl | rfl
  · exact w_c0
  · exact w_c1
  · exact w_c2
  · exact w_c3
  · exact w_c4
  · exact w_c5
  · exact w_c6
set_option maxRecDepth 65536 in
theorem w_t1 : (words1.take 24).all (fun c => isCode c || c.before args0 about1) = true := by decide +kernel
set_option maxRecDepth 65536 in
theorem w_t2 : ((words1.drop 24).take 24).all (fun c => isCode c || c.before args0 about1) = true := by decide +kernel
set_option maxRecDepth 65536 in
theorem w_t3 : ((words1.drop 24).drop 24).all (fun c => isCode c || c.before args0 about1) = true := by decide +kernel
theorem w_tables : (allAtoms (Jvm.Cond.code x code maxLocals ret :: tables_1)).before args0 about1 = true := by
  rw [allAtoms_all]
  show words1.all (fun c => c.before args0 about1) = true
  refine all_split ?_ w_codes
  rw [← List.take_append_drop 24 words1, List.all_append, w_t1, ← List.take_append_drop 24 (words1.drop 24), List.all_append, w_t2, w_t3]
  rfl
set_option maxRecDepth 65536 in
theorem w_case : (Jvm.Cond.and given_1 narrow_1).before args0 about1 = true := by decide +kernel
theorem w_applies : (headSpec (Jvm.Cond.code x code maxLocals ret :: tables_1) room_1).applies x e0.platform about1 = true :=
  (Spec.applies_iff w_frames).mpr ⟨w_running, w_runnable, w_alone, w_named, w_hears, w_ripe, w_room, w_tables⟩
theorem atStart : AtStart classFile x code maxLocals ret World_1 tables_1 room_1 Calls_1 rest_1 Pre_1 launch0 p0 e0 about1 theMethod args0 below0 :=
  ⟨lists_1, trivial, launch0.admits_env _ _ _, launch0.least_env, fairChoices_fair.cas, fairChoices_fair.clock, w_frames, w_args, w_heap, w_applies, trivial, trivial, w_case⟩
end start1
theorem witness_1 : WitnessClaimed_1 := ⟨start1.p0, start1.e0, start1.about1, start1.theMethod, start1.args0, start1.below0, start1.atStart⟩
end Jvm.Pilot.@@N@@
