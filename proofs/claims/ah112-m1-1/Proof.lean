import JvmDerived
import JvmDerived.Pilot.@@N@@Statement
import JvmDerived.Pilot.@@N@@Code
set_option linter.unusedVariables false
set_option linter.unusedSimpArgs false
namespace Jvm.Pilot.@@N@@.Own
open Jvm Sem ClassFile Op Lib Jvm.Stand Jvm.Free Jvm.LawKit Jvm.RoadKit
/-- from the state A the run comes to an end of which P holds -/
def OGo (tb : Tables) (e : Env) (below : List Frame) (P : Outcome → State → Prop) (A : State) : Prop := ∃ s₂ o, Steps tb e below A s₂ ∧ s₂.status = .running ∧ Ended s₂ below o ∧ P o s₂
theorem OGo.go {tb : Tables} {e : Env} {below : List Frame} {P : Outcome → State → Prop} {A B : State} (k : OGo tb e below P B) (h : ∀ t, Steps tb e below B t → Steps tb e below A t) : OGo tb e below P A := by
  obtain ⟨s, o, h1, h2⟩ := k; exact ⟨s, o, h _ h1, h2⟩
theorem OGo.start {tb : Tables} {e : Env} {below : List Frame} {P : Outcome → State → Prop} {T : State} {g g' : JFrame} (q : g = g') (k : OGo tb e below P (T.setTop g')) : OGo tb e below P (T.setTop g) := q ▸ k
theorem OGo.ret {p : Program} {l : Launch} {e : Env} {R : Room} {s : State} {m : MethodId} {args : Array Value} {below : List Frame} {meth : Method} {c : Code} {T : State} {locs : List Loc} {cells slots : Nat}
    (X : Stand p l e R s m args below meth c T locs cells slots) {v : Option Value} (hv : meth.sig.returnType = none → v = none) (hlocks : meth.locks = false) {A : State}
    (hA : ∀ fs, (∀ (f : JFrame) (acts : List Action), f.method = m → f.locked = none → f.entered = [] → (doReturn e (T.setTop f) acts v).1 = T.setFrames fs) → Steps p.tables e below A (T.setFrames fs))
    {Q : Option Value → Heap → List Loc → Prop} {C S : Nat} (hQ : Q v T.heap locs) (hc : cells ≤ C) (hs : slots ≤ S) :
    OGo p.tables e below (fun o U' => ∃ v L, o = .returned v ∧ Q v U'.heap L ∧ FrameEnd s o U' L C S) A := by
  obtain ⟨fs, hr, hrun, hended, hW, hsame⟩ := X.leave hv hlocks
  exact ⟨_, _, hA fs hr, hrun, hended, v, locs, rfl, hQ, ⟨_, rfl⟩, hW, hsame.mono hc hs⟩
theorem OGo.retW {p : Program} {l : Launch} {e : Env} {R : Room} {s : State} {m : MethodId} {args : Array Value} {below : List Frame} {meth : Method} {c : Code} {T : State} {locs : List Loc} {cells slots : Nat} {vm0 : Vm} {k0 : Nat}
    (X : Stand p l e R (s.setVm vm0) m args below meth c T locs cells slots) (hS : s.Since vm0 k0) (hn : k0 ≤ T.heap.size) {v : Option Value} (hv : meth.sig.returnType = none → v = none) (hlocks : meth.locks = false) {A : State}
    (hA : ∀ fs, (∀ (f : JFrame) (acts : List Action), f.method = m → f.locked = none → f.entered = [] → (doReturn e (T.setTop f) acts v).1 = T.setFrames fs) → Steps p.tables e below A (T.setFrames fs))
    {Q : Option Value → Heap → List Loc → Prop} {C S : Nat} (hQ : Q v T.heap locs) (hc : cells ≤ C) (hs : slots ≤ S) :
    OGo p.tables e below (fun o U' => ∃ v L, o = .returned v ∧ Q v U'.heap L ∧ ReturnedEndW s o U' L C S) A := by
  obtain ⟨fs, hr, hrun, hended, h1, h2, h3, h4⟩ := X.leaveW hS hn hv hlocks
  exact ⟨_, _, hA fs hr, hrun, hended, v, locs, rfl, hQ, h1, h2, h3, h4.mono hc hs⟩
theorem Sta.keep0 {Z : State} {h h' : Heap} {C n d : String} {v : Value} (F : Sta Z h C n d v) (K : Keep h h' []) : Sta Z h' C n d v := by
  obtain ⟨cf, i, k, f, st, cell, h1, h2, h3, h4, h5, r⟩ := F; exact ⟨cf, i, k, f, st, cell, h1, h2, h3, h4, K.2.1 _ _ h5 (fun q => nomatch q), r⟩
theorem Sta.keepE {Z : State} {h h' : Heap} {C n d : String} {v : Value} {ws : List Addr} (F : Sta Z h C n d v) (K : Keep h h' ws) (q : ∀ x ∈ ws, ∃ c : Cell, h[x]? = some c ∧ ∀ q, c.vm ≠ .statics q) : Sta Z h' C n d v := by
  obtain ⟨cf, i, k, f, st, cell, h1, h2, h3, h4, h5, h6, r⟩ := F
  refine ⟨cf, i, k, f, st, cell, h1, h2, h3, h4, K.2.1 _ _ h5 (fun hm => ?_), h6, r⟩
  obtain ⟨c, hc, hq⟩ := q _ hm
  cases h5.symm.trans hc
  cases hv : cell.vm <;> rw [hv] at h6 <;> first | exact hq _ hv | (simp [VmData.isStatics] at h6)
theorem staS {h : Heap} {y : Addr} {ws : List Addr} (a : ∃ c : Cell, h[y]? = some c ∧ ∀ q, c.vm ≠ .statics q) (r : ∀ x ∈ ws, ∃ c : Cell, h[x]? = some c ∧ ∀ q, c.vm ≠ .statics q) : ∀ x ∈ y :: ws, ∃ c : Cell, h[x]? = some c ∧ ∀ q, c.vm ≠ .statics q := fun x hx => (List.mem_cons.mp hx).elim (fun e => e ▸ a) (r x)
theorem own_nf {args : Array Value} {s : State} {C : String} {y y' : MethodName} (hsel : (Cond.selects C y' y').before args s = true) (e : y'.cls = y.cls) : NotFace s y := fun r0 h0 => by
  obtain ⟨c2, r2, m2, q1, q2, q3, q4, kP, hkP, hkPi⟩ := Cond.selects_spec hsel
  have a := findClass_of_methodNamed h0
  have b := findClass_of_methodNamed q3
  rw [e] at b
  have c : r0.cls = m2.cls := Option.some.inj (a.symm.trans b)
  exact ⟨kP, by rw [c]; exact hkP, hkPi⟩
theorem own_decl {a0 a1 : Array Value} {Z : State} {y : MethodName} {bytes : ByteArray} {maxL : Nat} {ret : Option FieldType} (w : (Cond.instanceMethod y).before a0 Z = true) (wc : (Cond.code y bytes maxL ret).before a0 Z = true) : (Cond.declares y).before a1 Z = true := by
  obtain ⟨m, meth, h1, h2, h3, -⟩ := Cond.instanceMethod_spec w
  obtain ⟨m2, c, h4, -, -, -, -, -, -, h5⟩ := Cond.code_spec h1 wc
  cases h2.symm.trans h4
  simp [Cond.before, Cond.holds, Cond.value, h1, h2, h3, h5]
theorem own_same {a0 : Array Value} {Z : State} {y : MethodName} (hmh : y.cls ≠ "java/lang/invoke/MethodHandle" ∧ y.cls ≠ "java/lang/invoke/VarHandle") (w : (Cond.declares y).before a0 Z = true) (nf : NotFace Z y) : (Cond.sameMethod y.cls y.cls y.name y.desc).before a0 Z = true := by
  obtain ⟨m, meth, h1, -⟩ := Cond.declares_spec w
  obtain ⟨k, hk, hi⟩ := nf m h1
  have hc := findClass_of_methodNamed h1
  have hf := State.methodFound?_of_named h1 hmh
  simp [Cond.before, Cond.holds, Cond.value, hc, hf, h1, hk, hi]
theorem fldI {args : Array Value} {s : State} {t : Term} {C n d : String} {x : Addr} {k : Int32} (ht : t.eval args s none [] s = some (.ref x)) (h : (Cond.eq (Term.field t C n d) (Term.int k)).value args s none s [] = some true) : Fld s s.heap x C n d (.int k) := by
  obtain ⟨u, w, hu, hw, hk, hk'⟩ := cmp_v (Or.inl h)
  cases (Term.int_eval k).symm.trans hw
  obtain ⟨z, rfl⟩ := hk'
  have e : z = k := by simpa [Cond.value, hu, Term.int_eval] using h
  subst e
  exact Fld.start (by rw [← fld_at ht]; exact hu)
theorem long_eval {args : Array Value} {s f : State} {o : Option Outcome} {idx : List Nat} (n : Int64) : (Term.long n).eval args f o idx s = some (.long n) := rfl
theorem fldL {args : Array Value} {s : State} {t : Term} {C n d : String} {x : Addr} {k : Int64} (ht : t.eval args s none [] s = some (.ref x)) (h : (Cond.eq (Term.field t C n d) (Term.long k)).value args s none s [] = some true) : Fld s s.heap x C n d (.long k) := by
  obtain ⟨u, w, hu, hw, hk, hk'⟩ := cmp_v (Or.inl h)
  cases (long_eval k).symm.trans hw
  obtain ⟨z, rfl⟩ := hk'
  have e : z = k := by simpa [Cond.value, hu, long_eval] using h
  subst e
  exact Fld.start (by rw [← fld_at ht]; exact hu)
theorem valL {args : Array Value} {s : State} {t : Term} {k : Int64} (h : (Cond.eq t (Term.long k)).value args s none s [] = some true) : t.eval args s none [] s = some (.long k) := by
  obtain ⟨u, w, hu, hw, hk, hk'⟩ := cmp_v (Or.inl h)
  cases (long_eval k).symm.trans hw
  obtain ⟨z, rfl⟩ := hk'
  have e : z = k := by simpa [Cond.value, hu, long_eval] using h
  subst e
  exact hu
theorem valI {args : Array Value} {s : State} {t : Term} {k : Int32} (h : (Cond.eq t (Term.int k)).value args s none s [] = some true) : t.eval args s none [] s = some (.int k) := by
  obtain ⟨u, w, hu, hw, hk, hk'⟩ := cmp_v (Or.inl h)
  cases (Term.int_eval k).symm.trans hw
  obtain ⟨z, rfl⟩ := hk'
  have e : z = k := by simpa [Cond.value, hu, Term.int_eval] using h
  subst e
  exact hu
theorem lenI {args : Array Value} {s : State} {t : Term} {x : Addr} {cl : Cell} {ty : FieldType} {k : Int32} (ht : t.eval args s none [] s = some (.ref x)) (A : Arr s s.heap x cl ty) (h : (Cond.eq (Term.length t) (Term.int k)).value args s none s [] = some true) : cl.slots.size.toInt32 = k ∧ cl.slots.size < 2 ^ 31 := by
  have hv := valI h
  have ha : s.arrayAt? x = some cl := Arr.fin (Vm.Alike.refl _) A
  simp only [Term.eval, ht, ha, Option.bind_eq_bind, Option.bind_some] at hv
  split at hv
  · rename_i q; exact ⟨by simpa using hv, q⟩
  · cases hv
theorem elemR {args : Array Value} {s : State} {t u : Term} {x y : Addr} {cl : Cell} {ty : FieldType} {k : Int32} (ht : t.eval args s none [] s = some (.ref x)) (A : Arr s s.heap x cl ty) (hu : u.eval args s none [] s = some (.ref y)) (h : (Cond.eq (Term.elem t (Term.int k)) u).value args s none s [] = some true) : cl.slots[k.toNatClampNeg]? = some (.ref y) := by
  obtain ⟨v, w, hv, hw, hk, hk'⟩ := cmp_v (Or.inl h)
  cases hu.symm.trans hw
  have e := (elem_in hv ht (Term.int_eval k) A.1).2
  rw [e]
  rcases ref_cases (v := v) hk'.2 with rfl | ⟨z, rfl⟩
  · simp [Cond.value, hv, hu] at h
  · have q : z = y := by simpa [Cond.value, hv, hu] using h
    rw [q]
end Jvm.Pilot.@@N@@.Own
namespace Jvm.Pilot.@@N@@
open Jvm Jvm.ClassFile Sem Op Lib Jvm.Free Jvm.Stand Jvm.LawKit Jvm.RoadKit Bundle Jvm.Pilot.@@N@@.Jvm.D Jvm.Pilot.@@N@@.Own
theorem own_y {lim off siz : Int64} (h1 : ¬ lim < (1 : Int64)) (h2 : ¬ off < (0 : Int64)) (h3 : ¬ siz < (0 : Int64)) (h : lim < siz - off) : ¬ (off + lim) < (0 : Int64) ∧ (off + lim) < siz := by
  have a := c_lsub siz off
  have b := c_ladd off lim
  have r1 := rng64 (siz - off); have r2 := rng64 (off + lim); have r3 := rng64 lim; have r4 := rng64 off; have r5 := rng64 siz
  have z0 : (0 : Int64).toInt = 0 := by decide
  have z1 : (1 : Int64).toInt = 1 := by decide
  rw [Int64.lt_iff_toInt_lt] at *
  rw [Int64.lt_iff_toInt_lt]
  omega
theorem own_n {lim off siz : Int64} (h1 : ¬ lim < (1 : Int64)) (h2 : ¬ off < (0 : Int64)) (h3 : ¬ siz < (0 : Int64)) (h : ¬ lim < siz - off) (h4 : ¬ (off + lim) < (0 : Int64)) : ¬ (off + lim) < siz := by
  have a := c_lsub siz off
  have b := c_ladd off lim
  have r1 := rng64 (siz - off); have r2 := rng64 (off + lim); have r3 := rng64 lim; have r4 := rng64 off; have r5 := rng64 siz
  have z0 : (0 : Int64).toInt = 0 := by decide
  have z1 : (1 : Int64).toInt = 1 := by decide
  rw [Int64.lt_iff_toInt_lt] at *
  omega
theorem own_m15 (x : Int64) : ¬ (x &&& (15 : Int64)) < (0 : Int64) ∧ ¬ ((x &&& (15 : Int64)) + (1 : Int64)) < (1 : Int64) := by
  have a := c_maskL x 15 4 (by decide) (by decide)
  have b := c_ladd (x &&& (15 : Int64)) 1
  have r1 := rng64 ((x &&& (15 : Int64)) + 1)
  have z0 : (0 : Int64).toInt = 0 := by decide
  have z1 : (1 : Int64).toInt = 1 := by decide
  rw [Int64.lt_iff_toInt_lt, Int64.lt_iff_toInt_lt]
  omega
theorem own_m63 (x : Int64) : ¬ (x &&& (63 : Int64)) < (0 : Int64) := by
  have a := c_maskL x 63 6 (by decide) (by decide)
  have z0 : (0 : Int64).toInt = 0 := by decide
  rw [Int64.lt_iff_toInt_lt]
  omega
theorem own_mM (x : Int64) : ¬ (x &&& (9223372036854775807 : Int64)) < (0 : Int64) ∧ (¬ (x &&& (9223372036854775807 : Int64)) = (0 : Int64) → ¬ (x &&& (9223372036854775807 : Int64)) < (1 : Int64)) := by
  have a := c_maskL x 9223372036854775807 63 (by decide) (by decide)
  have z0 : (0 : Int64).toInt = 0 := by decide
  have z1 : (1 : Int64).toInt = 1 := by decide
  rw [Int64.lt_iff_toInt_lt, Int64.lt_iff_toInt_lt, ← Int64.toInt_inj]
  omega
theorem own_siz {lim off : Int64} (m : Int32) (h1 : ¬ lim < (1 : Int64)) (h2 : ¬ off < (0 : Int64)) (h : ¬ (((9223372036854775807 : Int64) - off) - (2 : Int64)) < lim) : ¬ ((off + lim) + ((((m >>> ((5 : Int32) &&& 31)) &&& (3 : Int32)) - (1 : Int32)).toInt64)) < (0 : Int64) := by
  have a1 := c_lsub (9223372036854775807 : Int64) off
  have a2 := c_lsub ((9223372036854775807 : Int64) - off) 2
  have a3 := c_ladd off lim
  have a4 := c_mask (m >>> ((5 : Int32) &&& 31)) 3 2 (by decide) (by decide)
  have a5 := c_isub ((m >>> ((5 : Int32) &&& 31)) &&& (3 : Int32)) 1
  have a6 := c_i2l (((m >>> ((5 : Int32) &&& 31)) &&& (3 : Int32)) - (1 : Int32))
  have a7 := c_ladd (off + lim) ((((m >>> ((5 : Int32) &&& 31)) &&& (3 : Int32)) - (1 : Int32)).toInt64)
  have r1 := rng64 ((9223372036854775807 : Int64) - off); have r2 := rng64 (((9223372036854775807 : Int64) - off) - 2); have r3 := rng64 (off + lim); have r4 := rng32 (((m >>> ((5 : Int32) &&& 31)) &&& (3 : Int32)) - (1 : Int32)); have r5 := rng64 ((off + lim) + ((((m >>> ((5 : Int32) &&& 31)) &&& (3 : Int32)) - (1 : Int32)).toInt64)); have r6 := rng64 lim; have r7 := rng64 off
  have z0 : (0 : Int64).toInt = 0 := by decide
  have z1 : (1 : Int64).toInt = 1 := by decide
  have z2 : (2 : Int64).toInt = 2 := by decide
  have z3 : (1 : Int32).toInt = 1 := by decide
  have z4 : (9223372036854775807 : Int64).toInt = 9223372036854775807 := by decide
  rw [Int64.lt_iff_toInt_lt] at *
  omega
theorem d2_0 : decode jdk_30_method_1_code 0 = .ok (.aload_n 0, 1) := by decide +kernel
theorem d2_1 : decode jdk_30_method_1_code 1 = .ok (.invokespecial 1, 3) := by decide +kernel
theorem d2_4 : decode jdk_30_method_1_code 4 = .ok (.return_, 1) := by decide +kernel
theorem pn_java_lang_Record : plainName "java/lang/Record" = true := by first | (simp [plainName, overriddenIn]; done) | decide +kernel
def Q2 (Z : State) (a0 : Addr) (h0 : Heap) (n0 : Nat) (v : Option Value) (h : Heap) (L : List Loc) : Prop := v = none ∧ Fr n0 L ∧ h = h0
def P2 (Z : State) (a0 : Addr) (h0 : Heap) (n0 : Nat) (s : State) (o : Outcome) (U' : State) : Prop := ∃ v L, o = .returned v ∧ Q2 Z a0 h0 n0 v U'.heap L ∧ FrameEnd s o U' L ({ frames := 1, cells := 0, slots := 0, locals := 12 } : Room).cells ({ frames := 1, cells := 0, slots := 0, locals := 12 } : Room).slots
set_option maxRecDepth 65536 in
set_option maxHeartbeats 40000000 in
theorem rm2 (l : Launch) (Z : State) (aV : Array Value) (hw : ∀ d ∈ tables_1, d.before aV Z = true) (ws : List Jvm.Cond) (a0 : Addr) (h0 : Heap) (n0 : Nat) (Z0 : n0 ≤ h0.size) :
    MetFree l (⟨"java/lang/Record", "<init>", "()V"⟩ : MethodName) (head1 (Jvm.Cond.code (⟨"java/lang/Record", "<init>", "()V"⟩ : MethodName) jdk_30_method_1_code 1 none :: ws) ({ frames := 1, cells := 0, slots := 0, locals := 12 } : Room)) (fun a U => a = #[(.ref a0)] ∧ Z.Warmed39 U.vm ∧ U.heap = h0) (fun _ _ _ _ _ => True) (fun _ U o U' => ∃ v L, o = .returned v ∧ Q2 Z a0 h0 n0 v U'.heap L ∧ FrameEnd U o U' L ({ frames := 1, cells := 0, slots := 0, locals := 12 } : Room).cells ({ frames := 1, cells := 0, slots := 0, locals := 12 } : Room).slots) := by
  refine MetFree.of_bodySF (plainFor_of_name pn_java_lang_Record) hisR ?_
  intro p e s m args below meth c s₁ Bd hml0 hP hK
  obtain ⟨rfl, hZ, hh⟩ := hP
  have hx := Bd.exec
  have hby := Bd.bytes
  have hml : c.maxLocals = 1 := hml0
  have hown : s.vm.findClass "java/lang/Record" = some m.cls := findClass_of_methodNamed Bd.named
  have hnm := (name_of_methodNamed Bd.named Bd.method).1
  have X0 : Stand p l e ({ frames := 1, cells := 0, slots := 0, locals := 12 } : Room) s m #[(.ref a0)] below meth c s₁ [] 0 0 := Stand.of_body Bd
  have e0 : s₁.heap = h0 := by rw [← hh, Bd.state]; rfl
  have efx : entryFrame m #[(.ref a0)] 1 = mkF m 0 #[.val (.ref a0)] [] := by first | (simp [entryFrame, mkF, argsToLocals, Value.category]; done) | rfl
  have N0 := Fr.nil n0
  have K0 : Keep h0 h0 [] := Keep.refl h0 _
  refine OGo.start (g' := mkF m 0 #[.val (.ref a0)] []) (efx) ?_
  show OGo p.tables e below (P2 Z a0 h0 n0 s) (s₁.setTop (mkF m 0 #[.val (.ref a0)] []))
  refine OGo.go (B := s₁.setTop (mkF m 1 #[.val (.ref a0)] [(.ref a0)])) ?_ (fun tX kX => XS.aloadN X0.here hx rfl (hb hby d2_0) rfl rfl kX)
  obtain ⟨T1, X1, e1, st1⟩ := initO X0 hx hZ hown (hw _ (List.mem_of_getElem? (i := 12) rfl)) (hw _ (List.mem_of_getElem? (i := 13) rfl)) (hw _ (List.mem_of_getElem? (i := 14) rfl)) e0 (g := (mkF m 1 #[.val (.ref a0)] [(.ref a0)])) rfl (by rw [hml]; rfl) rfl (hb hby d2_1) (by decide) (W := 0) (by show 2 * 0 + _ ≤ _; exact Nat.le_of_eq rfl) (by decide)
  refine OGo.go (B := T1.setTop (mkF m 4 #[.val (.ref a0)] [])) ?_ st1
  refine OGo.ret X1 (v := none) (fun _ => rfl) (BodyLoose.notSynchronized Bd) (fun fs hr => X1.returnOut hx Bd.returns (hb hby d2_4) hr) (Q := Q2 Z a0 h0 n0) ?_ (by decide) (by decide)
  show Q2 Z a0 h0 n0 _ T1.heap _
  rw [e1]
  exact ⟨rfl, N0, rfl⟩
theorem d1_0 : decode prog_1_method_1_code 0 = .ok (.aload_n 0, 1) := by decide +kernel
theorem d1_1 : decode prog_1_method_1_code 1 = .ok (.invokespecial 1, 3) := by decide +kernel
theorem pd___V : parseMethodDescriptor "()V" = some ⟨[], none⟩ := by decide +kernel
theorem d1_4 : decode prog_1_method_1_code 4 = .ok (.lload_n 1, 1) := by decide +kernel
theorem d1_5 : decode prog_1_method_1_code 5 = .ok (.lconst 1, 1) := by decide +kernel
theorem d1_6 : decode prog_1_method_1_code 6 = .ok (.lcmp, 1) := by decide +kernel
theorem d1_7 : decode prog_1_method_1_code 7 = .ok (.ifCond .lt 9, 3) := by decide +kernel
theorem d1_10 : decode prog_1_method_1_code 10 = .ok (.lload_n 3, 1) := by decide +kernel
theorem d1_11 : decode prog_1_method_1_code 11 = .ok (.lconst 0, 1) := by decide +kernel
theorem d1_12 : decode prog_1_method_1_code 12 = .ok (.lcmp, 1) := by decide +kernel
theorem d1_13 : decode prog_1_method_1_code 13 = .ok (.ifCond .ge 18, 3) := by decide +kernel
theorem d1_31 : decode prog_1_method_1_code 31 = .ok (.aload_n 0, 1) := by decide +kernel
theorem d1_32 : decode prog_1_method_1_code 32 = .ok (.lload_n 1, 1) := by decide +kernel
theorem d1_33 : decode prog_1_method_1_code 33 = .ok (.putfield 16, 3) := by decide +kernel
theorem d1_36 : decode prog_1_method_1_code 36 = .ok (.aload_n 0, 1) := by decide +kernel
theorem d1_37 : decode prog_1_method_1_code 37 = .ok (.lload_n 3, 1) := by decide +kernel
theorem d1_38 : decode prog_1_method_1_code 38 = .ok (.putfield 22, 3) := by decide +kernel
theorem d1_41 : decode prog_1_method_1_code 41 = .ok (.return_, 1) := by decide +kernel
theorem pn_com_example_lotd_lotd_api_Paging : plainName "com/example/lotd/lotd/api/Paging" = true := by first | (simp [plainName, overriddenIn]; done) | decide +kernel
def Q1 (Z : State) (a0 : Addr) (q1 : Int64) (q2 : Int64) (u1 : Value) (u2 : Value) (h0 : Heap) (n0 : Nat) (v : Option Value) (h : Heap) (L : List Loc) : Prop := v = none ∧ Fr n0 L ∧ Keep h0 h [a0] ∧ Exa Z h a0 "com/example/lotd/lotd/api/Paging" ∧ Fld Z h a0 "com/example/lotd/lotd/api/Paging" "limit" "J" (.long q1) ∧ Fld Z h a0 "com/example/lotd/lotd/api/Paging" "offset" "J" (.long q2)
def P1 (Z : State) (a0 : Addr) (q1 : Int64) (q2 : Int64) (u1 : Value) (u2 : Value) (h0 : Heap) (n0 : Nat) (s : State) (o : Outcome) (U' : State) : Prop := ∃ v L, o = .returned v ∧ Q1 Z a0 q1 q2 u1 u2 h0 n0 v U'.heap L ∧ FrameEnd s o U' L ({ frames := 2, cells := 0, slots := 0, locals := 24 } : Room).cells ({ frames := 2, cells := 0, slots := 0, locals := 24 } : Room).slots
set_option maxRecDepth 65536 in
set_option maxHeartbeats 40000000 in
theorem rm1 (l : Launch) (Z : State) (aV : Array Value) (hw : ∀ d ∈ tables_1, d.before aV Z = true) (ws : List Jvm.Cond) (a0 : Addr) (q1 : Int64) (q2 : Int64) (u1 : Value) (u2 : Value) (h0 : Heap) (n0 : Nat) (Z0 : n0 ≤ h0.size) (E_a0 : Exa Z h0 a0 "com/example/lotd/lotd/api/Paging") (F_limit_a0 : Fld Z h0 a0 "com/example/lotd/lotd/api/Paging" "limit" "J" u1) (F_offset_a0 : Fld Z h0 a0 "com/example/lotd/lotd/api/Paging" "offset" "J" u2) (ga : n0 ≤ a0) (hq1 : ¬ q1 < (1 : Int64)) (hq2 : ¬ q2 < (0 : Int64)) :
    MetFree l (⟨"com/example/lotd/lotd/api/Paging", "<init>", "(JJ)V"⟩ : MethodName) (head1 (Jvm.Cond.code (⟨"com/example/lotd/lotd/api/Paging", "<init>", "(JJ)V"⟩ : MethodName) prog_1_method_1_code 5 none :: ws) ({ frames := 2, cells := 0, slots := 0, locals := 24 } : Room)) (fun a U => a = #[(.ref a0), (.long q1), (.long q2)] ∧ Z.Warmed39 U.vm ∧ U.heap = h0) (fun _ _ _ _ _ => True) (fun _ U o U' => ∃ v L, o = .returned v ∧ Q1 Z a0 q1 q2 u1 u2 h0 n0 v U'.heap L ∧ FrameEnd U o U' L ({ frames := 2, cells := 0, slots := 0, locals := 24 } : Room).cells ({ frames := 2, cells := 0, slots := 0, locals := 24 } : Room).slots) := by
  refine MetFree.of_bodySF (plainFor_of_name pn_com_example_lotd_lotd_api_Paging) hisR ?_
  intro p e s m args below meth c s₁ Bd hml0 hP hK
  obtain ⟨rfl, hZ, hh⟩ := hP
  have hx := Bd.exec
  have hby := Bd.bytes
  have hml : c.maxLocals = 5 := hml0
  have hown : s.vm.findClass "com/example/lotd/lotd/api/Paging" = some m.cls := findClass_of_methodNamed Bd.named
  have hnm := (name_of_methodNamed Bd.named Bd.method).1
  have X0 : Stand p l e ({ frames := 2, cells := 0, slots := 0, locals := 24 } : Room) s m #[(.ref a0), (.long q1), (.long q2)] below meth c s₁ [] 0 0 := Stand.of_body Bd
  have e0 : s₁.heap = h0 := by rw [← hh, Bd.state]; rfl
  have efx : entryFrame m #[(.ref a0), (.long q1), (.long q2)] 5 = mkF m 0 #[.val (.ref a0), .val (.long q1), .second, .val (.long q2), .second] [] := by first | (simp [entryFrame, mkF, argsToLocals, Value.category]; done) | rfl
  have N0 := Fr.nil n0
  have K0 : Keep h0 h0 [a0] := Keep.refl h0 _
  refine OGo.start (g' := mkF m 0 #[.val (.ref a0), .val (.long q1), .second, .val (.long q2), .second] []) (efx) ?_
  show OGo p.tables e below (P1 Z a0 q1 q2 u1 u2 h0 n0 s) (s₁.setTop (mkF m 0 #[.val (.ref a0), .val (.long q1), .second, .val (.long q2), .second] []))
  refine OGo.go (B := s₁.setTop (mkF m 1 #[.val (.ref a0), .val (.long q1), .second, .val (.long q2), .second] [(.ref a0)])) ?_ (fun tX kX => XS.aloadN X0.here hx rfl (hb hby d1_0) rfl rfl kX)
  obtain ⟨_, _, ⟨T1, L1, k1, n1⟩, -, X1, ⟨Lc1, hQ1, l1, y1, z1⟩, st1⟩ := X0.specialBack hx (y := (⟨"java/lang/Record", "<init>", "()V"⟩ : MethodName)) rfl hown (mvT hZ (hw _ (List.mem_of_getElem? (i := 7) rfl))) (mvT hZ (hw _ (List.mem_of_getElem? (i := 8) rfl))) (mvT hZ (hw _ (List.mem_of_getElem? (i := 11) rfl))) (by decide) (backOf (W := 0) (rm2 l Z aV hw [] a0 h0 n0 Z0) hZ (hw _ (List.mem_of_getElem? (i := 11) rfl)) (hw _ (List.mem_of_getElem? (i := 10) rfl)) (by decide) (by decide)) (g := (mkF m 1 #[.val (.ref a0), .val (.long q1), .second, .val (.long q2), .second] [(.ref a0)])) rfl (by rw [hml]; rfl) (Steps.refl _) (a := a0) (argsL := []) (rest := []) (lenOf pd___V rfl) rfl (by show 2 * 0 + _ ≤ _; exact Nat.le_of_eq rfl) (hb hby d1_1) (fun _ _ => ⟨rfl, e0, (by decide : 0 + 0 ≤ _), (by decide : 0 + 0 ≤ _)⟩)
  dsimp only [Pt.U, Pt.locs, Pt.cells, Pt.slots] at X1 l1 y1 z1 st1 hQ1
  subst l1 y1 z1
  obtain ⟨rfl, N1q, e1⟩ := hQ1
  have N1 := Fr.app N0 N1q
  refine OGo.go (B := T1.setTop (mkF m 4 #[.val (.ref a0), .val (.long q1), .second, .val (.long q2), .second] [])) ?_ (fun tX kX => st1.trans kX)
  refine OGo.go (B := T1.setTop (mkF m 5 #[.val (.ref a0), .val (.long q1), .second, .val (.long q2), .second] [(.long q1)])) ?_ (fun tX kX => XS.lloadN X1.here hx rfl (hb hby d1_4) rfl kX)
  refine OGo.go (B := T1.setTop (mkF m 6 #[.val (.ref a0), .val (.long q1), .second, .val (.long q2), .second] [(.long (1 : Int64)), (.long q1)])) ?_ (fun tX kX => XS.lconst X1.here hx rfl (hb hby d1_5) kX)
  refine OGo.go (B := T1.setTop (mkF m 7 #[.val (.ref a0), .val (.long q1), .second, .val (.long q2), .second] [(.int (lcmpW q1 (1 : Int64)))])) ?_ (fun tX kX => XS.lcmp X1.here hx rfl (hb hby d1_6) rfl kX)
  refine OGo.go (B := T1.setTop (mkF m 10 #[.val (.ref a0), .val (.long q1), .second, .val (.long q2), .second] [])) ?_ (fun tX kX => XS.ifNo X1.here hx rfl (hb hby d1_7) rfl ((if0 _ _).trans (flt (fun q => hq1 ((lw_lt _ _).mp q))).1) kX)
  refine OGo.go (B := T1.setTop (mkF m 11 #[.val (.ref a0), .val (.long q1), .second, .val (.long q2), .second] [(.long q2)])) ?_ (fun tX kX => XS.lloadN X1.here hx rfl (hb hby d1_10) rfl kX)
  refine OGo.go (B := T1.setTop (mkF m 12 #[.val (.ref a0), .val (.long q1), .second, .val (.long q2), .second] [(.long (0 : Int64)), (.long q2)])) ?_ (fun tX kX => XS.lconst X1.here hx rfl (hb hby d1_11) kX)
  refine OGo.go (B := T1.setTop (mkF m 13 #[.val (.ref a0), .val (.long q1), .second, .val (.long q2), .second] [(.int (lcmpW q2 (0 : Int64)))])) ?_ (fun tX kX => XS.lcmp X1.here hx rfl (hb hby d1_12) rfl kX)
  refine OGo.go (B := T1.setTop (mkF m 31 #[.val (.ref a0), .val (.long q1), .second, .val (.long q2), .second] [])) ?_ (fun tX kX => XS.ifYes X1.here hx rfl (pc0 := 13) (pc' := 31) rfl (hb hby d1_13) rfl ((if0 _ _).trans (flt (fun q => hq2 ((lw_lt _ _).mp q))).2.1) (by decide) (by decide) kX)
  refine OGo.go (B := T1.setTop (mkF m 32 #[.val (.ref a0), .val (.long q1), .second, .val (.long q2), .second] [(.ref a0)])) ?_ (fun tX kX => XS.aloadN X1.here hx rfl (hb hby d1_31) rfl rfl kX)
  refine OGo.go (B := T1.setTop (mkF m 33 #[.val (.ref a0), .val (.long q1), .second, .val (.long q2), .second] [(.long q1), (.ref a0)])) ?_ (fun tX kX => XS.lloadN X1.here hx rfl (hb hby d1_32) rfl kX)
  obtain ⟨T2, h2, X2, e2, W2, st2⟩ := putF X1 hx hZ hown (host := "") (Or.inl (hw _ (List.mem_of_getElem? (i := 15) rfl))) Via.refl e1 F_limit_a0 E_a0 (Or.inr ⟨(hw _ (List.mem_of_getElem? (i := 16) rfl)), rfl, hnm⟩) (hw _ (List.mem_of_getElem? (i := 2) rfl)) (ty := .long) (by decide) rfl rfl (g := (mkF m 33 #[.val (.ref a0), .val (.long q1), .second, .val (.long q2), .second] [(.long q1), (.ref a0)])) rfl rfl (hb hby d1_33)
  have E_a0 := E_a0.wr W2
  have F_limit_a0 := F_limit_a0.same W2
  have F_offset_a0 := F_offset_a0.other W2 (Or.inr (slot_ne (Or.inr (hw _ (List.mem_of_getElem? (i := 18) rfl))) (Or.inr (hw _ (List.mem_of_getElem? (i := 16) rfl))) (by decide) (t := .long) (t' := .long) (by decide) (by decide)))
  have K2 := K0.wr W2 (Or.inl (List.mem_of_getElem? (i := 0) rfl))
  have zn2 : n0 ≤ h2.size := Nat.le_trans Z0 (Keep.of_wr W2).1
  have N2 := Fr.snoc X2 N1 ga
  refine OGo.go (B := T2.setTop (mkF m 36 #[.val (.ref a0), .val (.long q1), .second, .val (.long q2), .second] [])) ?_ st2
  refine OGo.go (B := T2.setTop (mkF m 37 #[.val (.ref a0), .val (.long q1), .second, .val (.long q2), .second] [(.ref a0)])) ?_ (fun tX kX => XS.aloadN X2.here hx rfl (hb hby d1_36) rfl rfl kX)
  refine OGo.go (B := T2.setTop (mkF m 38 #[.val (.ref a0), .val (.long q1), .second, .val (.long q2), .second] [(.long q2), (.ref a0)])) ?_ (fun tX kX => XS.lloadN X2.here hx rfl (hb hby d1_37) rfl kX)
  obtain ⟨T3, h3, X3, e3, W3, st3⟩ := putF X2 hx hZ hown (host := "") (Or.inl (hw _ (List.mem_of_getElem? (i := 17) rfl))) Via.refl e2 F_offset_a0 E_a0 (Or.inr ⟨(hw _ (List.mem_of_getElem? (i := 18) rfl)), rfl, hnm⟩) (hw _ (List.mem_of_getElem? (i := 2) rfl)) (ty := .long) (by decide) rfl rfl (g := (mkF m 38 #[.val (.ref a0), .val (.long q1), .second, .val (.long q2), .second] [(.long q2), (.ref a0)])) rfl rfl (hb hby d1_38)
  have E_a0 := E_a0.wr W3
  have F_limit_a0 := F_limit_a0.other W3 (Or.inr (slot_ne (Or.inr (hw _ (List.mem_of_getElem? (i := 16) rfl))) (Or.inr (hw _ (List.mem_of_getElem? (i := 18) rfl))) (by decide) (t := .long) (t' := .long) (by decide) (by decide)))
  have F_offset_a0 := F_offset_a0.same W3
  have K3 := K2.wr W3 (Or.inl (List.mem_of_getElem? (i := 0) rfl))
  have zn3 : n0 ≤ h3.size := Nat.le_trans zn2 (Keep.of_wr W3).1
  have N3 := Fr.snoc X3 N2 ga
  refine OGo.go (B := T3.setTop (mkF m 41 #[.val (.ref a0), .val (.long q1), .second, .val (.long q2), .second] [])) ?_ st3
  refine OGo.ret X3 (v := none) (fun _ => rfl) (BodyLoose.notSynchronized Bd) (fun fs hr => X3.returnOut hx Bd.returns (hb hby d1_41) hr) (Q := Q1 Z a0 q1 q2 u1 u2 h0 n0) ?_ (by decide) (by decide)
  show Q1 Z a0 q1 q2 u1 u2 h0 n0 _ T3.heap _
  rw [e3]
  exact ⟨rfl, N3, K3, E_a0, F_limit_a0, F_offset_a0⟩
theorem d5_0 : decode jdk_32_method_1_code 0 = .ok (.getstatic 1, 3) := by decide +kernel
theorem d5_3 : decode jdk_32_method_1_code 3 = .ok (.astore_n 0, 1) := by decide +kernel
theorem d5_4 : decode jdk_32_method_1_code 4 = .ok (.aload_n 0, 1) := by decide +kernel
theorem d5_5 : decode jdk_32_method_1_code 5 = .ok (.areturn, 1) := by decide +kernel
theorem pn_java_util_Optional : plainName "java/util/Optional" = true := by first | (simp [plainName, overriddenIn]; done) | decide +kernel
def Q5 (Z : State) (w : Addr) (h0 : Heap) (n0 : Nat) (v : Option Value) (h : Heap) (L : List Loc) : Prop := v = some (.ref w) ∧ Fr n0 L ∧ h = h0
def P5 (Z : State) (w : Addr) (h0 : Heap) (n0 : Nat) (s : State) (o : Outcome) (U' : State) : Prop := ∃ v L, o = .returned v ∧ Q5 Z w h0 n0 v U'.heap L ∧ FrameEnd s o U' L ({ frames := 0, cells := 0, slots := 0, locals := 0 } : Room).cells ({ frames := 0, cells := 0, slots := 0, locals := 0 } : Room).slots
set_option maxRecDepth 65536 in
set_option maxHeartbeats 40000000 in
theorem rm5 (l : Launch) (Z : State) (aV : Array Value) (hw : ∀ d ∈ tables_1, d.before aV Z = true) (ws : List Jvm.Cond) (w : Addr) (h0 : Heap) (n0 : Nat) (Z0 : n0 ≤ h0.size) (S_EMPTY : Sta Z h0 "java/util/Optional" "EMPTY" "Ljava/util/Optional;" (.ref w)) :
    MetFree l (⟨"java/util/Optional", "empty", "()Ljava/util/Optional;"⟩ : MethodName) (head1 (Jvm.Cond.code (⟨"java/util/Optional", "empty", "()Ljava/util/Optional;"⟩ : MethodName) jdk_32_method_1_code 1 (some (.object "java/util/Optional")) :: ws) ({ frames := 0, cells := 0, slots := 0, locals := 0 } : Room)) (fun a U => a = #[] ∧ Z.Warmed39 U.vm ∧ U.heap = h0) (fun _ _ _ _ _ => True) (fun _ U o U' => ∃ v L, o = .returned v ∧ Q5 Z w h0 n0 v U'.heap L ∧ FrameEnd U o U' L ({ frames := 0, cells := 0, slots := 0, locals := 0 } : Room).cells ({ frames := 0, cells := 0, slots := 0, locals := 0 } : Room).slots) := by
  refine MetFree.of_bodySF (plainFor_of_name pn_java_util_Optional) hisR ?_
  intro p e s m args below meth c s₁ Bd hml0 hP hK
  obtain ⟨rfl, hZ, hh⟩ := hP
  have hx := Bd.exec
  have hby := Bd.bytes
  have hml : c.maxLocals = 1 := hml0
  have hown : s.vm.findClass "java/util/Optional" = some m.cls := findClass_of_methodNamed Bd.named
  have hnm := (name_of_methodNamed Bd.named Bd.method).1
  have X0 : Stand p l e ({ frames := 0, cells := 0, slots := 0, locals := 0 } : Room) s m #[] below meth c s₁ [] 0 0 := Stand.of_body Bd
  have e0 : s₁.heap = h0 := by rw [← hh, Bd.state]; rfl
  have efx : entryFrame m #[] 1 = mkF m 0 #[.unset] [] := by first | (simp [entryFrame, mkF, argsToLocals, Value.category]; done) | rfl
  have N0 := Fr.nil n0
  have K0 : Keep h0 h0 [] := Keep.refl h0 _
  refine OGo.start (g' := mkF m 0 #[.unset] []) (efx) ?_
  show OGo p.tables e below (P5 Z w h0 n0 s) (s₁.setTop (mkF m 0 #[.unset] []))
  obtain ⟨T1, X1, e1, st1⟩ := getS2 X0 hx hZ hown (host := "") (Or.inl (hw _ (List.mem_of_getElem? (i := 28) rfl))) Via.refl e0 S_EMPTY (g := (mkF m 0 #[.unset] [])) rfl (hb hby d5_0)
  refine OGo.go (B := T1.setTop (mkF m 3 #[.unset] [(.ref w)])) ?_ st1
  refine OGo.go (B := T1.setTop (mkF m 4 #[.val (.ref w)] [])) ?_ (fun tX kX => XS.astoreN X1.here hx rfl (hb hby d5_3) rfl rfl (l' := #[.val (.ref w)]) rfl kX)
  refine OGo.go (B := T1.setTop (mkF m 5 #[.val (.ref w)] [(.ref w)])) ?_ (fun tX kX => XS.aloadN X1.here hx rfl (hb hby d5_4) rfl rfl kX)
  refine OGo.ret X1 (v := (some (.ref w))) (fun h => by rw [Bd.returns] at h; cases h) (BodyLoose.notSynchronized Bd) (fun fs hr => retOut X1 hx Bd.returns rfl (Or.inr (Or.inr (Or.inr (Or.inr ⟨rfl, rfl, rfl⟩)))) (hb hby d5_5) hr) (Q := Q5 Z w h0 n0) ?_ (by decide) (by decide)
  show Q5 Z w h0 n0 _ T1.heap _
  rw [e1]
  exact ⟨rfl, N0, rfl⟩
theorem d7_0 : decode jdk_31_method_10_code 0 = .ok (.aload_n 0, 1) := by decide +kernel
theorem d7_1 : decode jdk_31_method_10_code 1 = .ok (.ifnonnull 11, 3) := by decide +kernel
theorem d7_12 : decode jdk_31_method_10_code 12 = .ok (.aload_n 0, 1) := by decide +kernel
theorem d7_13 : decode jdk_31_method_10_code 13 = .ok (.areturn, 1) := by decide +kernel
theorem pn_java_util_Objects : plainName "java/util/Objects" = true := by first | (simp [plainName, overriddenIn]; done) | decide +kernel
def Q7 (Z : State) (a0 : Addr) (h0 : Heap) (n0 : Nat) (v : Option Value) (h : Heap) (L : List Loc) : Prop := v = some (.ref a0) ∧ Fr n0 L ∧ h = h0
def P7 (Z : State) (a0 : Addr) (h0 : Heap) (n0 : Nat) (s : State) (o : Outcome) (U' : State) : Prop := ∃ v L, o = .returned v ∧ Q7 Z a0 h0 n0 v U'.heap L ∧ FrameEnd s o U' L ({ frames := 0, cells := 0, slots := 0, locals := 0 } : Room).cells ({ frames := 0, cells := 0, slots := 0, locals := 0 } : Room).slots
set_option maxRecDepth 65536 in
set_option maxHeartbeats 40000000 in
theorem rm7 (l : Launch) (Z : State) (aV : Array Value) (hw : ∀ d ∈ tables_1, d.before aV Z = true) (ws : List Jvm.Cond) (a0 : Addr) (h0 : Heap) (n0 : Nat) (Z0 : n0 ≤ h0.size) :
    MetFree l (⟨"java/util/Objects", "requireNonNull", "(Ljava/lang/Object;)Ljava/lang/Object;"⟩ : MethodName) (head1 (Jvm.Cond.code (⟨"java/util/Objects", "requireNonNull", "(Ljava/lang/Object;)Ljava/lang/Object;"⟩ : MethodName) jdk_31_method_10_code 1 (some (.object "java/lang/Object")) :: ws) ({ frames := 0, cells := 0, slots := 0, locals := 0 } : Room)) (fun a U => a = #[(.ref a0)] ∧ Z.Warmed39 U.vm ∧ U.heap = h0) (fun _ _ _ _ _ => True) (fun _ U o U' => ∃ v L, o = .returned v ∧ Q7 Z a0 h0 n0 v U'.heap L ∧ FrameEnd U o U' L ({ frames := 0, cells := 0, slots := 0, locals := 0 } : Room).cells ({ frames := 0, cells := 0, slots := 0, locals := 0 } : Room).slots) := by
  refine MetFree.of_bodySF (plainFor_of_name pn_java_util_Objects) hisR ?_
  intro p e s m args below meth c s₁ Bd hml0 hP hK
  obtain ⟨rfl, hZ, hh⟩ := hP
  have hx := Bd.exec
  have hby := Bd.bytes
  have hml : c.maxLocals = 1 := hml0
  have hown : s.vm.findClass "java/util/Objects" = some m.cls := findClass_of_methodNamed Bd.named
  have hnm := (name_of_methodNamed Bd.named Bd.method).1
  have X0 : Stand p l e ({ frames := 0, cells := 0, slots := 0, locals := 0 } : Room) s m #[(.ref a0)] below meth c s₁ [] 0 0 := Stand.of_body Bd
  have e0 : s₁.heap = h0 := by rw [← hh, Bd.state]; rfl
  have efx : entryFrame m #[(.ref a0)] 1 = mkF m 0 #[.val (.ref a0)] [] := by first | (simp [entryFrame, mkF, argsToLocals, Value.category]; done) | rfl
  have N0 := Fr.nil n0
  have K0 : Keep h0 h0 [] := Keep.refl h0 _
  refine OGo.start (g' := mkF m 0 #[.val (.ref a0)] []) (efx) ?_
  show OGo p.tables e below (P7 Z a0 h0 n0 s) (s₁.setTop (mkF m 0 #[.val (.ref a0)] []))
  refine OGo.go (B := s₁.setTop (mkF m 1 #[.val (.ref a0)] [(.ref a0)])) ?_ (fun tX kX => XS.aloadN X0.here hx rfl (hb hby d7_0) rfl rfl kX)
  refine OGo.go (B := s₁.setTop (mkF m 12 #[.val (.ref a0)] [])) ?_ (fun tX kX => XS.ifnonnullYes X0.here hx rfl (pc0 := 1) (pc' := 12) rfl (hb hby d7_1) rfl (by decide) (by decide) kX)
  refine OGo.go (B := s₁.setTop (mkF m 13 #[.val (.ref a0)] [(.ref a0)])) ?_ (fun tX kX => XS.aloadN X0.here hx rfl (hb hby d7_12) rfl rfl kX)
  refine OGo.ret X0 (v := (some (.ref a0))) (fun h => by rw [Bd.returns] at h; cases h) (BodyLoose.notSynchronized Bd) (fun fs hr => retOut X0 hx Bd.returns rfl (Or.inr (Or.inr (Or.inr (Or.inr ⟨rfl, rfl, rfl⟩)))) (hb hby d7_13) hr) (Q := Q7 Z a0 h0 n0) ?_ (by decide) (by decide)
  show Q7 Z a0 h0 n0 _ s₁.heap _
  rw [e0]
  exact ⟨rfl, N0, rfl⟩
theorem d8_0 : decode jdk_32_method_2_code 0 = .ok (.aload_n 0, 1) := by decide +kernel
theorem d8_1 : decode jdk_32_method_2_code 1 = .ok (.invokespecial 7, 3) := by decide +kernel
theorem d8_4 : decode jdk_32_method_2_code 4 = .ok (.aload_n 0, 1) := by decide +kernel
theorem d8_5 : decode jdk_32_method_2_code 5 = .ok (.aload_n 1, 1) := by decide +kernel
theorem d8_6 : decode jdk_32_method_2_code 6 = .ok (.putfield 13, 3) := by decide +kernel
theorem d8_9 : decode jdk_32_method_2_code 9 = .ok (.return_, 1) := by decide +kernel
def Q8 (Z : State) (a0 : Addr) (a1 : Addr) (u1 : Value) (h0 : Heap) (n0 : Nat) (v : Option Value) (h : Heap) (L : List Loc) : Prop := v = none ∧ Fr n0 L ∧ Keep h0 h [a0] ∧ Exa Z h a0 "java/util/Optional" ∧ Fld Z h a0 "java/util/Optional" "value" "Ljava/lang/Object;" (.ref a1)
def P8 (Z : State) (a0 : Addr) (a1 : Addr) (u1 : Value) (h0 : Heap) (n0 : Nat) (s : State) (o : Outcome) (U' : State) : Prop := ∃ v L, o = .returned v ∧ Q8 Z a0 a1 u1 h0 n0 v U'.heap L ∧ FrameEnd s o U' L ({ frames := 1, cells := 0, slots := 0, locals := 12 } : Room).cells ({ frames := 1, cells := 0, slots := 0, locals := 12 } : Room).slots
set_option maxRecDepth 65536 in
set_option maxHeartbeats 40000000 in
theorem rm8 (l : Launch) (Z : State) (aV : Array Value) (hw : ∀ d ∈ tables_1, d.before aV Z = true) (ws : List Jvm.Cond) (a0 : Addr) (a1 : Addr) (u1 : Value) (h0 : Heap) (n0 : Nat) (Z0 : n0 ≤ h0.size) (E_a0 : Exa Z h0 a0 "java/util/Optional") (F_value_a0 : Fld Z h0 a0 "java/util/Optional" "value" "Ljava/lang/Object;" u1) (ga : n0 ≤ a0) :
    MetFree l (⟨"java/util/Optional", "<init>", "(Ljava/lang/Object;)V"⟩ : MethodName) (head1 (Jvm.Cond.code (⟨"java/util/Optional", "<init>", "(Ljava/lang/Object;)V"⟩ : MethodName) jdk_32_method_2_code 2 none :: ws) ({ frames := 1, cells := 0, slots := 0, locals := 12 } : Room)) (fun a U => a = #[(.ref a0), (.ref a1)] ∧ Z.Warmed39 U.vm ∧ U.heap = h0) (fun _ _ _ _ _ => True) (fun _ U o U' => ∃ v L, o = .returned v ∧ Q8 Z a0 a1 u1 h0 n0 v U'.heap L ∧ FrameEnd U o U' L ({ frames := 1, cells := 0, slots := 0, locals := 12 } : Room).cells ({ frames := 1, cells := 0, slots := 0, locals := 12 } : Room).slots) := by
  refine MetFree.of_bodySF (plainFor_of_name pn_java_util_Optional) hisR ?_
  intro p e s m args below meth c s₁ Bd hml0 hP hK
  obtain ⟨rfl, hZ, hh⟩ := hP
  have hx := Bd.exec
  have hby := Bd.bytes
  have hml : c.maxLocals = 2 := hml0
  have hown : s.vm.findClass "java/util/Optional" = some m.cls := findClass_of_methodNamed Bd.named
  have hnm := (name_of_methodNamed Bd.named Bd.method).1
  have X0 : Stand p l e ({ frames := 1, cells := 0, slots := 0, locals := 12 } : Room) s m #[(.ref a0), (.ref a1)] below meth c s₁ [] 0 0 := Stand.of_body Bd
  have e0 : s₁.heap = h0 := by rw [← hh, Bd.state]; rfl
  have efx : entryFrame m #[(.ref a0), (.ref a1)] 2 = mkF m 0 #[.val (.ref a0), .val (.ref a1)] [] := by first | (simp [entryFrame, mkF, argsToLocals, Value.category]; done) | rfl
  have N0 := Fr.nil n0
  have K0 : Keep h0 h0 [a0] := Keep.refl h0 _
  refine OGo.start (g' := mkF m 0 #[.val (.ref a0), .val (.ref a1)] []) (efx) ?_
  show OGo p.tables e below (P8 Z a0 a1 u1 h0 n0 s) (s₁.setTop (mkF m 0 #[.val (.ref a0), .val (.ref a1)] []))
  refine OGo.go (B := s₁.setTop (mkF m 1 #[.val (.ref a0), .val (.ref a1)] [(.ref a0)])) ?_ (fun tX kX => XS.aloadN X0.here hx rfl (hb hby d8_0) rfl rfl kX)
  obtain ⟨T1, X1, e1, st1⟩ := initO X0 hx hZ hown (hw _ (List.mem_of_getElem? (i := 44) rfl)) (hw _ (List.mem_of_getElem? (i := 13) rfl)) (hw _ (List.mem_of_getElem? (i := 14) rfl)) e0 (g := (mkF m 1 #[.val (.ref a0), .val (.ref a1)] [(.ref a0)])) rfl (by rw [hml]; rfl) rfl (hb hby d8_1) (by decide) (W := 0) (by show 2 * 0 + _ ≤ _; exact Nat.le_of_eq rfl) (by decide)
  refine OGo.go (B := T1.setTop (mkF m 4 #[.val (.ref a0), .val (.ref a1)] [])) ?_ st1
  refine OGo.go (B := T1.setTop (mkF m 5 #[.val (.ref a0), .val (.ref a1)] [(.ref a0)])) ?_ (fun tX kX => XS.aloadN X1.here hx rfl (hb hby d8_4) rfl rfl kX)
  refine OGo.go (B := T1.setTop (mkF m 6 #[.val (.ref a0), .val (.ref a1)] [(.ref a1), (.ref a0)])) ?_ (fun tX kX => XS.aloadN X1.here hx rfl (hb hby d8_5) rfl rfl kX)
  obtain ⟨T2, h2, X2, e2, W2, st2⟩ := putF X1 hx hZ hown (host := "") (Or.inl (hw _ (List.mem_of_getElem? (i := 45) rfl))) Via.refl e1 F_value_a0 E_a0 (Or.inr ⟨(hw _ (List.mem_of_getElem? (i := 46) rfl)), rfl, hnm⟩) (hw _ (List.mem_of_getElem? (i := 35) rfl)) (ty := (.object "java/lang/Object")) (by decide) rfl rfl (g := (mkF m 6 #[.val (.ref a0), .val (.ref a1)] [(.ref a1), (.ref a0)])) rfl rfl (hb hby d8_6)
  have E_a0 := E_a0.wr W2
  have F_value_a0 := F_value_a0.same W2
  have K2 := K0.wr W2 (Or.inl (List.mem_of_getElem? (i := 0) rfl))
  have zn2 : n0 ≤ h2.size := Nat.le_trans Z0 (Keep.of_wr W2).1
  have N2 := Fr.snoc X2 N0 ga
  refine OGo.go (B := T2.setTop (mkF m 9 #[.val (.ref a0), .val (.ref a1)] [])) ?_ st2
  refine OGo.ret X2 (v := none) (fun _ => rfl) (BodyLoose.notSynchronized Bd) (fun fs hr => X2.returnOut hx Bd.returns (hb hby d8_9) hr) (Q := Q8 Z a0 a1 u1 h0 n0) ?_ (by decide) (by decide)
  show Q8 Z a0 a1 u1 h0 n0 _ T2.heap _
  rw [e2]
  exact ⟨rfl, N2, K2, E_a0, F_value_a0⟩
theorem d6_0 : decode jdk_32_method_3_code 0 = .ok (.new 2, 3) := by decide +kernel
theorem d6_3 : decode jdk_32_method_3_code 3 = .ok (.dup, 1) := by decide +kernel
theorem d6_4 : decode jdk_32_method_3_code 4 = .ok (.aload_n 0, 1) := by decide +kernel
theorem d6_5 : decode jdk_32_method_3_code 5 = .ok (.invokestatic 17, 3) := by decide +kernel
theorem pd__Ljava_lang_Object__Ljava_lang_Object_ : parseMethodDescriptor "(Ljava/lang/Object;)Ljava/lang/Object;" = some ⟨[(.object "java/lang/Object")], some (.object "java/lang/Object")⟩ := by decide +kernel
theorem d6_8 : decode jdk_32_method_3_code 8 = .ok (.invokespecial 23, 3) := by decide +kernel
theorem pd__Ljava_lang_Object__V : parseMethodDescriptor "(Ljava/lang/Object;)V" = some ⟨[(.object "java/lang/Object")], none⟩ := by decide +kernel
theorem d6_11 : decode jdk_32_method_3_code 11 = .ok (.areturn, 1) := by decide +kernel
def Q6 (Z : State) (a0 : Addr) (h0 : Heap) (n0 : Nat) (v : Option Value) (h : Heap) (L : List Loc) : Prop := ∃ (b : Addr), v = some (.ref b) ∧ Fr n0 L ∧ Keep h0 h [] ∧ h0.size ≤ b ∧ Exa Z h b "java/util/Optional" ∧ Fld Z h b "java/util/Optional" "value" "Ljava/lang/Object;" (.ref a0)
def P6 (Z : State) (a0 : Addr) (h0 : Heap) (n0 : Nat) (s : State) (o : Outcome) (U' : State) : Prop := ∃ v L, o = .returned v ∧ Q6 Z a0 h0 n0 v U'.heap L ∧ FrameEnd s o U' L ({ frames := 2, cells := 1, slots := 1, locals := 26 } : Room).cells ({ frames := 2, cells := 1, slots := 1, locals := 26 } : Room).slots
set_option maxRecDepth 65536 in
set_option maxHeartbeats 40000000 in
theorem rm6 (l : Launch) (Z : State) (aV : Array Value) (hw : ∀ d ∈ tables_1, d.before aV Z = true) (ws : List Jvm.Cond) (a0 : Addr) (h0 : Heap) (n0 : Nat) (Z0 : n0 ≤ h0.size) :
    MetFree l (⟨"java/util/Optional", "of", "(Ljava/lang/Object;)Ljava/util/Optional;"⟩ : MethodName) (head1 (Jvm.Cond.code (⟨"java/util/Optional", "of", "(Ljava/lang/Object;)Ljava/util/Optional;"⟩ : MethodName) jdk_32_method_3_code 1 (some (.object "java/util/Optional")) :: ws) ({ frames := 2, cells := 1, slots := 1, locals := 26 } : Room)) (fun a U => a = #[(.ref a0)] ∧ Z.Warmed39 U.vm ∧ U.heap = h0) (fun _ _ _ _ _ => True) (fun _ U o U' => ∃ v L, o = .returned v ∧ Q6 Z a0 h0 n0 v U'.heap L ∧ FrameEnd U o U' L ({ frames := 2, cells := 1, slots := 1, locals := 26 } : Room).cells ({ frames := 2, cells := 1, slots := 1, locals := 26 } : Room).slots) := by
  refine MetFree.of_bodySF (plainFor_of_name pn_java_util_Optional) hisR ?_
  intro p e s m args below meth c s₁ Bd hml0 hP hK
  obtain ⟨rfl, hZ, hh⟩ := hP
  have hx := Bd.exec
  have hby := Bd.bytes
  have hml : c.maxLocals = 1 := hml0
  have hown : s.vm.findClass "java/util/Optional" = some m.cls := findClass_of_methodNamed Bd.named
  have hnm := (name_of_methodNamed Bd.named Bd.method).1
  have X0 : Stand p l e ({ frames := 2, cells := 1, slots := 1, locals := 26 } : Room) s m #[(.ref a0)] below meth c s₁ [] 0 0 := Stand.of_body Bd
  have e0 : s₁.heap = h0 := by rw [← hh, Bd.state]; rfl
  have efx : entryFrame m #[(.ref a0)] 1 = mkF m 0 #[.val (.ref a0)] [] := by first | (simp [entryFrame, mkF, argsToLocals, Value.category]; done) | rfl
  have N0 := Fr.nil n0
  have K0 : Keep h0 h0 [] := Keep.refl h0 _
  refine OGo.start (g' := mkF m 0 #[.val (.ref a0)] []) (efx) ?_
  show OGo p.tables e below (P6 Z a0 h0 n0 s) (s₁.setTop (mkF m 0 #[.val (.ref a0)] []))
  obtain ⟨T1, h1, X1, e1, E1, A1, D1, C1, st1⟩ := newO X0 hx hZ hown (hw _ (List.mem_of_getElem? (i := 34) rfl)) (hw _ (List.mem_of_getElem? (i := 35) rfl)) (hw _ (List.mem_of_getElem? (i := 26) rfl)) e0 (g := (mkF m 0 #[.val (.ref a0)] [])) rfl (hb hby d6_0) (by decide) (by decide)
  obtain ⟨b1, g1⟩ : ∃ z, z = h0.size := ⟨_, rfl⟩
  rw [← g1] at A1 D1 st1 C1
  have g_b1 : n0 ≤ b1 := Nat.le_trans Z0 (Nat.le_of_eq g1.symm)
  have sz_b1 : h0.size ≤ b1 := Nat.le_trans K0.1 (Nat.le_of_eq g1.symm)
  have zn1 : n0 ≤ h1.size := Nat.le_trans Z0 E1.1
  have K1 := K0.ext E1
  have E_b1 := A1
  have F_value_b1 : Fld Z h1 b1 "java/util/Optional" "value" "Ljava/lang/Object;" .null := D1 (Or.inr (hw _ (List.mem_of_getElem? (i := 46) rfl))) (ty := (.object "java/lang/Object")) (by decide)
  refine OGo.go (B := T1.setTop (mkF m 3 #[.val (.ref a0)] [(.ref b1)])) ?_ st1
  refine OGo.go (B := T1.setTop (mkF m 4 #[.val (.ref a0)] [(.ref b1), (.ref b1)])) ?_ (fun tX kX => XS.dup X1.here hx rfl (hb hby d6_3) rfl rfl kX)
  refine OGo.go (B := T1.setTop (mkF m 5 #[.val (.ref a0)] [(.ref a0), (.ref b1), (.ref b1)])) ?_ (fun tX kX => XS.aloadN X1.here hx rfl (hb hby d6_4) rfl rfl kX)
  obtain ⟨_, _, ⟨T2, L2, k2, n2⟩, -, X2, ⟨Lc2, hQ2, l2, y2, z2⟩, st2⟩ := Jvm.LawKit.callS X1 hx (y := (⟨"java/util/Objects", "requireNonNull", "(Ljava/lang/Object;)Ljava/lang/Object;"⟩ : MethodName)) hown (mvT hZ (hw _ (List.mem_of_getElem? (i := 36) rfl))) (mvT hZ (hw _ (List.mem_of_getElem? (i := 37) rfl))) (mvT hZ (hw _ (List.mem_of_getElem? (i := 38) rfl))) (mvT hZ (hw _ (List.mem_of_getElem? (i := 39) rfl))) (by decide) (backOf (W := 2) (rm7 l Z aV hw [] a0 h1 n0 zn1) hZ (hw _ (List.mem_of_getElem? (i := 39) rfl)) (hw _ (List.mem_of_getElem? (i := 38) rfl)) (by decide) (by decide)) (g := (mkF m 5 #[.val (.ref a0)] [(.ref a0), (.ref b1), (.ref b1)])) rfl (by rw [hml]; rfl) (argsL := [(.ref a0)]) (rest := [(.ref b1), (.ref b1)]) (lenOf pd__Ljava_lang_Object__Ljava_lang_Object_ rfl) rfl (by show 2 * 0 + _ ≤ _; exact Nat.le_of_eq rfl) (hb hby d6_5) (fun _ _ => ⟨rfl, e1, (by decide : 1 + 0 ≤ _), (by decide : 1 + 0 ≤ _)⟩)
  dsimp only [Pt.U, Pt.locs, Pt.cells, Pt.slots] at X2 l2 y2 z2 st2 hQ2
  subst l2 y2 z2
  obtain ⟨rfl, N2q, e2⟩ := hQ2
  have N2 := Fr.app N0 N2q
  refine OGo.go (B := T2.setTop (mkF m 8 #[.val (.ref a0)] [(.ref a0), (.ref b1), (.ref b1)])) ?_ st2
  obtain ⟨_, _, ⟨T3, L3, k3, n3⟩, -, X3, ⟨Lc3, hQ3, l3, y3, z3⟩, st3⟩ := X2.specialBack hx (y := (⟨"java/util/Optional", "<init>", "(Ljava/lang/Object;)V"⟩ : MethodName)) rfl hown (mvT hZ (hw _ (List.mem_of_getElem? (i := 40) rfl))) (mvT hZ (hw _ (List.mem_of_getElem? (i := 41) rfl))) (mvT hZ (hw _ (List.mem_of_getElem? (i := 43) rfl))) (by decide) (backOf (W := 1) (rm8 l Z aV hw [] b1 a0 .null h1 n0 zn1 E_b1 F_value_b1 g_b1) hZ (hw _ (List.mem_of_getElem? (i := 43) rfl)) (hw _ (List.mem_of_getElem? (i := 26) rfl)) (by decide) (by decide)) (g := (mkF m 8 #[.val (.ref a0)] [(.ref a0), (.ref b1), (.ref b1)])) rfl (by rw [hml]; rfl) (Steps.refl _) (a := b1) (argsL := [(.ref a0)]) (rest := [(.ref b1)]) (lenOf pd__Ljava_lang_Object__V rfl) rfl (by show 2 * 0 + _ ≤ _; exact Nat.le_of_eq rfl) (hb hby d6_8) (fun _ _ => ⟨rfl, e2, (by decide : 1 + 0 ≤ _), (by decide : 1 + 0 ≤ _)⟩)
  dsimp only [Pt.U, Pt.locs, Pt.cells, Pt.slots] at X3 l3 y3 z3 st3 hQ3
  subst l3 y3 z3
  obtain ⟨rfl, N3q, Kq3, E_b1_p, F_value_b1_p⟩ := hQ3
  have N3 := Fr.app N2 N3q
  have E_b1 := E_b1.keep Kq3
  have K3 := K1.trans Kq3 (allS (P := fun x => x ∈ ([] : List Addr) ∨ h0.size ≤ x) (Or.inr sz_b1) all0)
  have zn3 : n0 ≤ T3.heap.size := Nat.le_trans zn1 Kq3.1
  have E_b1 := E_b1_p
  have F_value_b1 := F_value_b1_p
  refine OGo.go (B := T3.setTop (mkF m 11 #[.val (.ref a0)] [(.ref b1)])) ?_ (fun tX kX => st3.trans kX)
  refine OGo.ret X3 (v := (some (.ref b1))) (fun h => by rw [Bd.returns] at h; cases h) (BodyLoose.notSynchronized Bd) (fun fs hr => retOut X3 hx Bd.returns rfl (Or.inr (Or.inr (Or.inr (Or.inr ⟨rfl, rfl, rfl⟩)))) (hb hby d6_11) hr) (Q := Q6 Z a0 h0 n0) ?_ (by decide) (by decide)
  show Q6 Z a0 h0 n0 _ T3.heap _
  exact ⟨b1, rfl, N3, K3, sz_b1, E_b1, F_value_b1⟩
theorem d9_0 : decode jdk_32_method_6_code 0 = .ok (.aload_n 0, 1) := by decide +kernel
theorem d9_1 : decode jdk_32_method_6_code 1 = .ok (.getfield 13, 3) := by decide +kernel
theorem d9_4 : decode jdk_32_method_6_code 4 = .ok (.ifnull 7, 3) := by decide +kernel
theorem d9_11 : decode jdk_32_method_6_code 11 = .ok (.iconst 0, 1) := by decide +kernel
theorem d9_12 : decode jdk_32_method_6_code 12 = .ok (.ireturn, 1) := by decide +kernel
def Q9n (Z : State) (a0 : Addr) (h0 : Heap) (n0 : Nat) (v : Option Value) (h : Heap) (L : List Loc) : Prop := v = some (.int (0 : Int32)) ∧ Fr n0 L ∧ h = h0
def P9n (Z : State) (a0 : Addr) (h0 : Heap) (n0 : Nat) (s : State) (o : Outcome) (U' : State) : Prop := ∃ v L, o = .returned v ∧ Q9n Z a0 h0 n0 v U'.heap L ∧ FrameEnd s o U' L ({ frames := 0, cells := 0, slots := 0, locals := 0 } : Room).cells ({ frames := 0, cells := 0, slots := 0, locals := 0 } : Room).slots
set_option maxRecDepth 65536 in
set_option maxHeartbeats 40000000 in
theorem rm9n (l : Launch) (Z : State) (aV : Array Value) (hw : ∀ d ∈ tables_1, d.before aV Z = true) (ws : List Jvm.Cond) (a0 : Addr) (h0 : Heap) (n0 : Nat) (Z0 : n0 ≤ h0.size) (F_value_a0 : Fld Z h0 a0 "java/util/Optional" "value" "Ljava/lang/Object;" .null) :
    MetFree l (⟨"java/util/Optional", "isPresent", "()Z"⟩ : MethodName) (head1 (Jvm.Cond.code (⟨"java/util/Optional", "isPresent", "()Z"⟩ : MethodName) jdk_32_method_6_code 1 (some .boolean) :: ws) ({ frames := 0, cells := 0, slots := 0, locals := 0 } : Room)) (fun a U => a = #[(.ref a0)] ∧ Z.Warmed39 U.vm ∧ U.heap = h0) (fun _ _ _ _ _ => True) (fun _ U o U' => ∃ v L, o = .returned v ∧ Q9n Z a0 h0 n0 v U'.heap L ∧ FrameEnd U o U' L ({ frames := 0, cells := 0, slots := 0, locals := 0 } : Room).cells ({ frames := 0, cells := 0, slots := 0, locals := 0 } : Room).slots) := by
  refine MetFree.of_bodySF (plainFor_of_name pn_java_util_Optional) hisR ?_
  intro p e s m args below meth c s₁ Bd hml0 hP hK
  obtain ⟨rfl, hZ, hh⟩ := hP
  have hx := Bd.exec
  have hby := Bd.bytes
  have hml : c.maxLocals = 1 := hml0
  have hown : s.vm.findClass "java/util/Optional" = some m.cls := findClass_of_methodNamed Bd.named
  have hnm := (name_of_methodNamed Bd.named Bd.method).1
  have X0 : Stand p l e ({ frames := 0, cells := 0, slots := 0, locals := 0 } : Room) s m #[(.ref a0)] below meth c s₁ [] 0 0 := Stand.of_body Bd
  have e0 : s₁.heap = h0 := by rw [← hh, Bd.state]; rfl
  have efx : entryFrame m #[(.ref a0)] 1 = mkF m 0 #[.val (.ref a0)] [] := by first | (simp [entryFrame, mkF, argsToLocals, Value.category]; done) | rfl
  have N0 := Fr.nil n0
  have K0 : Keep h0 h0 [] := Keep.refl h0 _
  refine OGo.start (g' := mkF m 0 #[.val (.ref a0)] []) (efx) ?_
  show OGo p.tables e below (P9n Z a0 h0 n0 s) (s₁.setTop (mkF m 0 #[.val (.ref a0)] []))
  refine OGo.go (B := s₁.setTop (mkF m 1 #[.val (.ref a0)] [(.ref a0)])) ?_ (fun tX kX => XS.aloadN X0.here hx rfl (hb hby d9_0) rfl rfl kX)
  obtain ⟨T1, X1, e1, st1⟩ := getF X0 hx hZ hown (host := "") (Or.inl (hw _ (List.mem_of_getElem? (i := 45) rfl))) Via.refl e0 F_value_a0 (g := (mkF m 1 #[.val (.ref a0)] [(.ref a0)])) rfl rfl (hb hby d9_1)
  refine OGo.go (B := T1.setTop (mkF m 4 #[.val (.ref a0)] [.null])) ?_ st1
  refine OGo.go (B := T1.setTop (mkF m 11 #[.val (.ref a0)] [])) ?_ (fun tX kX => XS.ifnullYes X1.here hx rfl (pc0 := 4) (pc' := 11) rfl (hb hby d9_4) rfl (by decide) (by decide) kX)
  refine OGo.go (B := T1.setTop (mkF m 12 #[.val (.ref a0)] [(.int (0 : Int32))])) ?_ (fun tX kX => XS.iconst X1.here hx rfl (hb hby d9_11) kX)
  refine OGo.ret X1 (v := (some (.int (0 : Int32)))) (fun h => by rw [Bd.returns] at h; cases h) (BodyLoose.notSynchronized Bd) (fun fs hr => retN X1 hx (t := .boolean) (z := (0 : Int32)) Bd.returns (by simp) (hb hby d9_12) hr) (Q := Q9n Z a0 h0 n0) ?_ (by decide) (by decide)
  show Q9n Z a0 h0 n0 _ T1.heap _
  rw [e1]
  exact ⟨rfl, N0, rfl⟩
theorem d9_7 : decode jdk_32_method_6_code 7 = .ok (.iconst 1, 1) := by decide +kernel
theorem d9_8 : decode jdk_32_method_6_code 8 = .ok (.goto 4, 3) := by decide +kernel
def Q9p (Z : State) (a0 : Addr) (x : Addr) (h0 : Heap) (n0 : Nat) (v : Option Value) (h : Heap) (L : List Loc) : Prop := v = some (.int (1 : Int32)) ∧ Fr n0 L ∧ h = h0
def P9p (Z : State) (a0 : Addr) (x : Addr) (h0 : Heap) (n0 : Nat) (s : State) (o : Outcome) (U' : State) : Prop := ∃ v L, o = .returned v ∧ Q9p Z a0 x h0 n0 v U'.heap L ∧ FrameEnd s o U' L ({ frames := 0, cells := 0, slots := 0, locals := 0 } : Room).cells ({ frames := 0, cells := 0, slots := 0, locals := 0 } : Room).slots
set_option maxRecDepth 65536 in
set_option maxHeartbeats 40000000 in
theorem rm9p (l : Launch) (Z : State) (aV : Array Value) (hw : ∀ d ∈ tables_1, d.before aV Z = true) (ws : List Jvm.Cond) (a0 : Addr) (x : Addr) (h0 : Heap) (n0 : Nat) (Z0 : n0 ≤ h0.size) (F_value_a0 : Fld Z h0 a0 "java/util/Optional" "value" "Ljava/lang/Object;" (.ref x)) :
    MetFree l (⟨"java/util/Optional", "isPresent", "()Z"⟩ : MethodName) (head1 (Jvm.Cond.code (⟨"java/util/Optional", "isPresent", "()Z"⟩ : MethodName) jdk_32_method_6_code 1 (some .boolean) :: ws) ({ frames := 0, cells := 0, slots := 0, locals := 0 } : Room)) (fun a U => a = #[(.ref a0)] ∧ Z.Warmed39 U.vm ∧ U.heap = h0) (fun _ _ _ _ _ => True) (fun _ U o U' => ∃ v L, o = .returned v ∧ Q9p Z a0 x h0 n0 v U'.heap L ∧ FrameEnd U o U' L ({ frames := 0, cells := 0, slots := 0, locals := 0 } : Room).cells ({ frames := 0, cells := 0, slots := 0, locals := 0 } : Room).slots) := by
  refine MetFree.of_bodySF (plainFor_of_name pn_java_util_Optional) hisR ?_
  intro p e s m args below meth c s₁ Bd hml0 hP hK
  obtain ⟨rfl, hZ, hh⟩ := hP
  have hx := Bd.exec
  have hby := Bd.bytes
  have hml : c.maxLocals = 1 := hml0
  have hown : s.vm.findClass "java/util/Optional" = some m.cls := findClass_of_methodNamed Bd.named
  have hnm := (name_of_methodNamed Bd.named Bd.method).1
  have X0 : Stand p l e ({ frames := 0, cells := 0, slots := 0, locals := 0 } : Room) s m #[(.ref a0)] below meth c s₁ [] 0 0 := Stand.of_body Bd
  have e0 : s₁.heap = h0 := by rw [← hh, Bd.state]; rfl
  have efx : entryFrame m #[(.ref a0)] 1 = mkF m 0 #[.val (.ref a0)] [] := by first | (simp [entryFrame, mkF, argsToLocals, Value.category]; done) | rfl
  have N0 := Fr.nil n0
  have K0 : Keep h0 h0 [] := Keep.refl h0 _
  refine OGo.start (g' := mkF m 0 #[.val (.ref a0)] []) (efx) ?_
  show OGo p.tables e below (P9p Z a0 x h0 n0 s) (s₁.setTop (mkF m 0 #[.val (.ref a0)] []))
  refine OGo.go (B := s₁.setTop (mkF m 1 #[.val (.ref a0)] [(.ref a0)])) ?_ (fun tX kX => XS.aloadN X0.here hx rfl (hb hby d9_0) rfl rfl kX)
  obtain ⟨T1, X1, e1, st1⟩ := getF X0 hx hZ hown (host := "") (Or.inl (hw _ (List.mem_of_getElem? (i := 45) rfl))) Via.refl e0 F_value_a0 (g := (mkF m 1 #[.val (.ref a0)] [(.ref a0)])) rfl rfl (hb hby d9_1)
  refine OGo.go (B := T1.setTop (mkF m 4 #[.val (.ref a0)] [(.ref x)])) ?_ st1
  refine OGo.go (B := T1.setTop (mkF m 7 #[.val (.ref a0)] [])) ?_ (fun tX kX => XS.ifnullNo X1.here hx rfl (hb hby d9_4) rfl kX)
  refine OGo.go (B := T1.setTop (mkF m 8 #[.val (.ref a0)] [(.int (1 : Int32))])) ?_ (fun tX kX => XS.iconst X1.here hx rfl (hb hby d9_7) kX)
  refine OGo.go (B := T1.setTop (mkF m 12 #[.val (.ref a0)] [(.int (1 : Int32))])) ?_ (fun tX kX => XS.goto X1.here hx rfl (pc0 := 8) (pc' := 12) rfl (hb hby d9_8) (by decide) (by decide) kX)
  refine OGo.ret X1 (v := (some (.int (1 : Int32)))) (fun h => by rw [Bd.returns] at h; cases h) (BodyLoose.notSynchronized Bd) (fun fs hr => retN X1 hx (t := .boolean) (z := (1 : Int32)) Bd.returns (by simp) (hb hby d9_12) hr) (Q := Q9p Z a0 x h0 n0) ?_ (by decide) (by decide)
  show Q9p Z a0 x h0 n0 _ T1.heap _
  rw [e1]
  exact ⟨rfl, N0, rfl⟩
theorem d10_0 : decode jdk_32_method_5_code 0 = .ok (.aload_n 0, 1) := by decide +kernel
theorem d10_1 : decode jdk_32_method_5_code 1 = .ok (.getfield 13, 3) := by decide +kernel
theorem d10_4 : decode jdk_32_method_5_code 4 = .ok (.ifnonnull 13, 3) := by decide +kernel
theorem d10_17 : decode jdk_32_method_5_code 17 = .ok (.aload_n 0, 1) := by decide +kernel
theorem d10_18 : decode jdk_32_method_5_code 18 = .ok (.getfield 13, 3) := by decide +kernel
theorem d10_21 : decode jdk_32_method_5_code 21 = .ok (.areturn, 1) := by decide +kernel
def Q10 (Z : State) (a0 : Addr) (x : Addr) (h0 : Heap) (n0 : Nat) (v : Option Value) (h : Heap) (L : List Loc) : Prop := v = some (.ref x) ∧ Fr n0 L ∧ h = h0
def P10 (Z : State) (a0 : Addr) (x : Addr) (h0 : Heap) (n0 : Nat) (s : State) (o : Outcome) (U' : State) : Prop := ∃ v L, o = .returned v ∧ Q10 Z a0 x h0 n0 v U'.heap L ∧ FrameEnd s o U' L ({ frames := 0, cells := 0, slots := 0, locals := 0 } : Room).cells ({ frames := 0, cells := 0, slots := 0, locals := 0 } : Room).slots
set_option maxRecDepth 65536 in
set_option maxHeartbeats 40000000 in
theorem rm10 (l : Launch) (Z : State) (aV : Array Value) (hw : ∀ d ∈ tables_1, d.before aV Z = true) (ws : List Jvm.Cond) (a0 : Addr) (x : Addr) (h0 : Heap) (n0 : Nat) (Z0 : n0 ≤ h0.size) (F_value_a0 : Fld Z h0 a0 "java/util/Optional" "value" "Ljava/lang/Object;" (.ref x)) :
    MetFree l (⟨"java/util/Optional", "get", "()Ljava/lang/Object;"⟩ : MethodName) (head1 (Jvm.Cond.code (⟨"java/util/Optional", "get", "()Ljava/lang/Object;"⟩ : MethodName) jdk_32_method_5_code 1 (some (.object "java/lang/Object")) :: ws) ({ frames := 0, cells := 0, slots := 0, locals := 0 } : Room)) (fun a U => a = #[(.ref a0)] ∧ Z.Warmed39 U.vm ∧ U.heap = h0) (fun _ _ _ _ _ => True) (fun _ U o U' => ∃ v L, o = .returned v ∧ Q10 Z a0 x h0 n0 v U'.heap L ∧ FrameEnd U o U' L ({ frames := 0, cells := 0, slots := 0, locals := 0 } : Room).cells ({ frames := 0, cells := 0, slots := 0, locals := 0 } : Room).slots) := by
  refine MetFree.of_bodySF (plainFor_of_name pn_java_util_Optional) hisR ?_
  intro p e s m args below meth c s₁ Bd hml0 hP hK
  obtain ⟨rfl, hZ, hh⟩ := hP
  have hx := Bd.exec
  have hby := Bd.bytes
  have hml : c.maxLocals = 1 := hml0
  have hown : s.vm.findClass "java/util/Optional" = some m.cls := findClass_of_methodNamed Bd.named
  have hnm := (name_of_methodNamed Bd.named Bd.method).1
  have X0 : Stand p l e ({ frames := 0, cells := 0, slots := 0, locals := 0 } : Room) s m #[(.ref a0)] below meth c s₁ [] 0 0 := Stand.of_body Bd
  have e0 : s₁.heap = h0 := by rw [← hh, Bd.state]; rfl
  have efx : entryFrame m #[(.ref a0)] 1 = mkF m 0 #[.val (.ref a0)] [] := by first | (simp [entryFrame, mkF, argsToLocals, Value.category]; done) | rfl
  have N0 := Fr.nil n0
  have K0 : Keep h0 h0 [] := Keep.refl h0 _
  refine OGo.start (g' := mkF m 0 #[.val (.ref a0)] []) (efx) ?_
  show OGo p.tables e below (P10 Z a0 x h0 n0 s) (s₁.setTop (mkF m 0 #[.val (.ref a0)] []))
  refine OGo.go (B := s₁.setTop (mkF m 1 #[.val (.ref a0)] [(.ref a0)])) ?_ (fun tX kX => XS.aloadN X0.here hx rfl (hb hby d10_0) rfl rfl kX)
  obtain ⟨T1, X1, e1, st1⟩ := getF X0 hx hZ hown (host := "") (Or.inl (hw _ (List.mem_of_getElem? (i := 45) rfl))) Via.refl e0 F_value_a0 (g := (mkF m 1 #[.val (.ref a0)] [(.ref a0)])) rfl rfl (hb hby d10_1)
  refine OGo.go (B := T1.setTop (mkF m 4 #[.val (.ref a0)] [(.ref x)])) ?_ st1
  refine OGo.go (B := T1.setTop (mkF m 17 #[.val (.ref a0)] [])) ?_ (fun tX kX => XS.ifnonnullYes X1.here hx rfl (pc0 := 4) (pc' := 17) rfl (hb hby d10_4) rfl (by decide) (by decide) kX)
  refine OGo.go (B := T1.setTop (mkF m 18 #[.val (.ref a0)] [(.ref a0)])) ?_ (fun tX kX => XS.aloadN X1.here hx rfl (hb hby d10_17) rfl rfl kX)
  obtain ⟨T2, X2, e2, st2⟩ := getF X1 hx hZ hown (host := "") (Or.inl (hw _ (List.mem_of_getElem? (i := 45) rfl))) Via.refl e1 F_value_a0 (g := (mkF m 18 #[.val (.ref a0)] [(.ref a0)])) rfl rfl (hb hby d10_18)
  refine OGo.go (B := T2.setTop (mkF m 21 #[.val (.ref a0)] [(.ref x)])) ?_ st2
  refine OGo.ret X2 (v := (some (.ref x))) (fun h => by rw [Bd.returns] at h; cases h) (BodyLoose.notSynchronized Bd) (fun fs hr => retOut X2 hx Bd.returns rfl (Or.inr (Or.inr (Or.inr (Or.inr ⟨rfl, rfl, rfl⟩)))) (hb hby d10_21) hr) (Q := Q10 Z a0 x h0 n0) ?_ (by decide) (by decide)
  show Q10 Z a0 x h0 n0 _ T2.heap _
  rw [e2]
  exact ⟨rfl, N0, rfl⟩
theorem d11_0 : decode prog_1_method_8_code 0 = .ok (.aload_n 0, 1) := by decide +kernel
theorem d11_1 : decode prog_1_method_8_code 1 = .ok (.getfield 16, 3) := by decide +kernel
theorem d11_4 : decode prog_1_method_8_code 4 = .ok (.lreturn, 1) := by decide +kernel
def Q11 (Z : State) (a0 : Addr) (x : Int64) (h0 : Heap) (n0 : Nat) (v : Option Value) (h : Heap) (L : List Loc) : Prop := v = some (.long x) ∧ Fr n0 L ∧ h = h0
def P11 (Z : State) (a0 : Addr) (x : Int64) (h0 : Heap) (n0 : Nat) (s : State) (o : Outcome) (U' : State) : Prop := ∃ v L, o = .returned v ∧ Q11 Z a0 x h0 n0 v U'.heap L ∧ FrameEnd s o U' L ({ frames := 0, cells := 0, slots := 0, locals := 0 } : Room).cells ({ frames := 0, cells := 0, slots := 0, locals := 0 } : Room).slots
set_option maxRecDepth 65536 in
set_option maxHeartbeats 40000000 in
theorem rm11 (l : Launch) (Z : State) (aV : Array Value) (hw : ∀ d ∈ tables_1, d.before aV Z = true) (ws : List Jvm.Cond) (a0 : Addr) (x : Int64) (h0 : Heap) (n0 : Nat) (Z0 : n0 ≤ h0.size) (F_limit_a0 : Fld Z h0 a0 "com/example/lotd/lotd/api/Paging" "limit" "J" (.long x)) :
    MetFree l (⟨"com/example/lotd/lotd/api/Paging", "limit", "()J"⟩ : MethodName) (head1 (Jvm.Cond.code (⟨"com/example/lotd/lotd/api/Paging", "limit", "()J"⟩ : MethodName) prog_1_method_8_code 1 (some .long) :: ws) ({ frames := 0, cells := 0, slots := 0, locals := 0 } : Room)) (fun a U => a = #[(.ref a0)] ∧ Z.Warmed39 U.vm ∧ U.heap = h0) (fun _ _ _ _ _ => True) (fun _ U o U' => ∃ v L, o = .returned v ∧ Q11 Z a0 x h0 n0 v U'.heap L ∧ FrameEnd U o U' L ({ frames := 0, cells := 0, slots := 0, locals := 0 } : Room).cells ({ frames := 0, cells := 0, slots := 0, locals := 0 } : Room).slots) := by
  refine MetFree.of_bodySF (plainFor_of_name pn_com_example_lotd_lotd_api_Paging) hisR ?_
  intro p e s m args below meth c s₁ Bd hml0 hP hK
  obtain ⟨rfl, hZ, hh⟩ := hP
  have hx := Bd.exec
  have hby := Bd.bytes
  have hml : c.maxLocals = 1 := hml0
  have hown : s.vm.findClass "com/example/lotd/lotd/api/Paging" = some m.cls := findClass_of_methodNamed Bd.named
  have hnm := (name_of_methodNamed Bd.named Bd.method).1
  have X0 : Stand p l e ({ frames := 0, cells := 0, slots := 0, locals := 0 } : Room) s m #[(.ref a0)] below meth c s₁ [] 0 0 := Stand.of_body Bd
  have e0 : s₁.heap = h0 := by rw [← hh, Bd.state]; rfl
  have efx : entryFrame m #[(.ref a0)] 1 = mkF m 0 #[.val (.ref a0)] [] := by first | (simp [entryFrame, mkF, argsToLocals, Value.category]; done) | rfl
  have N0 := Fr.nil n0
  have K0 : Keep h0 h0 [] := Keep.refl h0 _
  refine OGo.start (g' := mkF m 0 #[.val (.ref a0)] []) (efx) ?_
  show OGo p.tables e below (P11 Z a0 x h0 n0 s) (s₁.setTop (mkF m 0 #[.val (.ref a0)] []))
  refine OGo.go (B := s₁.setTop (mkF m 1 #[.val (.ref a0)] [(.ref a0)])) ?_ (fun tX kX => XS.aloadN X0.here hx rfl (hb hby d11_0) rfl rfl kX)
  obtain ⟨T1, X1, e1, st1⟩ := getF X0 hx hZ hown (host := "") (Or.inl (hw _ (List.mem_of_getElem? (i := 15) rfl))) Via.refl e0 F_limit_a0 (g := (mkF m 1 #[.val (.ref a0)] [(.ref a0)])) rfl rfl (hb hby d11_1)
  refine OGo.go (B := T1.setTop (mkF m 4 #[.val (.ref a0)] [(.long x)])) ?_ st1
  refine OGo.ret X1 (v := (some (.long x))) (fun h => by rw [Bd.returns] at h; cases h) (BodyLoose.notSynchronized Bd) (fun fs hr => retOut X1 hx Bd.returns rfl (Or.inr (Or.inl ⟨rfl, rfl, _, rfl⟩)) (hb hby d11_4) hr) (Q := Q11 Z a0 x h0 n0) ?_ (by decide) (by decide)
  show Q11 Z a0 x h0 n0 _ T1.heap _
  rw [e1]
  exact ⟨rfl, N0, rfl⟩
theorem d12_0 : decode prog_1_method_9_code 0 = .ok (.aload_n 0, 1) := by decide +kernel
theorem d12_1 : decode prog_1_method_9_code 1 = .ok (.getfield 22, 3) := by decide +kernel
theorem d12_4 : decode prog_1_method_9_code 4 = .ok (.lreturn, 1) := by decide +kernel
def Q12 (Z : State) (a0 : Addr) (x : Int64) (h0 : Heap) (n0 : Nat) (v : Option Value) (h : Heap) (L : List Loc) : Prop := v = some (.long x) ∧ Fr n0 L ∧ h = h0
def P12 (Z : State) (a0 : Addr) (x : Int64) (h0 : Heap) (n0 : Nat) (s : State) (o : Outcome) (U' : State) : Prop := ∃ v L, o = .returned v ∧ Q12 Z a0 x h0 n0 v U'.heap L ∧ FrameEnd s o U' L ({ frames := 0, cells := 0, slots := 0, locals := 0 } : Room).cells ({ frames := 0, cells := 0, slots := 0, locals := 0 } : Room).slots
set_option maxRecDepth 65536 in
set_option maxHeartbeats 40000000 in
theorem rm12 (l : Launch) (Z : State) (aV : Array Value) (hw : ∀ d ∈ tables_1, d.before aV Z = true) (ws : List Jvm.Cond) (a0 : Addr) (x : Int64) (h0 : Heap) (n0 : Nat) (Z0 : n0 ≤ h0.size) (F_offset_a0 : Fld Z h0 a0 "com/example/lotd/lotd/api/Paging" "offset" "J" (.long x)) :
    MetFree l (⟨"com/example/lotd/lotd/api/Paging", "offset", "()J"⟩ : MethodName) (head1 (Jvm.Cond.code (⟨"com/example/lotd/lotd/api/Paging", "offset", "()J"⟩ : MethodName) prog_1_method_9_code 1 (some .long) :: ws) ({ frames := 0, cells := 0, slots := 0, locals := 0 } : Room)) (fun a U => a = #[(.ref a0)] ∧ Z.Warmed39 U.vm ∧ U.heap = h0) (fun _ _ _ _ _ => True) (fun _ U o U' => ∃ v L, o = .returned v ∧ Q12 Z a0 x h0 n0 v U'.heap L ∧ FrameEnd U o U' L ({ frames := 0, cells := 0, slots := 0, locals := 0 } : Room).cells ({ frames := 0, cells := 0, slots := 0, locals := 0 } : Room).slots) := by
  refine MetFree.of_bodySF (plainFor_of_name pn_com_example_lotd_lotd_api_Paging) hisR ?_
  intro p e s m args below meth c s₁ Bd hml0 hP hK
  obtain ⟨rfl, hZ, hh⟩ := hP
  have hx := Bd.exec
  have hby := Bd.bytes
  have hml : c.maxLocals = 1 := hml0
  have hown : s.vm.findClass "com/example/lotd/lotd/api/Paging" = some m.cls := findClass_of_methodNamed Bd.named
  have hnm := (name_of_methodNamed Bd.named Bd.method).1
  have X0 : Stand p l e ({ frames := 0, cells := 0, slots := 0, locals := 0 } : Room) s m #[(.ref a0)] below meth c s₁ [] 0 0 := Stand.of_body Bd
  have e0 : s₁.heap = h0 := by rw [← hh, Bd.state]; rfl
  have efx : entryFrame m #[(.ref a0)] 1 = mkF m 0 #[.val (.ref a0)] [] := by first | (simp [entryFrame, mkF, argsToLocals, Value.category]; done) | rfl
  have N0 := Fr.nil n0
  have K0 : Keep h0 h0 [] := Keep.refl h0 _
  refine OGo.start (g' := mkF m 0 #[.val (.ref a0)] []) (efx) ?_
  show OGo p.tables e below (P12 Z a0 x h0 n0 s) (s₁.setTop (mkF m 0 #[.val (.ref a0)] []))
  refine OGo.go (B := s₁.setTop (mkF m 1 #[.val (.ref a0)] [(.ref a0)])) ?_ (fun tX kX => XS.aloadN X0.here hx rfl (hb hby d12_0) rfl rfl kX)
  obtain ⟨T1, X1, e1, st1⟩ := getF X0 hx hZ hown (host := "") (Or.inl (hw _ (List.mem_of_getElem? (i := 17) rfl))) Via.refl e0 F_offset_a0 (g := (mkF m 1 #[.val (.ref a0)] [(.ref a0)])) rfl rfl (hb hby d12_1)
  refine OGo.go (B := T1.setTop (mkF m 4 #[.val (.ref a0)] [(.long x)])) ?_ st1
  refine OGo.ret X1 (v := (some (.long x))) (fun h => by rw [Bd.returns] at h; cases h) (BodyLoose.notSynchronized Bd) (fun fs hr => retOut X1 hx Bd.returns rfl (Or.inr (Or.inl ⟨rfl, rfl, _, rfl⟩)) (hb hby d12_4) hr) (Q := Q12 Z a0 x h0 n0) ?_ (by decide) (by decide)
  show Q12 Z a0 x h0 n0 _ T1.heap _
  rw [e1]
  exact ⟨rfl, N0, rfl⟩
theorem d4_0 : decode prog_1_method_3_code 0 = .ok (.invokestatic 67, 3) := by decide +kernel
theorem pd___Ljava_util_Optional_ : parseMethodDescriptor "()Ljava/util/Optional;" = some ⟨[], some (.object "java/util/Optional")⟩ := by decide +kernel
theorem d4_3 : decode prog_1_method_3_code 3 = .ok (.astore_n 3, 1) := by decide +kernel
theorem d4_4 : decode prog_1_method_3_code 4 = .ok (.aload_n 0, 1) := by decide +kernel
theorem d4_5 : decode prog_1_method_3_code 5 = .ok (.getfield 16, 3) := by decide +kernel
theorem d4_8 : decode prog_1_method_3_code 8 = .ok (.lload_n 1, 1) := by decide +kernel
theorem d4_9 : decode prog_1_method_3_code 9 = .ok (.aload_n 0, 1) := by decide +kernel
theorem d4_10 : decode prog_1_method_3_code 10 = .ok (.getfield 22, 3) := by decide +kernel
theorem d4_13 : decode prog_1_method_3_code 13 = .ok (.lsub, 1) := by decide +kernel
theorem d4_14 : decode prog_1_method_3_code 14 = .ok (.lcmp, 1) := by decide +kernel
theorem d4_15 : decode prog_1_method_3_code 15 = .ok (.ifCond .ge 27, 3) := by decide +kernel
theorem d4_18 : decode prog_1_method_3_code 18 = .ok (.new 17, 3) := by decide +kernel
theorem d4_21 : decode prog_1_method_3_code 21 = .ok (.dup, 1) := by decide +kernel
theorem d4_22 : decode prog_1_method_3_code 22 = .ok (.aload_n 0, 1) := by decide +kernel
theorem d4_23 : decode prog_1_method_3_code 23 = .ok (.getfield 16, 3) := by decide +kernel
theorem d4_26 : decode prog_1_method_3_code 26 = .ok (.aload_n 0, 1) := by decide +kernel
theorem d4_27 : decode prog_1_method_3_code 27 = .ok (.getfield 22, 3) := by decide +kernel
theorem d4_30 : decode prog_1_method_3_code 30 = .ok (.aload_n 0, 1) := by decide +kernel
theorem d4_31 : decode prog_1_method_3_code 31 = .ok (.getfield 16, 3) := by decide +kernel
theorem d4_34 : decode prog_1_method_3_code 34 = .ok (.ladd, 1) := by decide +kernel
theorem d4_35 : decode prog_1_method_3_code 35 = .ok (.invokespecial 60, 3) := by decide +kernel
theorem pd__JJ_V : parseMethodDescriptor "(JJ)V" = some ⟨[.long, .long], none⟩ := by decide +kernel
theorem d4_38 : decode prog_1_method_3_code 38 = .ok (.invokestatic 73, 3) := by decide +kernel
theorem pd__Ljava_lang_Object__Ljava_util_Optional_ : parseMethodDescriptor "(Ljava/lang/Object;)Ljava/util/Optional;" = some ⟨[(.object "java/lang/Object")], some (.object "java/util/Optional")⟩ := by decide +kernel
theorem d4_41 : decode prog_1_method_3_code 41 = .ok (.astore_n 3, 1) := by decide +kernel
theorem d4_42 : decode prog_1_method_3_code 42 = .ok (.aload_n 3, 1) := by decide +kernel
theorem d4_43 : decode prog_1_method_3_code 43 = .ok (.areturn, 1) := by decide +kernel
def Q4y (Z : State) (a0 : Addr) (q1 : Int64) (lim : Int64) (off : Int64) (w : Addr) (h0 : Heap) (n0 : Nat) (v : Option Value) (h : Heap) (L : List Loc) : Prop := ∃ (b : Addr) (nx : Addr), v = some (.ref b) ∧ Fr n0 L ∧ Keep h0 h [] ∧ h0.size ≤ b ∧ h0.size ≤ nx ∧ Exa Z h b "java/util/Optional" ∧ Fld Z h b "java/util/Optional" "value" "Ljava/lang/Object;" (.ref nx) ∧ Exa Z h nx "com/example/lotd/lotd/api/Paging" ∧ Fld Z h nx "com/example/lotd/lotd/api/Paging" "limit" "J" (.long lim) ∧ Fld Z h nx "com/example/lotd/lotd/api/Paging" "offset" "J" (.long (off + lim))
def P4y (Z : State) (a0 : Addr) (q1 : Int64) (lim : Int64) (off : Int64) (w : Addr) (h0 : Heap) (n0 : Nat) (s : State) (o : Outcome) (U' : State) : Prop := ∃ v L, o = .returned v ∧ Q4y Z a0 q1 lim off w h0 n0 v U'.heap L ∧ FrameEnd s o U' L ({ frames := 3, cells := 2, slots := 3, locals := 41 } : Room).cells ({ frames := 3, cells := 2, slots := 3, locals := 41 } : Room).slots
set_option maxRecDepth 65536 in
set_option maxHeartbeats 40000000 in
theorem rm4y (l : Launch) (Z : State) (aV : Array Value) (hw : ∀ d ∈ tables_1, d.before aV Z = true) (ws : List Jvm.Cond) (a0 : Addr) (q1 : Int64) (lim : Int64) (off : Int64) (w : Addr) (h0 : Heap) (n0 : Nat) (Z0 : n0 ≤ h0.size) (E_a0 : Exa Z h0 a0 "com/example/lotd/lotd/api/Paging") (F_limit_a0 : Fld Z h0 a0 "com/example/lotd/lotd/api/Paging" "limit" "J" (.long lim)) (F_offset_a0 : Fld Z h0 a0 "com/example/lotd/lotd/api/Paging" "offset" "J" (.long off)) (S_EMPTY : Sta Z h0 "java/util/Optional" "EMPTY" "Ljava/util/Optional;" (.ref w)) (E_w : Exa Z h0 w "java/util/Optional") (F_value_w : Fld Z h0 w "java/util/Optional" "value" "Ljava/lang/Object;" .null) (hy : lim < (q1 - off)) (hq1 : ¬ lim < (1 : Int64)) (hq2 : ¬ (off + lim) < (0 : Int64)) :
    MetFree l (⟨"com/example/lotd/lotd/api/Paging", "next", "(J)Ljava/util/Optional;"⟩ : MethodName) (head1 (Jvm.Cond.code (⟨"com/example/lotd/lotd/api/Paging", "next", "(J)Ljava/util/Optional;"⟩ : MethodName) prog_1_method_3_code 4 (some (.object "java/util/Optional")) :: ws) ({ frames := 3, cells := 2, slots := 3, locals := 41 } : Room)) (fun a U => a = #[(.ref a0), (.long q1)] ∧ Z.Warmed39 U.vm ∧ U.heap = h0) (fun _ _ _ _ _ => True) (fun _ U o U' => ∃ v L, o = .returned v ∧ Q4y Z a0 q1 lim off w h0 n0 v U'.heap L ∧ FrameEnd U o U' L ({ frames := 3, cells := 2, slots := 3, locals := 41 } : Room).cells ({ frames := 3, cells := 2, slots := 3, locals := 41 } : Room).slots) := by
  refine MetFree.of_bodySF (plainFor_of_name pn_com_example_lotd_lotd_api_Paging) hisR ?_
  intro p e s m args below meth c s₁ Bd hml0 hP hK
  obtain ⟨rfl, hZ, hh⟩ := hP
  have hx := Bd.exec
  have hby := Bd.bytes
  have hml : c.maxLocals = 4 := hml0
  have hown : s.vm.findClass "com/example/lotd/lotd/api/Paging" = some m.cls := findClass_of_methodNamed Bd.named
  have hnm := (name_of_methodNamed Bd.named Bd.method).1
  have X0 : Stand p l e ({ frames := 3, cells := 2, slots := 3, locals := 41 } : Room) s m #[(.ref a0), (.long q1)] below meth c s₁ [] 0 0 := Stand.of_body Bd
  have e0 : s₁.heap = h0 := by rw [← hh, Bd.state]; rfl
  have efx : entryFrame m #[(.ref a0), (.long q1)] 4 = mkF m 0 #[.val (.ref a0), .val (.long q1), .second, .unset] [] := by first | (simp [entryFrame, mkF, argsToLocals, Value.category]; done) | rfl
  have N0 := Fr.nil n0
  have K0 : Keep h0 h0 [] := Keep.refl h0 _
  refine OGo.start (g' := mkF m 0 #[.val (.ref a0), .val (.long q1), .second, .unset] []) (efx) ?_
  show OGo p.tables e below (P4y Z a0 q1 lim off w h0 n0 s) (s₁.setTop (mkF m 0 #[.val (.ref a0), .val (.long q1), .second, .unset] []))
  obtain ⟨_, _, ⟨T1, L1, k1, n1⟩, -, X1, ⟨Lc1, hQ1, l1, y1, z1⟩, st1⟩ := Jvm.LawKit.callS X0 hx (y := (⟨"java/util/Optional", "empty", "()Ljava/util/Optional;"⟩ : MethodName)) hown (mvT hZ (hw _ (List.mem_of_getElem? (i := 24) rfl))) (mvT hZ (hw _ (List.mem_of_getElem? (i := 25) rfl))) (mvT hZ (hw _ (List.mem_of_getElem? (i := 26) rfl))) (mvT hZ (hw _ (List.mem_of_getElem? (i := 27) rfl))) (by decide) (backOf (W := 0) (rm5 l Z aV hw [] w h0 n0 Z0 S_EMPTY) hZ (hw _ (List.mem_of_getElem? (i := 27) rfl)) (hw _ (List.mem_of_getElem? (i := 26) rfl)) (by decide) (by decide)) (g := (mkF m 0 #[.val (.ref a0), .val (.long q1), .second, .unset] [])) rfl (by rw [hml]; rfl) (argsL := []) (rest := []) (lenOf pd___Ljava_util_Optional_ rfl) rfl (by show 2 * 0 + _ ≤ _; exact Nat.le_of_eq rfl) (hb hby d4_0) (fun _ _ => ⟨rfl, e0, (by decide : 0 + 0 ≤ _), (by decide : 0 + 0 ≤ _)⟩)
  dsimp only [Pt.U, Pt.locs, Pt.cells, Pt.slots] at X1 l1 y1 z1 st1 hQ1
  subst l1 y1 z1
  obtain ⟨rfl, N1q, e1⟩ := hQ1
  have N1 := Fr.app N0 N1q
  refine OGo.go (B := T1.setTop (mkF m 3 #[.val (.ref a0), .val (.long q1), .second, .unset] [(.ref w)])) ?_ st1
  refine OGo.go (B := T1.setTop (mkF m 4 #[.val (.ref a0), .val (.long q1), .second, .val (.ref w)] [])) ?_ (fun tX kX => XS.astoreN X1.here hx rfl (hb hby d4_3) rfl rfl (l' := #[.val (.ref a0), .val (.long q1), .second, .val (.ref w)]) rfl kX)
  refine OGo.go (B := T1.setTop (mkF m 5 #[.val (.ref a0), .val (.long q1), .second, .val (.ref w)] [(.ref a0)])) ?_ (fun tX kX => XS.aloadN X1.here hx rfl (hb hby d4_4) rfl rfl kX)
  obtain ⟨T2, X2, e2, st2⟩ := getF X1 hx hZ hown (host := "") (Or.inl (hw _ (List.mem_of_getElem? (i := 15) rfl))) Via.refl e1 F_limit_a0 (g := (mkF m 5 #[.val (.ref a0), .val (.long q1), .second, .val (.ref w)] [(.ref a0)])) rfl rfl (hb hby d4_5)
  refine OGo.go (B := T2.setTop (mkF m 8 #[.val (.ref a0), .val (.long q1), .second, .val (.ref w)] [(.long lim)])) ?_ st2
  refine OGo.go (B := T2.setTop (mkF m 9 #[.val (.ref a0), .val (.long q1), .second, .val (.ref w)] [(.long q1), (.long lim)])) ?_ (fun tX kX => XS.lloadN X2.here hx rfl (hb hby d4_8) rfl kX)
  refine OGo.go (B := T2.setTop (mkF m 10 #[.val (.ref a0), .val (.long q1), .second, .val (.ref w)] [(.ref a0), (.long q1), (.long lim)])) ?_ (fun tX kX => XS.aloadN X2.here hx rfl (hb hby d4_9) rfl rfl kX)
  obtain ⟨T3, X3, e3, st3⟩ := getF X2 hx hZ hown (host := "") (Or.inl (hw _ (List.mem_of_getElem? (i := 17) rfl))) Via.refl e2 F_offset_a0 (g := (mkF m 10 #[.val (.ref a0), .val (.long q1), .second, .val (.ref w)] [(.ref a0), (.long q1), (.long lim)])) rfl rfl (hb hby d4_10)
  refine OGo.go (B := T3.setTop (mkF m 13 #[.val (.ref a0), .val (.long q1), .second, .val (.ref w)] [(.long off), (.long q1), (.long lim)])) ?_ st3
  refine OGo.go (B := T3.setTop (mkF m 14 #[.val (.ref a0), .val (.long q1), .second, .val (.ref w)] [(.long (q1 - off)), (.long lim)])) ?_ (fun tX kX => XS.lsub X3.here hx rfl (hb hby d4_13) rfl kX)
  refine OGo.go (B := T3.setTop (mkF m 15 #[.val (.ref a0), .val (.long q1), .second, .val (.ref w)] [(.int (lcmpW lim (q1 - off)))])) ?_ (fun tX kX => XS.lcmp X3.here hx rfl (hb hby d4_14) rfl kX)
  refine OGo.go (B := T3.setTop (mkF m 18 #[.val (.ref a0), .val (.long q1), .second, .val (.ref w)] [])) ?_ (fun tX kX => XS.ifNo X3.here hx rfl (hb hby d4_15) rfl ((if0 _ _).trans (tlt ((lw_lt _ _).mpr hy)).2.1) kX)
  obtain ⟨T4, h4, X4, e4, E4, A4, D4, C4, st4⟩ := newO X3 hx hZ hown (hw _ (List.mem_of_getElem? (i := 29) rfl)) (hw _ (List.mem_of_getElem? (i := 2) rfl)) (hw _ (List.mem_of_getElem? (i := 3) rfl)) e3 (g := (mkF m 18 #[.val (.ref a0), .val (.long q1), .second, .val (.ref w)] [])) rfl (hb hby d4_18) (by decide) (by decide)
  obtain ⟨b4, g4⟩ : ∃ z, z = h0.size := ⟨_, rfl⟩
  rw [← g4] at A4 D4 st4 C4
  have ne_a0_b4 : a0 ≠ b4 := Nat.ne_of_lt (Nat.lt_of_lt_of_le E_a0.lt (Nat.le_of_eq g4.symm))
  have ne_w_b4 : w ≠ b4 := Nat.ne_of_lt (Nat.lt_of_lt_of_le E_w.lt (Nat.le_of_eq g4.symm))
  have E_a0 := E_a0.ext E4
  have F_limit_a0 := F_limit_a0.ext E4
  have F_offset_a0 := F_offset_a0.ext E4
  have S_EMPTY := S_EMPTY.ext E4
  have E_w := E_w.ext E4
  have F_value_w := F_value_w.ext E4
  have g_b4 : n0 ≤ b4 := Nat.le_trans Z0 (Nat.le_of_eq g4.symm)
  have sz_b4 : h0.size ≤ b4 := Nat.le_trans K0.1 (Nat.le_of_eq g4.symm)
  have zn4 : n0 ≤ h4.size := Nat.le_trans Z0 E4.1
  have K4 := K0.ext E4
  have E_b4 := A4
  have F_limit_b4 : Fld Z h4 b4 "com/example/lotd/lotd/api/Paging" "limit" "J" (.long (0 : Int64)) := D4 (Or.inr (hw _ (List.mem_of_getElem? (i := 16) rfl))) (ty := .long) (by decide)
  have F_offset_b4 : Fld Z h4 b4 "com/example/lotd/lotd/api/Paging" "offset" "J" (.long (0 : Int64)) := D4 (Or.inr (hw _ (List.mem_of_getElem? (i := 18) rfl))) (ty := .long) (by decide)
  refine OGo.go (B := T4.setTop (mkF m 21 #[.val (.ref a0), .val (.long q1), .second, .val (.ref w)] [(.ref b4)])) ?_ st4
  refine OGo.go (B := T4.setTop (mkF m 22 #[.val (.ref a0), .val (.long q1), .second, .val (.ref w)] [(.ref b4), (.ref b4)])) ?_ (fun tX kX => XS.dup X4.here hx rfl (hb hby d4_21) rfl rfl kX)
  refine OGo.go (B := T4.setTop (mkF m 23 #[.val (.ref a0), .val (.long q1), .second, .val (.ref w)] [(.ref a0), (.ref b4), (.ref b4)])) ?_ (fun tX kX => XS.aloadN X4.here hx rfl (hb hby d4_22) rfl rfl kX)
  obtain ⟨T5, X5, e5, st5⟩ := getF X4 hx hZ hown (host := "") (Or.inl (hw _ (List.mem_of_getElem? (i := 15) rfl))) Via.refl e4 F_limit_a0 (g := (mkF m 23 #[.val (.ref a0), .val (.long q1), .second, .val (.ref w)] [(.ref a0), (.ref b4), (.ref b4)])) rfl rfl (hb hby d4_23)
  refine OGo.go (B := T5.setTop (mkF m 26 #[.val (.ref a0), .val (.long q1), .second, .val (.ref w)] [(.long lim), (.ref b4), (.ref b4)])) ?_ st5
  refine OGo.go (B := T5.setTop (mkF m 27 #[.val (.ref a0), .val (.long q1), .second, .val (.ref w)] [(.ref a0), (.long lim), (.ref b4), (.ref b4)])) ?_ (fun tX kX => XS.aloadN X5.here hx rfl (hb hby d4_26) rfl rfl kX)
  obtain ⟨T6, X6, e6, st6⟩ := getF X5 hx hZ hown (host := "") (Or.inl (hw _ (List.mem_of_getElem? (i := 17) rfl))) Via.refl e5 F_offset_a0 (g := (mkF m 27 #[.val (.ref a0), .val (.long q1), .second, .val (.ref w)] [(.ref a0), (.long lim), (.ref b4), (.ref b4)])) rfl rfl (hb hby d4_27)
  refine OGo.go (B := T6.setTop (mkF m 30 #[.val (.ref a0), .val (.long q1), .second, .val (.ref w)] [(.long off), (.long lim), (.ref b4), (.ref b4)])) ?_ st6
  refine OGo.go (B := T6.setTop (mkF m 31 #[.val (.ref a0), .val (.long q1), .second, .val (.ref w)] [(.ref a0), (.long off), (.long lim), (.ref b4), (.ref b4)])) ?_ (fun tX kX => XS.aloadN X6.here hx rfl (hb hby d4_30) rfl rfl kX)
  obtain ⟨T7, X7, e7, st7⟩ := getF X6 hx hZ hown (host := "") (Or.inl (hw _ (List.mem_of_getElem? (i := 15) rfl))) Via.refl e6 F_limit_a0 (g := (mkF m 31 #[.val (.ref a0), .val (.long q1), .second, .val (.ref w)] [(.ref a0), (.long off), (.long lim), (.ref b4), (.ref b4)])) rfl rfl (hb hby d4_31)
  refine OGo.go (B := T7.setTop (mkF m 34 #[.val (.ref a0), .val (.long q1), .second, .val (.ref w)] [(.long lim), (.long off), (.long lim), (.ref b4), (.ref b4)])) ?_ st7
  refine OGo.go (B := T7.setTop (mkF m 35 #[.val (.ref a0), .val (.long q1), .second, .val (.ref w)] [(.long (off + lim)), (.long lim), (.ref b4), (.ref b4)])) ?_ (fun tX kX => XS.ladd X7.here hx rfl (hb hby d4_34) rfl kX)
  obtain ⟨_, _, ⟨T8, L8, k8, n8⟩, -, X8, ⟨Lc8, hQ8, l8, y8, z8⟩, st8⟩ := X7.specialBack hx (y := (⟨"com/example/lotd/lotd/api/Paging", "<init>", "(JJ)V"⟩ : MethodName)) rfl hown (mvT hZ (hw _ (List.mem_of_getElem? (i := 30) rfl))) (mvT hZ (hw _ (List.mem_of_getElem? (i := 5) rfl))) (mvT hZ (hw _ (List.mem_of_getElem? (i := 6) rfl))) (by decide) (backOf (W := 1) (rm1 l Z aV hw [] b4 lim (off + lim) (.long (0 : Int64)) (.long (0 : Int64)) h4 n0 zn4 E_b4 F_limit_b4 F_offset_b4 g_b4 hq1 hq2) hZ (hw _ (List.mem_of_getElem? (i := 6) rfl)) (hw _ (List.mem_of_getElem? (i := 3) rfl)) (by decide) (by decide)) (g := (mkF m 35 #[.val (.ref a0), .val (.long q1), .second, .val (.ref w)] [(.long (off + lim)), (.long lim), (.ref b4), (.ref b4)])) rfl (by rw [hml]; rfl) (Steps.refl _) (a := b4) (argsL := [(.long lim), (.long (off + lim))]) (rest := [(.ref b4)]) (lenOf pd__JJ_V rfl) rfl (by show 2 * 0 + _ ≤ _; exact Nat.le_of_eq rfl) (hb hby d4_35) (fun _ _ => ⟨rfl, e7, (by decide : 1 + 0 ≤ _), (by decide : 2 + 0 ≤ _)⟩)
  dsimp only [Pt.U, Pt.locs, Pt.cells, Pt.slots] at X8 l8 y8 z8 st8 hQ8
  subst l8 y8 z8
  obtain ⟨rfl, N8q, Kq8, E_b4_p, F_limit_b4_p, F_offset_b4_p⟩ := hQ8
  have N8 := Fr.app N1 N8q
  have S_EMPTY := Sta.keepE S_EMPTY Kq8 (staS E_b4.cell (fun x hx' => nomatch hx'))
  have E_a0 := E_a0.keep Kq8
  have F_limit_a0 := F_limit_a0.keep Kq8 (ninS ne_a0_b4 nin0)
  have F_offset_a0 := F_offset_a0.keep Kq8 (ninS ne_a0_b4 nin0)
  have E_w := E_w.keep Kq8
  have F_value_w := F_value_w.keep Kq8 (ninS ne_w_b4 nin0)
  have E_b4 := E_b4.keep Kq8
  have K8 := K4.trans Kq8 (allS (P := fun x => x ∈ ([] : List Addr) ∨ h0.size ≤ x) (Or.inr sz_b4) all0)
  have zn8 : n0 ≤ T8.heap.size := Nat.le_trans zn4 Kq8.1
  have E_b4 := E_b4_p
  have F_limit_b4 := F_limit_b4_p
  have F_offset_b4 := F_offset_b4_p
  refine OGo.go (B := T8.setTop (mkF m 38 #[.val (.ref a0), .val (.long q1), .second, .val (.ref w)] [(.ref b4)])) ?_ (fun tX kX => st8.trans kX)
  obtain ⟨_, _, ⟨T9, L9, k9, n9⟩, -, X9, ⟨Lc9, hQ9, l9, y9, z9⟩, st9⟩ := Jvm.LawKit.callS X8 hx (y := (⟨"java/util/Optional", "of", "(Ljava/lang/Object;)Ljava/util/Optional;"⟩ : MethodName)) hown (mvT hZ (hw _ (List.mem_of_getElem? (i := 31) rfl))) (mvT hZ (hw _ (List.mem_of_getElem? (i := 32) rfl))) (mvT hZ (hw _ (List.mem_of_getElem? (i := 26) rfl))) (mvT hZ (hw _ (List.mem_of_getElem? (i := 33) rfl))) (by decide) (backOf (W := 0) (rm6 l Z aV hw [] b4 T8.heap n0 zn8) hZ (hw _ (List.mem_of_getElem? (i := 33) rfl)) (hw _ (List.mem_of_getElem? (i := 26) rfl)) (by decide) (by decide)) (g := (mkF m 38 #[.val (.ref a0), .val (.long q1), .second, .val (.ref w)] [(.ref b4)])) rfl (by rw [hml]; rfl) (argsL := [(.ref b4)]) (rest := []) (lenOf pd__Ljava_lang_Object__Ljava_util_Optional_ rfl) rfl (by show 2 * 0 + _ ≤ _; exact Nat.le_of_eq rfl) (hb hby d4_38) (fun _ _ => ⟨rfl, rfl, (by decide : 1 + 1 ≤ _), (by decide : 2 + 1 ≤ _)⟩)
  dsimp only [Pt.U, Pt.locs, Pt.cells, Pt.slots] at X9 l9 y9 z9 st9 hQ9
  subst l9 y9 z9
  obtain ⟨b_9, rfl, N9q, Kq9, sz9_b, E_b_9_p, F_value_b_9_p⟩ := hQ9
  have N9 := Fr.app N8 N9q
  have ne_a0_b_9 : a0 ≠ b_9 := Nat.ne_of_lt (Nat.lt_of_lt_of_le E_a0.lt sz9_b)
  have ne_w_b_9 : w ≠ b_9 := Nat.ne_of_lt (Nat.lt_of_lt_of_le E_w.lt sz9_b)
  have ne_b4_b_9 : b4 ≠ b_9 := Nat.ne_of_lt (Nat.lt_of_lt_of_le E_b4.lt sz9_b)
  have S_EMPTY := Sta.keep0 S_EMPTY Kq9
  have E_a0 := E_a0.keep Kq9
  have F_limit_a0 := F_limit_a0.keep Kq9 nin0
  have F_offset_a0 := F_offset_a0.keep Kq9 nin0
  have E_w := E_w.keep Kq9
  have F_value_w := F_value_w.keep Kq9 nin0
  have E_b4 := E_b4.keep Kq9
  have F_limit_b4 := F_limit_b4.keep Kq9 nin0
  have F_offset_b4 := F_offset_b4.keep Kq9 nin0
  have g_b_9 : n0 ≤ b_9 := Nat.le_trans zn8 sz9_b
  have sz_b_9 : h0.size ≤ b_9 := Nat.le_trans K8.1 sz9_b
  have K9 := K8.trans Kq9 all0
  have zn9 : n0 ≤ T9.heap.size := Nat.le_trans zn8 Kq9.1
  have E_b_9 := E_b_9_p
  have F_value_b_9 := F_value_b_9_p
  refine OGo.go (B := T9.setTop (mkF m 41 #[.val (.ref a0), .val (.long q1), .second, .val (.ref w)] [(.ref b_9)])) ?_ st9
  refine OGo.go (B := T9.setTop (mkF m 42 #[.val (.ref a0), .val (.long q1), .second, .val (.ref b_9)] [])) ?_ (fun tX kX => XS.astoreN X9.here hx rfl (hb hby d4_41) rfl rfl (l' := #[.val (.ref a0), .val (.long q1), .second, .val (.ref b_9)]) rfl kX)
  refine OGo.go (B := T9.setTop (mkF m 43 #[.val (.ref a0), .val (.long q1), .second, .val (.ref b_9)] [(.ref b_9)])) ?_ (fun tX kX => XS.aloadN X9.here hx rfl (hb hby d4_42) rfl rfl kX)
  refine OGo.ret X9 (v := (some (.ref b_9))) (fun h => by rw [Bd.returns] at h; cases h) (BodyLoose.notSynchronized Bd) (fun fs hr => retOut X9 hx Bd.returns rfl (Or.inr (Or.inr (Or.inr (Or.inr ⟨rfl, rfl, rfl⟩)))) (hb hby d4_43) hr) (Q := Q4y Z a0 q1 lim off w h0 n0) ?_ (by decide) (by decide)
  show Q4y Z a0 q1 lim off w h0 n0 _ T9.heap _
  exact ⟨b_9, b4, rfl, N9, K9, sz_b_9, sz_b4, E_b_9, F_value_b_9, E_b4, F_limit_b4, F_offset_b4⟩
def Q4n (Z : State) (a0 : Addr) (q1 : Int64) (lim : Int64) (off : Int64) (w : Addr) (h0 : Heap) (n0 : Nat) (v : Option Value) (h : Heap) (L : List Loc) : Prop := v = some (.ref w) ∧ Fr n0 L ∧ h = h0
def P4n (Z : State) (a0 : Addr) (q1 : Int64) (lim : Int64) (off : Int64) (w : Addr) (h0 : Heap) (n0 : Nat) (s : State) (o : Outcome) (U' : State) : Prop := ∃ v L, o = .returned v ∧ Q4n Z a0 q1 lim off w h0 n0 v U'.heap L ∧ FrameEnd s o U' L ({ frames := 1, cells := 0, slots := 0, locals := 12 } : Room).cells ({ frames := 1, cells := 0, slots := 0, locals := 12 } : Room).slots
set_option maxRecDepth 65536 in
set_option maxHeartbeats 40000000 in
theorem rm4n (l : Launch) (Z : State) (aV : Array Value) (hw : ∀ d ∈ tables_1, d.before aV Z = true) (ws : List Jvm.Cond) (a0 : Addr) (q1 : Int64) (lim : Int64) (off : Int64) (w : Addr) (h0 : Heap) (n0 : Nat) (Z0 : n0 ≤ h0.size) (E_a0 : Exa Z h0 a0 "com/example/lotd/lotd/api/Paging") (F_limit_a0 : Fld Z h0 a0 "com/example/lotd/lotd/api/Paging" "limit" "J" (.long lim)) (F_offset_a0 : Fld Z h0 a0 "com/example/lotd/lotd/api/Paging" "offset" "J" (.long off)) (S_EMPTY : Sta Z h0 "java/util/Optional" "EMPTY" "Ljava/util/Optional;" (.ref w)) (E_w : Exa Z h0 w "java/util/Optional") (F_value_w : Fld Z h0 w "java/util/Optional" "value" "Ljava/lang/Object;" .null) (hy : ¬ lim < (q1 - off)) :
    MetFree l (⟨"com/example/lotd/lotd/api/Paging", "next", "(J)Ljava/util/Optional;"⟩ : MethodName) (head1 (Jvm.Cond.code (⟨"com/example/lotd/lotd/api/Paging", "next", "(J)Ljava/util/Optional;"⟩ : MethodName) prog_1_method_3_code 4 (some (.object "java/util/Optional")) :: ws) ({ frames := 1, cells := 0, slots := 0, locals := 12 } : Room)) (fun a U => a = #[(.ref a0), (.long q1)] ∧ Z.Warmed39 U.vm ∧ U.heap = h0) (fun _ _ _ _ _ => True) (fun _ U o U' => ∃ v L, o = .returned v ∧ Q4n Z a0 q1 lim off w h0 n0 v U'.heap L ∧ FrameEnd U o U' L ({ frames := 1, cells := 0, slots := 0, locals := 12 } : Room).cells ({ frames := 1, cells := 0, slots := 0, locals := 12 } : Room).slots) := by
  refine MetFree.of_bodySF (plainFor_of_name pn_com_example_lotd_lotd_api_Paging) hisR ?_
  intro p e s m args below meth c s₁ Bd hml0 hP hK
  obtain ⟨rfl, hZ, hh⟩ := hP
  have hx := Bd.exec
  have hby := Bd.bytes
  have hml : c.maxLocals = 4 := hml0
  have hown : s.vm.findClass "com/example/lotd/lotd/api/Paging" = some m.cls := findClass_of_methodNamed Bd.named
  have hnm := (name_of_methodNamed Bd.named Bd.method).1
  have X0 : Stand p l e ({ frames := 1, cells := 0, slots := 0, locals := 12 } : Room) s m #[(.ref a0), (.long q1)] below meth c s₁ [] 0 0 := Stand.of_body Bd
  have e0 : s₁.heap = h0 := by rw [← hh, Bd.state]; rfl
  have efx : entryFrame m #[(.ref a0), (.long q1)] 4 = mkF m 0 #[.val (.ref a0), .val (.long q1), .second, .unset] [] := by first | (simp [entryFrame, mkF, argsToLocals, Value.category]; done) | rfl
  have N0 := Fr.nil n0
  have K0 : Keep h0 h0 [] := Keep.refl h0 _
  refine OGo.start (g' := mkF m 0 #[.val (.ref a0), .val (.long q1), .second, .unset] []) (efx) ?_
  show OGo p.tables e below (P4n Z a0 q1 lim off w h0 n0 s) (s₁.setTop (mkF m 0 #[.val (.ref a0), .val (.long q1), .second, .unset] []))
  obtain ⟨_, _, ⟨T1, L1, k1, n1⟩, -, X1, ⟨Lc1, hQ1, l1, y1, z1⟩, st1⟩ := Jvm.LawKit.callS X0 hx (y := (⟨"java/util/Optional", "empty", "()Ljava/util/Optional;"⟩ : MethodName)) hown (mvT hZ (hw _ (List.mem_of_getElem? (i := 24) rfl))) (mvT hZ (hw _ (List.mem_of_getElem? (i := 25) rfl))) (mvT hZ (hw _ (List.mem_of_getElem? (i := 26) rfl))) (mvT hZ (hw _ (List.mem_of_getElem? (i := 27) rfl))) (by decide) (backOf (W := 0) (rm5 l Z aV hw [] w h0 n0 Z0 S_EMPTY) hZ (hw _ (List.mem_of_getElem? (i := 27) rfl)) (hw _ (List.mem_of_getElem? (i := 26) rfl)) (by decide) (by decide)) (g := (mkF m 0 #[.val (.ref a0), .val (.long q1), .second, .unset] [])) rfl (by rw [hml]; rfl) (argsL := []) (rest := []) (lenOf pd___Ljava_util_Optional_ rfl) rfl (by show 2 * 0 + _ ≤ _; exact Nat.le_of_eq rfl) (hb hby d4_0) (fun _ _ => ⟨rfl, e0, (by decide : 0 + 0 ≤ _), (by decide : 0 + 0 ≤ _)⟩)
  dsimp only [Pt.U, Pt.locs, Pt.cells, Pt.slots] at X1 l1 y1 z1 st1 hQ1
  subst l1 y1 z1
  obtain ⟨rfl, N1q, e1⟩ := hQ1
  have N1 := Fr.app N0 N1q
  refine OGo.go (B := T1.setTop (mkF m 3 #[.val (.ref a0), .val (.long q1), .second, .unset] [(.ref w)])) ?_ st1
  refine OGo.go (B := T1.setTop (mkF m 4 #[.val (.ref a0), .val (.long q1), .second, .val (.ref w)] [])) ?_ (fun tX kX => XS.astoreN X1.here hx rfl (hb hby d4_3) rfl rfl (l' := #[.val (.ref a0), .val (.long q1), .second, .val (.ref w)]) rfl kX)
  refine OGo.go (B := T1.setTop (mkF m 5 #[.val (.ref a0), .val (.long q1), .second, .val (.ref w)] [(.ref a0)])) ?_ (fun tX kX => XS.aloadN X1.here hx rfl (hb hby d4_4) rfl rfl kX)
  obtain ⟨T2, X2, e2, st2⟩ := getF X1 hx hZ hown (host := "") (Or.inl (hw _ (List.mem_of_getElem? (i := 15) rfl))) Via.refl e1 F_limit_a0 (g := (mkF m 5 #[.val (.ref a0), .val (.long q1), .second, .val (.ref w)] [(.ref a0)])) rfl rfl (hb hby d4_5)
  refine OGo.go (B := T2.setTop (mkF m 8 #[.val (.ref a0), .val (.long q1), .second, .val (.ref w)] [(.long lim)])) ?_ st2
  refine OGo.go (B := T2.setTop (mkF m 9 #[.val (.ref a0), .val (.long q1), .second, .val (.ref w)] [(.long q1), (.long lim)])) ?_ (fun tX kX => XS.lloadN X2.here hx rfl (hb hby d4_8) rfl kX)
  refine OGo.go (B := T2.setTop (mkF m 10 #[.val (.ref a0), .val (.long q1), .second, .val (.ref w)] [(.ref a0), (.long q1), (.long lim)])) ?_ (fun tX kX => XS.aloadN X2.here hx rfl (hb hby d4_9) rfl rfl kX)
  obtain ⟨T3, X3, e3, st3⟩ := getF X2 hx hZ hown (host := "") (Or.inl (hw _ (List.mem_of_getElem? (i := 17) rfl))) Via.refl e2 F_offset_a0 (g := (mkF m 10 #[.val (.ref a0), .val (.long q1), .second, .val (.ref w)] [(.ref a0), (.long q1), (.long lim)])) rfl rfl (hb hby d4_10)
  refine OGo.go (B := T3.setTop (mkF m 13 #[.val (.ref a0), .val (.long q1), .second, .val (.ref w)] [(.long off), (.long q1), (.long lim)])) ?_ st3
  refine OGo.go (B := T3.setTop (mkF m 14 #[.val (.ref a0), .val (.long q1), .second, .val (.ref w)] [(.long (q1 - off)), (.long lim)])) ?_ (fun tX kX => XS.lsub X3.here hx rfl (hb hby d4_13) rfl kX)
  refine OGo.go (B := T3.setTop (mkF m 15 #[.val (.ref a0), .val (.long q1), .second, .val (.ref w)] [(.int (lcmpW lim (q1 - off)))])) ?_ (fun tX kX => XS.lcmp X3.here hx rfl (hb hby d4_14) rfl kX)
  refine OGo.go (B := T3.setTop (mkF m 42 #[.val (.ref a0), .val (.long q1), .second, .val (.ref w)] [])) ?_ (fun tX kX => XS.ifYes X3.here hx rfl (pc0 := 15) (pc' := 42) rfl (hb hby d4_15) rfl ((if0 _ _).trans (flt (fun q => hy ((lw_lt _ _).mp q))).2.1) (by decide) (by decide) kX)
  refine OGo.go (B := T3.setTop (mkF m 43 #[.val (.ref a0), .val (.long q1), .second, .val (.ref w)] [(.ref w)])) ?_ (fun tX kX => XS.aloadN X3.here hx rfl (hb hby d4_42) rfl rfl kX)
  refine OGo.ret X3 (v := (some (.ref w))) (fun h => by rw [Bd.returns] at h; cases h) (BodyLoose.notSynchronized Bd) (fun fs hr => retOut X3 hx Bd.returns rfl (Or.inr (Or.inr (Or.inr (Or.inr ⟨rfl, rfl, rfl⟩)))) (hb hby d4_43) hr) (Q := Q4n Z a0 q1 lim off w h0 n0) ?_ (by decide) (by decide)
  show Q4n Z a0 q1 lim off w h0 n0 _ T3.heap _
  rw [e3]
  exact ⟨rfl, N1, rfl⟩
theorem pd__J_Ljava_util_Optional_ : parseMethodDescriptor "(J)Ljava/util/Optional;" = some ⟨[.long], some (.object "java/util/Optional")⟩ := by decide +kernel
theorem pd___Z : parseMethodDescriptor "()Z" = some ⟨[], some .boolean⟩ := by decide +kernel
theorem pd___Ljava_lang_Object_ : parseMethodDescriptor "()Ljava/lang/Object;" = some ⟨[], some (.object "java/lang/Object")⟩ := by decide +kernel
theorem pd___J : parseMethodDescriptor "()J" = some ⟨[], some .long⟩ := by decide +kernel
theorem pn_com_example_lotd_lotd_api_PagingNextPinLaw : plainName "com/example/lotd/lotd/api/PagingNextPinLaw" = true := by first | (simp [plainName, overriddenIn]; done) | decide +kernel
def Q0 (Z : State) (q0 : Int64) (q1 : Int64) (q2 : Int64) (p3 : Int32) (w : Addr) (h0 : Heap) (n0 : Nat) (v : Option Value) (h : Heap) (L : List Loc) : Prop := v = some (.int (1 : Int32)) ∧ Fr n0 L
def P0 (Z : State) (q0 : Int64) (q1 : Int64) (q2 : Int64) (p3 : Int32) (w : Addr) (h0 : Heap) (n0 : Nat) (s : State) (o : Outcome) (U' : State) : Prop := ∃ v L, o = .returned v ∧ Q0 Z q0 q1 q2 p3 w h0 n0 v U'.heap L ∧ FrameEnd s o U' L room_1.cells room_1.slots
set_option maxRecDepth 65536 in
set_option maxHeartbeats 40000000 in
theorem rm0 (l : Launch) (Z : State) (aV : Array Value) (hw : ∀ d ∈ tables_1, d.before aV Z = true) (ws : List Jvm.Cond) (q0 : Int64) (q1 : Int64) (q2 : Int64) (p3 : Int32) (w : Addr) (h0 : Heap) (n0 : Nat) (Z0 : n0 ≤ h0.size) (S_EMPTY : Sta Z h0 "java/util/Optional" "EMPTY" "Ljava/util/Optional;" (.ref w)) (E_w : Exa Z h0 w "java/util/Optional") (F_value_w : Fld Z h0 w "java/util/Optional" "value" "Ljava/lang/Object;" .null) :
    MetFree l x (head1 (Jvm.Cond.code x code maxLocals ret :: ws) room_1) (fun a U => a = #[(.long q0), (.long q1), (.long q2), (.int p3)] ∧ Z.Warmed39 U.vm ∧ U.heap = h0) (fun _ _ _ _ _ => True) (fun _ U o U' => ∃ v L, o = .returned v ∧ Q0 Z q0 q1 q2 p3 w h0 n0 v U'.heap L ∧ FrameEnd U o U' L room_1.cells room_1.slots) := by
  refine MetFree.of_bodySF (plainFor_of_name pn_com_example_lotd_lotd_api_PagingNextPinLaw) hisR ?_
  intro p e s m args below meth c s₁ Bd hml0 hP hK
  obtain ⟨rfl, hZ, hh⟩ := hP
  have hx := Bd.exec
  have hby := Bd.bytes
  have hml : c.maxLocals = 19 := hml0
  have hown : s.vm.findClass "com/example/lotd/lotd/api/PagingNextPinLaw" = some m.cls := findClass_of_methodNamed Bd.named
  have hnm := (name_of_methodNamed Bd.named Bd.method).1
  have X0 : Stand p l e room_1 s m #[(.long q0), (.long q1), (.long q2), (.int p3)] below meth c s₁ [] 0 0 := Stand.of_body Bd
  have e0 : s₁.heap = h0 := by rw [← hh, Bd.state]; rfl
  have efx : entryFrame m #[(.long q0), (.long q1), (.long q2), (.int p3)] maxLocals = mkF m 0 #[.val (.long q0), .second, .val (.long q1), .second, .val (.long q2), .second, .val (.int p3), .unset, .unset, .unset, .unset, .unset, .unset, .unset, .unset, .unset, .unset, .unset, .unset] [] := by first | (simp [entryFrame, mkF, argsToLocals, Value.category, maxLocals]; done) | rfl
  have N0 := Fr.nil n0
  have K0 : Keep h0 h0 [] := Keep.refl h0 _
  refine OGo.start (g' := mkF m 0 #[.val (.long q0), .second, .val (.long q1), .second, .val (.long q2), .second, .val (.int p3), .unset, .unset, .unset, .unset, .unset, .unset, .unset, .unset, .unset, .unset, .unset, .unset] []) (efx) ?_
  show OGo p.tables e below (P0 Z q0 q1 q2 p3 w h0 n0 s) (s₁.setTop (mkF m 0 #[.val (.long q0), .second, .val (.long q1), .second, .val (.long q2), .second, .val (.int p3), .unset, .unset, .unset, .unset, .unset, .unset, .unset, .unset, .unset, .unset, .unset, .unset] []))
  have J108 : ∀ (lim off siz : Int64), ¬ lim < (1 : Int64) → ¬ off < (0 : Int64) → ¬ siz < (0 : Int64) → OGo p.tables e below (P0 Z q0 q1 q2 p3 w h0 n0 s) (s₁.setTop (mkF m 108 #[.val (.long q0), .second, .val (.long q1), .second, .val (.long q2), .second, .val (.int p3), .val (.long lim), .second, .val (.long off), .second, .val (.long siz), .second, .unset, .unset, .unset, .unset, .unset, .unset] [])) := by
    intro lim off siz hj1 hj2 hj3
    obtain ⟨T1, h1, X1, e1, E1, A1, D1, C1, st1⟩ := newO X0 hx hZ hown (hw _ (List.mem_of_getElem? (i := 1) rfl)) (hw _ (List.mem_of_getElem? (i := 2) rfl)) (hw _ (List.mem_of_getElem? (i := 3) rfl)) e0 (g := (mkF m 108 #[.val (.long q0), .second, .val (.long q1), .second, .val (.long q2), .second, .val (.int p3), .val (.long lim), .second, .val (.long off), .second, .val (.long siz), .second, .unset, .unset, .unset, .unset, .unset, .unset] [])) rfl (hb hby at_108) (by decide) (by decide)
    obtain ⟨b1, g1⟩ : ∃ z, z = h0.size := ⟨_, rfl⟩
    rw [← g1] at A1 D1 st1 C1
    have ne_w_b1 : w ≠ b1 := Nat.ne_of_lt (Nat.lt_of_lt_of_le E_w.lt (Nat.le_of_eq g1.symm))
    have S_EMPTY := S_EMPTY.ext E1
    have E_w := E_w.ext E1
    have F_value_w := F_value_w.ext E1
    have g_b1 : n0 ≤ b1 := Nat.le_trans Z0 (Nat.le_of_eq g1.symm)
    have sz_b1 : h0.size ≤ b1 := Nat.le_trans K0.1 (Nat.le_of_eq g1.symm)
    have zn1 : n0 ≤ h1.size := Nat.le_trans Z0 E1.1
    have K1 := K0.ext E1
    have E_b1 := A1
    have F_limit_b1 : Fld Z h1 b1 "com/example/lotd/lotd/api/Paging" "limit" "J" (.long (0 : Int64)) := D1 (Or.inr (hw _ (List.mem_of_getElem? (i := 16) rfl))) (ty := .long) (by decide)
    have F_offset_b1 : Fld Z h1 b1 "com/example/lotd/lotd/api/Paging" "offset" "J" (.long (0 : Int64)) := D1 (Or.inr (hw _ (List.mem_of_getElem? (i := 18) rfl))) (ty := .long) (by decide)
    refine OGo.go (B := T1.setTop (mkF m 111 #[.val (.long q0), .second, .val (.long q1), .second, .val (.long q2), .second, .val (.int p3), .val (.long lim), .second, .val (.long off), .second, .val (.long siz), .second, .unset, .unset, .unset, .unset, .unset, .unset] [(.ref b1)])) ?_ st1
    refine OGo.go (B := T1.setTop (mkF m 112 #[.val (.long q0), .second, .val (.long q1), .second, .val (.long q2), .second, .val (.int p3), .val (.long lim), .second, .val (.long off), .second, .val (.long siz), .second, .unset, .unset, .unset, .unset, .unset, .unset] [(.ref b1), (.ref b1)])) ?_ (fun tX kX => XS.dup X1.here hx rfl (hb hby at_111) rfl rfl kX)
    refine OGo.go (B := T1.setTop (mkF m 114 #[.val (.long q0), .second, .val (.long q1), .second, .val (.long q2), .second, .val (.int p3), .val (.long lim), .second, .val (.long off), .second, .val (.long siz), .second, .unset, .unset, .unset, .unset, .unset, .unset] [(.long lim), (.ref b1), (.ref b1)])) ?_ (fun tX kX => XS.lload X1.here hx rfl (hb hby at_112) rfl kX)
    refine OGo.go (B := T1.setTop (mkF m 116 #[.val (.long q0), .second, .val (.long q1), .second, .val (.long q2), .second, .val (.int p3), .val (.long lim), .second, .val (.long off), .second, .val (.long siz), .second, .unset, .unset, .unset, .unset, .unset, .unset] [(.long off), (.long lim), (.ref b1), (.ref b1)])) ?_ (fun tX kX => XS.lload X1.here hx rfl (hb hby at_114) rfl kX)
    obtain ⟨_, _, ⟨T2, L2, k2, n2⟩, -, X2, ⟨Lc2, hQ2, l2, y2, z2⟩, st2⟩ := X1.specialBack hx (y := (⟨"com/example/lotd/lotd/api/Paging", "<init>", "(JJ)V"⟩ : MethodName)) rfl hown (mvT hZ (hw _ (List.mem_of_getElem? (i := 4) rfl))) (mvT hZ (hw _ (List.mem_of_getElem? (i := 5) rfl))) (mvT hZ (hw _ (List.mem_of_getElem? (i := 6) rfl))) (by decide) (backOf (W := 1) (rm1 l Z aV hw [] b1 lim off (.long (0 : Int64)) (.long (0 : Int64)) h1 n0 zn1 E_b1 F_limit_b1 F_offset_b1 g_b1 hj1 hj2) hZ (hw _ (List.mem_of_getElem? (i := 6) rfl)) (hw _ (List.mem_of_getElem? (i := 3) rfl)) (by decide) (by decide)) (g := (mkF m 116 #[.val (.long q0), .second, .val (.long q1), .second, .val (.long q2), .second, .val (.int p3), .val (.long lim), .second, .val (.long off), .second, .val (.long siz), .second, .unset, .unset, .unset, .unset, .unset, .unset] [(.long off), (.long lim), (.ref b1), (.ref b1)])) rfl (by rw [hml]; rfl) (Steps.refl _) (a := b1) (argsL := [(.long lim), (.long off)]) (rest := [(.ref b1)]) (lenOf pd__JJ_V rfl) rfl (by show 2 * 0 + _ ≤ _; exact Nat.le_of_eq rfl) (hb hby at_116) (fun _ _ => ⟨rfl, e1, (by decide : 1 + 0 ≤ _), (by decide : 2 + 0 ≤ _)⟩)
    dsimp only [Pt.U, Pt.locs, Pt.cells, Pt.slots] at X2 l2 y2 z2 st2 hQ2
    subst l2 y2 z2
    obtain ⟨rfl, N2q, Kq2, E_b1_p, F_limit_b1_p, F_offset_b1_p⟩ := hQ2
    have N2 := Fr.app N0 N2q
    have S_EMPTY := Sta.keepE S_EMPTY Kq2 (staS E_b1.cell (fun x hx' => nomatch hx'))
    have E_w := E_w.keep Kq2
    have F_value_w := F_value_w.keep Kq2 (ninS ne_w_b1 nin0)
    have E_b1 := E_b1.keep Kq2
    have K2 := K1.trans Kq2 (allS (P := fun x => x ∈ ([] : List Addr) ∨ h0.size ≤ x) (Or.inr sz_b1) all0)
    have zn2 : n0 ≤ T2.heap.size := Nat.le_trans zn1 Kq2.1
    have E_b1 := E_b1_p
    have F_limit_b1 := F_limit_b1_p
    have F_offset_b1 := F_offset_b1_p
    refine OGo.go (B := T2.setTop (mkF m 119 #[.val (.long q0), .second, .val (.long q1), .second, .val (.long q2), .second, .val (.int p3), .val (.long lim), .second, .val (.long off), .second, .val (.long siz), .second, .unset, .unset, .unset, .unset, .unset, .unset] [(.ref b1)])) ?_ (fun tX kX => st2.trans kX)
    refine OGo.go (B := T2.setTop (mkF m 121 #[.val (.long q0), .second, .val (.long q1), .second, .val (.long q2), .second, .val (.int p3), .val (.long lim), .second, .val (.long off), .second, .val (.long siz), .second, .val (.ref b1), .unset, .unset, .unset, .unset, .unset] [])) ?_ (fun tX kX => XS.astore X2.here hx rfl (hb hby at_119) rfl rfl (l' := #[.val (.long q0), .second, .val (.long q1), .second, .val (.long q2), .second, .val (.int p3), .val (.long lim), .second, .val (.long off), .second, .val (.long siz), .second, .val (.ref b1), .unset, .unset, .unset, .unset, .unset]) rfl kX)
    refine OGo.go (B := T2.setTop (mkF m 123 #[.val (.long q0), .second, .val (.long q1), .second, .val (.long q2), .second, .val (.int p3), .val (.long lim), .second, .val (.long off), .second, .val (.long siz), .second, .val (.ref b1), .unset, .unset, .unset, .unset, .unset] [(.ref b1)])) ?_ (fun tX kX => XS.aload X2.here hx rfl (hb hby at_121) rfl rfl kX)
    refine OGo.go (B := T2.setTop (mkF m 125 #[.val (.long q0), .second, .val (.long q1), .second, .val (.long q2), .second, .val (.int p3), .val (.long lim), .second, .val (.long off), .second, .val (.long siz), .second, .val (.ref b1), .unset, .unset, .unset, .unset, .unset] [(.long siz), (.ref b1)])) ?_ (fun tX kX => XS.lload X2.here hx rfl (hb hby at_123) rfl kX)
    by_cases hy : lim < (siz - off)
    ·
      obtain ⟨cq3, kq3, q3a, q3b, q3c⟩ := isOf hZ rfl E_b1
      obtain ⟨_, _, ⟨T3, L3, k3, n3⟩, -, X3, ⟨Lc3, hQ3, l3, y3, z3⟩, st3⟩ := X2.virtualBack hx (y := (⟨"com/example/lotd/lotd/api/Paging", "next", "(J)Ljava/util/Optional;"⟩ : MethodName)) (z := (⟨"com/example/lotd/lotd/api/Paging", "next", "(J)Ljava/util/Optional;"⟩ : MethodName)) hown (mvT hZ (hw _ (List.mem_of_getElem? (i := 19) rfl))) (mvT hZ (hw _ (List.mem_of_getElem? (i := 20) rfl))) (notFace_of_selects (args := #[]) (mvT hZ (hw _ (List.mem_of_getElem? (i := 22) rfl)))) (mvT hZ (hw _ (List.mem_of_getElem? (i := 22) rfl))) (mvT hZ (hw _ (List.mem_of_getElem? (i := 21) rfl))) (by decide) (backOf (W := 0) (rm4y l Z aV hw [] b1 siz lim off w T2.heap n0 zn2 E_b1 F_limit_b1 F_offset_b1 S_EMPTY E_w F_value_w hy hj1 (own_y hj1 hj2 hj3 hy).1) hZ (hw _ (List.mem_of_getElem? (i := 23) rfl)) (hw _ (List.mem_of_getElem? (i := 3) rfl)) (by decide) (by decide)) q3a q3c (g := (mkF m 125 #[.val (.long q0), .second, .val (.long q1), .second, .val (.long q2), .second, .val (.int p3), .val (.long lim), .second, .val (.long off), .second, .val (.long siz), .second, .val (.ref b1), .unset, .unset, .unset, .unset, .unset] [(.long siz), (.ref b1)])) rfl (by rw [hml]; rfl) (Steps.refl _) (argsL := [(.long siz)]) (rest := []) (lenOf pd__J_Ljava_util_Optional_ rfl) rfl (by show 2 * 0 + _ ≤ _; exact Nat.le_of_eq rfl) (hb hby at_125) (fun _ _ => ⟨rfl, rfl, (by decide : 1 + 2 ≤ _), (by decide : 2 + 3 ≤ _)⟩)
      dsimp only [Pt.U, Pt.locs, Pt.cells, Pt.slots] at X3 l3 y3 z3 st3 hQ3
      subst l3 y3 z3
      obtain ⟨b_3, nx_3, rfl, N3q, Kq3, sz3_b, sz3_nx, E_b_3_p, F_value_b_3_p, E_nx_3_p, F_limit_nx_3_p, F_offset_nx_3_p⟩ := hQ3
      have N3 := Fr.app N2 N3q
      have ne_w_b_3 : w ≠ b_3 := Nat.ne_of_lt (Nat.lt_of_lt_of_le E_w.lt sz3_b)
      have ne_b1_b_3 : b1 ≠ b_3 := Nat.ne_of_lt (Nat.lt_of_lt_of_le E_b1.lt sz3_b)
      have ne_w_nx_3 : w ≠ nx_3 := Nat.ne_of_lt (Nat.lt_of_lt_of_le E_w.lt sz3_nx)
      have ne_b1_nx_3 : b1 ≠ nx_3 := Nat.ne_of_lt (Nat.lt_of_lt_of_le E_b1.lt sz3_nx)
      have S_EMPTY := Sta.keep0 S_EMPTY Kq3
      have E_w := E_w.keep Kq3
      have F_value_w := F_value_w.keep Kq3 nin0
      have E_b1 := E_b1.keep Kq3
      have F_limit_b1 := F_limit_b1.keep Kq3 nin0
      have F_offset_b1 := F_offset_b1.keep Kq3 nin0
      have g_b_3 : n0 ≤ b_3 := Nat.le_trans zn2 sz3_b
      have sz_b_3 : h0.size ≤ b_3 := Nat.le_trans K2.1 sz3_b
      have g_nx_3 : n0 ≤ nx_3 := Nat.le_trans zn2 sz3_nx
      have sz_nx_3 : h0.size ≤ nx_3 := Nat.le_trans K2.1 sz3_nx
      have K3 := K2.trans Kq3 all0
      have zn3 : n0 ≤ T3.heap.size := Nat.le_trans zn2 Kq3.1
      have E_b_3 := E_b_3_p
      have F_value_b_3 := F_value_b_3_p
      have E_nx_3 := E_nx_3_p
      have F_limit_nx_3 := F_limit_nx_3_p
      have F_offset_nx_3 := F_offset_nx_3_p
      refine OGo.go (B := T3.setTop (mkF m 128 #[.val (.long q0), .second, .val (.long q1), .second, .val (.long q2), .second, .val (.int p3), .val (.long lim), .second, .val (.long off), .second, .val (.long siz), .second, .val (.ref b1), .unset, .unset, .unset, .unset, .unset] [(.ref b_3)])) ?_ (fun tX kX => st3.trans kX)
      refine OGo.go (B := T3.setTop (mkF m 130 #[.val (.long q0), .second, .val (.long q1), .second, .val (.long q2), .second, .val (.int p3), .val (.long lim), .second, .val (.long off), .second, .val (.long siz), .second, .val (.ref b1), .val (.ref b_3), .unset, .unset, .unset, .unset] [])) ?_ (fun tX kX => XS.astore X3.here hx rfl (hb hby at_128) rfl rfl (l' := #[.val (.long q0), .second, .val (.long q1), .second, .val (.long q2), .second, .val (.int p3), .val (.long lim), .second, .val (.long off), .second, .val (.long siz), .second, .val (.ref b1), .val (.ref b_3), .unset, .unset, .unset, .unset]) rfl kX)
      refine OGo.go (B := T3.setTop (mkF m 132 #[.val (.long q0), .second, .val (.long q1), .second, .val (.long q2), .second, .val (.int p3), .val (.long lim), .second, .val (.long off), .second, .val (.long siz), .second, .val (.ref b1), .val (.ref b_3), .unset, .unset, .unset, .unset] [(.long off)])) ?_ (fun tX kX => XS.lload X3.here hx rfl (hb hby at_130) rfl kX)
      refine OGo.go (B := T3.setTop (mkF m 134 #[.val (.long q0), .second, .val (.long q1), .second, .val (.long q2), .second, .val (.int p3), .val (.long lim), .second, .val (.long off), .second, .val (.long siz), .second, .val (.ref b1), .val (.ref b_3), .unset, .unset, .unset, .unset] [(.long lim), (.long off)])) ?_ (fun tX kX => XS.lload X3.here hx rfl (hb hby at_132) rfl kX)
      refine OGo.go (B := T3.setTop (mkF m 135 #[.val (.long q0), .second, .val (.long q1), .second, .val (.long q2), .second, .val (.int p3), .val (.long lim), .second, .val (.long off), .second, .val (.long siz), .second, .val (.ref b1), .val (.ref b_3), .unset, .unset, .unset, .unset] [(.long (off + lim))])) ?_ (fun tX kX => XS.ladd X3.here hx rfl (hb hby at_134) rfl kX)
      refine OGo.go (B := T3.setTop (mkF m 137 #[.val (.long q0), .second, .val (.long q1), .second, .val (.long q2), .second, .val (.int p3), .val (.long lim), .second, .val (.long off), .second, .val (.long siz), .second, .val (.ref b1), .val (.ref b_3), .val (.long (off + lim)), .second, .unset, .unset] [])) ?_ (fun tX kX => XS.lstore X3.here hx rfl (hb hby at_135) rfl (l' := #[.val (.long q0), .second, .val (.long q1), .second, .val (.long q2), .second, .val (.int p3), .val (.long lim), .second, .val (.long off), .second, .val (.long siz), .second, .val (.ref b1), .val (.ref b_3), .val (.long (off + lim)), .second, .unset, .unset]) rfl kX)
      refine OGo.go (B := T3.setTop (mkF m 139 #[.val (.long q0), .second, .val (.long q1), .second, .val (.long q2), .second, .val (.int p3), .val (.long lim), .second, .val (.long off), .second, .val (.long siz), .second, .val (.ref b1), .val (.ref b_3), .val (.long (off + lim)), .second, .unset, .unset] [(.long (off + lim))])) ?_ (fun tX kX => XS.lload X3.here hx rfl (hb hby at_137) rfl kX)
      refine OGo.go (B := T3.setTop (mkF m 140 #[.val (.long q0), .second, .val (.long q1), .second, .val (.long q2), .second, .val (.int p3), .val (.long lim), .second, .val (.long off), .second, .val (.long siz), .second, .val (.ref b1), .val (.ref b_3), .val (.long (off + lim)), .second, .unset, .unset] [(.long (0 : Int64)), (.long (off + lim))])) ?_ (fun tX kX => XS.lconst X3.here hx rfl (hb hby at_139) kX)
      refine OGo.go (B := T3.setTop (mkF m 141 #[.val (.long q0), .second, .val (.long q1), .second, .val (.long q2), .second, .val (.int p3), .val (.long lim), .second, .val (.long off), .second, .val (.long siz), .second, .val (.ref b1), .val (.ref b_3), .val (.long (off + lim)), .second, .unset, .unset] [(.int (lcmpW (off + lim) (0 : Int64)))])) ?_ (fun tX kX => XS.lcmp X3.here hx rfl (hb hby at_140) rfl kX)
      refine OGo.go (B := T3.setTop (mkF m 144 #[.val (.long q0), .second, .val (.long q1), .second, .val (.long q2), .second, .val (.int p3), .val (.long lim), .second, .val (.long off), .second, .val (.long siz), .second, .val (.ref b1), .val (.ref b_3), .val (.long (off + lim)), .second, .unset, .unset] [])) ?_ (fun tX kX => XS.ifNo X3.here hx rfl (hb hby at_141) rfl ((if0 _ _).trans (flt (fun q => (own_y hj1 hj2 hj3 hy).1 ((lw_lt _ _).mp q))).1) kX)
      refine OGo.go (B := T3.setTop (mkF m 146 #[.val (.long q0), .second, .val (.long q1), .second, .val (.long q2), .second, .val (.int p3), .val (.long lim), .second, .val (.long off), .second, .val (.long siz), .second, .val (.ref b1), .val (.ref b_3), .val (.long (off + lim)), .second, .unset, .unset] [(.long (off + lim))])) ?_ (fun tX kX => XS.lload X3.here hx rfl (hb hby at_144) rfl kX)
      refine OGo.go (B := T3.setTop (mkF m 148 #[.val (.long q0), .second, .val (.long q1), .second, .val (.long q2), .second, .val (.int p3), .val (.long lim), .second, .val (.long off), .second, .val (.long siz), .second, .val (.ref b1), .val (.ref b_3), .val (.long (off + lim)), .second, .unset, .unset] [(.long siz), (.long (off + lim))])) ?_ (fun tX kX => XS.lload X3.here hx rfl (hb hby at_146) rfl kX)
      refine OGo.go (B := T3.setTop (mkF m 149 #[.val (.long q0), .second, .val (.long q1), .second, .val (.long q2), .second, .val (.int p3), .val (.long lim), .second, .val (.long off), .second, .val (.long siz), .second, .val (.ref b1), .val (.ref b_3), .val (.long (off + lim)), .second, .unset, .unset] [(.int (lcmpW (off + lim) siz))])) ?_ (fun tX kX => XS.lcmp X3.here hx rfl (hb hby at_148) rfl kX)
      refine OGo.go (B := T3.setTop (mkF m 152 #[.val (.long q0), .second, .val (.long q1), .second, .val (.long q2), .second, .val (.int p3), .val (.long lim), .second, .val (.long off), .second, .val (.long siz), .second, .val (.ref b1), .val (.ref b_3), .val (.long (off + lim)), .second, .unset, .unset] [])) ?_ (fun tX kX => XS.ifNo X3.here hx rfl (hb hby at_149) rfl ((if0 _ _).trans (tlt ((lw_lt _ _).mpr (own_y hj1 hj2 hj3 hy).2)).2.1) kX)
      refine OGo.go (B := T3.setTop (mkF m 153 #[.val (.long q0), .second, .val (.long q1), .second, .val (.long q2), .second, .val (.int p3), .val (.long lim), .second, .val (.long off), .second, .val (.long siz), .second, .val (.ref b1), .val (.ref b_3), .val (.long (off + lim)), .second, .unset, .unset] [(.int (1 : Int32))])) ?_ (fun tX kX => XS.iconst X3.here hx rfl (hb hby at_152) kX)
      refine OGo.go (B := T3.setTop (mkF m 157 #[.val (.long q0), .second, .val (.long q1), .second, .val (.long q2), .second, .val (.int p3), .val (.long lim), .second, .val (.long off), .second, .val (.long siz), .second, .val (.ref b1), .val (.ref b_3), .val (.long (off + lim)), .second, .unset, .unset] [(.int (1 : Int32))])) ?_ (fun tX kX => XS.goto X3.here hx rfl (pc0 := 153) (pc' := 157) rfl (hb hby at_153) (by decide) (by decide) kX)
      refine OGo.go (B := T3.setTop (mkF m 159 #[.val (.long q0), .second, .val (.long q1), .second, .val (.long q2), .second, .val (.int p3), .val (.long lim), .second, .val (.long off), .second, .val (.long siz), .second, .val (.ref b1), .val (.ref b_3), .val (.long (off + lim)), .second, .val (.int (1 : Int32)), .unset] [])) ?_ (fun tX kX => XS.istore X3.here hx rfl (hb hby at_157) rfl (l' := #[.val (.long q0), .second, .val (.long q1), .second, .val (.long q2), .second, .val (.int p3), .val (.long lim), .second, .val (.long off), .second, .val (.long siz), .second, .val (.ref b1), .val (.ref b_3), .val (.long (off + lim)), .second, .val (.int (1 : Int32)), .unset]) rfl kX)
      refine OGo.go (B := T3.setTop (mkF m 161 #[.val (.long q0), .second, .val (.long q1), .second, .val (.long q2), .second, .val (.int p3), .val (.long lim), .second, .val (.long off), .second, .val (.long siz), .second, .val (.ref b1), .val (.ref b_3), .val (.long (off + lim)), .second, .val (.int (1 : Int32)), .unset] [(.int (1 : Int32))])) ?_ (fun tX kX => XS.iload X3.here hx rfl (hb hby at_159) rfl kX)
      refine OGo.go (B := T3.setTop (mkF m 178 #[.val (.long q0), .second, .val (.long q1), .second, .val (.long q2), .second, .val (.int p3), .val (.long lim), .second, .val (.long off), .second, .val (.long siz), .second, .val (.ref b1), .val (.ref b_3), .val (.long (off + lim)), .second, .val (.int (1 : Int32)), .unset] [])) ?_ (fun tX kX => XS.ifYes X3.here hx rfl (pc0 := 161) (pc' := 178) rfl (hb hby at_161) rfl ((if0 _ _).trans (feq (by decide)).2) (by decide) (by decide) kX)
      refine OGo.go (B := T3.setTop (mkF m 180 #[.val (.long q0), .second, .val (.long q1), .second, .val (.long q2), .second, .val (.int p3), .val (.long lim), .second, .val (.long off), .second, .val (.long siz), .second, .val (.ref b1), .val (.ref b_3), .val (.long (off + lim)), .second, .val (.int (1 : Int32)), .unset] [(.ref b_3)])) ?_ (fun tX kX => XS.aload X3.here hx rfl (hb hby at_178) rfl rfl kX)
      obtain ⟨cq4, kq4, q4a, q4b, q4c⟩ := isOf hZ rfl E_b_3
      obtain ⟨_, _, ⟨T4, L4, k4, n4⟩, -, X4, ⟨Lc4, hQ4, l4, y4, z4⟩, st4⟩ := X3.virtualBack hx (y := (⟨"java/util/Optional", "isPresent", "()Z"⟩ : MethodName)) (z := (⟨"java/util/Optional", "isPresent", "()Z"⟩ : MethodName)) hown (mvT hZ (hw _ (List.mem_of_getElem? (i := 47) rfl))) (mvT hZ (hw _ (List.mem_of_getElem? (i := 48) rfl))) (notFace_of_selects (args := #[]) (mvT hZ (hw _ (List.mem_of_getElem? (i := 50) rfl)))) (mvT hZ (hw _ (List.mem_of_getElem? (i := 50) rfl))) (mvT hZ (hw _ (List.mem_of_getElem? (i := 49) rfl))) (by decide) (backOf (W := 0) (rm9p l Z aV hw [] b_3 nx_3 T3.heap n0 zn3 F_value_b_3) hZ (hw _ (List.mem_of_getElem? (i := 51) rfl)) (hw _ (List.mem_of_getElem? (i := 26) rfl)) (by decide) (by decide)) q4a q4c (g := (mkF m 180 #[.val (.long q0), .second, .val (.long q1), .second, .val (.long q2), .second, .val (.int p3), .val (.long lim), .second, .val (.long off), .second, .val (.long siz), .second, .val (.ref b1), .val (.ref b_3), .val (.long (off + lim)), .second, .val (.int (1 : Int32)), .unset] [(.ref b_3)])) rfl (by rw [hml]; rfl) (Steps.refl _) (argsL := []) (rest := []) (lenOf pd___Z rfl) rfl (by show 2 * 0 + _ ≤ _; exact Nat.le_of_eq rfl) (hb hby at_180) (fun _ _ => ⟨rfl, rfl, (by decide : 3 + 0 ≤ _), (by decide : 5 + 0 ≤ _)⟩)
      dsimp only [Pt.U, Pt.locs, Pt.cells, Pt.slots] at X4 l4 y4 z4 st4 hQ4
      subst l4 y4 z4
      obtain ⟨rfl, N4q, e4⟩ := hQ4
      have N4 := Fr.app N3 N4q
      refine OGo.go (B := T4.setTop (mkF m 183 #[.val (.long q0), .second, .val (.long q1), .second, .val (.long q2), .second, .val (.int p3), .val (.long lim), .second, .val (.long off), .second, .val (.long siz), .second, .val (.ref b1), .val (.ref b_3), .val (.long (off + lim)), .second, .val (.int (1 : Int32)), .unset] [(.int (1 : Int32))])) ?_ (fun tX kX => st4.trans kX)
      refine OGo.go (B := T4.setTop (mkF m 188 #[.val (.long q0), .second, .val (.long q1), .second, .val (.long q2), .second, .val (.int p3), .val (.long lim), .second, .val (.long off), .second, .val (.long siz), .second, .val (.ref b1), .val (.ref b_3), .val (.long (off + lim)), .second, .val (.int (1 : Int32)), .unset] [])) ?_ (fun tX kX => XS.ifYes X4.here hx rfl (pc0 := 183) (pc' := 188) rfl (hb hby at_183) rfl ((if0 _ _).trans (feq (by decide)).2) (by decide) (by decide) kX)
      refine OGo.go (B := T4.setTop (mkF m 190 #[.val (.long q0), .second, .val (.long q1), .second, .val (.long q2), .second, .val (.int p3), .val (.long lim), .second, .val (.long off), .second, .val (.long siz), .second, .val (.ref b1), .val (.ref b_3), .val (.long (off + lim)), .second, .val (.int (1 : Int32)), .unset] [(.ref b_3)])) ?_ (fun tX kX => XS.aload X4.here hx rfl (hb hby at_188) rfl rfl kX)
      obtain ⟨cq5, kq5, q5a, q5b, q5c⟩ := isOf hZ e4 E_b_3
      obtain ⟨_, _, ⟨T5, L5, k5, n5⟩, -, X5, ⟨Lc5, hQ5, l5, y5, z5⟩, st5⟩ := X4.virtualBack hx (y := (⟨"java/util/Optional", "get", "()Ljava/lang/Object;"⟩ : MethodName)) (z := (⟨"java/util/Optional", "get", "()Ljava/lang/Object;"⟩ : MethodName)) hown (mvT hZ (hw _ (List.mem_of_getElem? (i := 52) rfl))) (mvT hZ (hw _ (List.mem_of_getElem? (i := 53) rfl))) (notFace_of_selects (args := #[]) (mvT hZ (hw _ (List.mem_of_getElem? (i := 55) rfl)))) (mvT hZ (hw _ (List.mem_of_getElem? (i := 55) rfl))) (mvT hZ (hw _ (List.mem_of_getElem? (i := 54) rfl))) (by decide) (backOf (W := 0) (rm10 l Z aV hw [] b_3 nx_3 T3.heap n0 zn3 F_value_b_3) hZ (hw _ (List.mem_of_getElem? (i := 56) rfl)) (hw _ (List.mem_of_getElem? (i := 26) rfl)) (by decide) (by decide)) q5a q5c (g := (mkF m 190 #[.val (.long q0), .second, .val (.long q1), .second, .val (.long q2), .second, .val (.int p3), .val (.long lim), .second, .val (.long off), .second, .val (.long siz), .second, .val (.ref b1), .val (.ref b_3), .val (.long (off + lim)), .second, .val (.int (1 : Int32)), .unset] [(.ref b_3)])) rfl (by rw [hml]; rfl) (Steps.refl _) (argsL := []) (rest := []) (lenOf pd___Ljava_lang_Object_ rfl) rfl (by show 2 * 0 + _ ≤ _; exact Nat.le_of_eq rfl) (hb hby at_190) (fun _ _ => ⟨rfl, e4, (by decide : 3 + 0 ≤ _), (by decide : 5 + 0 ≤ _)⟩)
      dsimp only [Pt.U, Pt.locs, Pt.cells, Pt.slots] at X5 l5 y5 z5 st5 hQ5
      subst l5 y5 z5
      obtain ⟨rfl, N5q, e5⟩ := hQ5
      have N5 := Fr.app N4 N5q
      refine OGo.go (B := T5.setTop (mkF m 193 #[.val (.long q0), .second, .val (.long q1), .second, .val (.long q2), .second, .val (.int p3), .val (.long lim), .second, .val (.long off), .second, .val (.long siz), .second, .val (.ref b1), .val (.ref b_3), .val (.long (off + lim)), .second, .val (.int (1 : Int32)), .unset] [(.ref nx_3)])) ?_ (fun tX kX => st5.trans kX)
      obtain ⟨T6, X6, e6, st6⟩ := castY X5 hx hZ hown (hw _ (List.mem_of_getElem? (i := 1) rfl)) e5 (Ins.self E_nx_3) (g := (mkF m 193 #[.val (.long q0), .second, .val (.long q1), .second, .val (.long q2), .second, .val (.int p3), .val (.long lim), .second, .val (.long off), .second, .val (.long siz), .second, .val (.ref b1), .val (.ref b_3), .val (.long (off + lim)), .second, .val (.int (1 : Int32)), .unset] [(.ref nx_3)])) rfl rfl (hb hby at_193)
      refine OGo.go (B := T6.setTop (mkF m 196 #[.val (.long q0), .second, .val (.long q1), .second, .val (.long q2), .second, .val (.int p3), .val (.long lim), .second, .val (.long off), .second, .val (.long siz), .second, .val (.ref b1), .val (.ref b_3), .val (.long (off + lim)), .second, .val (.int (1 : Int32)), .unset] [(.ref nx_3)])) ?_ st6
      refine OGo.go (B := T6.setTop (mkF m 198 #[.val (.long q0), .second, .val (.long q1), .second, .val (.long q2), .second, .val (.int p3), .val (.long lim), .second, .val (.long off), .second, .val (.long siz), .second, .val (.ref b1), .val (.ref b_3), .val (.long (off + lim)), .second, .val (.int (1 : Int32)), .val (.ref nx_3)] [])) ?_ (fun tX kX => XS.astore X6.here hx rfl (hb hby at_196) rfl rfl (l' := #[.val (.long q0), .second, .val (.long q1), .second, .val (.long q2), .second, .val (.int p3), .val (.long lim), .second, .val (.long off), .second, .val (.long siz), .second, .val (.ref b1), .val (.ref b_3), .val (.long (off + lim)), .second, .val (.int (1 : Int32)), .val (.ref nx_3)]) rfl kX)
      refine OGo.go (B := T6.setTop (mkF m 200 #[.val (.long q0), .second, .val (.long q1), .second, .val (.long q2), .second, .val (.int p3), .val (.long lim), .second, .val (.long off), .second, .val (.long siz), .second, .val (.ref b1), .val (.ref b_3), .val (.long (off + lim)), .second, .val (.int (1 : Int32)), .val (.ref nx_3)] [(.ref nx_3)])) ?_ (fun tX kX => XS.aload X6.here hx rfl (hb hby at_198) rfl rfl kX)
      obtain ⟨cq7, kq7, q7a, q7b, q7c⟩ := isOf hZ e6 E_nx_3
      obtain ⟨_, _, ⟨T7, L7, k7, n7⟩, -, X7, ⟨Lc7, hQ7, l7, y7, z7⟩, st7⟩ := X6.virtualBack hx (y := (⟨"com/example/lotd/lotd/api/Paging", "limit", "()J"⟩ : MethodName)) (z := (⟨"com/example/lotd/lotd/api/Paging", "limit", "()J"⟩ : MethodName)) hown (mvT hZ (hw _ (List.mem_of_getElem? (i := 58) rfl))) (mvT hZ (hw _ (List.mem_of_getElem? (i := 59) rfl))) (notFace_of_selects (args := #[]) (mvT hZ (hw _ (List.mem_of_getElem? (i := 61) rfl)))) (mvT hZ (hw _ (List.mem_of_getElem? (i := 61) rfl))) (mvT hZ (hw _ (List.mem_of_getElem? (i := 60) rfl))) (by decide) (backOf (W := 0) (rm11 l Z aV hw [] nx_3 lim T3.heap n0 zn3 F_limit_nx_3) hZ (hw _ (List.mem_of_getElem? (i := 62) rfl)) (hw _ (List.mem_of_getElem? (i := 3) rfl)) (by decide) (by decide)) q7a q7c (g := (mkF m 200 #[.val (.long q0), .second, .val (.long q1), .second, .val (.long q2), .second, .val (.int p3), .val (.long lim), .second, .val (.long off), .second, .val (.long siz), .second, .val (.ref b1), .val (.ref b_3), .val (.long (off + lim)), .second, .val (.int (1 : Int32)), .val (.ref nx_3)] [(.ref nx_3)])) rfl (by rw [hml]; rfl) (Steps.refl _) (argsL := []) (rest := []) (lenOf pd___J rfl) rfl (by show 2 * 0 + _ ≤ _; exact Nat.le_of_eq rfl) (hb hby at_200) (fun _ _ => ⟨rfl, e6, (by decide : 3 + 0 ≤ _), (by decide : 5 + 0 ≤ _)⟩)
      dsimp only [Pt.U, Pt.locs, Pt.cells, Pt.slots] at X7 l7 y7 z7 st7 hQ7
      subst l7 y7 z7
      obtain ⟨rfl, N7q, e7⟩ := hQ7
      have N7 := Fr.app N5 N7q
      refine OGo.go (B := T7.setTop (mkF m 203 #[.val (.long q0), .second, .val (.long q1), .second, .val (.long q2), .second, .val (.int p3), .val (.long lim), .second, .val (.long off), .second, .val (.long siz), .second, .val (.ref b1), .val (.ref b_3), .val (.long (off + lim)), .second, .val (.int (1 : Int32)), .val (.ref nx_3)] [(.long lim)])) ?_ (fun tX kX => st7.trans kX)
      refine OGo.go (B := T7.setTop (mkF m 205 #[.val (.long q0), .second, .val (.long q1), .second, .val (.long q2), .second, .val (.int p3), .val (.long lim), .second, .val (.long off), .second, .val (.long siz), .second, .val (.ref b1), .val (.ref b_3), .val (.long (off + lim)), .second, .val (.int (1 : Int32)), .val (.ref nx_3)] [(.long lim), (.long lim)])) ?_ (fun tX kX => XS.lload X7.here hx rfl (hb hby at_203) rfl kX)
      refine OGo.go (B := T7.setTop (mkF m 206 #[.val (.long q0), .second, .val (.long q1), .second, .val (.long q2), .second, .val (.int p3), .val (.long lim), .second, .val (.long off), .second, .val (.long siz), .second, .val (.ref b1), .val (.ref b_3), .val (.long (off + lim)), .second, .val (.int (1 : Int32)), .val (.ref nx_3)] [(.int (lcmpW lim lim))])) ?_ (fun tX kX => XS.lcmp X7.here hx rfl (hb hby at_205) rfl kX)
      refine OGo.go (B := T7.setTop (mkF m 209 #[.val (.long q0), .second, .val (.long q1), .second, .val (.long q2), .second, .val (.int p3), .val (.long lim), .second, .val (.long off), .second, .val (.long siz), .second, .val (.ref b1), .val (.ref b_3), .val (.long (off + lim)), .second, .val (.int (1 : Int32)), .val (.ref nx_3)] [])) ?_ (fun tX kX => XS.ifNo X7.here hx rfl (hb hby at_206) rfl ((if0 _ _).trans (teq ((lw_eq _ _).mpr rfl)).2) kX)
      refine OGo.go (B := T7.setTop (mkF m 211 #[.val (.long q0), .second, .val (.long q1), .second, .val (.long q2), .second, .val (.int p3), .val (.long lim), .second, .val (.long off), .second, .val (.long siz), .second, .val (.ref b1), .val (.ref b_3), .val (.long (off + lim)), .second, .val (.int (1 : Int32)), .val (.ref nx_3)] [(.ref nx_3)])) ?_ (fun tX kX => XS.aload X7.here hx rfl (hb hby at_209) rfl rfl kX)
      obtain ⟨cq8, kq8, q8a, q8b, q8c⟩ := isOf hZ e7 E_nx_3
      obtain ⟨_, _, ⟨T8, L8, k8, n8⟩, -, X8, ⟨Lc8, hQ8, l8, y8, z8⟩, st8⟩ := X7.virtualBack hx (y := (⟨"com/example/lotd/lotd/api/Paging", "offset", "()J"⟩ : MethodName)) (z := (⟨"com/example/lotd/lotd/api/Paging", "offset", "()J"⟩ : MethodName)) hown (mvT hZ (hw _ (List.mem_of_getElem? (i := 63) rfl))) (mvT hZ (hw _ (List.mem_of_getElem? (i := 64) rfl))) (notFace_of_selects (args := #[]) (mvT hZ (hw _ (List.mem_of_getElem? (i := 66) rfl)))) (mvT hZ (hw _ (List.mem_of_getElem? (i := 66) rfl))) (mvT hZ (hw _ (List.mem_of_getElem? (i := 65) rfl))) (by decide) (backOf (W := 0) (rm12 l Z aV hw [] nx_3 (off + lim) T3.heap n0 zn3 F_offset_nx_3) hZ (hw _ (List.mem_of_getElem? (i := 67) rfl)) (hw _ (List.mem_of_getElem? (i := 3) rfl)) (by decide) (by decide)) q8a q8c (g := (mkF m 211 #[.val (.long q0), .second, .val (.long q1), .second, .val (.long q2), .second, .val (.int p3), .val (.long lim), .second, .val (.long off), .second, .val (.long siz), .second, .val (.ref b1), .val (.ref b_3), .val (.long (off + lim)), .second, .val (.int (1 : Int32)), .val (.ref nx_3)] [(.ref nx_3)])) rfl (by rw [hml]; rfl) (Steps.refl _) (argsL := []) (rest := []) (lenOf pd___J rfl) rfl (by show 2 * 0 + _ ≤ _; exact Nat.le_of_eq rfl) (hb hby at_211) (fun _ _ => ⟨rfl, e7, (by decide : 3 + 0 ≤ _), (by decide : 5 + 0 ≤ _)⟩)
      dsimp only [Pt.U, Pt.locs, Pt.cells, Pt.slots] at X8 l8 y8 z8 st8 hQ8
      subst l8 y8 z8
      obtain ⟨rfl, N8q, e8⟩ := hQ8
      have N8 := Fr.app N7 N8q
      refine OGo.go (B := T8.setTop (mkF m 214 #[.val (.long q0), .second, .val (.long q1), .second, .val (.long q2), .second, .val (.int p3), .val (.long lim), .second, .val (.long off), .second, .val (.long siz), .second, .val (.ref b1), .val (.ref b_3), .val (.long (off + lim)), .second, .val (.int (1 : Int32)), .val (.ref nx_3)] [(.long (off + lim))])) ?_ (fun tX kX => st8.trans kX)
      refine OGo.go (B := T8.setTop (mkF m 216 #[.val (.long q0), .second, .val (.long q1), .second, .val (.long q2), .second, .val (.int p3), .val (.long lim), .second, .val (.long off), .second, .val (.long siz), .second, .val (.ref b1), .val (.ref b_3), .val (.long (off + lim)), .second, .val (.int (1 : Int32)), .val (.ref nx_3)] [(.long (off + lim)), (.long (off + lim))])) ?_ (fun tX kX => XS.lload X8.here hx rfl (hb hby at_214) rfl kX)
      refine OGo.go (B := T8.setTop (mkF m 217 #[.val (.long q0), .second, .val (.long q1), .second, .val (.long q2), .second, .val (.int p3), .val (.long lim), .second, .val (.long off), .second, .val (.long siz), .second, .val (.ref b1), .val (.ref b_3), .val (.long (off + lim)), .second, .val (.int (1 : Int32)), .val (.ref nx_3)] [(.int (lcmpW (off + lim) (off + lim)))])) ?_ (fun tX kX => XS.lcmp X8.here hx rfl (hb hby at_216) rfl kX)
      refine OGo.go (B := T8.setTop (mkF m 220 #[.val (.long q0), .second, .val (.long q1), .second, .val (.long q2), .second, .val (.int p3), .val (.long lim), .second, .val (.long off), .second, .val (.long siz), .second, .val (.ref b1), .val (.ref b_3), .val (.long (off + lim)), .second, .val (.int (1 : Int32)), .val (.ref nx_3)] [])) ?_ (fun tX kX => XS.ifNo X8.here hx rfl (hb hby at_217) rfl ((if0 _ _).trans (teq ((lw_eq _ _).mpr rfl)).2) kX)
      refine OGo.go (B := T8.setTop (mkF m 221 #[.val (.long q0), .second, .val (.long q1), .second, .val (.long q2), .second, .val (.int p3), .val (.long lim), .second, .val (.long off), .second, .val (.long siz), .second, .val (.ref b1), .val (.ref b_3), .val (.long (off + lim)), .second, .val (.int (1 : Int32)), .val (.ref nx_3)] [(.int (1 : Int32))])) ?_ (fun tX kX => XS.iconst X8.here hx rfl (hb hby at_220) kX)
      refine OGo.go (B := T8.setTop (mkF m 225 #[.val (.long q0), .second, .val (.long q1), .second, .val (.long q2), .second, .val (.int p3), .val (.long lim), .second, .val (.long off), .second, .val (.long siz), .second, .val (.ref b1), .val (.ref b_3), .val (.long (off + lim)), .second, .val (.int (1 : Int32)), .val (.ref nx_3)] [(.int (1 : Int32))])) ?_ (fun tX kX => XS.goto X8.here hx rfl (pc0 := 221) (pc' := 225) rfl (hb hby at_221) (by decide) (by decide) kX)
      refine OGo.ret X8 (v := (some (.int (1 : Int32)))) (fun h => by rw [Bd.returns] at h; cases h) (BodyLoose.notSynchronized Bd) (fun fs hr => retN X8 hx (t := .boolean) (z := (1 : Int32)) Bd.returns (by simp) (hb hby at_225) hr) (Q := Q0 Z q0 q1 q2 p3 w h0 n0) ?_ (by decide) (by decide)
      show Q0 Z q0 q1 q2 p3 w h0 n0 _ T8.heap _
      rw [e8]
      exact ⟨rfl, N8⟩
    ·
      obtain ⟨cq9, kq9, q9a, q9b, q9c⟩ := isOf hZ rfl E_b1
      obtain ⟨_, _, ⟨T9, L9, k9, n9⟩, -, X9, ⟨Lc9, hQ9, l9, y9, z9⟩, st9⟩ := X2.virtualBack hx (y := (⟨"com/example/lotd/lotd/api/Paging", "next", "(J)Ljava/util/Optional;"⟩ : MethodName)) (z := (⟨"com/example/lotd/lotd/api/Paging", "next", "(J)Ljava/util/Optional;"⟩ : MethodName)) hown (mvT hZ (hw _ (List.mem_of_getElem? (i := 19) rfl))) (mvT hZ (hw _ (List.mem_of_getElem? (i := 20) rfl))) (notFace_of_selects (args := #[]) (mvT hZ (hw _ (List.mem_of_getElem? (i := 22) rfl)))) (mvT hZ (hw _ (List.mem_of_getElem? (i := 22) rfl))) (mvT hZ (hw _ (List.mem_of_getElem? (i := 21) rfl))) (by decide) (backOf (W := 0) (rm4n l Z aV hw [] b1 siz lim off w T2.heap n0 zn2 E_b1 F_limit_b1 F_offset_b1 S_EMPTY E_w F_value_w hy) hZ (hw _ (List.mem_of_getElem? (i := 23) rfl)) (hw _ (List.mem_of_getElem? (i := 3) rfl)) (by decide) (by decide)) q9a q9c (g := (mkF m 125 #[.val (.long q0), .second, .val (.long q1), .second, .val (.long q2), .second, .val (.int p3), .val (.long lim), .second, .val (.long off), .second, .val (.long siz), .second, .val (.ref b1), .unset, .unset, .unset, .unset, .unset] [(.long siz), (.ref b1)])) rfl (by rw [hml]; rfl) (Steps.refl _) (argsL := [(.long siz)]) (rest := []) (lenOf pd__J_Ljava_util_Optional_ rfl) rfl (by show 2 * 0 + _ ≤ _; exact Nat.le_of_eq rfl) (hb hby at_125) (fun _ _ => ⟨rfl, rfl, (by decide : 1 + 0 ≤ _), (by decide : 2 + 0 ≤ _)⟩)
      dsimp only [Pt.U, Pt.locs, Pt.cells, Pt.slots] at X9 l9 y9 z9 st9 hQ9
      subst l9 y9 z9
      obtain ⟨rfl, N9q, e9⟩ := hQ9
      have N9 := Fr.app N2 N9q
      refine OGo.go (B := T9.setTop (mkF m 128 #[.val (.long q0), .second, .val (.long q1), .second, .val (.long q2), .second, .val (.int p3), .val (.long lim), .second, .val (.long off), .second, .val (.long siz), .second, .val (.ref b1), .unset, .unset, .unset, .unset, .unset] [(.ref w)])) ?_ (fun tX kX => st9.trans kX)
      refine OGo.go (B := T9.setTop (mkF m 130 #[.val (.long q0), .second, .val (.long q1), .second, .val (.long q2), .second, .val (.int p3), .val (.long lim), .second, .val (.long off), .second, .val (.long siz), .second, .val (.ref b1), .val (.ref w), .unset, .unset, .unset, .unset] [])) ?_ (fun tX kX => XS.astore X9.here hx rfl (hb hby at_128) rfl rfl (l' := #[.val (.long q0), .second, .val (.long q1), .second, .val (.long q2), .second, .val (.int p3), .val (.long lim), .second, .val (.long off), .second, .val (.long siz), .second, .val (.ref b1), .val (.ref w), .unset, .unset, .unset, .unset]) rfl kX)
      refine OGo.go (B := T9.setTop (mkF m 132 #[.val (.long q0), .second, .val (.long q1), .second, .val (.long q2), .second, .val (.int p3), .val (.long lim), .second, .val (.long off), .second, .val (.long siz), .second, .val (.ref b1), .val (.ref w), .unset, .unset, .unset, .unset] [(.long off)])) ?_ (fun tX kX => XS.lload X9.here hx rfl (hb hby at_130) rfl kX)
      refine OGo.go (B := T9.setTop (mkF m 134 #[.val (.long q0), .second, .val (.long q1), .second, .val (.long q2), .second, .val (.int p3), .val (.long lim), .second, .val (.long off), .second, .val (.long siz), .second, .val (.ref b1), .val (.ref w), .unset, .unset, .unset, .unset] [(.long lim), (.long off)])) ?_ (fun tX kX => XS.lload X9.here hx rfl (hb hby at_132) rfl kX)
      refine OGo.go (B := T9.setTop (mkF m 135 #[.val (.long q0), .second, .val (.long q1), .second, .val (.long q2), .second, .val (.int p3), .val (.long lim), .second, .val (.long off), .second, .val (.long siz), .second, .val (.ref b1), .val (.ref w), .unset, .unset, .unset, .unset] [(.long (off + lim))])) ?_ (fun tX kX => XS.ladd X9.here hx rfl (hb hby at_134) rfl kX)
      refine OGo.go (B := T9.setTop (mkF m 137 #[.val (.long q0), .second, .val (.long q1), .second, .val (.long q2), .second, .val (.int p3), .val (.long lim), .second, .val (.long off), .second, .val (.long siz), .second, .val (.ref b1), .val (.ref w), .val (.long (off + lim)), .second, .unset, .unset] [])) ?_ (fun tX kX => XS.lstore X9.here hx rfl (hb hby at_135) rfl (l' := #[.val (.long q0), .second, .val (.long q1), .second, .val (.long q2), .second, .val (.int p3), .val (.long lim), .second, .val (.long off), .second, .val (.long siz), .second, .val (.ref b1), .val (.ref w), .val (.long (off + lim)), .second, .unset, .unset]) rfl kX)
      refine OGo.go (B := T9.setTop (mkF m 139 #[.val (.long q0), .second, .val (.long q1), .second, .val (.long q2), .second, .val (.int p3), .val (.long lim), .second, .val (.long off), .second, .val (.long siz), .second, .val (.ref b1), .val (.ref w), .val (.long (off + lim)), .second, .unset, .unset] [(.long (off + lim))])) ?_ (fun tX kX => XS.lload X9.here hx rfl (hb hby at_137) rfl kX)
      refine OGo.go (B := T9.setTop (mkF m 140 #[.val (.long q0), .second, .val (.long q1), .second, .val (.long q2), .second, .val (.int p3), .val (.long lim), .second, .val (.long off), .second, .val (.long siz), .second, .val (.ref b1), .val (.ref w), .val (.long (off + lim)), .second, .unset, .unset] [(.long (0 : Int64)), (.long (off + lim))])) ?_ (fun tX kX => XS.lconst X9.here hx rfl (hb hby at_139) kX)
      refine OGo.go (B := T9.setTop (mkF m 141 #[.val (.long q0), .second, .val (.long q1), .second, .val (.long q2), .second, .val (.int p3), .val (.long lim), .second, .val (.long off), .second, .val (.long siz), .second, .val (.ref b1), .val (.ref w), .val (.long (off + lim)), .second, .unset, .unset] [(.int (lcmpW (off + lim) (0 : Int64)))])) ?_ (fun tX kX => XS.lcmp X9.here hx rfl (hb hby at_140) rfl kX)
      by_cases hc141 : (off + lim) < (0 : Int64)
      ·
        refine OGo.go (B := T9.setTop (mkF m 156 #[.val (.long q0), .second, .val (.long q1), .second, .val (.long q2), .second, .val (.int p3), .val (.long lim), .second, .val (.long off), .second, .val (.long siz), .second, .val (.ref b1), .val (.ref w), .val (.long (off + lim)), .second, .unset, .unset] [])) ?_ (fun tX kX => XS.ifYes X9.here hx rfl (pc0 := 141) (pc' := 156) rfl (hb hby at_141) rfl ((if0 _ _).trans (tlt ((lw_lt _ _).mpr hc141)).1) (by decide) (by decide) kX)
        refine OGo.go (B := T9.setTop (mkF m 157 #[.val (.long q0), .second, .val (.long q1), .second, .val (.long q2), .second, .val (.int p3), .val (.long lim), .second, .val (.long off), .second, .val (.long siz), .second, .val (.ref b1), .val (.ref w), .val (.long (off + lim)), .second, .unset, .unset] [(.int (0 : Int32))])) ?_ (fun tX kX => XS.iconst X9.here hx rfl (hb hby at_156) kX)
        refine OGo.go (B := T9.setTop (mkF m 159 #[.val (.long q0), .second, .val (.long q1), .second, .val (.long q2), .second, .val (.int p3), .val (.long lim), .second, .val (.long off), .second, .val (.long siz), .second, .val (.ref b1), .val (.ref w), .val (.long (off + lim)), .second, .val (.int (0 : Int32)), .unset] [])) ?_ (fun tX kX => XS.istore X9.here hx rfl (hb hby at_157) rfl (l' := #[.val (.long q0), .second, .val (.long q1), .second, .val (.long q2), .second, .val (.int p3), .val (.long lim), .second, .val (.long off), .second, .val (.long siz), .second, .val (.ref b1), .val (.ref w), .val (.long (off + lim)), .second, .val (.int (0 : Int32)), .unset]) rfl kX)
        refine OGo.go (B := T9.setTop (mkF m 161 #[.val (.long q0), .second, .val (.long q1), .second, .val (.long q2), .second, .val (.int p3), .val (.long lim), .second, .val (.long off), .second, .val (.long siz), .second, .val (.ref b1), .val (.ref w), .val (.long (off + lim)), .second, .val (.int (0 : Int32)), .unset] [(.int (0 : Int32))])) ?_ (fun tX kX => XS.iload X9.here hx rfl (hb hby at_159) rfl kX)
        refine OGo.go (B := T9.setTop (mkF m 164 #[.val (.long q0), .second, .val (.long q1), .second, .val (.long q2), .second, .val (.int p3), .val (.long lim), .second, .val (.long off), .second, .val (.long siz), .second, .val (.ref b1), .val (.ref w), .val (.long (off + lim)), .second, .val (.int (0 : Int32)), .unset] [])) ?_ (fun tX kX => XS.ifNo X9.here hx rfl (hb hby at_161) rfl ((if0 _ _).trans (teq (by decide)).2) kX)
        refine OGo.go (B := T9.setTop (mkF m 166 #[.val (.long q0), .second, .val (.long q1), .second, .val (.long q2), .second, .val (.int p3), .val (.long lim), .second, .val (.long off), .second, .val (.long siz), .second, .val (.ref b1), .val (.ref w), .val (.long (off + lim)), .second, .val (.int (0 : Int32)), .unset] [(.ref w)])) ?_ (fun tX kX => XS.aload X9.here hx rfl (hb hby at_164) rfl rfl kX)
        obtain ⟨cq10, kq10, q10a, q10b, q10c⟩ := isOf hZ e9 E_w
        obtain ⟨_, _, ⟨T10, L10, k10, n10⟩, -, X10, ⟨Lc10, hQ10, l10, y10, z10⟩, st10⟩ := X9.virtualBack hx (y := (⟨"java/util/Optional", "isPresent", "()Z"⟩ : MethodName)) (z := (⟨"java/util/Optional", "isPresent", "()Z"⟩ : MethodName)) hown (mvT hZ (hw _ (List.mem_of_getElem? (i := 47) rfl))) (mvT hZ (hw _ (List.mem_of_getElem? (i := 48) rfl))) (notFace_of_selects (args := #[]) (mvT hZ (hw _ (List.mem_of_getElem? (i := 50) rfl)))) (mvT hZ (hw _ (List.mem_of_getElem? (i := 50) rfl))) (mvT hZ (hw _ (List.mem_of_getElem? (i := 49) rfl))) (by decide) (backOf (W := 0) (rm9n l Z aV hw [] w T2.heap n0 zn2 F_value_w) hZ (hw _ (List.mem_of_getElem? (i := 51) rfl)) (hw _ (List.mem_of_getElem? (i := 26) rfl)) (by decide) (by decide)) q10a q10c (g := (mkF m 166 #[.val (.long q0), .second, .val (.long q1), .second, .val (.long q2), .second, .val (.int p3), .val (.long lim), .second, .val (.long off), .second, .val (.long siz), .second, .val (.ref b1), .val (.ref w), .val (.long (off + lim)), .second, .val (.int (0 : Int32)), .unset] [(.ref w)])) rfl (by rw [hml]; rfl) (Steps.refl _) (argsL := []) (rest := []) (lenOf pd___Z rfl) rfl (by show 2 * 0 + _ ≤ _; exact Nat.le_of_eq rfl) (hb hby at_166) (fun _ _ => ⟨rfl, e9, (by decide : 1 + 0 ≤ _), (by decide : 2 + 0 ≤ _)⟩)
        dsimp only [Pt.U, Pt.locs, Pt.cells, Pt.slots] at X10 l10 y10 z10 st10 hQ10
        subst l10 y10 z10
        obtain ⟨rfl, N10q, e10⟩ := hQ10
        have N10 := Fr.app N9 N10q
        refine OGo.go (B := T10.setTop (mkF m 169 #[.val (.long q0), .second, .val (.long q1), .second, .val (.long q2), .second, .val (.int p3), .val (.long lim), .second, .val (.long off), .second, .val (.long siz), .second, .val (.ref b1), .val (.ref w), .val (.long (off + lim)), .second, .val (.int (0 : Int32)), .unset] [(.int (0 : Int32))])) ?_ (fun tX kX => st10.trans kX)
        refine OGo.go (B := T10.setTop (mkF m 172 #[.val (.long q0), .second, .val (.long q1), .second, .val (.long q2), .second, .val (.int p3), .val (.long lim), .second, .val (.long off), .second, .val (.long siz), .second, .val (.ref b1), .val (.ref w), .val (.long (off + lim)), .second, .val (.int (0 : Int32)), .unset] [])) ?_ (fun tX kX => XS.ifNo X10.here hx rfl (hb hby at_169) rfl ((if0 _ _).trans (teq (by decide)).2) kX)
        refine OGo.go (B := T10.setTop (mkF m 173 #[.val (.long q0), .second, .val (.long q1), .second, .val (.long q2), .second, .val (.int p3), .val (.long lim), .second, .val (.long off), .second, .val (.long siz), .second, .val (.ref b1), .val (.ref w), .val (.long (off + lim)), .second, .val (.int (0 : Int32)), .unset] [(.int (1 : Int32))])) ?_ (fun tX kX => XS.iconst X10.here hx rfl (hb hby at_172) kX)
        refine OGo.go (B := T10.setTop (mkF m 177 #[.val (.long q0), .second, .val (.long q1), .second, .val (.long q2), .second, .val (.int p3), .val (.long lim), .second, .val (.long off), .second, .val (.long siz), .second, .val (.ref b1), .val (.ref w), .val (.long (off + lim)), .second, .val (.int (0 : Int32)), .unset] [(.int (1 : Int32))])) ?_ (fun tX kX => XS.goto X10.here hx rfl (pc0 := 173) (pc' := 177) rfl (hb hby at_173) (by decide) (by decide) kX)
        refine OGo.ret X10 (v := (some (.int (1 : Int32)))) (fun h => by rw [Bd.returns] at h; cases h) (BodyLoose.notSynchronized Bd) (fun fs hr => retN X10 hx (t := .boolean) (z := (1 : Int32)) Bd.returns (by simp) (hb hby at_177) hr) (Q := Q0 Z q0 q1 q2 p3 w h0 n0) ?_ (by decide) (by decide)
        show Q0 Z q0 q1 q2 p3 w h0 n0 _ T10.heap _
        rw [e10]
        exact ⟨rfl, N10⟩
      ·
        refine OGo.go (B := T9.setTop (mkF m 144 #[.val (.long q0), .second, .val (.long q1), .second, .val (.long q2), .second, .val (.int p3), .val (.long lim), .second, .val (.long off), .second, .val (.long siz), .second, .val (.ref b1), .val (.ref w), .val (.long (off + lim)), .second, .unset, .unset] [])) ?_ (fun tX kX => XS.ifNo X9.here hx rfl (hb hby at_141) rfl ((if0 _ _).trans (flt (fun q => hc141 ((lw_lt _ _).mp q))).1) kX)
        refine OGo.go (B := T9.setTop (mkF m 146 #[.val (.long q0), .second, .val (.long q1), .second, .val (.long q2), .second, .val (.int p3), .val (.long lim), .second, .val (.long off), .second, .val (.long siz), .second, .val (.ref b1), .val (.ref w), .val (.long (off + lim)), .second, .unset, .unset] [(.long (off + lim))])) ?_ (fun tX kX => XS.lload X9.here hx rfl (hb hby at_144) rfl kX)
        refine OGo.go (B := T9.setTop (mkF m 148 #[.val (.long q0), .second, .val (.long q1), .second, .val (.long q2), .second, .val (.int p3), .val (.long lim), .second, .val (.long off), .second, .val (.long siz), .second, .val (.ref b1), .val (.ref w), .val (.long (off + lim)), .second, .unset, .unset] [(.long siz), (.long (off + lim))])) ?_ (fun tX kX => XS.lload X9.here hx rfl (hb hby at_146) rfl kX)
        refine OGo.go (B := T9.setTop (mkF m 149 #[.val (.long q0), .second, .val (.long q1), .second, .val (.long q2), .second, .val (.int p3), .val (.long lim), .second, .val (.long off), .second, .val (.long siz), .second, .val (.ref b1), .val (.ref w), .val (.long (off + lim)), .second, .unset, .unset] [(.int (lcmpW (off + lim) siz))])) ?_ (fun tX kX => XS.lcmp X9.here hx rfl (hb hby at_148) rfl kX)
        refine OGo.go (B := T9.setTop (mkF m 156 #[.val (.long q0), .second, .val (.long q1), .second, .val (.long q2), .second, .val (.int p3), .val (.long lim), .second, .val (.long off), .second, .val (.long siz), .second, .val (.ref b1), .val (.ref w), .val (.long (off + lim)), .second, .unset, .unset] [])) ?_ (fun tX kX => XS.ifYes X9.here hx rfl (pc0 := 149) (pc' := 156) rfl (hb hby at_149) rfl ((if0 _ _).trans (flt (fun q => (own_n hj1 hj2 hj3 hy hc141) ((lw_lt _ _).mp q))).2.1) (by decide) (by decide) kX)
        refine OGo.go (B := T9.setTop (mkF m 157 #[.val (.long q0), .second, .val (.long q1), .second, .val (.long q2), .second, .val (.int p3), .val (.long lim), .second, .val (.long off), .second, .val (.long siz), .second, .val (.ref b1), .val (.ref w), .val (.long (off + lim)), .second, .unset, .unset] [(.int (0 : Int32))])) ?_ (fun tX kX => XS.iconst X9.here hx rfl (hb hby at_156) kX)
        refine OGo.go (B := T9.setTop (mkF m 159 #[.val (.long q0), .second, .val (.long q1), .second, .val (.long q2), .second, .val (.int p3), .val (.long lim), .second, .val (.long off), .second, .val (.long siz), .second, .val (.ref b1), .val (.ref w), .val (.long (off + lim)), .second, .val (.int (0 : Int32)), .unset] [])) ?_ (fun tX kX => XS.istore X9.here hx rfl (hb hby at_157) rfl (l' := #[.val (.long q0), .second, .val (.long q1), .second, .val (.long q2), .second, .val (.int p3), .val (.long lim), .second, .val (.long off), .second, .val (.long siz), .second, .val (.ref b1), .val (.ref w), .val (.long (off + lim)), .second, .val (.int (0 : Int32)), .unset]) rfl kX)
        refine OGo.go (B := T9.setTop (mkF m 161 #[.val (.long q0), .second, .val (.long q1), .second, .val (.long q2), .second, .val (.int p3), .val (.long lim), .second, .val (.long off), .second, .val (.long siz), .second, .val (.ref b1), .val (.ref w), .val (.long (off + lim)), .second, .val (.int (0 : Int32)), .unset] [(.int (0 : Int32))])) ?_ (fun tX kX => XS.iload X9.here hx rfl (hb hby at_159) rfl kX)
        refine OGo.go (B := T9.setTop (mkF m 164 #[.val (.long q0), .second, .val (.long q1), .second, .val (.long q2), .second, .val (.int p3), .val (.long lim), .second, .val (.long off), .second, .val (.long siz), .second, .val (.ref b1), .val (.ref w), .val (.long (off + lim)), .second, .val (.int (0 : Int32)), .unset] [])) ?_ (fun tX kX => XS.ifNo X9.here hx rfl (hb hby at_161) rfl ((if0 _ _).trans (teq (by decide)).2) kX)
        refine OGo.go (B := T9.setTop (mkF m 166 #[.val (.long q0), .second, .val (.long q1), .second, .val (.long q2), .second, .val (.int p3), .val (.long lim), .second, .val (.long off), .second, .val (.long siz), .second, .val (.ref b1), .val (.ref w), .val (.long (off + lim)), .second, .val (.int (0 : Int32)), .unset] [(.ref w)])) ?_ (fun tX kX => XS.aload X9.here hx rfl (hb hby at_164) rfl rfl kX)
        obtain ⟨cq11, kq11, q11a, q11b, q11c⟩ := isOf hZ e9 E_w
        obtain ⟨_, _, ⟨T11, L11, k11, n11⟩, -, X11, ⟨Lc11, hQ11, l11, y11, z11⟩, st11⟩ := X9.virtualBack hx (y := (⟨"java/util/Optional", "isPresent", "()Z"⟩ : MethodName)) (z := (⟨"java/util/Optional", "isPresent", "()Z"⟩ : MethodName)) hown (mvT hZ (hw _ (List.mem_of_getElem? (i := 47) rfl))) (mvT hZ (hw _ (List.mem_of_getElem? (i := 48) rfl))) (notFace_of_selects (args := #[]) (mvT hZ (hw _ (List.mem_of_getElem? (i := 50) rfl)))) (mvT hZ (hw _ (List.mem_of_getElem? (i := 50) rfl))) (mvT hZ (hw _ (List.mem_of_getElem? (i := 49) rfl))) (by decide) (backOf (W := 0) (rm9n l Z aV hw [] w T2.heap n0 zn2 F_value_w) hZ (hw _ (List.mem_of_getElem? (i := 51) rfl)) (hw _ (List.mem_of_getElem? (i := 26) rfl)) (by decide) (by decide)) q11a q11c (g := (mkF m 166 #[.val (.long q0), .second, .val (.long q1), .second, .val (.long q2), .second, .val (.int p3), .val (.long lim), .second, .val (.long off), .second, .val (.long siz), .second, .val (.ref b1), .val (.ref w), .val (.long (off + lim)), .second, .val (.int (0 : Int32)), .unset] [(.ref w)])) rfl (by rw [hml]; rfl) (Steps.refl _) (argsL := []) (rest := []) (lenOf pd___Z rfl) rfl (by show 2 * 0 + _ ≤ _; exact Nat.le_of_eq rfl) (hb hby at_166) (fun _ _ => ⟨rfl, e9, (by decide : 1 + 0 ≤ _), (by decide : 2 + 0 ≤ _)⟩)
        dsimp only [Pt.U, Pt.locs, Pt.cells, Pt.slots] at X11 l11 y11 z11 st11 hQ11
        subst l11 y11 z11
        obtain ⟨rfl, N11q, e11⟩ := hQ11
        have N11 := Fr.app N9 N11q
        refine OGo.go (B := T11.setTop (mkF m 169 #[.val (.long q0), .second, .val (.long q1), .second, .val (.long q2), .second, .val (.int p3), .val (.long lim), .second, .val (.long off), .second, .val (.long siz), .second, .val (.ref b1), .val (.ref w), .val (.long (off + lim)), .second, .val (.int (0 : Int32)), .unset] [(.int (0 : Int32))])) ?_ (fun tX kX => st11.trans kX)
        refine OGo.go (B := T11.setTop (mkF m 172 #[.val (.long q0), .second, .val (.long q1), .second, .val (.long q2), .second, .val (.int p3), .val (.long lim), .second, .val (.long off), .second, .val (.long siz), .second, .val (.ref b1), .val (.ref w), .val (.long (off + lim)), .second, .val (.int (0 : Int32)), .unset] [])) ?_ (fun tX kX => XS.ifNo X11.here hx rfl (hb hby at_169) rfl ((if0 _ _).trans (teq (by decide)).2) kX)
        refine OGo.go (B := T11.setTop (mkF m 173 #[.val (.long q0), .second, .val (.long q1), .second, .val (.long q2), .second, .val (.int p3), .val (.long lim), .second, .val (.long off), .second, .val (.long siz), .second, .val (.ref b1), .val (.ref w), .val (.long (off + lim)), .second, .val (.int (0 : Int32)), .unset] [(.int (1 : Int32))])) ?_ (fun tX kX => XS.iconst X11.here hx rfl (hb hby at_172) kX)
        refine OGo.go (B := T11.setTop (mkF m 177 #[.val (.long q0), .second, .val (.long q1), .second, .val (.long q2), .second, .val (.int p3), .val (.long lim), .second, .val (.long off), .second, .val (.long siz), .second, .val (.ref b1), .val (.ref w), .val (.long (off + lim)), .second, .val (.int (0 : Int32)), .unset] [(.int (1 : Int32))])) ?_ (fun tX kX => XS.goto X11.here hx rfl (pc0 := 173) (pc' := 177) rfl (hb hby at_173) (by decide) (by decide) kX)
        refine OGo.ret X11 (v := (some (.int (1 : Int32)))) (fun h => by rw [Bd.returns] at h; cases h) (BodyLoose.notSynchronized Bd) (fun fs hr => retN X11 hx (t := .boolean) (z := (1 : Int32)) Bd.returns (by simp) (hb hby at_177) hr) (Q := Q0 Z q0 q1 q2 p3 w h0 n0) ?_ (by decide) (by decide)
        show Q0 Z q0 q1 q2 p3 w h0 n0 _ T11.heap _
        rw [e11]
        exact ⟨rfl, N11⟩
  refine OGo.go (B := s₁.setTop (mkF m 2 #[.val (.long q0), .second, .val (.long q1), .second, .val (.long q2), .second, .val (.int p3), .unset, .unset, .unset, .unset, .unset, .unset, .unset, .unset, .unset, .unset, .unset, .unset] [(.int p3)])) ?_ (fun tX kX => XS.iload X0.here hx rfl (hb hby at_0) rfl kX)
  refine OGo.go (B := s₁.setTop (mkF m 4 #[.val (.long q0), .second, .val (.long q1), .second, .val (.long q2), .second, .val (.int p3), .unset, .unset, .unset, .unset, .unset, .unset, .unset, .unset, .unset, .unset, .unset, .unset] [(.int (8 : Int32)), (.int p3)])) ?_ (fun tX kX => XS.bipush X0.here hx rfl (hb hby at_2) kX)
  refine OGo.go (B := s₁.setTop (mkF m 5 #[.val (.long q0), .second, .val (.long q1), .second, .val (.long q2), .second, .val (.int p3), .unset, .unset, .unset, .unset, .unset, .unset, .unset, .unset, .unset, .unset, .unset, .unset] [(.int (p3 &&& (8 : Int32)))])) ?_ (fun tX kX => XS.iand X0.here hx rfl (hb hby at_4) rfl kX)
  by_cases hc5 : (p3 &&& (8 : Int32)) = (0 : Int32)
  ·
    refine OGo.go (B := s₁.setTop (mkF m 35 #[.val (.long q0), .second, .val (.long q1), .second, .val (.long q2), .second, .val (.int p3), .unset, .unset, .unset, .unset, .unset, .unset, .unset, .unset, .unset, .unset, .unset, .unset] [])) ?_ (fun tX kX => XS.ifYes X0.here hx rfl (pc0 := 5) (pc' := 35) rfl (hb hby at_5) rfl ((if0 _ _).trans (teq hc5).1) (by decide) (by decide) kX)
    refine OGo.go (B := s₁.setTop (mkF m 36 #[.val (.long q0), .second, .val (.long q1), .second, .val (.long q2), .second, .val (.int p3), .unset, .unset, .unset, .unset, .unset, .unset, .unset, .unset, .unset, .unset, .unset, .unset] [(.long q0)])) ?_ (fun tX kX => XS.lloadN X0.here hx rfl (hb hby at_35) rfl kX)
    refine OGo.go (B := s₁.setTop (mkF m 39 #[.val (.long q0), .second, .val (.long q1), .second, .val (.long q2), .second, .val (.int p3), .unset, .unset, .unset, .unset, .unset, .unset, .unset, .unset, .unset, .unset, .unset, .unset] [(.long (9223372036854775807 : Int64)), (.long q0)])) ?_ (fun tX kX => X0.ldc2Long hx hown (mvT hZ (hw _ (List.mem_of_getElem? (i := 0) rfl))) (g := (mkF m 36 #[.val (.long q0), .second, .val (.long q1), .second, .val (.long q2), .second, .val (.int p3), .unset, .unset, .unset, .unset, .unset, .unset, .unset, .unset, .unset, .unset, .unset, .unset] [(.long q0)])) rfl (hb hby at_36) _ kX)
    refine OGo.go (B := s₁.setTop (mkF m 40 #[.val (.long q0), .second, .val (.long q1), .second, .val (.long q2), .second, .val (.int p3), .unset, .unset, .unset, .unset, .unset, .unset, .unset, .unset, .unset, .unset, .unset, .unset] [(.long (q0 &&& (9223372036854775807 : Int64)))])) ?_ (fun tX kX => XS.land X0.here hx rfl (hb hby at_39) rfl kX)
    refine OGo.go (B := s₁.setTop (mkF m 42 #[.val (.long q0), .second, .val (.long q1), .second, .val (.long q2), .second, .val (.int p3), .val (.long (q0 &&& (9223372036854775807 : Int64))), .second, .unset, .unset, .unset, .unset, .unset, .unset, .unset, .unset, .unset, .unset] [])) ?_ (fun tX kX => XS.lstore X0.here hx rfl (hb hby at_40) rfl (l' := #[.val (.long q0), .second, .val (.long q1), .second, .val (.long q2), .second, .val (.int p3), .val (.long (q0 &&& (9223372036854775807 : Int64))), .second, .unset, .unset, .unset, .unset, .unset, .unset, .unset, .unset, .unset, .unset]) rfl kX)
    refine OGo.go (B := s₁.setTop (mkF m 44 #[.val (.long q0), .second, .val (.long q1), .second, .val (.long q2), .second, .val (.int p3), .val (.long (q0 &&& (9223372036854775807 : Int64))), .second, .unset, .unset, .unset, .unset, .unset, .unset, .unset, .unset, .unset, .unset] [(.long (q0 &&& (9223372036854775807 : Int64)))])) ?_ (fun tX kX => XS.lload X0.here hx rfl (hb hby at_42) rfl kX)
    refine OGo.go (B := s₁.setTop (mkF m 45 #[.val (.long q0), .second, .val (.long q1), .second, .val (.long q2), .second, .val (.int p3), .val (.long (q0 &&& (9223372036854775807 : Int64))), .second, .unset, .unset, .unset, .unset, .unset, .unset, .unset, .unset, .unset, .unset] [(.long (0 : Int64)), (.long (q0 &&& (9223372036854775807 : Int64)))])) ?_ (fun tX kX => XS.lconst X0.here hx rfl (hb hby at_44) kX)
    refine OGo.go (B := s₁.setTop (mkF m 46 #[.val (.long q0), .second, .val (.long q1), .second, .val (.long q2), .second, .val (.int p3), .val (.long (q0 &&& (9223372036854775807 : Int64))), .second, .unset, .unset, .unset, .unset, .unset, .unset, .unset, .unset, .unset, .unset] [(.int (lcmpW (q0 &&& (9223372036854775807 : Int64)) (0 : Int64)))])) ?_ (fun tX kX => XS.lcmp X0.here hx rfl (hb hby at_45) rfl kX)
    by_cases hc46 : (q0 &&& (9223372036854775807 : Int64)) = (0 : Int64)
    ·
      refine OGo.go (B := s₁.setTop (mkF m 49 #[.val (.long q0), .second, .val (.long q1), .second, .val (.long q2), .second, .val (.int p3), .val (.long (q0 &&& (9223372036854775807 : Int64))), .second, .unset, .unset, .unset, .unset, .unset, .unset, .unset, .unset, .unset, .unset] [])) ?_ (fun tX kX => XS.ifNo X0.here hx rfl (hb hby at_46) rfl ((if0 _ _).trans (teq ((lw_eq _ _).mpr hc46)).2) kX)
      refine OGo.go (B := s₁.setTop (mkF m 50 #[.val (.long q0), .second, .val (.long q1), .second, .val (.long q2), .second, .val (.int p3), .val (.long (q0 &&& (9223372036854775807 : Int64))), .second, .unset, .unset, .unset, .unset, .unset, .unset, .unset, .unset, .unset, .unset] [(.long (1 : Int64))])) ?_ (fun tX kX => XS.lconst X0.here hx rfl (hb hby at_49) kX)
      refine OGo.go (B := s₁.setTop (mkF m 52 #[.val (.long q0), .second, .val (.long q1), .second, .val (.long q2), .second, .val (.int p3), .val (.long (1 : Int64)), .second, .unset, .unset, .unset, .unset, .unset, .unset, .unset, .unset, .unset, .unset] [])) ?_ (fun tX kX => XS.lstore X0.here hx rfl (hb hby at_50) rfl (l' := #[.val (.long q0), .second, .val (.long q1), .second, .val (.long q2), .second, .val (.int p3), .val (.long (1 : Int64)), .second, .unset, .unset, .unset, .unset, .unset, .unset, .unset, .unset, .unset, .unset]) rfl kX)
      refine OGo.go (B := s₁.setTop (mkF m 53 #[.val (.long q0), .second, .val (.long q1), .second, .val (.long q2), .second, .val (.int p3), .val (.long (1 : Int64)), .second, .unset, .unset, .unset, .unset, .unset, .unset, .unset, .unset, .unset, .unset] [(.long q1)])) ?_ (fun tX kX => XS.lloadN X0.here hx rfl (hb hby at_52) rfl kX)
      refine OGo.go (B := s₁.setTop (mkF m 56 #[.val (.long q0), .second, .val (.long q1), .second, .val (.long q2), .second, .val (.int p3), .val (.long (1 : Int64)), .second, .unset, .unset, .unset, .unset, .unset, .unset, .unset, .unset, .unset, .unset] [(.long (9223372036854775807 : Int64)), (.long q1)])) ?_ (fun tX kX => X0.ldc2Long hx hown (mvT hZ (hw _ (List.mem_of_getElem? (i := 0) rfl))) (g := (mkF m 53 #[.val (.long q0), .second, .val (.long q1), .second, .val (.long q2), .second, .val (.int p3), .val (.long (1 : Int64)), .second, .unset, .unset, .unset, .unset, .unset, .unset, .unset, .unset, .unset, .unset] [(.long q1)])) rfl (hb hby at_53) _ kX)
      refine OGo.go (B := s₁.setTop (mkF m 57 #[.val (.long q0), .second, .val (.long q1), .second, .val (.long q2), .second, .val (.int p3), .val (.long (1 : Int64)), .second, .unset, .unset, .unset, .unset, .unset, .unset, .unset, .unset, .unset, .unset] [(.long (q1 &&& (9223372036854775807 : Int64)))])) ?_ (fun tX kX => XS.land X0.here hx rfl (hb hby at_56) rfl kX)
      refine OGo.go (B := s₁.setTop (mkF m 59 #[.val (.long q0), .second, .val (.long q1), .second, .val (.long q2), .second, .val (.int p3), .val (.long (1 : Int64)), .second, .val (.long (q1 &&& (9223372036854775807 : Int64))), .second, .unset, .unset, .unset, .unset, .unset, .unset, .unset, .unset] [])) ?_ (fun tX kX => XS.lstore X0.here hx rfl (hb hby at_57) rfl (l' := #[.val (.long q0), .second, .val (.long q1), .second, .val (.long q2), .second, .val (.int p3), .val (.long (1 : Int64)), .second, .val (.long (q1 &&& (9223372036854775807 : Int64))), .second, .unset, .unset, .unset, .unset, .unset, .unset, .unset, .unset]) rfl kX)
      refine OGo.go (B := s₁.setTop (mkF m 61 #[.val (.long q0), .second, .val (.long q1), .second, .val (.long q2), .second, .val (.int p3), .val (.long (1 : Int64)), .second, .val (.long (q1 &&& (9223372036854775807 : Int64))), .second, .unset, .unset, .unset, .unset, .unset, .unset, .unset, .unset] [(.long q2)])) ?_ (fun tX kX => XS.lload X0.here hx rfl (hb hby at_59) rfl kX)
      refine OGo.go (B := s₁.setTop (mkF m 64 #[.val (.long q0), .second, .val (.long q1), .second, .val (.long q2), .second, .val (.int p3), .val (.long (1 : Int64)), .second, .val (.long (q1 &&& (9223372036854775807 : Int64))), .second, .unset, .unset, .unset, .unset, .unset, .unset, .unset, .unset] [(.long (9223372036854775807 : Int64)), (.long q2)])) ?_ (fun tX kX => X0.ldc2Long hx hown (mvT hZ (hw _ (List.mem_of_getElem? (i := 0) rfl))) (g := (mkF m 61 #[.val (.long q0), .second, .val (.long q1), .second, .val (.long q2), .second, .val (.int p3), .val (.long (1 : Int64)), .second, .val (.long (q1 &&& (9223372036854775807 : Int64))), .second, .unset, .unset, .unset, .unset, .unset, .unset, .unset, .unset] [(.long q2)])) rfl (hb hby at_61) _ kX)
      refine OGo.go (B := s₁.setTop (mkF m 65 #[.val (.long q0), .second, .val (.long q1), .second, .val (.long q2), .second, .val (.int p3), .val (.long (1 : Int64)), .second, .val (.long (q1 &&& (9223372036854775807 : Int64))), .second, .unset, .unset, .unset, .unset, .unset, .unset, .unset, .unset] [(.long (q2 &&& (9223372036854775807 : Int64)))])) ?_ (fun tX kX => XS.land X0.here hx rfl (hb hby at_64) rfl kX)
      refine OGo.go (B := s₁.setTop (mkF m 67 #[.val (.long q0), .second, .val (.long q1), .second, .val (.long q2), .second, .val (.int p3), .val (.long (1 : Int64)), .second, .val (.long (q1 &&& (9223372036854775807 : Int64))), .second, .val (.long (q2 &&& (9223372036854775807 : Int64))), .second, .unset, .unset, .unset, .unset, .unset, .unset] [])) ?_ (fun tX kX => XS.lstore X0.here hx rfl (hb hby at_65) rfl (l' := #[.val (.long q0), .second, .val (.long q1), .second, .val (.long q2), .second, .val (.int p3), .val (.long (1 : Int64)), .second, .val (.long (q1 &&& (9223372036854775807 : Int64))), .second, .val (.long (q2 &&& (9223372036854775807 : Int64))), .second, .unset, .unset, .unset, .unset, .unset, .unset]) rfl kX)
      refine OGo.go (B := s₁.setTop (mkF m 69 #[.val (.long q0), .second, .val (.long q1), .second, .val (.long q2), .second, .val (.int p3), .val (.long (1 : Int64)), .second, .val (.long (q1 &&& (9223372036854775807 : Int64))), .second, .val (.long (q2 &&& (9223372036854775807 : Int64))), .second, .unset, .unset, .unset, .unset, .unset, .unset] [(.int p3)])) ?_ (fun tX kX => XS.iload X0.here hx rfl (hb hby at_67) rfl kX)
      refine OGo.go (B := s₁.setTop (mkF m 71 #[.val (.long q0), .second, .val (.long q1), .second, .val (.long q2), .second, .val (.int p3), .val (.long (1 : Int64)), .second, .val (.long (q1 &&& (9223372036854775807 : Int64))), .second, .val (.long (q2 &&& (9223372036854775807 : Int64))), .second, .unset, .unset, .unset, .unset, .unset, .unset] [(.int (16 : Int32)), (.int p3)])) ?_ (fun tX kX => XS.bipush X0.here hx rfl (hb hby at_69) kX)
      refine OGo.go (B := s₁.setTop (mkF m 72 #[.val (.long q0), .second, .val (.long q1), .second, .val (.long q2), .second, .val (.int p3), .val (.long (1 : Int64)), .second, .val (.long (q1 &&& (9223372036854775807 : Int64))), .second, .val (.long (q2 &&& (9223372036854775807 : Int64))), .second, .unset, .unset, .unset, .unset, .unset, .unset] [(.int (p3 &&& (16 : Int32)))])) ?_ (fun tX kX => XS.iand X0.here hx rfl (hb hby at_71) rfl kX)
      by_cases hc72 : (p3 &&& (16 : Int32)) = (0 : Int32)
      ·
        refine OGo.go (B := s₁.setTop (mkF m 108 #[.val (.long q0), .second, .val (.long q1), .second, .val (.long q2), .second, .val (.int p3), .val (.long (1 : Int64)), .second, .val (.long (q1 &&& (9223372036854775807 : Int64))), .second, .val (.long (q2 &&& (9223372036854775807 : Int64))), .second, .unset, .unset, .unset, .unset, .unset, .unset] [])) ?_ (fun tX kX => XS.ifYes X0.here hx rfl (pc0 := 72) (pc' := 108) rfl (hb hby at_72) rfl ((if0 _ _).trans (teq hc72).1) (by decide) (by decide) kX)
        exact J108 _ _ _ (by decide) (own_mM q1).1 (own_mM q2).1
      ·
        refine OGo.go (B := s₁.setTop (mkF m 75 #[.val (.long q0), .second, .val (.long q1), .second, .val (.long q2), .second, .val (.int p3), .val (.long (1 : Int64)), .second, .val (.long (q1 &&& (9223372036854775807 : Int64))), .second, .val (.long (q2 &&& (9223372036854775807 : Int64))), .second, .unset, .unset, .unset, .unset, .unset, .unset] [])) ?_ (fun tX kX => XS.ifNo X0.here hx rfl (hb hby at_72) rfl ((if0 _ _).trans (feq hc72).1) kX)
        refine OGo.go (B := s₁.setTop (mkF m 77 #[.val (.long q0), .second, .val (.long q1), .second, .val (.long q2), .second, .val (.int p3), .val (.long (1 : Int64)), .second, .val (.long (q1 &&& (9223372036854775807 : Int64))), .second, .val (.long (q2 &&& (9223372036854775807 : Int64))), .second, .unset, .unset, .unset, .unset, .unset, .unset] [(.long (1 : Int64))])) ?_ (fun tX kX => XS.lload X0.here hx rfl (hb hby at_75) rfl kX)
        refine OGo.go (B := s₁.setTop (mkF m 80 #[.val (.long q0), .second, .val (.long q1), .second, .val (.long q2), .second, .val (.int p3), .val (.long (1 : Int64)), .second, .val (.long (q1 &&& (9223372036854775807 : Int64))), .second, .val (.long (q2 &&& (9223372036854775807 : Int64))), .second, .unset, .unset, .unset, .unset, .unset, .unset] [(.long (9223372036854775807 : Int64)), (.long (1 : Int64))])) ?_ (fun tX kX => X0.ldc2Long hx hown (mvT hZ (hw _ (List.mem_of_getElem? (i := 0) rfl))) (g := (mkF m 77 #[.val (.long q0), .second, .val (.long q1), .second, .val (.long q2), .second, .val (.int p3), .val (.long (1 : Int64)), .second, .val (.long (q1 &&& (9223372036854775807 : Int64))), .second, .val (.long (q2 &&& (9223372036854775807 : Int64))), .second, .unset, .unset, .unset, .unset, .unset, .unset] [(.long (1 : Int64))])) rfl (hb hby at_77) _ kX)
        refine OGo.go (B := s₁.setTop (mkF m 82 #[.val (.long q0), .second, .val (.long q1), .second, .val (.long q2), .second, .val (.int p3), .val (.long (1 : Int64)), .second, .val (.long (q1 &&& (9223372036854775807 : Int64))), .second, .val (.long (q2 &&& (9223372036854775807 : Int64))), .second, .unset, .unset, .unset, .unset, .unset, .unset] [(.long (q1 &&& (9223372036854775807 : Int64))), (.long (9223372036854775807 : Int64)), (.long (1 : Int64))])) ?_ (fun tX kX => XS.lload X0.here hx rfl (hb hby at_80) rfl kX)
        refine OGo.go (B := s₁.setTop (mkF m 83 #[.val (.long q0), .second, .val (.long q1), .second, .val (.long q2), .second, .val (.int p3), .val (.long (1 : Int64)), .second, .val (.long (q1 &&& (9223372036854775807 : Int64))), .second, .val (.long (q2 &&& (9223372036854775807 : Int64))), .second, .unset, .unset, .unset, .unset, .unset, .unset] [(.long ((9223372036854775807 : Int64) - (q1 &&& (9223372036854775807 : Int64)))), (.long (1 : Int64))])) ?_ (fun tX kX => XS.lsub X0.here hx rfl (hb hby at_82) rfl kX)
        refine OGo.go (B := s₁.setTop (mkF m 86 #[.val (.long q0), .second, .val (.long q1), .second, .val (.long q2), .second, .val (.int p3), .val (.long (1 : Int64)), .second, .val (.long (q1 &&& (9223372036854775807 : Int64))), .second, .val (.long (q2 &&& (9223372036854775807 : Int64))), .second, .unset, .unset, .unset, .unset, .unset, .unset] [(.long (2 : Int64)), (.long ((9223372036854775807 : Int64) - (q1 &&& (9223372036854775807 : Int64)))), (.long (1 : Int64))])) ?_ (fun tX kX => X0.ldc2Long hx hown (mvT hZ (hw _ (List.mem_of_getElem? (i := 68) rfl))) (g := (mkF m 83 #[.val (.long q0), .second, .val (.long q1), .second, .val (.long q2), .second, .val (.int p3), .val (.long (1 : Int64)), .second, .val (.long (q1 &&& (9223372036854775807 : Int64))), .second, .val (.long (q2 &&& (9223372036854775807 : Int64))), .second, .unset, .unset, .unset, .unset, .unset, .unset] [(.long ((9223372036854775807 : Int64) - (q1 &&& (9223372036854775807 : Int64)))), (.long (1 : Int64))])) rfl (hb hby at_83) _ kX)
        refine OGo.go (B := s₁.setTop (mkF m 87 #[.val (.long q0), .second, .val (.long q1), .second, .val (.long q2), .second, .val (.int p3), .val (.long (1 : Int64)), .second, .val (.long (q1 &&& (9223372036854775807 : Int64))), .second, .val (.long (q2 &&& (9223372036854775807 : Int64))), .second, .unset, .unset, .unset, .unset, .unset, .unset] [(.long (((9223372036854775807 : Int64) - (q1 &&& (9223372036854775807 : Int64))) - (2 : Int64))), (.long (1 : Int64))])) ?_ (fun tX kX => XS.lsub X0.here hx rfl (hb hby at_86) rfl kX)
        refine OGo.go (B := s₁.setTop (mkF m 88 #[.val (.long q0), .second, .val (.long q1), .second, .val (.long q2), .second, .val (.int p3), .val (.long (1 : Int64)), .second, .val (.long (q1 &&& (9223372036854775807 : Int64))), .second, .val (.long (q2 &&& (9223372036854775807 : Int64))), .second, .unset, .unset, .unset, .unset, .unset, .unset] [(.int (lcmpW (1 : Int64) (((9223372036854775807 : Int64) - (q1 &&& (9223372036854775807 : Int64))) - (2 : Int64))))])) ?_ (fun tX kX => XS.lcmp X0.here hx rfl (hb hby at_87) rfl kX)
        by_cases hc88 : (((9223372036854775807 : Int64) - (q1 &&& (9223372036854775807 : Int64))) - (2 : Int64)) < (1 : Int64)
        ·
          refine OGo.go (B := s₁.setTop (mkF m 108 #[.val (.long q0), .second, .val (.long q1), .second, .val (.long q2), .second, .val (.int p3), .val (.long (1 : Int64)), .second, .val (.long (q1 &&& (9223372036854775807 : Int64))), .second, .val (.long (q2 &&& (9223372036854775807 : Int64))), .second, .unset, .unset, .unset, .unset, .unset, .unset] [])) ?_ (fun tX kX => XS.ifYes X0.here hx rfl (pc0 := 88) (pc' := 108) rfl (hb hby at_88) rfl ((if0 _ _).trans (tlt ((lw_gt _ _).mpr hc88)).2.2.1) (by decide) (by decide) kX)
          exact J108 _ _ _ (by decide) (own_mM q1).1 (own_mM q2).1
        ·
          refine OGo.go (B := s₁.setTop (mkF m 91 #[.val (.long q0), .second, .val (.long q1), .second, .val (.long q2), .second, .val (.int p3), .val (.long (1 : Int64)), .second, .val (.long (q1 &&& (9223372036854775807 : Int64))), .second, .val (.long (q2 &&& (9223372036854775807 : Int64))), .second, .unset, .unset, .unset, .unset, .unset, .unset] [])) ?_ (fun tX kX => XS.ifNo X0.here hx rfl (hb hby at_88) rfl ((if0 _ _).trans (flt (fun q => hc88 ((lw_gt _ _).mp q))).2.2.1) kX)
          refine OGo.go (B := s₁.setTop (mkF m 93 #[.val (.long q0), .second, .val (.long q1), .second, .val (.long q2), .second, .val (.int p3), .val (.long (1 : Int64)), .second, .val (.long (q1 &&& (9223372036854775807 : Int64))), .second, .val (.long (q2 &&& (9223372036854775807 : Int64))), .second, .unset, .unset, .unset, .unset, .unset, .unset] [(.long (q1 &&& (9223372036854775807 : Int64)))])) ?_ (fun tX kX => XS.lload X0.here hx rfl (hb hby at_91) rfl kX)
          refine OGo.go (B := s₁.setTop (mkF m 95 #[.val (.long q0), .second, .val (.long q1), .second, .val (.long q2), .second, .val (.int p3), .val (.long (1 : Int64)), .second, .val (.long (q1 &&& (9223372036854775807 : Int64))), .second, .val (.long (q2 &&& (9223372036854775807 : Int64))), .second, .unset, .unset, .unset, .unset, .unset, .unset] [(.long (1 : Int64)), (.long (q1 &&& (9223372036854775807 : Int64)))])) ?_ (fun tX kX => XS.lload X0.here hx rfl (hb hby at_93) rfl kX)
          refine OGo.go (B := s₁.setTop (mkF m 96 #[.val (.long q0), .second, .val (.long q1), .second, .val (.long q2), .second, .val (.int p3), .val (.long (1 : Int64)), .second, .val (.long (q1 &&& (9223372036854775807 : Int64))), .second, .val (.long (q2 &&& (9223372036854775807 : Int64))), .second, .unset, .unset, .unset, .unset, .unset, .unset] [(.long ((q1 &&& (9223372036854775807 : Int64)) + (1 : Int64)))])) ?_ (fun tX kX => XS.ladd X0.here hx rfl (hb hby at_95) rfl kX)
          refine OGo.go (B := s₁.setTop (mkF m 98 #[.val (.long q0), .second, .val (.long q1), .second, .val (.long q2), .second, .val (.int p3), .val (.long (1 : Int64)), .second, .val (.long (q1 &&& (9223372036854775807 : Int64))), .second, .val (.long (q2 &&& (9223372036854775807 : Int64))), .second, .unset, .unset, .unset, .unset, .unset, .unset] [(.int p3), (.long ((q1 &&& (9223372036854775807 : Int64)) + (1 : Int64)))])) ?_ (fun tX kX => XS.iload X0.here hx rfl (hb hby at_96) rfl kX)
          refine OGo.go (B := s₁.setTop (mkF m 99 #[.val (.long q0), .second, .val (.long q1), .second, .val (.long q2), .second, .val (.int p3), .val (.long (1 : Int64)), .second, .val (.long (q1 &&& (9223372036854775807 : Int64))), .second, .val (.long (q2 &&& (9223372036854775807 : Int64))), .second, .unset, .unset, .unset, .unset, .unset, .unset] [(.int (5 : Int32)), (.int p3), (.long ((q1 &&& (9223372036854775807 : Int64)) + (1 : Int64)))])) ?_ (fun tX kX => XS.iconst X0.here hx rfl (hb hby at_98) kX)
          refine OGo.go (B := s₁.setTop (mkF m 100 #[.val (.long q0), .second, .val (.long q1), .second, .val (.long q2), .second, .val (.int p3), .val (.long (1 : Int64)), .second, .val (.long (q1 &&& (9223372036854775807 : Int64))), .second, .val (.long (q2 &&& (9223372036854775807 : Int64))), .second, .unset, .unset, .unset, .unset, .unset, .unset] [(.int (p3 >>> ((5 : Int32) &&& 31))), (.long ((q1 &&& (9223372036854775807 : Int64)) + (1 : Int64)))])) ?_ (fun tX kX => XS.ishr X0.here hx rfl (hb hby at_99) rfl kX)
          refine OGo.go (B := s₁.setTop (mkF m 101 #[.val (.long q0), .second, .val (.long q1), .second, .val (.long q2), .second, .val (.int p3), .val (.long (1 : Int64)), .second, .val (.long (q1 &&& (9223372036854775807 : Int64))), .second, .val (.long (q2 &&& (9223372036854775807 : Int64))), .second, .unset, .unset, .unset, .unset, .unset, .unset] [(.int (3 : Int32)), (.int (p3 >>> ((5 : Int32) &&& 31))), (.long ((q1 &&& (9223372036854775807 : Int64)) + (1 : Int64)))])) ?_ (fun tX kX => XS.iconst X0.here hx rfl (hb hby at_100) kX)
          refine OGo.go (B := s₁.setTop (mkF m 102 #[.val (.long q0), .second, .val (.long q1), .second, .val (.long q2), .second, .val (.int p3), .val (.long (1 : Int64)), .second, .val (.long (q1 &&& (9223372036854775807 : Int64))), .second, .val (.long (q2 &&& (9223372036854775807 : Int64))), .second, .unset, .unset, .unset, .unset, .unset, .unset] [(.int ((p3 >>> ((5 : Int32) &&& 31)) &&& (3 : Int32))), (.long ((q1 &&& (9223372036854775807 : Int64)) + (1 : Int64)))])) ?_ (fun tX kX => XS.iand X0.here hx rfl (hb hby at_101) rfl kX)
          refine OGo.go (B := s₁.setTop (mkF m 103 #[.val (.long q0), .second, .val (.long q1), .second, .val (.long q2), .second, .val (.int p3), .val (.long (1 : Int64)), .second, .val (.long (q1 &&& (9223372036854775807 : Int64))), .second, .val (.long (q2 &&& (9223372036854775807 : Int64))), .second, .unset, .unset, .unset, .unset, .unset, .unset] [(.int (1 : Int32)), (.int ((p3 >>> ((5 : Int32) &&& 31)) &&& (3 : Int32))), (.long ((q1 &&& (9223372036854775807 : Int64)) + (1 : Int64)))])) ?_ (fun tX kX => XS.iconst X0.here hx rfl (hb hby at_102) kX)
          refine OGo.go (B := s₁.setTop (mkF m 104 #[.val (.long q0), .second, .val (.long q1), .second, .val (.long q2), .second, .val (.int p3), .val (.long (1 : Int64)), .second, .val (.long (q1 &&& (9223372036854775807 : Int64))), .second, .val (.long (q2 &&& (9223372036854775807 : Int64))), .second, .unset, .unset, .unset, .unset, .unset, .unset] [(.int (((p3 >>> ((5 : Int32) &&& 31)) &&& (3 : Int32)) - (1 : Int32))), (.long ((q1 &&& (9223372036854775807 : Int64)) + (1 : Int64)))])) ?_ (fun tX kX => XS.isub X0.here hx rfl (hb hby at_103) rfl kX)
          refine OGo.go (B := s₁.setTop (mkF m 105 #[.val (.long q0), .second, .val (.long q1), .second, .val (.long q2), .second, .val (.int p3), .val (.long (1 : Int64)), .second, .val (.long (q1 &&& (9223372036854775807 : Int64))), .second, .val (.long (q2 &&& (9223372036854775807 : Int64))), .second, .unset, .unset, .unset, .unset, .unset, .unset] [(.long ((((p3 >>> ((5 : Int32) &&& 31)) &&& (3 : Int32)) - (1 : Int32)).toInt64)), (.long ((q1 &&& (9223372036854775807 : Int64)) + (1 : Int64)))])) ?_ (fun tX kX => XS.i2l X0.here hx rfl (hb hby at_104) rfl kX)
          refine OGo.go (B := s₁.setTop (mkF m 106 #[.val (.long q0), .second, .val (.long q1), .second, .val (.long q2), .second, .val (.int p3), .val (.long (1 : Int64)), .second, .val (.long (q1 &&& (9223372036854775807 : Int64))), .second, .val (.long (q2 &&& (9223372036854775807 : Int64))), .second, .unset, .unset, .unset, .unset, .unset, .unset] [(.long (((q1 &&& (9223372036854775807 : Int64)) + (1 : Int64)) + ((((p3 >>> ((5 : Int32) &&& 31)) &&& (3 : Int32)) - (1 : Int32)).toInt64)))])) ?_ (fun tX kX => XS.ladd X0.here hx rfl (hb hby at_105) rfl kX)
          refine OGo.go (B := s₁.setTop (mkF m 108 #[.val (.long q0), .second, .val (.long q1), .second, .val (.long q2), .second, .val (.int p3), .val (.long (1 : Int64)), .second, .val (.long (q1 &&& (9223372036854775807 : Int64))), .second, .val (.long (((q1 &&& (9223372036854775807 : Int64)) + (1 : Int64)) + ((((p3 >>> ((5 : Int32) &&& 31)) &&& (3 : Int32)) - (1 : Int32)).toInt64))), .second, .unset, .unset, .unset, .unset, .unset, .unset] [])) ?_ (fun tX kX => XS.lstore X0.here hx rfl (hb hby at_106) rfl (l' := #[.val (.long q0), .second, .val (.long q1), .second, .val (.long q2), .second, .val (.int p3), .val (.long (1 : Int64)), .second, .val (.long (q1 &&& (9223372036854775807 : Int64))), .second, .val (.long (((q1 &&& (9223372036854775807 : Int64)) + (1 : Int64)) + ((((p3 >>> ((5 : Int32) &&& 31)) &&& (3 : Int32)) - (1 : Int32)).toInt64))), .second, .unset, .unset, .unset, .unset, .unset, .unset]) rfl kX)
          exact J108 _ _ _ (by decide) (own_mM q1).1 (own_siz p3 (by decide) (own_mM q1).1 hc88)
    ·
      refine OGo.go (B := s₁.setTop (mkF m 52 #[.val (.long q0), .second, .val (.long q1), .second, .val (.long q2), .second, .val (.int p3), .val (.long (q0 &&& (9223372036854775807 : Int64))), .second, .unset, .unset, .unset, .unset, .unset, .unset, .unset, .unset, .unset, .unset] [])) ?_ (fun tX kX => XS.ifYes X0.here hx rfl (pc0 := 46) (pc' := 52) rfl (hb hby at_46) rfl ((if0 _ _).trans (feq (fun q => hc46 ((lw_eq _ _).mp q))).2) (by decide) (by decide) kX)
      refine OGo.go (B := s₁.setTop (mkF m 53 #[.val (.long q0), .second, .val (.long q1), .second, .val (.long q2), .second, .val (.int p3), .val (.long (q0 &&& (9223372036854775807 : Int64))), .second, .unset, .unset, .unset, .unset, .unset, .unset, .unset, .unset, .unset, .unset] [(.long q1)])) ?_ (fun tX kX => XS.lloadN X0.here hx rfl (hb hby at_52) rfl kX)
      refine OGo.go (B := s₁.setTop (mkF m 56 #[.val (.long q0), .second, .val (.long q1), .second, .val (.long q2), .second, .val (.int p3), .val (.long (q0 &&& (9223372036854775807 : Int64))), .second, .unset, .unset, .unset, .unset, .unset, .unset, .unset, .unset, .unset, .unset] [(.long (9223372036854775807 : Int64)), (.long q1)])) ?_ (fun tX kX => X0.ldc2Long hx hown (mvT hZ (hw _ (List.mem_of_getElem? (i := 0) rfl))) (g := (mkF m 53 #[.val (.long q0), .second, .val (.long q1), .second, .val (.long q2), .second, .val (.int p3), .val (.long (q0 &&& (9223372036854775807 : Int64))), .second, .unset, .unset, .unset, .unset, .unset, .unset, .unset, .unset, .unset, .unset] [(.long q1)])) rfl (hb hby at_53) _ kX)
      refine OGo.go (B := s₁.setTop (mkF m 57 #[.val (.long q0), .second, .val (.long q1), .second, .val (.long q2), .second, .val (.int p3), .val (.long (q0 &&& (9223372036854775807 : Int64))), .second, .unset, .unset, .unset, .unset, .unset, .unset, .unset, .unset, .unset, .unset] [(.long (q1 &&& (9223372036854775807 : Int64)))])) ?_ (fun tX kX => XS.land X0.here hx rfl (hb hby at_56) rfl kX)
      refine OGo.go (B := s₁.setTop (mkF m 59 #[.val (.long q0), .second, .val (.long q1), .second, .val (.long q2), .second, .val (.int p3), .val (.long (q0 &&& (9223372036854775807 : Int64))), .second, .val (.long (q1 &&& (9223372036854775807 : Int64))), .second, .unset, .unset, .unset, .unset, .unset, .unset, .unset, .unset] [])) ?_ (fun tX kX => XS.lstore X0.here hx rfl (hb hby at_57) rfl (l' := #[.val (.long q0), .second, .val (.long q1), .second, .val (.long q2), .second, .val (.int p3), .val (.long (q0 &&& (9223372036854775807 : Int64))), .second, .val (.long (q1 &&& (9223372036854775807 : Int64))), .second, .unset, .unset, .unset, .unset, .unset, .unset, .unset, .unset]) rfl kX)
      refine OGo.go (B := s₁.setTop (mkF m 61 #[.val (.long q0), .second, .val (.long q1), .second, .val (.long q2), .second, .val (.int p3), .val (.long (q0 &&& (9223372036854775807 : Int64))), .second, .val (.long (q1 &&& (9223372036854775807 : Int64))), .second, .unset, .unset, .unset, .unset, .unset, .unset, .unset, .unset] [(.long q2)])) ?_ (fun tX kX => XS.lload X0.here hx rfl (hb hby at_59) rfl kX)
      refine OGo.go (B := s₁.setTop (mkF m 64 #[.val (.long q0), .second, .val (.long q1), .second, .val (.long q2), .second, .val (.int p3), .val (.long (q0 &&& (9223372036854775807 : Int64))), .second, .val (.long (q1 &&& (9223372036854775807 : Int64))), .second, .unset, .unset, .unset, .unset, .unset, .unset, .unset, .unset] [(.long (9223372036854775807 : Int64)), (.long q2)])) ?_ (fun tX kX => X0.ldc2Long hx hown (mvT hZ (hw _ (List.mem_of_getElem? (i := 0) rfl))) (g := (mkF m 61 #[.val (.long q0), .second, .val (.long q1), .second, .val (.long q2), .second, .val (.int p3), .val (.long (q0 &&& (9223372036854775807 : Int64))), .second, .val (.long (q1 &&& (9223372036854775807 : Int64))), .second, .unset, .unset, .unset, .unset, .unset, .unset, .unset, .unset] [(.long q2)])) rfl (hb hby at_61) _ kX)
      refine OGo.go (B := s₁.setTop (mkF m 65 #[.val (.long q0), .second, .val (.long q1), .second, .val (.long q2), .second, .val (.int p3), .val (.long (q0 &&& (9223372036854775807 : Int64))), .second, .val (.long (q1 &&& (9223372036854775807 : Int64))), .second, .unset, .unset, .unset, .unset, .unset, .unset, .unset, .unset] [(.long (q2 &&& (9223372036854775807 : Int64)))])) ?_ (fun tX kX => XS.land X0.here hx rfl (hb hby at_64) rfl kX)
      refine OGo.go (B := s₁.setTop (mkF m 67 #[.val (.long q0), .second, .val (.long q1), .second, .val (.long q2), .second, .val (.int p3), .val (.long (q0 &&& (9223372036854775807 : Int64))), .second, .val (.long (q1 &&& (9223372036854775807 : Int64))), .second, .val (.long (q2 &&& (9223372036854775807 : Int64))), .second, .unset, .unset, .unset, .unset, .unset, .unset] [])) ?_ (fun tX kX => XS.lstore X0.here hx rfl (hb hby at_65) rfl (l' := #[.val (.long q0), .second, .val (.long q1), .second, .val (.long q2), .second, .val (.int p3), .val (.long (q0 &&& (9223372036854775807 : Int64))), .second, .val (.long (q1 &&& (9223372036854775807 : Int64))), .second, .val (.long (q2 &&& (9223372036854775807 : Int64))), .second, .unset, .unset, .unset, .unset, .unset, .unset]) rfl kX)
      refine OGo.go (B := s₁.setTop (mkF m 69 #[.val (.long q0), .second, .val (.long q1), .second, .val (.long q2), .second, .val (.int p3), .val (.long (q0 &&& (9223372036854775807 : Int64))), .second, .val (.long (q1 &&& (9223372036854775807 : Int64))), .second, .val (.long (q2 &&& (9223372036854775807 : Int64))), .second, .unset, .unset, .unset, .unset, .unset, .unset] [(.int p3)])) ?_ (fun tX kX => XS.iload X0.here hx rfl (hb hby at_67) rfl kX)
      refine OGo.go (B := s₁.setTop (mkF m 71 #[.val (.long q0), .second, .val (.long q1), .second, .val (.long q2), .second, .val (.int p3), .val (.long (q0 &&& (9223372036854775807 : Int64))), .second, .val (.long (q1 &&& (9223372036854775807 : Int64))), .second, .val (.long (q2 &&& (9223372036854775807 : Int64))), .second, .unset, .unset, .unset, .unset, .unset, .unset] [(.int (16 : Int32)), (.int p3)])) ?_ (fun tX kX => XS.bipush X0.here hx rfl (hb hby at_69) kX)
      refine OGo.go (B := s₁.setTop (mkF m 72 #[.val (.long q0), .second, .val (.long q1), .second, .val (.long q2), .second, .val (.int p3), .val (.long (q0 &&& (9223372036854775807 : Int64))), .second, .val (.long (q1 &&& (9223372036854775807 : Int64))), .second, .val (.long (q2 &&& (9223372036854775807 : Int64))), .second, .unset, .unset, .unset, .unset, .unset, .unset] [(.int (p3 &&& (16 : Int32)))])) ?_ (fun tX kX => XS.iand X0.here hx rfl (hb hby at_71) rfl kX)
      by_cases hc72_1 : (p3 &&& (16 : Int32)) = (0 : Int32)
      ·
        refine OGo.go (B := s₁.setTop (mkF m 108 #[.val (.long q0), .second, .val (.long q1), .second, .val (.long q2), .second, .val (.int p3), .val (.long (q0 &&& (9223372036854775807 : Int64))), .second, .val (.long (q1 &&& (9223372036854775807 : Int64))), .second, .val (.long (q2 &&& (9223372036854775807 : Int64))), .second, .unset, .unset, .unset, .unset, .unset, .unset] [])) ?_ (fun tX kX => XS.ifYes X0.here hx rfl (pc0 := 72) (pc' := 108) rfl (hb hby at_72) rfl ((if0 _ _).trans (teq hc72_1).1) (by decide) (by decide) kX)
        exact J108 _ _ _ ((own_mM q0).2 hc46) (own_mM q1).1 (own_mM q2).1
      ·
        refine OGo.go (B := s₁.setTop (mkF m 75 #[.val (.long q0), .second, .val (.long q1), .second, .val (.long q2), .second, .val (.int p3), .val (.long (q0 &&& (9223372036854775807 : Int64))), .second, .val (.long (q1 &&& (9223372036854775807 : Int64))), .second, .val (.long (q2 &&& (9223372036854775807 : Int64))), .second, .unset, .unset, .unset, .unset, .unset, .unset] [])) ?_ (fun tX kX => XS.ifNo X0.here hx rfl (hb hby at_72) rfl ((if0 _ _).trans (feq hc72_1).1) kX)
        refine OGo.go (B := s₁.setTop (mkF m 77 #[.val (.long q0), .second, .val (.long q1), .second, .val (.long q2), .second, .val (.int p3), .val (.long (q0 &&& (9223372036854775807 : Int64))), .second, .val (.long (q1 &&& (9223372036854775807 : Int64))), .second, .val (.long (q2 &&& (9223372036854775807 : Int64))), .second, .unset, .unset, .unset, .unset, .unset, .unset] [(.long (q0 &&& (9223372036854775807 : Int64)))])) ?_ (fun tX kX => XS.lload X0.here hx rfl (hb hby at_75) rfl kX)
        refine OGo.go (B := s₁.setTop (mkF m 80 #[.val (.long q0), .second, .val (.long q1), .second, .val (.long q2), .second, .val (.int p3), .val (.long (q0 &&& (9223372036854775807 : Int64))), .second, .val (.long (q1 &&& (9223372036854775807 : Int64))), .second, .val (.long (q2 &&& (9223372036854775807 : Int64))), .second, .unset, .unset, .unset, .unset, .unset, .unset] [(.long (9223372036854775807 : Int64)), (.long (q0 &&& (9223372036854775807 : Int64)))])) ?_ (fun tX kX => X0.ldc2Long hx hown (mvT hZ (hw _ (List.mem_of_getElem? (i := 0) rfl))) (g := (mkF m 77 #[.val (.long q0), .second, .val (.long q1), .second, .val (.long q2), .second, .val (.int p3), .val (.long (q0 &&& (9223372036854775807 : Int64))), .second, .val (.long (q1 &&& (9223372036854775807 : Int64))), .second, .val (.long (q2 &&& (9223372036854775807 : Int64))), .second, .unset, .unset, .unset, .unset, .unset, .unset] [(.long (q0 &&& (9223372036854775807 : Int64)))])) rfl (hb hby at_77) _ kX)
        refine OGo.go (B := s₁.setTop (mkF m 82 #[.val (.long q0), .second, .val (.long q1), .second, .val (.long q2), .second, .val (.int p3), .val (.long (q0 &&& (9223372036854775807 : Int64))), .second, .val (.long (q1 &&& (9223372036854775807 : Int64))), .second, .val (.long (q2 &&& (9223372036854775807 : Int64))), .second, .unset, .unset, .unset, .unset, .unset, .unset] [(.long (q1 &&& (9223372036854775807 : Int64))), (.long (9223372036854775807 : Int64)), (.long (q0 &&& (9223372036854775807 : Int64)))])) ?_ (fun tX kX => XS.lload X0.here hx rfl (hb hby at_80) rfl kX)
        refine OGo.go (B := s₁.setTop (mkF m 83 #[.val (.long q0), .second, .val (.long q1), .second, .val (.long q2), .second, .val (.int p3), .val (.long (q0 &&& (9223372036854775807 : Int64))), .second, .val (.long (q1 &&& (9223372036854775807 : Int64))), .second, .val (.long (q2 &&& (9223372036854775807 : Int64))), .second, .unset, .unset, .unset, .unset, .unset, .unset] [(.long ((9223372036854775807 : Int64) - (q1 &&& (9223372036854775807 : Int64)))), (.long (q0 &&& (9223372036854775807 : Int64)))])) ?_ (fun tX kX => XS.lsub X0.here hx rfl (hb hby at_82) rfl kX)
        refine OGo.go (B := s₁.setTop (mkF m 86 #[.val (.long q0), .second, .val (.long q1), .second, .val (.long q2), .second, .val (.int p3), .val (.long (q0 &&& (9223372036854775807 : Int64))), .second, .val (.long (q1 &&& (9223372036854775807 : Int64))), .second, .val (.long (q2 &&& (9223372036854775807 : Int64))), .second, .unset, .unset, .unset, .unset, .unset, .unset] [(.long (2 : Int64)), (.long ((9223372036854775807 : Int64) - (q1 &&& (9223372036854775807 : Int64)))), (.long (q0 &&& (9223372036854775807 : Int64)))])) ?_ (fun tX kX => X0.ldc2Long hx hown (mvT hZ (hw _ (List.mem_of_getElem? (i := 68) rfl))) (g := (mkF m 83 #[.val (.long q0), .second, .val (.long q1), .second, .val (.long q2), .second, .val (.int p3), .val (.long (q0 &&& (9223372036854775807 : Int64))), .second, .val (.long (q1 &&& (9223372036854775807 : Int64))), .second, .val (.long (q2 &&& (9223372036854775807 : Int64))), .second, .unset, .unset, .unset, .unset, .unset, .unset] [(.long ((9223372036854775807 : Int64) - (q1 &&& (9223372036854775807 : Int64)))), (.long (q0 &&& (9223372036854775807 : Int64)))])) rfl (hb hby at_83) _ kX)
        refine OGo.go (B := s₁.setTop (mkF m 87 #[.val (.long q0), .second, .val (.long q1), .second, .val (.long q2), .second, .val (.int p3), .val (.long (q0 &&& (9223372036854775807 : Int64))), .second, .val (.long (q1 &&& (9223372036854775807 : Int64))), .second, .val (.long (q2 &&& (9223372036854775807 : Int64))), .second, .unset, .unset, .unset, .unset, .unset, .unset] [(.long (((9223372036854775807 : Int64) - (q1 &&& (9223372036854775807 : Int64))) - (2 : Int64))), (.long (q0 &&& (9223372036854775807 : Int64)))])) ?_ (fun tX kX => XS.lsub X0.here hx rfl (hb hby at_86) rfl kX)
        refine OGo.go (B := s₁.setTop (mkF m 88 #[.val (.long q0), .second, .val (.long q1), .second, .val (.long q2), .second, .val (.int p3), .val (.long (q0 &&& (9223372036854775807 : Int64))), .second, .val (.long (q1 &&& (9223372036854775807 : Int64))), .second, .val (.long (q2 &&& (9223372036854775807 : Int64))), .second, .unset, .unset, .unset, .unset, .unset, .unset] [(.int (lcmpW (q0 &&& (9223372036854775807 : Int64)) (((9223372036854775807 : Int64) - (q1 &&& (9223372036854775807 : Int64))) - (2 : Int64))))])) ?_ (fun tX kX => XS.lcmp X0.here hx rfl (hb hby at_87) rfl kX)
        by_cases hc88_1 : (((9223372036854775807 : Int64) - (q1 &&& (9223372036854775807 : Int64))) - (2 : Int64)) < (q0 &&& (9223372036854775807 : Int64))
        ·
          refine OGo.go (B := s₁.setTop (mkF m 108 #[.val (.long q0), .second, .val (.long q1), .second, .val (.long q2), .second, .val (.int p3), .val (.long (q0 &&& (9223372036854775807 : Int64))), .second, .val (.long (q1 &&& (9223372036854775807 : Int64))), .second, .val (.long (q2 &&& (9223372036854775807 : Int64))), .second, .unset, .unset, .unset, .unset, .unset, .unset] [])) ?_ (fun tX kX => XS.ifYes X0.here hx rfl (pc0 := 88) (pc' := 108) rfl (hb hby at_88) rfl ((if0 _ _).trans (tlt ((lw_gt _ _).mpr hc88_1)).2.2.1) (by decide) (by decide) kX)
          exact J108 _ _ _ ((own_mM q0).2 hc46) (own_mM q1).1 (own_mM q2).1
        ·
          refine OGo.go (B := s₁.setTop (mkF m 91 #[.val (.long q0), .second, .val (.long q1), .second, .val (.long q2), .second, .val (.int p3), .val (.long (q0 &&& (9223372036854775807 : Int64))), .second, .val (.long (q1 &&& (9223372036854775807 : Int64))), .second, .val (.long (q2 &&& (9223372036854775807 : Int64))), .second, .unset, .unset, .unset, .unset, .unset, .unset] [])) ?_ (fun tX kX => XS.ifNo X0.here hx rfl (hb hby at_88) rfl ((if0 _ _).trans (flt (fun q => hc88_1 ((lw_gt _ _).mp q))).2.2.1) kX)
          refine OGo.go (B := s₁.setTop (mkF m 93 #[.val (.long q0), .second, .val (.long q1), .second, .val (.long q2), .second, .val (.int p3), .val (.long (q0 &&& (9223372036854775807 : Int64))), .second, .val (.long (q1 &&& (9223372036854775807 : Int64))), .second, .val (.long (q2 &&& (9223372036854775807 : Int64))), .second, .unset, .unset, .unset, .unset, .unset, .unset] [(.long (q1 &&& (9223372036854775807 : Int64)))])) ?_ (fun tX kX => XS.lload X0.here hx rfl (hb hby at_91) rfl kX)
          refine OGo.go (B := s₁.setTop (mkF m 95 #[.val (.long q0), .second, .val (.long q1), .second, .val (.long q2), .second, .val (.int p3), .val (.long (q0 &&& (9223372036854775807 : Int64))), .second, .val (.long (q1 &&& (9223372036854775807 : Int64))), .second, .val (.long (q2 &&& (9223372036854775807 : Int64))), .second, .unset, .unset, .unset, .unset, .unset, .unset] [(.long (q0 &&& (9223372036854775807 : Int64))), (.long (q1 &&& (9223372036854775807 : Int64)))])) ?_ (fun tX kX => XS.lload X0.here hx rfl (hb hby at_93) rfl kX)
          refine OGo.go (B := s₁.setTop (mkF m 96 #[.val (.long q0), .second, .val (.long q1), .second, .val (.long q2), .second, .val (.int p3), .val (.long (q0 &&& (9223372036854775807 : Int64))), .second, .val (.long (q1 &&& (9223372036854775807 : Int64))), .second, .val (.long (q2 &&& (9223372036854775807 : Int64))), .second, .unset, .unset, .unset, .unset, .unset, .unset] [(.long ((q1 &&& (9223372036854775807 : Int64)) + (q0 &&& (9223372036854775807 : Int64))))])) ?_ (fun tX kX => XS.ladd X0.here hx rfl (hb hby at_95) rfl kX)
          refine OGo.go (B := s₁.setTop (mkF m 98 #[.val (.long q0), .second, .val (.long q1), .second, .val (.long q2), .second, .val (.int p3), .val (.long (q0 &&& (9223372036854775807 : Int64))), .second, .val (.long (q1 &&& (9223372036854775807 : Int64))), .second, .val (.long (q2 &&& (9223372036854775807 : Int64))), .second, .unset, .unset, .unset, .unset, .unset, .unset] [(.int p3), (.long ((q1 &&& (9223372036854775807 : Int64)) + (q0 &&& (9223372036854775807 : Int64))))])) ?_ (fun tX kX => XS.iload X0.here hx rfl (hb hby at_96) rfl kX)
          refine OGo.go (B := s₁.setTop (mkF m 99 #[.val (.long q0), .second, .val (.long q1), .second, .val (.long q2), .second, .val (.int p3), .val (.long (q0 &&& (9223372036854775807 : Int64))), .second, .val (.long (q1 &&& (9223372036854775807 : Int64))), .second, .val (.long (q2 &&& (9223372036854775807 : Int64))), .second, .unset, .unset, .unset, .unset, .unset, .unset] [(.int (5 : Int32)), (.int p3), (.long ((q1 &&& (9223372036854775807 : Int64)) + (q0 &&& (9223372036854775807 : Int64))))])) ?_ (fun tX kX => XS.iconst X0.here hx rfl (hb hby at_98) kX)
          refine OGo.go (B := s₁.setTop (mkF m 100 #[.val (.long q0), .second, .val (.long q1), .second, .val (.long q2), .second, .val (.int p3), .val (.long (q0 &&& (9223372036854775807 : Int64))), .second, .val (.long (q1 &&& (9223372036854775807 : Int64))), .second, .val (.long (q2 &&& (9223372036854775807 : Int64))), .second, .unset, .unset, .unset, .unset, .unset, .unset] [(.int (p3 >>> ((5 : Int32) &&& 31))), (.long ((q1 &&& (9223372036854775807 : Int64)) + (q0 &&& (9223372036854775807 : Int64))))])) ?_ (fun tX kX => XS.ishr X0.here hx rfl (hb hby at_99) rfl kX)
          refine OGo.go (B := s₁.setTop (mkF m 101 #[.val (.long q0), .second, .val (.long q1), .second, .val (.long q2), .second, .val (.int p3), .val (.long (q0 &&& (9223372036854775807 : Int64))), .second, .val (.long (q1 &&& (9223372036854775807 : Int64))), .second, .val (.long (q2 &&& (9223372036854775807 : Int64))), .second, .unset, .unset, .unset, .unset, .unset, .unset] [(.int (3 : Int32)), (.int (p3 >>> ((5 : Int32) &&& 31))), (.long ((q1 &&& (9223372036854775807 : Int64)) + (q0 &&& (9223372036854775807 : Int64))))])) ?_ (fun tX kX => XS.iconst X0.here hx rfl (hb hby at_100) kX)
          refine OGo.go (B := s₁.setTop (mkF m 102 #[.val (.long q0), .second, .val (.long q1), .second, .val (.long q2), .second, .val (.int p3), .val (.long (q0 &&& (9223372036854775807 : Int64))), .second, .val (.long (q1 &&& (9223372036854775807 : Int64))), .second, .val (.long (q2 &&& (9223372036854775807 : Int64))), .second, .unset, .unset, .unset, .unset, .unset, .unset] [(.int ((p3 >>> ((5 : Int32) &&& 31)) &&& (3 : Int32))), (.long ((q1 &&& (9223372036854775807 : Int64)) + (q0 &&& (9223372036854775807 : Int64))))])) ?_ (fun tX kX => XS.iand X0.here hx rfl (hb hby at_101) rfl kX)
          refine OGo.go (B := s₁.setTop (mkF m 103 #[.val (.long q0), .second, .val (.long q1), .second, .val (.long q2), .second, .val (.int p3), .val (.long (q0 &&& (9223372036854775807 : Int64))), .second, .val (.long (q1 &&& (9223372036854775807 : Int64))), .second, .val (.long (q2 &&& (9223372036854775807 : Int64))), .second, .unset, .unset, .unset, .unset, .unset, .unset] [(.int (1 : Int32)), (.int ((p3 >>> ((5 : Int32) &&& 31)) &&& (3 : Int32))), (.long ((q1 &&& (9223372036854775807 : Int64)) + (q0 &&& (9223372036854775807 : Int64))))])) ?_ (fun tX kX => XS.iconst X0.here hx rfl (hb hby at_102) kX)
          refine OGo.go (B := s₁.setTop (mkF m 104 #[.val (.long q0), .second, .val (.long q1), .second, .val (.long q2), .second, .val (.int p3), .val (.long (q0 &&& (9223372036854775807 : Int64))), .second, .val (.long (q1 &&& (9223372036854775807 : Int64))), .second, .val (.long (q2 &&& (9223372036854775807 : Int64))), .second, .unset, .unset, .unset, .unset, .unset, .unset] [(.int (((p3 >>> ((5 : Int32) &&& 31)) &&& (3 : Int32)) - (1 : Int32))), (.long ((q1 &&& (9223372036854775807 : Int64)) + (q0 &&& (9223372036854775807 : Int64))))])) ?_ (fun tX kX => XS.isub X0.here hx rfl (hb hby at_103) rfl kX)
          refine OGo.go (B := s₁.setTop (mkF m 105 #[.val (.long q0), .second, .val (.long q1), .second, .val (.long q2), .second, .val (.int p3), .val (.long (q0 &&& (9223372036854775807 : Int64))), .second, .val (.long (q1 &&& (9223372036854775807 : Int64))), .second, .val (.long (q2 &&& (9223372036854775807 : Int64))), .second, .unset, .unset, .unset, .unset, .unset, .unset] [(.long ((((p3 >>> ((5 : Int32) &&& 31)) &&& (3 : Int32)) - (1 : Int32)).toInt64)), (.long ((q1 &&& (9223372036854775807 : Int64)) + (q0 &&& (9223372036854775807 : Int64))))])) ?_ (fun tX kX => XS.i2l X0.here hx rfl (hb hby at_104) rfl kX)
          refine OGo.go (B := s₁.setTop (mkF m 106 #[.val (.long q0), .second, .val (.long q1), .second, .val (.long q2), .second, .val (.int p3), .val (.long (q0 &&& (9223372036854775807 : Int64))), .second, .val (.long (q1 &&& (9223372036854775807 : Int64))), .second, .val (.long (q2 &&& (9223372036854775807 : Int64))), .second, .unset, .unset, .unset, .unset, .unset, .unset] [(.long (((q1 &&& (9223372036854775807 : Int64)) + (q0 &&& (9223372036854775807 : Int64))) + ((((p3 >>> ((5 : Int32) &&& 31)) &&& (3 : Int32)) - (1 : Int32)).toInt64)))])) ?_ (fun tX kX => XS.ladd X0.here hx rfl (hb hby at_105) rfl kX)
          refine OGo.go (B := s₁.setTop (mkF m 108 #[.val (.long q0), .second, .val (.long q1), .second, .val (.long q2), .second, .val (.int p3), .val (.long (q0 &&& (9223372036854775807 : Int64))), .second, .val (.long (q1 &&& (9223372036854775807 : Int64))), .second, .val (.long (((q1 &&& (9223372036854775807 : Int64)) + (q0 &&& (9223372036854775807 : Int64))) + ((((p3 >>> ((5 : Int32) &&& 31)) &&& (3 : Int32)) - (1 : Int32)).toInt64))), .second, .unset, .unset, .unset, .unset, .unset, .unset] [])) ?_ (fun tX kX => XS.lstore X0.here hx rfl (hb hby at_106) rfl (l' := #[.val (.long q0), .second, .val (.long q1), .second, .val (.long q2), .second, .val (.int p3), .val (.long (q0 &&& (9223372036854775807 : Int64))), .second, .val (.long (q1 &&& (9223372036854775807 : Int64))), .second, .val (.long (((q1 &&& (9223372036854775807 : Int64)) + (q0 &&& (9223372036854775807 : Int64))) + ((((p3 >>> ((5 : Int32) &&& 31)) &&& (3 : Int32)) - (1 : Int32)).toInt64))), .second, .unset, .unset, .unset, .unset, .unset, .unset]) rfl kX)
          exact J108 _ _ _ ((own_mM q0).2 hc46) (own_mM q1).1 (own_siz p3 ((own_mM q0).2 hc46) (own_mM q1).1 hc88_1)
  ·
    refine OGo.go (B := s₁.setTop (mkF m 8 #[.val (.long q0), .second, .val (.long q1), .second, .val (.long q2), .second, .val (.int p3), .unset, .unset, .unset, .unset, .unset, .unset, .unset, .unset, .unset, .unset, .unset, .unset] [])) ?_ (fun tX kX => XS.ifNo X0.here hx rfl (hb hby at_5) rfl ((if0 _ _).trans (feq hc5).1) kX)
    refine OGo.go (B := s₁.setTop (mkF m 9 #[.val (.long q0), .second, .val (.long q1), .second, .val (.long q2), .second, .val (.int p3), .unset, .unset, .unset, .unset, .unset, .unset, .unset, .unset, .unset, .unset, .unset, .unset] [(.long q0)])) ?_ (fun tX kX => XS.lloadN X0.here hx rfl (hb hby at_8) rfl kX)
    refine OGo.go (B := s₁.setTop (mkF m 12 #[.val (.long q0), .second, .val (.long q1), .second, .val (.long q2), .second, .val (.int p3), .unset, .unset, .unset, .unset, .unset, .unset, .unset, .unset, .unset, .unset, .unset, .unset] [(.long (15 : Int64)), (.long q0)])) ?_ (fun tX kX => X0.ldc2Long hx hown (mvT hZ (hw _ (List.mem_of_getElem? (i := 69) rfl))) (g := (mkF m 9 #[.val (.long q0), .second, .val (.long q1), .second, .val (.long q2), .second, .val (.int p3), .unset, .unset, .unset, .unset, .unset, .unset, .unset, .unset, .unset, .unset, .unset, .unset] [(.long q0)])) rfl (hb hby at_9) _ kX)
    refine OGo.go (B := s₁.setTop (mkF m 13 #[.val (.long q0), .second, .val (.long q1), .second, .val (.long q2), .second, .val (.int p3), .unset, .unset, .unset, .unset, .unset, .unset, .unset, .unset, .unset, .unset, .unset, .unset] [(.long (q0 &&& (15 : Int64)))])) ?_ (fun tX kX => XS.land X0.here hx rfl (hb hby at_12) rfl kX)
    refine OGo.go (B := s₁.setTop (mkF m 14 #[.val (.long q0), .second, .val (.long q1), .second, .val (.long q2), .second, .val (.int p3), .unset, .unset, .unset, .unset, .unset, .unset, .unset, .unset, .unset, .unset, .unset, .unset] [(.long (1 : Int64)), (.long (q0 &&& (15 : Int64)))])) ?_ (fun tX kX => XS.lconst X0.here hx rfl (hb hby at_13) kX)
    refine OGo.go (B := s₁.setTop (mkF m 15 #[.val (.long q0), .second, .val (.long q1), .second, .val (.long q2), .second, .val (.int p3), .unset, .unset, .unset, .unset, .unset, .unset, .unset, .unset, .unset, .unset, .unset, .unset] [(.long ((q0 &&& (15 : Int64)) + (1 : Int64)))])) ?_ (fun tX kX => XS.ladd X0.here hx rfl (hb hby at_14) rfl kX)
    refine OGo.go (B := s₁.setTop (mkF m 17 #[.val (.long q0), .second, .val (.long q1), .second, .val (.long q2), .second, .val (.int p3), .val (.long ((q0 &&& (15 : Int64)) + (1 : Int64))), .second, .unset, .unset, .unset, .unset, .unset, .unset, .unset, .unset, .unset, .unset] [])) ?_ (fun tX kX => XS.lstore X0.here hx rfl (hb hby at_15) rfl (l' := #[.val (.long q0), .second, .val (.long q1), .second, .val (.long q2), .second, .val (.int p3), .val (.long ((q0 &&& (15 : Int64)) + (1 : Int64))), .second, .unset, .unset, .unset, .unset, .unset, .unset, .unset, .unset, .unset, .unset]) rfl kX)
    refine OGo.go (B := s₁.setTop (mkF m 18 #[.val (.long q0), .second, .val (.long q1), .second, .val (.long q2), .second, .val (.int p3), .val (.long ((q0 &&& (15 : Int64)) + (1 : Int64))), .second, .unset, .unset, .unset, .unset, .unset, .unset, .unset, .unset, .unset, .unset] [(.long q1)])) ?_ (fun tX kX => XS.lloadN X0.here hx rfl (hb hby at_17) rfl kX)
    refine OGo.go (B := s₁.setTop (mkF m 21 #[.val (.long q0), .second, .val (.long q1), .second, .val (.long q2), .second, .val (.int p3), .val (.long ((q0 &&& (15 : Int64)) + (1 : Int64))), .second, .unset, .unset, .unset, .unset, .unset, .unset, .unset, .unset, .unset, .unset] [(.long (15 : Int64)), (.long q1)])) ?_ (fun tX kX => X0.ldc2Long hx hown (mvT hZ (hw _ (List.mem_of_getElem? (i := 69) rfl))) (g := (mkF m 18 #[.val (.long q0), .second, .val (.long q1), .second, .val (.long q2), .second, .val (.int p3), .val (.long ((q0 &&& (15 : Int64)) + (1 : Int64))), .second, .unset, .unset, .unset, .unset, .unset, .unset, .unset, .unset, .unset, .unset] [(.long q1)])) rfl (hb hby at_18) _ kX)
    refine OGo.go (B := s₁.setTop (mkF m 22 #[.val (.long q0), .second, .val (.long q1), .second, .val (.long q2), .second, .val (.int p3), .val (.long ((q0 &&& (15 : Int64)) + (1 : Int64))), .second, .unset, .unset, .unset, .unset, .unset, .unset, .unset, .unset, .unset, .unset] [(.long (q1 &&& (15 : Int64)))])) ?_ (fun tX kX => XS.land X0.here hx rfl (hb hby at_21) rfl kX)
    refine OGo.go (B := s₁.setTop (mkF m 24 #[.val (.long q0), .second, .val (.long q1), .second, .val (.long q2), .second, .val (.int p3), .val (.long ((q0 &&& (15 : Int64)) + (1 : Int64))), .second, .val (.long (q1 &&& (15 : Int64))), .second, .unset, .unset, .unset, .unset, .unset, .unset, .unset, .unset] [])) ?_ (fun tX kX => XS.lstore X0.here hx rfl (hb hby at_22) rfl (l' := #[.val (.long q0), .second, .val (.long q1), .second, .val (.long q2), .second, .val (.int p3), .val (.long ((q0 &&& (15 : Int64)) + (1 : Int64))), .second, .val (.long (q1 &&& (15 : Int64))), .second, .unset, .unset, .unset, .unset, .unset, .unset, .unset, .unset]) rfl kX)
    refine OGo.go (B := s₁.setTop (mkF m 26 #[.val (.long q0), .second, .val (.long q1), .second, .val (.long q2), .second, .val (.int p3), .val (.long ((q0 &&& (15 : Int64)) + (1 : Int64))), .second, .val (.long (q1 &&& (15 : Int64))), .second, .unset, .unset, .unset, .unset, .unset, .unset, .unset, .unset] [(.long q2)])) ?_ (fun tX kX => XS.lload X0.here hx rfl (hb hby at_24) rfl kX)
    refine OGo.go (B := s₁.setTop (mkF m 29 #[.val (.long q0), .second, .val (.long q1), .second, .val (.long q2), .second, .val (.int p3), .val (.long ((q0 &&& (15 : Int64)) + (1 : Int64))), .second, .val (.long (q1 &&& (15 : Int64))), .second, .unset, .unset, .unset, .unset, .unset, .unset, .unset, .unset] [(.long (63 : Int64)), (.long q2)])) ?_ (fun tX kX => X0.ldc2Long hx hown (mvT hZ (hw _ (List.mem_of_getElem? (i := 70) rfl))) (g := (mkF m 26 #[.val (.long q0), .second, .val (.long q1), .second, .val (.long q2), .second, .val (.int p3), .val (.long ((q0 &&& (15 : Int64)) + (1 : Int64))), .second, .val (.long (q1 &&& (15 : Int64))), .second, .unset, .unset, .unset, .unset, .unset, .unset, .unset, .unset] [(.long q2)])) rfl (hb hby at_26) _ kX)
    refine OGo.go (B := s₁.setTop (mkF m 30 #[.val (.long q0), .second, .val (.long q1), .second, .val (.long q2), .second, .val (.int p3), .val (.long ((q0 &&& (15 : Int64)) + (1 : Int64))), .second, .val (.long (q1 &&& (15 : Int64))), .second, .unset, .unset, .unset, .unset, .unset, .unset, .unset, .unset] [(.long (q2 &&& (63 : Int64)))])) ?_ (fun tX kX => XS.land X0.here hx rfl (hb hby at_29) rfl kX)
    refine OGo.go (B := s₁.setTop (mkF m 32 #[.val (.long q0), .second, .val (.long q1), .second, .val (.long q2), .second, .val (.int p3), .val (.long ((q0 &&& (15 : Int64)) + (1 : Int64))), .second, .val (.long (q1 &&& (15 : Int64))), .second, .val (.long (q2 &&& (63 : Int64))), .second, .unset, .unset, .unset, .unset, .unset, .unset] [])) ?_ (fun tX kX => XS.lstore X0.here hx rfl (hb hby at_30) rfl (l' := #[.val (.long q0), .second, .val (.long q1), .second, .val (.long q2), .second, .val (.int p3), .val (.long ((q0 &&& (15 : Int64)) + (1 : Int64))), .second, .val (.long (q1 &&& (15 : Int64))), .second, .val (.long (q2 &&& (63 : Int64))), .second, .unset, .unset, .unset, .unset, .unset, .unset]) rfl kX)
    refine OGo.go (B := s₁.setTop (mkF m 108 #[.val (.long q0), .second, .val (.long q1), .second, .val (.long q2), .second, .val (.int p3), .val (.long ((q0 &&& (15 : Int64)) + (1 : Int64))), .second, .val (.long (q1 &&& (15 : Int64))), .second, .val (.long (q2 &&& (63 : Int64))), .second, .unset, .unset, .unset, .unset, .unset, .unset] [])) ?_ (fun tX kX => XS.goto X0.here hx rfl (pc0 := 32) (pc' := 108) rfl (hb hby at_32) (by decide) (by decide) kX)
    exact J108 _ _ _ (own_m15 q0).2 (own_m15 q1).1 (own_m63 q2)
set_option maxRecDepth 65536 in
set_option maxHeartbeats 40000000 in
theorem comes_1 {Post : Tables → Env → Array Value → State → Outcome → State → Prop} (hpost : ∀ tb e args s v u, (limb_1_1.after args s (.returned v) u = true ∧ limb_1_2.after args s (.returned v) u = true ∧ True) → FrameEnd s (.returned v) u (Jvm.fieldLocs frame_1_writes args s ++ Jvm.arrayLocs frame_1_arrays args s ++ Jvm.staticLocs frame_1_statics s) 16 128 → Post tb e args s (.returned v) u) :
    ArmFor flags0 classFile x code maxLocals ret World_1 tables_1 room_1 Calls_1 rest_1 Pre_1 Post := by
  intro l hfl _ _ p e ha hc hk s m args below hf hA hF happ hP
  obtain ⟨hcalls, hrest, hpre⟩ := hP
  obtain ⟨-, -, -, hnamed, -, -, -, hat⟩ := (Spec.applies_iff hf).mp happ
  obtain ⟨hg, hn⟩ := and_e (Cond.before_iff.mp (show (Jvm.Cond.and given_1 narrow_1).before args s = true from hpre))
  obtain ⟨gc0, gr0⟩ := and_e hg
  obtain ⟨gc1, gr1⟩ := and_e gr0
  obtain ⟨gc2, gr2⟩ := and_e gr1
  obtain ⟨gc3, gr3⟩ := and_e gr2
  obtain ⟨w0, w1, w2, w3, rfl⟩ : ∃ w0 w1 w2 w3 : Value, args = #[w0, w1, w2, w3] := by
    have hs : args.size = 4 := by simpa [Cond.value, given_1] using gc0
    obtain ⟨L⟩ := args
    match L, hs with
    | [w0, w1, w2, w3], _ => exact ⟨w0, w1, w2, w3, rfl⟩
  have hw := fun d (hd : d ∈ tables_1) => atoms_spec (ws := Jvm.Cond.code x code maxLocals ret :: tables_1) hat d (List.mem_cons_of_mem _ hd)
  have hfit : Fit s := fun {y c} hc i hi => by
    obtain ⟨ha, rfl⟩ := Array.getElem?_eq_some_iff.mp hc
    have q := List.all_eq_true.mp ((Array.all_eq_true_iff_forall_mem.mp hF) _ (Array.getElem_mem ha)) i (List.mem_range.mpr hi)
    simpa [Array.getElem?_eq_getElem hi] using q
  obtain ⟨hsets, hown0⟩ := atoms_of _ (rest_1_c_eq ▸ (show rest_1_c.before _ s = true from hrest))
  have hset := fun k (hk : k ∈ jdkStatics_1) => Cond.before_iff.mp (hsets k hk)
  obtain ⟨i0, ei0⟩ := isL_v gc1
  obtain rfl : w0 = (.long i0) := Option.some.inj ei0
  obtain ⟨i1, ei1⟩ := isL_v gc2
  obtain rfl : w1 = (.long i1) := Option.some.inj ei1
  obtain ⟨i2, ei2⟩ := isL_v gc3
  obtain rfl : w2 = (.long i2) := Option.some.inj ei2
  obtain ⟨i3, ei3⟩ := is_v gr3
  obtain rfl : w3 = (.int i3) := Option.some.inj ei3
  obtain ⟨wE, evE⟩ := exa_v (hset _ (List.mem_of_getElem? (i := 2) rfl))
  have SE := Sta.start evE (Or.inl (hsets _ (List.mem_of_getElem? (i := 1) rfl)))
  have EE := Exa.start evE (hset _ (List.mem_of_getElem? (i := 2) rfl))
  have FE := Fld.start ((fld_at evE).symm.trans (null_v (hset _ (List.mem_of_getElem? (i := 3) rfl))))
  obtain ⟨n, o, h1, h2, h3, _, L, rfl, ⟨rfl, N⟩, hq⟩ := rm0 l s _ hw tables_1 i0 i1 i2 i3 wE s.heap s.heap.size (Nat.le_refl _) SE EE FE p e ha hc hk s m _ below hf ((Spec.applies_iff_loose hf).mp happ).1 ⟨rfl, State.Warmed39.refl s, rfl⟩ trivial
  refine ⟨n, _, h1, h2, h3, hpost _ _ _ _ _ _ ⟨Cond.after_iff.mpr rfl, Cond.after_iff.mpr (eq_i res_at (Term.int_eval (1)) rfl), trivial⟩ ⟨hq.1, hq.2.1, (hq.2.2.sift fun y hy => Or.inr (N y hy)).mono (by decide) (by decide)⟩⟩
theorem main_1_1 : Claimed_1_1 := comes_1 fun _ _ _ _ _ _ h hF => ⟨h.1, hF⟩
theorem main_1_2 : Claimed_1_2 := comes_1 fun _ _ _ _ _ _ h hF => ⟨h.2.1, hF⟩
end Jvm.Pilot.@@N@@
namespace Jvm.Pilot.@@N@@
open Jvm Jvm.ClassFile Sem Op Lib Jvm.Free Jvm.Stand Jvm.Pilot.@@N@@.Jvm.D
/-! MADE BY PROGRAM (witnessworld.py) out of the Statement's table words and the real class files: 12 classes; the members and pool entries that the words name. The judged class is class 1, her method 1. -/
namespace start1
open Jvm.ClassFile
def u (s : String) : CpInfo := .utf8 (stringToUtf16 s)
/-- a pool by its gaps: so many unusable entries, then the entry; so many at the end -/
def gap : Nat → List CpInfo → List CpInfo
  | 0, r => r
  | n + 1, r => .unusable :: gap n r
def poolList (es : List (Nat × CpInfo)) (last : Nat) : List CpInfo := es.foldr (fun e r => gap e.1 (e.2 :: r)) (gap last [])
def pool (es : List (Nat × CpInfo)) (last : Nat) : Array CpInfo := ⟨poolList es last⟩
def fileOf (pool : Array CpInfo) (this : Nat) (attrs : Array Attribute := #[]) (ms : Array MethodInfo := #[]) (fl : Nat := 33) (sup : Nat := 0) (ifs : Array Nat := #[]) (fds : Array FieldInfo := #[]) : ClassFile where
  minorVersion := 0
  majorVersion := 65
  constantPool := pool
  accessFlags := fl
  thisClass := this
  superClass := sup
  interfaces := ifs
  fields := fds
  methods := ms
  attributes := attrs
def plain (name : String) (sup : Option ClassId) : Class where
  name := name
  kind := .ordinary
  loader := none
  accessFlags := 33
  super := sup
  interfaces := #[]
  cf := none
  fields := #[]
  methods := #[]
  instanceTypes := #[]
  staticTypes := #[]
  resolved := #[]
  callSites := []
  init := .initialized
  statics := none
  mirror := none

def pool0 : Array CpInfo := pool [(5, u "<init>"), (0, u "()V"), (1, .class_ 10), (1, u "java/lang/Object")] 113

def k0c0 : Code := { maxStack := 0, maxLocals := 1, code := object_method_1_code, exceptionTable := #[], attributes := #[] }
def k0m0 : Method := { name := "<init>", desc := "()V", sig := { parameters := [], returnType := none }, accessFlags := 1, code := some k0c0 }
/-- java/lang/Object -/
def k0 : Class := { plain "java/lang/Object" none with
  accessFlags := 33
  interfaces := #[]
  cf := some (fileOf pool0 8 #[] #[{ accessFlags := 1, nameIndex := 5, descriptorIndex := 6, attributes := #[] }] 33 0 #[] #[])
  fields := #[]
  methods := #[k0m0]
  instanceTypes := #[]
  staticTypes := #[]
  resolved := Array.replicate 124 none
  statics := none }

def pool1 : Array CpInfo := pool [(2, .class_ 4), (1, u "java/lang/Object"), (0, u "<init>"), (0, u "()V"), (0, .long 15), (1, .long 63), (3, .long 9223372036854775807), (1, .long 2), (1, .class_ 18), (0, u "com/example/lotd/lotd/api/Paging"), (0, .methodref 17 20), (0, .nameAndType 5 21), (0, u "(JJ)V"), (0, .methodref 17 23), (0, .nameAndType 24 25), (0, u "next"), (0, u "(J)Ljava/util/Optional;"), (0, .methodref 27 28), (0, .class_ 29), (0, .nameAndType 30 31), (0, u "java/util/Optional"), (0, u "isPresent"), (0, u "()Z"), (0, .methodref 27 33), (0, .nameAndType 34 35), (0, u "get"), (0, u "()Ljava/lang/Object;"), (0, .methodref 17 37), (0, .nameAndType 38 39), (0, u "limit"), (0, u "()J"), (0, .methodref 17 41), (0, .nameAndType 42 39), (0, u "offset"), (0, .class_ 44), (0, u "com/example/lotd/lotd/api/PagingNextPinLaw"), (2, u "law"), (0, u "(JJJI)Z")] 3

def k1m0 : Method := { name := "<init>", desc := "()V", sig := { parameters := [], returnType := none }, accessFlags := 1, code := none }
def k1c1 : Code := { maxStack := 6, maxLocals := 19, code := code, exceptionTable := #[], attributes := #[] }
def k1m1 : Method := { name := "law", desc := "(JJJI)Z", sig := { parameters := [.long, .long, .long, .int], returnType := some .boolean }, accessFlags := 9, code := some k1c1 }
/-- com/example/lotd/lotd/api/PagingNextPinLaw -/
def k1 : Class := { plain "com/example/lotd/lotd/api/PagingNextPinLaw" (some 0) with
  accessFlags := 49
  interfaces := #[]
  cf := some (fileOf pool1 43 #[] #[{ accessFlags := 1, nameIndex := 5, descriptorIndex := 6, attributes := #[] }, { accessFlags := 9, nameIndex := 47, descriptorIndex := 48, attributes := #[] }] 49 2 #[] #[])
  fields := #[]
  methods := #[k1m0, k1m1]
  instanceTypes := #[]
  staticTypes := #[]
  resolved := Array.replicate 52 none
  statics := none }

def pool2 : Array CpInfo := pool [(1, .methodref 2 3), (0, .class_ 4), (0, .nameAndType 5 6), (0, u "java/lang/Object"), (0, u "<init>"), (0, u "()V"), (0, .class_ 8), (0, u "java/lang/Record")] 13

def k2c0 : Code := { maxStack := 1, maxLocals := 1, code := jdk_30_method_1_code, exceptionTable := #[], attributes := #[] }
def k2m0 : Method := { name := "<init>", desc := "()V", sig := { parameters := [], returnType := none }, accessFlags := 4, code := some k2c0 }
/-- java/lang/Record -/
def k2 : Class := { plain "java/lang/Record" (some 0) with
  accessFlags := 1057
  interfaces := #[]
  cf := some (fileOf pool2 7 #[] #[{ accessFlags := 4, nameIndex := 5, descriptorIndex := 6, attributes := #[] }] 1057 2 #[] #[])
  fields := #[]
  methods := #[k2m0]
  instanceTypes := #[]
  staticTypes := #[]
  resolved := Array.replicate 22 none
  statics := none }

def pool3 : Array CpInfo := pool [(1, .methodref 2 3), (0, .class_ 4), (0, .nameAndType 5 6), (0, u "java/lang/Record"), (0, u "<init>"), (0, u "()V"), (9, .fieldref 17 18), (0, .class_ 19), (0, .nameAndType 20 21), (0, u "com/example/lotd/lotd/api/Paging"), (0, u "limit"), (0, u "J"), (0, .fieldref 17 23), (0, .nameAndType 24 21), (0, u "offset"), (34, u "()J"), (0, .methodref 17 61), (0, .nameAndType 5 62), (0, u "(JJ)V"), (2, u "FIRST"), (0, u "Lcom/example/lotd/lotd/api/Paging;"), (0, .methodref 68 69), (0, .class_ 70), (0, .nameAndType 71 72), (0, u "java/util/Optional"), (0, u "empty"), (0, u "()Ljava/util/Optional;"), (0, .methodref 68 74), (0, .nameAndType 75 76), (0, u "of"), (0, u "(Ljava/lang/Object;)Ljava/util/Optional;"), (15, u "LIMIT"), (0, u "Ljava/lang/String;"), (1, u "OFFSET"), (6, u "next"), (0, u "(J)Ljava/util/Optional;")] 38

def k3c0 : Code := { maxStack := 6, maxLocals := 5, code := prog_1_method_1_code, exceptionTable := #[], attributes := #[] }
def k3m0 : Method := { name := "<init>", desc := "(JJ)V", sig := { parameters := [.long, .long], returnType := none }, accessFlags := 0, code := some k3c0 }
def k3c1 : Code := { maxStack := 8, maxLocals := 4, code := prog_1_method_3_code, exceptionTable := #[], attributes := #[] }
def k3m1 : Method := { name := "next", desc := "(J)Ljava/util/Optional;", sig := { parameters := [.long], returnType := some (.object "java/util/Optional") }, accessFlags := 0, code := some k3c1 }
def k3c2 : Code := { maxStack := 2, maxLocals := 1, code := prog_1_method_8_code, exceptionTable := #[], attributes := #[] }
def k3m2 : Method := { name := "limit", desc := "()J", sig := { parameters := [], returnType := some .long }, accessFlags := 1, code := some k3c2 }
def k3c3 : Code := { maxStack := 2, maxLocals := 1, code := prog_1_method_9_code, exceptionTable := #[], attributes := #[] }
def k3m3 : Method := { name := "offset", desc := "()J", sig := { parameters := [], returnType := some .long }, accessFlags := 1, code := some k3c3 }
/-- com/example/lotd/lotd/api/Paging -/
def k3 : Class := { plain "com/example/lotd/lotd/api/Paging" (some 2) with
  accessFlags := 48
  interfaces := #[]
  cf := some (fileOf pool3 17 #[] #[{ accessFlags := 0, nameIndex := 5, descriptorIndex := 62, attributes := #[] }, { accessFlags := 0, nameIndex := 102, descriptorIndex := 103, attributes := #[] }, { accessFlags := 1, nameIndex := 20, descriptorIndex := 59, attributes := #[] }, { accessFlags := 1, nameIndex := 24, descriptorIndex := 59, attributes := #[] }] 48 2 #[] #[{ accessFlags := 18, nameIndex := 20, descriptorIndex := 21, attributes := #[] }, { accessFlags := 18, nameIndex := 24, descriptorIndex := 21, attributes := #[] }, { accessFlags := 24, nameIndex := 65, descriptorIndex := 66, attributes := #[] }, { accessFlags := 26, nameIndex := 92, descriptorIndex := 93, attributes := #[] }, { accessFlags := 26, nameIndex := 95, descriptorIndex := 93, attributes := #[] }])
  fields := #[{ name := "limit", type := .long, accessFlags := 18, slot := 0, constantValue := 0 }, { name := "offset", type := .long, accessFlags := 18, slot := 1, constantValue := 0 }, { name := "FIRST", type := (.object "com/example/lotd/lotd/api/Paging"), accessFlags := 24, slot := 0, constantValue := 0 }, { name := "LIMIT", type := (.object "java/lang/String"), accessFlags := 26, slot := 1, constantValue := 0 }, { name := "OFFSET", type := (.object "java/lang/String"), accessFlags := 26, slot := 2, constantValue := 0 }]
  methods := #[k3m0, k3m1, k3m2, k3m3]
  instanceTypes := #[.long, .long]
  staticTypes := #[(.object "com/example/lotd/lotd/api/Paging"), (.object "java/lang/String"), (.object "java/lang/String")]
  resolved := Array.replicate 142 none
  statics := none }

def pool4 : Array CpInfo := pool [(1, .fieldref 2 3), (0, .class_ 4), (0, .nameAndType 5 6), (0, u "java/util/Optional"), (0, u "EMPTY"), (0, u "Ljava/util/Optional;"), (0, .methodref 8 9), (0, .class_ 10), (0, .nameAndType 11 12), (0, u "java/lang/Object"), (0, u "<init>"), (0, u "()V"), (0, .fieldref 2 14), (0, .nameAndType 15 16), (0, u "value"), (0, u "Ljava/lang/Object;"), (0, .methodref 18 19), (0, .class_ 20), (0, .nameAndType 21 22), (0, u "java/util/Objects"), (0, u "requireNonNull"), (0, u "(Ljava/lang/Object;)Ljava/lang/Object;"), (0, .methodref 2 24), (0, .nameAndType 11 25), (0, u "(Ljava/lang/Object;)V"), (20, u "()Z"), (8, u "empty"), (0, u "()Ljava/util/Optional;"), (8, u "(Ljava/lang/Object;)Ljava/util/Optional;"), (2, u "isPresent"), (4, u "get"), (0, u "()Ljava/lang/Object;"), (7, u "of")] 104

def k4c0 : Code := { maxStack := 1, maxLocals := 1, code := jdk_32_method_1_code, exceptionTable := #[], attributes := #[] }
def k4m0 : Method := { name := "empty", desc := "()Ljava/util/Optional;", sig := { parameters := [], returnType := some (.object "java/util/Optional") }, accessFlags := 9, code := some k4c0 }
def k4c1 : Code := { maxStack := 2, maxLocals := 2, code := jdk_32_method_2_code, exceptionTable := #[], attributes := #[] }
def k4m1 : Method := { name := "<init>", desc := "(Ljava/lang/Object;)V", sig := { parameters := [(.object "java/lang/Object")], returnType := none }, accessFlags := 2, code := some k4c1 }
def k4c2 : Code := { maxStack := 3, maxLocals := 1, code := jdk_32_method_3_code, exceptionTable := #[], attributes := #[] }
def k4m2 : Method := { name := "of", desc := "(Ljava/lang/Object;)Ljava/util/Optional;", sig := { parameters := [(.object "java/lang/Object")], returnType := some (.object "java/util/Optional") }, accessFlags := 9, code := some k4c2 }
def k4c3 : Code := { maxStack := 3, maxLocals := 1, code := jdk_32_method_5_code, exceptionTable := #[], attributes := #[] }
def k4m3 : Method := { name := "get", desc := "()Ljava/lang/Object;", sig := { parameters := [], returnType := some (.object "java/lang/Object") }, accessFlags := 1, code := some k4c3 }
def k4c4 : Code := { maxStack := 1, maxLocals := 1, code := jdk_32_method_6_code, exceptionTable := #[], attributes := #[] }
def k4m4 : Method := { name := "isPresent", desc := "()Z", sig := { parameters := [], returnType := some .boolean }, accessFlags := 1, code := some k4c4 }
/-- java/util/Optional -/
def k4 : Class := { plain "java/util/Optional" (some 0) with
  accessFlags := 49
  interfaces := #[]
  cf := some (fileOf pool4 2 #[] #[{ accessFlags := 9, nameIndex := 55, descriptorIndex := 56, attributes := #[] }, { accessFlags := 2, nameIndex := 11, descriptorIndex := 25, attributes := #[] }, { accessFlags := 9, nameIndex := 82, descriptorIndex := 65, attributes := #[] }, { accessFlags := 1, nameIndex := 73, descriptorIndex := 74, attributes := #[] }, { accessFlags := 1, nameIndex := 68, descriptorIndex := 46, attributes := #[] }] 49 8 #[] #[{ accessFlags := 26, nameIndex := 5, descriptorIndex := 6, attributes := #[] }, { accessFlags := 18, nameIndex := 15, descriptorIndex := 16, attributes := #[] }])
  fields := #[{ name := "EMPTY", type := (.object "java/util/Optional"), accessFlags := 26, slot := 0, constantValue := 0 }, { name := "value", type := (.object "java/lang/Object"), accessFlags := 18, slot := 0, constantValue := 0 }]
  methods := #[k4m0, k4m1, k4m2, k4m3, k4m4]
  instanceTypes := #[(.object "java/lang/Object")]
  staticTypes := #[(.object "java/util/Optional")]
  resolved := Array.replicate 187 none
  statics := some 0 }

def pool5 : Array CpInfo := pool [(2, .class_ 4), (1, u "java/lang/Object"), (0, u "<init>"), (0, u "()V"), (35, .class_ 44), (1, u "java/util/Objects"), (0, u "requireNonNull"), (0, u "(Ljava/lang/Object;)Ljava/lang/Object;")] 137

def k5m0 : Method := { name := "<init>", desc := "()V", sig := { parameters := [], returnType := none }, accessFlags := 2, code := none }
def k5c1 : Code := { maxStack := 2, maxLocals := 1, code := jdk_31_method_10_code, exceptionTable := #[], attributes := #[] }
def k5m1 : Method := { name := "requireNonNull", desc := "(Ljava/lang/Object;)Ljava/lang/Object;", sig := { parameters := [(.object "java/lang/Object")], returnType := some (.object "java/lang/Object") }, accessFlags := 9, code := some k5c1 }
/-- java/util/Objects -/
def k5 : Class := { plain "java/util/Objects" (some 0) with
  accessFlags := 49
  interfaces := #[]
  cf := some (fileOf pool5 42 #[] #[{ accessFlags := 2, nameIndex := 5, descriptorIndex := 6, attributes := #[] }, { accessFlags := 9, nameIndex := 45, descriptorIndex := 46, attributes := #[] }] 49 2 #[] #[])
  fields := #[]
  methods := #[k5m0, k5m1]
  instanceTypes := #[]
  staticTypes := #[]
  resolved := Array.replicate 184 none
  statics := none }

def pool6 : Array CpInfo := pool [(1, u "java/lang/Cloneable"), (0, .class_ 1), (0, u "java/lang/Object"), (0, .class_ 3)] 3

/-- java/lang/Cloneable -/
def k6 : Class := { plain "java/lang/Cloneable" (some 0) with
  accessFlags := 1537
  interfaces := #[]
  cf := some (fileOf pool6 2 #[] #[] 1537 4 #[] #[])
  fields := #[]
  methods := #[]
  instanceTypes := #[]
  staticTypes := #[]
  resolved := Array.replicate 8 none
  statics := none }

def pool7 : Array CpInfo := pool [(1, u "java/io/Serializable"), (0, .class_ 1), (0, u "java/lang/Object"), (0, .class_ 3)] 3

/-- java/io/Serializable -/
def k7 : Class := { plain "java/io/Serializable" (some 0) with
  accessFlags := 1537
  interfaces := #[]
  cf := some (fileOf pool7 2 #[] #[] 1537 4 #[] #[])
  fields := #[]
  methods := #[]
  instanceTypes := #[]
  staticTypes := #[]
  resolved := Array.replicate 8 none
  statics := none }

/-- the primitive byte -/
def k8 : Class := { plain "byte" none with kind := .primitive 'B', accessFlags := 0x411 }
/-- [B -/
def k9 : Class := { plain "[B" (some 0) with kind := .array 8 .byte, interfaces := #[6, 7], accessFlags := 1041 }

/-- the primitive int -/
def k10 : Class := { plain "int" none with kind := .primitive 'I', accessFlags := 0x411 }
/-- [I -/
def k11 : Class := { plain "[I" (some 0) with kind := .array 10 .int, interfaces := #[6, 7], accessFlags := 1041 }

def heap : Heap := #[{ cls := 4, slots := #[.ref 1], vm := .statics 4 },
  { cls := 4, slots := #[.null], vm := .none }]
def classes : Array Class := #[k0, k1, k2, k3, k4, k5, k6, k7, k8, k9, k10, k11]
def interned : List (Array UInt16 × Addr) := []
def slotsUsed : Nat := 2
def theMethod : MethodId := ⟨1, 1⟩
def args0 : Array Value := #[.long 5, .long 3, .long 50, .int 0]
def aboutOver (below : List Frame) : State where
  vm := { classes := classes, interned := interned.toArray }
  heap := heap
  slotsUsed := slotsUsed
  threads := #[{ frames := .invoking theMethod args0 :: below }]
def below0 : List Frame := [.native { method := ⟨0, 0⟩, args := #[] }]
def about1 : State := aboutOver below0
def p0 : Program := .bare "" "" ""
def e0 : Env := launch0.env 0 0 0
theorem w_frames : about1.frames = Frame.invoking theMethod args0 :: below0 := rfl
set_option maxRecDepth 65536 in
theorem w_args : argsFit about1.vm theMethod args0 = true := by decide +kernel
set_option maxRecDepth 65536 in
theorem w_heap : heapFits about1 = true := by decide +kernel
set_option maxRecDepth 65536 in
theorem w_runnable : about1.curStatus? = some .runnable := by decide +kernel
set_option maxRecDepth 65536 in
theorem w_alone : about1.alone = true := by decide +kernel
set_option maxRecDepth 65536 in
theorem w_named : about1.methodNamed? x = some theMethod := by decide +kernel
set_option maxRecDepth 65536 in
theorem w_hears : about1.hears theMethod below0 = true := by decide +kernel
set_option maxRecDepth 65536 in
theorem w_ripe : about1.ripe theMethod args0 below0 = true := by decide +kernel
theorem w_running : about1.status = .running := rfl
set_option maxRecDepth 65536 in
theorem w_room : about1.hasRoom e0.platform room_1 = true :=
  launch0.hasRoom_least _ room_1 (by decide +kernel) (by decide +kernel) (by decide +kernel) (by decide +kernel) (by decide +kernel) (by decide +kernel)
theorem allAtoms_all (ts : List Jvm.Cond) (a : Array Jvm.Value) (st : Jvm.State) : (allAtoms ts).before a st = ts.all (fun c => c.before a st) := by
  induction ts with
  | nil => rfl
  | cons c t ih =>
    show (Jvm.Cond.and c (allAtoms t)).before a st = _
    rw [Jvm.Cond.before_and, ih, List.all_cons]
def words1 : List Jvm.Cond := Jvm.Cond.code x code maxLocals ret :: tables_1
/-- a 'code' word, met by the world's own term for the bytes: nothing is compared byte by byte -/
theorem code_word {y : MethodName} {bytes : ByteArray} {mx : Nat} {rt : Option FieldType} {a : Array Value} {s : State} {m : MethodId} {meth : Method} {c : Code} (h1 : s.methodNamed? y = some m) (h2 : s.vm.method? m = some meth) (h3 : meth.code = some c) (h4 : c.code = bytes)
    (h5 : (c.maxLocals == mx && c.exceptionTable.isEmpty && decide (c.maxStack ≤ mostOperands) && decide (meth.sig.returnType = rt) && !meth.locks && decide (parseMethodDescriptor y.desc = some meth.sig)) = true) : (Jvm.Cond.code y bytes mx rt).before a s = true := by
  simp only [Bool.and_eq_true, beq_iff_eq, Bool.not_eq_true', decide_eq_true_eq] at h5
  obtain ⟨⟨⟨⟨⟨g1, g2⟩, g3⟩, g4⟩, g5⟩, g6⟩ := h5
  simp [Cond.before, Cond.holds, Cond.value, h1, h2, h3, h4, g1, g2, g3, g4, g5, g6]
def isCode : Jvm.Cond → Bool
  | .code _ _ _ _ => true
  | _ => false
theorem all_split {L : List Jvm.Cond} {P : Jvm.Cond → Bool} (h1 : L.all (fun c => isCode c || P c) = true) (h2 : ∀ c ∈ L.filter isCode, P c = true) : L.all P = true := by
  refine List.all_eq_true.mpr fun c hc => ?_
  have h := List.all_eq_true.mp h1 c hc
  rcases Bool.eq_false_or_eq_true (isCode c) with hi | hi
  · exact h2 c (List.mem_filter.mpr ⟨hc, hi⟩)
  · simpa [hi] using h
set_option maxRecDepth 65536 in
theorem w_c0 : (Jvm.Cond.code x code maxLocals ret).before args0 about1 = true := code_word (m := ⟨1, 1⟩) (meth := k1m1) (c := k1c1) (by decide +kernel) rfl rfl rfl (by decide +kernel)
set_option maxRecDepth 65536 in
theorem w_c1 : (Jvm.Cond.code ({ cls := "com/example/lotd/lotd/api/Paging", name := "<init>", desc := "(JJ)V" } : Jvm.MethodName) prog_1_method_1_code (5 : Nat) (Option.none : Option Jvm.ClassFile.FieldType)).before args0 about1 = true := code_word (m := ⟨3, 0⟩) (meth := k3m0) (c := k3c0) (by decide +kernel) rfl rfl rfl (by decide +kernel)
set_option maxRecDepth 65536 in
theorem w_c2 : (Jvm.Cond.code ({ cls := "java/lang/Record", name := "<init>", desc := "()V" } : Jvm.MethodName) jdk_30_method_1_code (1 : Nat) (Option.none : Option Jvm.ClassFile.FieldType)).before args0 about1 = true := code_word (m := ⟨2, 0⟩) (meth := k2m0) (c := k2c0) (by decide +kernel) rfl rfl rfl (by decide +kernel)
set_option maxRecDepth 65536 in
theorem w_c3 : (Jvm.Cond.code ({ cls := "java/lang/Object", name := "<init>", desc := "()V" } : Jvm.MethodName) object_method_1_code (1 : Nat) (Option.none : Option Jvm.ClassFile.FieldType)).before args0 about1 = true := code_word (m := ⟨0, 0⟩) (meth := k0m0) (c := k0c0) (by decide +kernel) rfl rfl rfl (by decide +kernel)
set_option maxRecDepth 65536 in
theorem w_c4 : (Jvm.Cond.code ({ cls := "com/example/lotd/lotd/api/Paging", name := "next", desc := "(J)Ljava/util/Optional;" } : Jvm.MethodName) prog_1_method_3_code (4 : Nat) (Option.some (Jvm.ClassFile.FieldType.object "java/util/Optional"))).before args0 about1 = true := code_word (m := ⟨3, 1⟩) (meth := k3m1) (c := k3c1) (by decide +kernel) rfl rfl rfl (by decide +kernel)
set_option maxRecDepth 65536 in
theorem w_c5 : (Jvm.Cond.code ({ cls := "java/util/Optional", name := "empty", desc := "()Ljava/util/Optional;" } : Jvm.MethodName) jdk_32_method_1_code (1 : Nat) (Option.some (Jvm.ClassFile.FieldType.object "java/util/Optional"))).before args0 about1 = true := code_word (m := ⟨4, 0⟩) (meth := k4m0) (c := k4c0) (by decide +kernel) rfl rfl rfl (by decide +kernel)
set_option maxRecDepth 65536 in
theorem w_c6 : (Jvm.Cond.code ({ cls := "java/util/Optional", name := "of", desc := "(Ljava/lang/Object;)Ljava/util/Optional;" } : Jvm.MethodName) jdk_32_method_3_code (1 : Nat) (Option.some (Jvm.ClassFile.FieldType.object "java/util/Optional"))).before args0 about1 = true := code_word (m := ⟨4, 2⟩) (meth := k4m2) (c := k4c2) (by decide +kernel) rfl rfl rfl (by decide +kernel)
set_option maxRecDepth 65536 in
theorem w_c7 : (Jvm.Cond.code ({ cls := "java/util/Objects", name := "requireNonNull", desc := "(Ljava/lang/Object;)Ljava/lang/Object;" } : Jvm.MethodName) jdk_31_method_10_code (1 : Nat) (Option.some (Jvm.ClassFile.FieldType.object "java/lang/Object"))).before args0 about1 = true := code_word (m := ⟨5, 1⟩) (meth := k5m1) (c := k5c1) (by decide +kernel) rfl rfl rfl (by decide +kernel)
set_option maxRecDepth 65536 in
theorem w_c8 : (Jvm.Cond.code ({ cls := "java/util/Optional", name := "<init>", desc := "(Ljava/lang/Object;)V" } : Jvm.MethodName) jdk_32_method_2_code (2 : Nat) (Option.none : Option Jvm.ClassFile.FieldType)).before args0 about1 = true := code_word (m := ⟨4, 1⟩) (meth := k4m1) (c := k4c1) (by decide +kernel) rfl rfl rfl (by decide +kernel)
set_option maxRecDepth 65536 in
theorem w_c9 : (Jvm.Cond.code ({ cls := "java/util/Optional", name := "isPresent", desc := "()Z" } : Jvm.MethodName) jdk_32_method_6_code (1 : Nat) (Option.some Jvm.ClassFile.FieldType.boolean)).before args0 about1 = true := code_word (m := ⟨4, 4⟩) (meth := k4m4) (c := k4c4) (by decide +kernel) rfl rfl rfl (by decide +kernel)
set_option maxRecDepth 65536 in
theorem w_c10 : (Jvm.Cond.code ({ cls := "java/util/Optional", name := "get", desc := "()Ljava/lang/Object;" } : Jvm.MethodName) jdk_32_method_5_code (1 : Nat) (Option.some (Jvm.ClassFile.FieldType.object "java/lang/Object"))).before args0 about1 = true := code_word (m := ⟨4, 3⟩) (meth := k4m3) (c := k4c3) (by decide +kernel) rfl rfl rfl (by decide +kernel)
set_option maxRecDepth 65536 in
theorem w_c11 : (Jvm.Cond.code ({ cls := "com/example/lotd/lotd/api/Paging", name := "limit", desc := "()J" } : Jvm.MethodName) prog_1_method_8_code (1 : Nat) (Option.some Jvm.ClassFile.FieldType.long)).before args0 about1 = true := code_word (m := ⟨3, 2⟩) (meth := k3m2) (c := k3c2) (by decide +kernel) rfl rfl rfl (by decide +kernel)
set_option maxRecDepth 65536 in
theorem w_c12 : (Jvm.Cond.code ({ cls := "com/example/lotd/lotd/api/Paging", name := "offset", desc := "()J" } : Jvm.MethodName) prog_1_method_9_code (1 : Nat) (Option.some Jvm.ClassFile.FieldType.long)).before args0 about1 = true := code_word (m := ⟨3, 3⟩) (meth := k3m3) (c := k3c3) (by decide +kernel) rfl rfl rfl (by decide +kernel)
def codes1 : List Jvm.Cond := [Jvm.Cond.code x code maxLocals ret, Jvm.Cond.code ({ cls := "com/example/lotd/lotd/api/Paging", name := "<init>", desc := "(JJ)V" } : Jvm.MethodName) prog_1_method_1_code (5 : Nat) (Option.none : Option Jvm.ClassFile.FieldType), Jvm.Cond.code ({ cls := "java/lang/Record", name := "<init>", desc := "()V" } : Jvm.MethodName) jdk_30_method_1_code (1 : Nat) (Option.none : Option Jvm.ClassFile.FieldType), Jvm.Cond.code ({ cls := "java/lang/Object", name := "<init>", desc := "()V" } : Jvm.MethodName) object_method_1_code (1 : Nat) (Option.none : Option Jvm.ClassFile.FieldType), Jvm.Cond.code ({ cls := "com/example/lotd/lotd/api/Paging", name := "next", desc := "(J)Ljava/util/Optional;" } : Jvm.MethodName) prog_1_method_3_code (4 : Nat) (Option.some (Jvm.ClassFile.FieldType.object "java/util/Optional")), Jvm.Cond.code ({ cls := "java/util/Optional", name := "empty", desc := "()Ljava/util/Optional;" } : Jvm.MethodName) jdk_32_method_1_code (1 : Nat) (Option.some (Jvm.ClassFile.FieldType.object "java/util/Optional")), Jvm.Cond.code ({ cls := "java/util/Optional", name := "of", desc := "(Ljava/lang/Object;)Ljava/util/Optional;" } : Jvm.MethodName) jdk_32_method_3_code (1 : Nat) (Option.some (Jvm.ClassFile.FieldType.object "java/util/Optional")), Jvm.Cond.code ({ cls := "java/util/Objects", name := "requireNonNull", desc := "(Ljava/lang/Object;)Ljava/lang/Object;" } : Jvm.MethodName) jdk_31_method_10_code (1 : Nat) (Option.some (Jvm.ClassFile.FieldType.object "java/lang/Object")), Jvm.Cond.code ({ cls := "java/util/Optional", name := "<init>", desc := "(Ljava/lang/Object;)V" } : Jvm.MethodName) jdk_32_method_2_code (2 : Nat) (Option.none : Option Jvm.ClassFile.FieldType), Jvm.Cond.code ({ cls := "java/util/Optional", name := "isPresent", desc := "()Z" } : Jvm.MethodName) jdk_32_method_6_code (1 : Nat) (Option.some Jvm.ClassFile.FieldType.boolean), Jvm.Cond.code ({ cls := "java/util/Optional", name := "get", desc := "()Ljava/lang/Object;" } : Jvm.MethodName) jdk_32_method_5_code (1 : Nat) (Option.some (Jvm.ClassFile.FieldType.object "java/lang/Object")), Jvm.Cond.code ({ cls := "com/example/lotd/lotd/api/Paging", name := "limit", desc := "()J" } : Jvm.MethodName) prog_1_method_8_code (1 : Nat) (Option.some Jvm.ClassFile.FieldType.long), Jvm.Cond.code ({ cls := "com/example/lotd/lotd/api/Paging", name := "offset", desc := "()J" } : Jvm.MethodName) prog_1_method_9_code (1 : Nat) (Option.some Jvm.ClassFile.FieldType.long)]
set_option maxRecDepth 65536 in
theorem codes_eq : words1.filter isCode = codes1 := rfl
theorem w_codes : ∀ c ∈ words1.filter isCode, c.before args0 about1 = true := by
  rw [codes_eq]
  intro c hc
  simp only [codes1, List.mem_cons, List.not_mem_nil, or_false] at hc
  rcases hc with rfl | rfl | rfl | rfl | rfl | rfl | rfl | rfl | rfl | rfl | rfl | rfl | rfl
  · exact w_c0
  · exact w_c1
  · exact w_c2
  · exact w_c3
  · exact w_c4
  · exact w_c5
  · exact w_c6
  · exact w_c7
  · exact w_c8
  · exact w_c9
  · exact w_c10
  · exact w_c11
  · exact w_c12
set_option maxRecDepth 65536 in
theorem w_t1 : (words1.take 24).all (fun c => isCode c || c.before args0 about1) = true := by decide +kernel
set_option maxRecDepth 65536 in
theorem w_t2 : ((words1.drop 24).take 24).all (fun c => isCode c || c.before args0 about1) = true := by decide +kernel
set_option maxRecDepth 65536 in
theorem w_t3 : ((words1.drop 24).drop 24).all (fun c => isCode c || c.before args0 about1) = true := by decide +kernel
theorem w_tables : (allAtoms (Jvm.Cond.code x code maxLocals ret :: tables_1)).before args0 about1 = true := by
  rw [allAtoms_all]
  show words1.all (fun c => c.before args0 about1) = true
  refine all_split ?_ w_codes
  rw [← List.take_append_drop 24 words1, List.all_append, w_t1, ← List.take_append_drop 24 (words1.drop 24), List.all_append, w_t2, w_t3]
  rfl
set_option maxRecDepth 65536 in
theorem w_rest : rest_1_c.before args0 about1 = true := by decide +kernel
set_option maxRecDepth 65536 in
theorem w_case : (Jvm.Cond.and given_1 narrow_1).before args0 about1 = true := by decide +kernel
theorem w_applies : (headSpec (Jvm.Cond.code x code maxLocals ret :: tables_1) room_1).applies x e0.platform about1 = true :=
  (Spec.applies_iff w_frames).mpr ⟨w_running, w_runnable, w_alone, w_named, w_hears, w_ripe, w_room, w_tables⟩
theorem atStart : AtStart classFile x code maxLocals ret World_1 tables_1 room_1 Calls_1 rest_1 Pre_1 launch0 p0 e0 about1 theMethod args0 below0 :=
  ⟨lists_1, trivial, launch0.admits_env _ _ _, launch0.least_env, fairChoices_fair.cas, fairChoices_fair.clock, w_frames, w_args, w_heap, w_applies, trivial, w_rest, w_case⟩
end start1
theorem witness_1 : WitnessClaimed_1 := ⟨start1.p0, start1.e0, start1.about1, start1.theMethod, start1.args0, start1.below0, start1.atStart⟩
end Jvm.Pilot.@@N@@
