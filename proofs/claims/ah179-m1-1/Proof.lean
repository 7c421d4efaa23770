import JvmDerived
import JvmDerived.Pilot.@@N@@Statement
import JvmDerived.Pilot.@@N@@Code
set_option linter.unusedVariables false
set_option linter.unusedSimpArgs false
namespace Jvm.Pilot.@@N@@.Own
open Jvm Sem ClassFile Op Lib Jvm.Stand Jvm.Free Jvm.LawKit Jvm.RoadKit
/-- from the state A the run comes to an end of which P holds -/
def OGo (tb : Tables) (e : Env) (below : List Frame) (P : Outcome → State → Prop) (A : State) : Prop := ∃ s₂ o, Steps tb e below A s₂ ∧ s₂.status = .running ∧ Ended s₂ below o ∧ P o s₂
theorem OGo.go {tb : Tables} {e : Env} {below : List Frame} {P : Outcome → State → Prop} {A B : State} (k : OGo tb e below P B) (h : ∀ t, Steps tb e below B t → Steps tb e below A t) : OGo tb e below P A := by
  obtain ⟨s, o, h1, h2⟩ := k; exact ⟨s, o, h _ h1, h2⟩
theorem OGo.start {tb : Tables} {e : Env} {below : List Frame} {P : Outcome → State → Prop} {T : State} {g g' : JFrame} (q : g = g') (k : OGo tb e below P (T.setTop g')) : OGo tb e below P (T.setTop g) := q ▸ k
theorem OGo.ret {p : Program} {l : Launch} {e : Env} {R : Room} {s : State} {m : MethodId} {args : Array Value} {below : List Frame} {meth : Method} {c : Code} {T : State} {locs : List Loc} {cells slots : Nat}
    (X : Stand p l e R s m args below meth c T locs cells slots) {v : Option Value} (hv : meth.sig.returnType = none → v = none) (hlocks : meth.locks = false) {A : State}
    (hA : ∀ fs, (∀ (f : JFrame) (acts : List Action), f.method = m → f.locked = none → f.entered = [] → (doReturn e (T.setTop f) acts v).1 = T.setFrames fs) → Steps p.tables e below A (T.setFrames fs))
    {Q : Option Value → Heap → List Loc → Prop} {C S : Nat} (hQ : Q v T.heap locs) (hc : cells ≤ C) (hs : slots ≤ S) :
    OGo p.tables e below (fun o U' => ∃ v L, o = .returned v ∧ Q v U'.heap L ∧ FrameEnd s o U' L C S) A := by
  obtain ⟨fs, hr, hrun, hended, hW, hsame⟩ := X.leave hv hlocks
  exact ⟨_, _, hA fs hr, hrun, hended, v, locs, rfl, hQ, ⟨_, rfl⟩, hW, hsame.mono hc hs⟩
theorem OGo.retW {p : Program} {l : Launch} {e : Env} {R : Room} {s : State} {m : MethodId} {args : Array Value} {below : List Frame} {meth : Method} {c : Code} {T : State} {locs : List Loc} {cells slots : Nat} {vm0 : Vm} {k0 : Nat}
    (X : Stand p l e R (s.setVm vm0) m args below meth c T locs cells slots) (hS : s.Since vm0 k0) (hn : k0 ≤ T.heap.size) {v : Option Value} (hv : meth.sig.returnType = none → v = none) (hlocks : meth.locks = false) {A : State}
    (hA : ∀ fs, (∀ (f : JFrame) (acts : List Action), f.method = m → f.locked = none → f.entered = [] → (doReturn e (T.setTop f) acts v).1 = T.setFrames fs) → Steps p.tables e below A (T.setFrames fs))
    {Q : Option Value → Heap → List Loc → Prop} {C S : Nat} (hQ : Q v T.heap locs) (hc : cells ≤ C) (hs : slots ≤ S) :
    OGo p.tables e below (fun o U' => ∃ v L, o = .returned v ∧ Q v U'.heap L ∧ ReturnedEndW s o U' L C S) A := by
  obtain ⟨fs, hr, hrun, hended, h1, h2, h3, h4⟩ := X.leaveW hS hn hv hlocks
  exact ⟨_, _, hA fs hr, hrun, hended, v, locs, rfl, hQ, h1, h2, h3, h4.mono hc hs⟩
theorem Sta.keep0 {Z : State} {h h' : Heap} {C n d : String} {v : Value} (F : Sta Z h C n d v) (K : Keep h h' []) : Sta Z h' C n d v := by
  obtain ⟨cf, i, k, f, st, cell, h1, h2, h3, h4, h5, r⟩ := F; exact ⟨cf, i, k, f, st, cell, h1, h2, h3, h4, K.2.1 _ _ h5 (fun q => nomatch q), r⟩
theorem Sta.keepE {Z : State} {h h' : Heap} {C n d : String} {v : Value} {ws : List Addr} (F : Sta Z h C n d v) (K : Keep h h' ws) (q : ∀ x ∈ ws, ∃ c : Cell, h[x]? = some c ∧ ∀ q, c.vm ≠ .statics q) : Sta Z h' C n d v := by
  obtain ⟨cf, i, k, f, st, cell, h1, h2, h3, h4, h5, h6, r⟩ := F
  refine ⟨cf, i, k, f, st, cell, h1, h2, h3, h4, K.2.1 _ _ h5 (fun hm => ?_), h6, r⟩
  obtain ⟨c, hc, hq⟩ := q _ hm
  cases h5.symm.trans hc
  cases hv : cell.vm <;> rw [hv] at h6 <;> first | exact hq _ hv | (simp [VmData.isStatics] at h6)
theorem staS {h : Heap} {y : Addr} {ws : List Addr} (a : ∃ c : Cell, h[y]? = some c ∧ ∀ q, c.vm ≠ .statics q) (r : ∀ x ∈ ws, ∃ c : Cell, h[x]? = some c ∧ ∀ q, c.vm ≠ .statics q) : ∀ x ∈ y :: ws, ∃ c : Cell, h[x]? = some c ∧ ∀ q, c.vm ≠ .statics q := fun x hx => (List.mem_cons.mp hx).elim (fun e => e ▸ a) (r x)
theorem own_nf {args : Array Value} {s : State} {C : String} {y y' : MethodName} (hsel : (Cond.selects C y' y').before args s = true) (e : y'.cls = y.cls) : NotFace s y := fun r0 h0 => by
  obtain ⟨c2, r2, m2, q1, q2, q3, q4, kP, hkP, hkPi⟩ := Cond.selects_spec hsel
  have a := findClass_of_methodNamed h0
  have b := findClass_of_methodNamed q3
  rw [e] at b
  have c : r0.cls = m2.cls := Option.some.inj (a.symm.trans b)
  exact ⟨kP, by rw [c]; exact hkP, hkPi⟩
theorem own_decl {a0 a1 : Array Value} {Z : State} {y : MethodName} {bytes : ByteArray} {maxL : Nat} {ret : Option FieldType} (w : (Cond.instanceMethod y).before a0 Z = true) (wc : (Cond.code y bytes maxL ret).before a0 Z = true) : (Cond.declares y).before a1 Z = true := by
  obtain ⟨m, meth, h1, h2, h3, -⟩ := Cond.instanceMethod_spec w
  obtain ⟨m2, c, h4, -, -, -, -, -, -, h5⟩ := Cond.code_spec h1 wc
  cases h2.symm.trans h4
  simp [Cond.before, Cond.holds, Cond.value, h1, h2, h3, h5]
theorem own_same {a0 : Array Value} {Z : State} {y : MethodName} (hmh : y.cls ≠ "java/lang/invoke/MethodHandle" ∧ y.cls ≠ "java/lang/invoke/VarHandle") (w : (Cond.declares y).before a0 Z = true) (nf : NotFace Z y) : (Cond.sameMethod y.cls y.cls y.name y.desc).before a0 Z = true := by
  obtain ⟨m, meth, h1, -⟩ := Cond.declares_spec w
  obtain ⟨k, hk, hi⟩ := nf m h1
  have hc := findClass_of_methodNamed h1
  have hf := State.methodFound?_of_named h1 hmh
  simp [Cond.before, Cond.holds, Cond.value, hc, hf, h1, hk, hi]
theorem fldI {args : Array Value} {s : State} {t : Term} {C n d : String} {x : Addr} {k : Int32} (ht : t.eval args s none [] s = some (.ref x)) (h : (Cond.eq (Term.field t C n d) (Term.int k)).value args s none s [] = some true) : Fld s s.heap x C n d (.int k) := by
  obtain ⟨u, w, hu, hw, hk, hk'⟩ := cmp_v (Or.inl h)
  cases (Term.int_eval k).symm.trans hw
  obtain ⟨z, rfl⟩ := hk'
  have e : z = k := by simpa [Cond.value, hu, Term.int_eval] using h
  subst e
  exact Fld.start (by rw [← fld_at ht]; exact hu)
theorem long_eval {args : Array Value} {s f : State} {o : Option Outcome} {idx : List Nat} (n : Int64) : (Term.long n).eval args f o idx s = some (.long n) := rfl
theorem fldL {args : Array Value} {s : State} {t : Term} {C n d : String} {x : Addr} {k : Int64} (ht : t.eval args s none [] s = some (.ref x)) (h : (Cond.eq (Term.field t C n d) (Term.long k)).value args s none s [] = some true) : Fld s s.heap x C n d (.long k) := by
  obtain ⟨u, w, hu, hw, hk, hk'⟩ := cmp_v (Or.inl h)
  cases (long_eval k).symm.trans hw
  obtain ⟨z, rfl⟩ := hk'
  have e : z = k := by simpa [Cond.value, hu, long_eval] using h
  subst e
  exact Fld.start (by rw [← fld_at ht]; exact hu)
theorem valL {args : Array Value} {s : State} {t : Term} {k : Int64} (h : (Cond.eq t (Term.long k)).value args s none s [] = some true) : t.eval args s none [] s = some (.long k) := by
  obtain ⟨u, w, hu, hw, hk, hk'⟩ := cmp_v (Or.inl h)
  cases (long_eval k).symm.trans hw
  obtain ⟨z, rfl⟩ := hk'
  have e : z = k := by simpa [Cond.value, hu, long_eval] using h
  subst e
  exact hu
theorem valI {args : Array Value} {s : State} {t : Term} {k : Int32} (h : (Cond.eq t (Term.int k)).value args s none s [] = some true) : t.eval args s none [] s = some (.int k) := by
  obtain ⟨u, w, hu, hw, hk, hk'⟩ := cmp_v (Or.inl h)
  cases (Term.int_eval k).symm.trans hw
  obtain ⟨z, rfl⟩ := hk'
  have e : z = k := by simpa [Cond.value, hu, Term.int_eval] using h
  subst e
  exact hu
theorem lenI {args : Array Value} {s : State} {t : Term} {x : Addr} {cl : Cell} {ty : FieldType} {k : Int32} (ht : t.eval args s none [] s = some (.ref x)) (A : Arr s s.heap x cl ty) (h : (Cond.eq (Term.length t) (Term.int k)).value args s none s [] = some true) : cl.slots.size.toInt32 = k ∧ cl.slots.size < 2 ^ 31 := by
  have hv := valI h
  have ha : s.arrayAt? x = some cl := Arr.fin (Vm.Alike.refl _) A
  simp only [Term.eval, ht, ha, Option.bind_eq_bind, Option.bind_some] at hv
  split at hv
  · rename_i q; exact ⟨by simpa using hv, q⟩
  · cases hv
theorem elemR {args : Array Value} {s : State} {t u : Term} {x y : Addr} {cl : Cell} {ty : FieldType} {k : Int32} (ht : t.eval args s none [] s = some (.ref x)) (A : Arr s s.heap x cl ty) (hu : u.eval args s none [] s = some (.ref y)) (h : (Cond.eq (Term.elem t (Term.int k)) u).value args s none s [] = some true) : cl.slots[k.toNatClampNeg]? = some (.ref y) := by
  obtain ⟨v, w, hv, hw, hk, hk'⟩ := cmp_v (Or.inl h)
  cases hu.symm.trans hw
  have e := (elem_in hv ht (Term.int_eval k) A.1).2
  rw [e]
  rcases ref_cases (v := v) hk'.2 with rfl | ⟨z, rfl⟩
  · simp [Cond.value, hv, hu] at h
  · have q : z = y := by simpa [Cond.value, hv, hu] using h
    rw [q]
end Jvm.Pilot.@@N@@.Own
namespace Jvm.Pilot.@@N@@
open Jvm Jvm.ClassFile Sem Op Lib Jvm.Free Jvm.Stand Jvm.LawKit Jvm.RoadKit Bundle Jvm.Pilot.@@N@@.Jvm.D Jvm.Pilot.@@N@@.Own
def own_pick (p : Int32) (u0 u1 u2 u3 : Addr) : Addr := if p = 1 then u1 else if p = 2 then u2 else if p = 3 then u3 else u0
theorem own_pick0 {p : Int32} {u0 u1 u2 u3 : Addr} (h : (0 : Int32) = p) : u0 = own_pick p u0 u1 u2 u3 := by subst h; rfl
theorem own_pick1 {p : Int32} {u0 u1 u2 u3 : Addr} (h : (1 : Int32) = p) : u1 = own_pick p u0 u1 u2 u3 := by subst h; rfl
theorem own_pick2 {p : Int32} {u0 u1 u2 u3 : Addr} (h : (2 : Int32) = p) : u2 = own_pick p u0 u1 u2 u3 := by subst h; rfl
theorem own_pick3 {p : Int32} {u0 u1 u2 u3 : Addr} (h : (3 : Int32) = p) : u3 = own_pick p u0 u1 u2 u3 := by subst h; rfl
theorem own_pickN {p : Int32} {u0 u1 u2 u3 : Addr} (h1 : ¬ p = 1) (h2 : ¬ p = 2) (h3 : ¬ p = 3) : u0 = own_pick p u0 u1 u2 u3 := by unfold own_pick; rw [if_neg h1, if_neg h2, if_neg h3]
theorem d1_0 : decode prog_9_method_5_code 0 = .ok (.getstatic 39, 3) := by decide +kernel
theorem d1_3 : decode prog_9_method_5_code 3 = .ok (.astore_n 1, 1) := by decide +kernel
theorem d1_4 : decode prog_9_method_5_code 4 = .ok (.aload_n 1, 1) := by decide +kernel
theorem d1_5 : decode prog_9_method_5_code 5 = .ok (.arraylength, 1) := by decide +kernel
theorem d1_6 : decode prog_9_method_5_code 6 = .ok (.istore_n 2, 1) := by decide +kernel
theorem d1_7 : decode prog_9_method_5_code 7 = .ok (.iconst 0, 1) := by decide +kernel
theorem d1_8 : decode prog_9_method_5_code 8 = .ok (.istore_n 3, 1) := by decide +kernel
theorem d1_9 : decode prog_9_method_5_code 9 = .ok (.iload_n 3, 1) := by decide +kernel
theorem d1_10 : decode prog_9_method_5_code 10 = .ok (.iload_n 2, 1) := by decide +kernel
theorem d1_11 : decode prog_9_method_5_code 11 = .ok (.if_icmp .ge 26, 3) := by decide +kernel
theorem d1_14 : decode prog_9_method_5_code 14 = .ok (.aload_n 1, 1) := by decide +kernel
theorem d1_15 : decode prog_9_method_5_code 15 = .ok (.iload_n 3, 1) := by decide +kernel
theorem d1_16 : decode prog_9_method_5_code 16 = .ok (.aaload, 1) := by decide +kernel
theorem d1_17 : decode prog_9_method_5_code 17 = .ok (.astore 4, 2) := by decide +kernel
theorem d1_19 : decode prog_9_method_5_code 19 = .ok (.aload 4, 2) := by decide +kernel
theorem d1_21 : decode prog_9_method_5_code 21 = .ok (.getfield 35, 3) := by decide +kernel
theorem d1_24 : decode prog_9_method_5_code 24 = .ok (.iload_n 0, 1) := by decide +kernel
theorem d1_25 : decode prog_9_method_5_code 25 = .ok (.if_icmp .ne 6, 3) := by decide +kernel
theorem d1_28 : decode prog_9_method_5_code 28 = .ok (.aload 4, 2) := by decide +kernel
theorem d1_30 : decode prog_9_method_5_code 30 = .ok (.areturn, 1) := by decide +kernel
theorem d1_31 : decode prog_9_method_5_code 31 = .ok (.iinc 3 1, 3) := by decide +kernel
theorem d1_34 : decode prog_9_method_5_code 34 = .ok (.goto (-25), 3) := by decide +kernel
theorem d1_37 : decode prog_9_method_5_code 37 = .ok (.getstatic 3, 3) := by decide +kernel
theorem d1_40 : decode prog_9_method_5_code 40 = .ok (.areturn, 1) := by decide +kernel
theorem pn_com_example_vitalwire_vitalwire_protocol_ServingStatus : plainName "com/example/vitalwire/vitalwire/protocol/ServingStatus" = true := by first | (simp [plainName, overriddenIn]; done) | decide +kernel
def Q1 (Z : State) (p0 : Int32) (u_UNKNOWN : Addr) (u_SERVING : Addr) (u_NOT_SERVING : Addr) (u_SERVICE_UNKNOWN : Addr) (u_VALUES : Addr) (kz_VALUES : ClassId) (h0 : Heap) (n0 : Nat) (v : Option Value) (h : Heap) (L : List Loc) : Prop := v = some (.ref (own_pick p0 u_UNKNOWN u_SERVING u_NOT_SERVING u_SERVICE_UNKNOWN)) ∧ Fr n0 L ∧ h = h0
def P1 (Z : State) (p0 : Int32) (u_UNKNOWN : Addr) (u_SERVING : Addr) (u_NOT_SERVING : Addr) (u_SERVICE_UNKNOWN : Addr) (u_VALUES : Addr) (kz_VALUES : ClassId) (h0 : Heap) (n0 : Nat) (s : State) (o : Outcome) (U' : State) : Prop := ∃ v L, o = .returned v ∧ Q1 Z p0 u_UNKNOWN u_SERVING u_NOT_SERVING u_SERVICE_UNKNOWN u_VALUES kz_VALUES h0 n0 v U'.heap L ∧ FrameEnd s o U' L ({ frames := 0, cells := 0, slots := 0, locals := 0 } : Room).cells ({ frames := 0, cells := 0, slots := 0, locals := 0 } : Room).slots
set_option maxRecDepth 65536 in
set_option maxHeartbeats 40000000 in
theorem rm1 (l : Launch) (Z : State) (aV : Array Value) (hw : ∀ d ∈ tables_1, d.before aV Z = true) (ws : List Jvm.Cond) (p0 : Int32) (u_UNKNOWN : Addr) (u_SERVING : Addr) (u_NOT_SERVING : Addr) (u_SERVICE_UNKNOWN : Addr) (u_VALUES : Addr) (kz_VALUES : ClassId) (h0 : Heap) (n0 : Nat) (Z0 : n0 ≤ h0.size) (S_VALUES : Sta Z h0 "com/example/vitalwire/vitalwire/protocol/ServingStatus" "VALUES" "[Lcom/example/vitalwire/vitalwire/protocol/ServingStatus;" (.ref u_VALUES)) (S_UNKNOWN : Sta Z h0 "com/example/vitalwire/vitalwire/protocol/ServingStatus" "UNKNOWN" "Lcom/example/vitalwire/vitalwire/protocol/ServingStatus;" (.ref u_UNKNOWN)) (E_u_UNKNOWN : Exa Z h0 u_UNKNOWN "com/example/vitalwire/vitalwire/protocol/ServingStatus") (F_number_u_UNKNOWN : Fld Z h0 u_UNKNOWN "com/example/vitalwire/vitalwire/protocol/ServingStatus" "number" "I" (.int (0 : Int32))) (S_SERVING : Sta Z h0 "com/example/vitalwire/vitalwire/protocol/ServingStatus" "SERVING" "Lcom/example/vitalwire/vitalwire/protocol/ServingStatus;" (.ref u_SERVING)) (E_u_SERVING : Exa Z h0 u_SERVING "com/example/vitalwire/vitalwire/protocol/ServingStatus") (F_number_u_SERVING : Fld Z h0 u_SERVING "com/example/vitalwire/vitalwire/protocol/ServingStatus" "number" "I" (.int (1 : Int32))) (S_NOT_SERVING : Sta Z h0 "com/example/vitalwire/vitalwire/protocol/ServingStatus" "NOT_SERVING" "Lcom/example/vitalwire/vitalwire/protocol/ServingStatus;" (.ref u_NOT_SERVING)) (E_u_NOT_SERVING : Exa Z h0 u_NOT_SERVING "com/example/vitalwire/vitalwire/protocol/ServingStatus") (F_number_u_NOT_SERVING : Fld Z h0 u_NOT_SERVING "com/example/vitalwire/vitalwire/protocol/ServingStatus" "number" "I" (.int (2 : Int32))) (S_SERVICE_UNKNOWN : Sta Z h0 "com/example/vitalwire/vitalwire/protocol/ServingStatus" "SERVICE_UNKNOWN" "Lcom/example/vitalwire/vitalwire/protocol/ServingStatus;" (.ref u_SERVICE_UNKNOWN)) (E_u_SERVICE_UNKNOWN : Exa Z h0 u_SERVICE_UNKNOWN "com/example/vitalwire/vitalwire/protocol/ServingStatus") (F_number_u_SERVICE_UNKNOWN : Fld Z h0 u_SERVICE_UNKNOWN "com/example/vitalwire/vitalwire/protocol/ServingStatus" "number" "I" (.int (3 : Int32))) (V_u_VALUES : Arv Z h0 u_VALUES kz_VALUES (.object "com/example/vitalwire/vitalwire/protocol/ServingStatus") (4 : Int32) [(.ref u_UNKNOWN), (.ref u_SERVING), (.ref u_NOT_SERVING), (.ref u_SERVICE_UNKNOWN)] .null) :
    MetFree l (⟨"com/example/vitalwire/vitalwire/protocol/ServingStatus", "forNumber", "(I)Lcom/example/vitalwire/vitalwire/protocol/ServingStatus;"⟩ : MethodName) (head1 (Jvm.Cond.code (⟨"com/example/vitalwire/vitalwire/protocol/ServingStatus", "forNumber", "(I)Lcom/example/vitalwire/vitalwire/protocol/ServingStatus;"⟩ : MethodName) prog_9_method_5_code 5 (some (.object "com/example/vitalwire/vitalwire/protocol/ServingStatus")) :: ws) ({ frames := 0, cells := 0, slots := 0, locals := 0 } : Room)) (fun a U => a = #[(.int p0)] ∧ Z.Warmed39 U.vm ∧ U.heap = h0) (fun _ _ _ _ _ => True) (fun _ U o U' => ∃ v L, o = .returned v ∧ Q1 Z p0 u_UNKNOWN u_SERVING u_NOT_SERVING u_SERVICE_UNKNOWN u_VALUES kz_VALUES h0 n0 v U'.heap L ∧ FrameEnd U o U' L ({ frames := 0, cells := 0, slots := 0, locals := 0 } : Room).cells ({ frames := 0, cells := 0, slots := 0, locals := 0 } : Room).slots) := by
  refine MetFree.of_bodySF (plainFor_of_name pn_com_example_vitalwire_vitalwire_protocol_ServingStatus) hisR ?_
  intro p e s m args below meth c s₁ Bd hml0 hP hK
  obtain ⟨rfl, hZ, hh⟩ := hP
  have hx := Bd.exec
  have hby := Bd.bytes
  have hml : c.maxLocals = 5 := hml0
  have hown : s.vm.findClass "com/example/vitalwire/vitalwire/protocol/ServingStatus" = some m.cls := findClass_of_methodNamed Bd.named
  have hnm := (name_of_methodNamed Bd.named Bd.method).1
  have X0 : Stand p l e ({ frames := 0, cells := 0, slots := 0, locals := 0 } : Room) s m #[(.int p0)] below meth c s₁ [] 0 0 := Stand.of_body Bd
  have e0 : s₁.heap = h0 := by rw [← hh, Bd.state]; rfl
  have efx : entryFrame m #[(.int p0)] 5 = mkF m 0 #[.val (.int p0), .unset, .unset, .unset, .unset] [] := by first | (simp [entryFrame, mkF, argsToLocals, Value.category]; done) | rfl
  have N0 := Fr.nil n0
  have K0 : Keep h0 h0 [] := Keep.refl h0 _
  refine OGo.start (g' := mkF m 0 #[.val (.int p0), .unset, .unset, .unset, .unset] []) (efx) ?_
  show OGo p.tables e below (P1 Z p0 u_UNKNOWN u_SERVING u_NOT_SERVING u_SERVICE_UNKNOWN u_VALUES kz_VALUES h0 n0 s) (s₁.setTop (mkF m 0 #[.val (.int p0), .unset, .unset, .unset, .unset] []))
  obtain ⟨T1, X1, e1, st1⟩ := getS2 X0 hx hZ hown (host := "") (Or.inl (hw _ (List.mem_of_getElem? (i := 4) rfl))) Via.refl e0 S_VALUES (g := (mkF m 0 #[.val (.int p0), .unset, .unset, .unset, .unset] [])) rfl (hb hby d1_0)
  refine OGo.go (B := T1.setTop (mkF m 3 #[.val (.int p0), .unset, .unset, .unset, .unset] [(.ref u_VALUES)])) ?_ st1
  refine OGo.go (B := T1.setTop (mkF m 4 #[.val (.int p0), .val (.ref u_VALUES), .unset, .unset, .unset] [])) ?_ (fun tX kX => XS.astoreN X1.here hx rfl (hb hby d1_3) rfl rfl (l' := #[.val (.int p0), .val (.ref u_VALUES), .unset, .unset, .unset]) rfl kX)
  refine OGo.go (B := T1.setTop (mkF m 5 #[.val (.int p0), .val (.ref u_VALUES), .unset, .unset, .unset] [(.ref u_VALUES)])) ?_ (fun tX kX => XS.aloadN X1.here hx rfl (hb hby d1_4) rfl rfl kX)
  obtain ⟨cl2, Ar2, qa2, S2, N2', H2, G2⟩ := id V_u_VALUES
  refine OGo.go (B := T1.setTop (mkF m 6 #[.val (.int p0), .val (.ref u_VALUES), .unset, .unset, .unset] [(.int (4 : Int32))])) ?_ (fun tX kX => X1.arraylength hx (by rw [e1]; exact Ar2.1) (State.isArrayOf_alike hZ.alike Ar2.2.1) (g := (mkF m 5 #[.val (.int p0), .val (.ref u_VALUES), .unset, .unset, .unset] [(.ref u_VALUES)])) rfl rfl (hb hby d1_5) _ (by rw [len_of S2 N2']; exact kX))
  refine OGo.go (B := T1.setTop (mkF m 7 #[.val (.int p0), .val (.ref u_VALUES), .val (.int (4 : Int32)), .unset, .unset] [])) ?_ (fun tX kX => XS.istoreN X1.here hx rfl (hb hby d1_6) rfl (l' := #[.val (.int p0), .val (.ref u_VALUES), .val (.int (4 : Int32)), .unset, .unset]) rfl kX)
  refine OGo.go (B := T1.setTop (mkF m 8 #[.val (.int p0), .val (.ref u_VALUES), .val (.int (4 : Int32)), .unset, .unset] [(.int (0 : Int32))])) ?_ (fun tX kX => XS.iconst X1.here hx rfl (hb hby d1_7) kX)
  refine OGo.go (B := T1.setTop (mkF m 9 #[.val (.int p0), .val (.ref u_VALUES), .val (.int (4 : Int32)), .val (.int (0 : Int32)), .unset] [])) ?_ (fun tX kX => XS.istoreN X1.here hx rfl (hb hby d1_8) rfl (l' := #[.val (.int p0), .val (.ref u_VALUES), .val (.int (4 : Int32)), .val (.int (0 : Int32)), .unset]) rfl kX)
  refine OGo.go (B := T1.setTop (mkF m 10 #[.val (.int p0), .val (.ref u_VALUES), .val (.int (4 : Int32)), .val (.int (0 : Int32)), .unset] [(.int (0 : Int32))])) ?_ (fun tX kX => XS.iloadN X1.here hx rfl (hb hby d1_9) rfl kX)
  refine OGo.go (B := T1.setTop (mkF m 11 #[.val (.int p0), .val (.ref u_VALUES), .val (.int (4 : Int32)), .val (.int (0 : Int32)), .unset] [(.int (4 : Int32)), (.int (0 : Int32))])) ?_ (fun tX kX => XS.iloadN X1.here hx rfl (hb hby d1_10) rfl kX)
  refine OGo.go (B := T1.setTop (mkF m 14 #[.val (.int p0), .val (.ref u_VALUES), .val (.int (4 : Int32)), .val (.int (0 : Int32)), .unset] [])) ?_ (fun tX kX => XS.icmpNo X1.here hx rfl (hb hby d1_11) rfl (tlt (by decide)).2.1 kX)
  refine OGo.go (B := T1.setTop (mkF m 15 #[.val (.int p0), .val (.ref u_VALUES), .val (.int (4 : Int32)), .val (.int (0 : Int32)), .unset] [(.ref u_VALUES)])) ?_ (fun tX kX => XS.aloadN X1.here hx rfl (hb hby d1_14) rfl rfl kX)
  refine OGo.go (B := T1.setTop (mkF m 16 #[.val (.int p0), .val (.ref u_VALUES), .val (.int (4 : Int32)), .val (.int (0 : Int32)), .unset] [(.int (0 : Int32)), (.ref u_VALUES)])) ?_ (fun tX kX => XS.iloadN X1.here hx rfl (hb hby d1_15) rfl kX)
  obtain ⟨cl3, Ar3, qa3, S3, N3', H3, G3⟩ := id V_u_VALUES
  have hin3 := inb_of (j := (0 : Int32)) S3 ⟨by decide, by decide⟩
  have hat3 := H3.at (v := (.ref u_UNKNOWN)) hin3 rfl
  refine OGo.go (B := T1.setTop (mkF m 17 #[.val (.int p0), .val (.ref u_VALUES), .val (.int (4 : Int32)), .val (.int (0 : Int32)), .unset] [(.ref u_UNKNOWN)])) ?_ (fun tX kX => X1.aaload hx (j := (0 : Int32)) (v := (.ref u_UNKNOWN)) (by rw [e1]; exact Ar3.1) (State.isArrayOf_alike hZ.alike Ar3.2.1) rfl Ar3.2.2 hin3 hat3 (g := (mkF m 16 #[.val (.int p0), .val (.ref u_VALUES), .val (.int (4 : Int32)), .val (.int (0 : Int32)), .unset] [(.int (0 : Int32)), (.ref u_VALUES)])) rfl rfl (hb hby d1_16) _ kX)
  refine OGo.go (B := T1.setTop (mkF m 19 #[.val (.int p0), .val (.ref u_VALUES), .val (.int (4 : Int32)), .val (.int (0 : Int32)), .val (.ref u_UNKNOWN)] [])) ?_ (fun tX kX => XS.astore X1.here hx rfl (hb hby d1_17) rfl rfl (l' := #[.val (.int p0), .val (.ref u_VALUES), .val (.int (4 : Int32)), .val (.int (0 : Int32)), .val (.ref u_UNKNOWN)]) rfl kX)
  refine OGo.go (B := T1.setTop (mkF m 21 #[.val (.int p0), .val (.ref u_VALUES), .val (.int (4 : Int32)), .val (.int (0 : Int32)), .val (.ref u_UNKNOWN)] [(.ref u_UNKNOWN)])) ?_ (fun tX kX => XS.aload X1.here hx rfl (hb hby d1_19) rfl rfl kX)
  obtain ⟨T4, X4, e4, st4⟩ := getF X1 hx hZ hown (host := "") (Or.inl (hw _ (List.mem_of_getElem? (i := 7) rfl))) Via.refl e1 F_number_u_UNKNOWN (g := (mkF m 21 #[.val (.int p0), .val (.ref u_VALUES), .val (.int (4 : Int32)), .val (.int (0 : Int32)), .val (.ref u_UNKNOWN)] [(.ref u_UNKNOWN)])) rfl rfl (hb hby d1_21)
  refine OGo.go (B := T4.setTop (mkF m 24 #[.val (.int p0), .val (.ref u_VALUES), .val (.int (4 : Int32)), .val (.int (0 : Int32)), .val (.ref u_UNKNOWN)] [(.int (0 : Int32))])) ?_ st4
  refine OGo.go (B := T4.setTop (mkF m 25 #[.val (.int p0), .val (.ref u_VALUES), .val (.int (4 : Int32)), .val (.int (0 : Int32)), .val (.ref u_UNKNOWN)] [(.int p0), (.int (0 : Int32))])) ?_ (fun tX kX => XS.iloadN X4.here hx rfl (hb hby d1_24) rfl kX)
  by_cases hc25 : (0 : Int32) = p0
  ·
    refine OGo.go (B := T4.setTop (mkF m 28 #[.val (.int p0), .val (.ref u_VALUES), .val (.int (4 : Int32)), .val (.int (0 : Int32)), .val (.ref u_UNKNOWN)] [])) ?_ (fun tX kX => XS.icmpNo X4.here hx rfl (hb hby d1_25) rfl (teq hc25).2 kX)
    refine OGo.go (B := T4.setTop (mkF m 30 #[.val (.int p0), .val (.ref u_VALUES), .val (.int (4 : Int32)), .val (.int (0 : Int32)), .val (.ref u_UNKNOWN)] [(.ref u_UNKNOWN)])) ?_ (fun tX kX => XS.aload X4.here hx rfl (hb hby d1_28) rfl rfl kX)
    refine OGo.ret X4 (v := (some (.ref u_UNKNOWN))) (fun h => by rw [Bd.returns] at h; cases h) (BodyLoose.notSynchronized Bd) (fun fs hr => retOut X4 hx Bd.returns rfl (Or.inr (Or.inr (Or.inr (Or.inr ⟨rfl, rfl, rfl⟩)))) (hb hby d1_30) hr) (Q := Q1 Z p0 u_UNKNOWN u_SERVING u_NOT_SERVING u_SERVICE_UNKNOWN u_VALUES kz_VALUES h0 n0) ?_ (by decide) (by decide)
    show Q1 Z p0 u_UNKNOWN u_SERVING u_NOT_SERVING u_SERVICE_UNKNOWN u_VALUES kz_VALUES h0 n0 _ T4.heap _
    rw [e4]
    exact ⟨(congrArg (fun z => some (Value.ref z)) (own_pick0 hc25)), N0, rfl⟩
  ·
    refine OGo.go (B := T4.setTop (mkF m 31 #[.val (.int p0), .val (.ref u_VALUES), .val (.int (4 : Int32)), .val (.int (0 : Int32)), .val (.ref u_UNKNOWN)] [])) ?_ (fun tX kX => XS.icmpYes X4.here hx rfl (pc0 := 25) (pc' := 31) rfl (hb hby d1_25) rfl (feq hc25).2 (by decide) (by decide) kX)
    refine OGo.go (B := T4.setTop (mkF m 34 #[.val (.int p0), .val (.ref u_VALUES), .val (.int (4 : Int32)), .val (.int (1 : Int32)), .val (.ref u_UNKNOWN)] [])) ?_ (fun tX kX => XS.iinc X4.here hx rfl (hb hby d1_31) rfl (l' := #[.val (.int p0), .val (.ref u_VALUES), .val (.int (4 : Int32)), .val (.int (1 : Int32)), .val (.ref u_UNKNOWN)]) rfl kX)
    refine OGo.go (B := T4.setTop (mkF m 9 #[.val (.int p0), .val (.ref u_VALUES), .val (.int (4 : Int32)), .val (.int (1 : Int32)), .val (.ref u_UNKNOWN)] [])) ?_ (fun tX kX => XS.goto X4.here hx rfl (pc0 := 34) (pc' := 9) rfl (hb hby d1_34) (by decide) (by decide) kX)
    refine OGo.go (B := T4.setTop (mkF m 10 #[.val (.int p0), .val (.ref u_VALUES), .val (.int (4 : Int32)), .val (.int (1 : Int32)), .val (.ref u_UNKNOWN)] [(.int (1 : Int32))])) ?_ (fun tX kX => XS.iloadN X4.here hx rfl (hb hby d1_9) rfl kX)
    refine OGo.go (B := T4.setTop (mkF m 11 #[.val (.int p0), .val (.ref u_VALUES), .val (.int (4 : Int32)), .val (.int (1 : Int32)), .val (.ref u_UNKNOWN)] [(.int (4 : Int32)), (.int (1 : Int32))])) ?_ (fun tX kX => XS.iloadN X4.here hx rfl (hb hby d1_10) rfl kX)
    refine OGo.go (B := T4.setTop (mkF m 14 #[.val (.int p0), .val (.ref u_VALUES), .val (.int (4 : Int32)), .val (.int (1 : Int32)), .val (.ref u_UNKNOWN)] [])) ?_ (fun tX kX => XS.icmpNo X4.here hx rfl (hb hby d1_11) rfl (tlt (by decide)).2.1 kX)
    refine OGo.go (B := T4.setTop (mkF m 15 #[.val (.int p0), .val (.ref u_VALUES), .val (.int (4 : Int32)), .val (.int (1 : Int32)), .val (.ref u_UNKNOWN)] [(.ref u_VALUES)])) ?_ (fun tX kX => XS.aloadN X4.here hx rfl (hb hby d1_14) rfl rfl kX)
    refine OGo.go (B := T4.setTop (mkF m 16 #[.val (.int p0), .val (.ref u_VALUES), .val (.int (4 : Int32)), .val (.int (1 : Int32)), .val (.ref u_UNKNOWN)] [(.int (1 : Int32)), (.ref u_VALUES)])) ?_ (fun tX kX => XS.iloadN X4.here hx rfl (hb hby d1_15) rfl kX)
    obtain ⟨cl5, Ar5, qa5, S5, N5', H5, G5⟩ := id V_u_VALUES
    have hin5 := inb_of (j := (1 : Int32)) S5 ⟨by decide, by decide⟩
    have hat5 := H5.at (v := (.ref u_SERVING)) hin5 rfl
    refine OGo.go (B := T4.setTop (mkF m 17 #[.val (.int p0), .val (.ref u_VALUES), .val (.int (4 : Int32)), .val (.int (1 : Int32)), .val (.ref u_UNKNOWN)] [(.ref u_SERVING)])) ?_ (fun tX kX => X4.aaload hx (j := (1 : Int32)) (v := (.ref u_SERVING)) (by rw [e4]; exact Ar5.1) (State.isArrayOf_alike hZ.alike Ar5.2.1) rfl Ar5.2.2 hin5 hat5 (g := (mkF m 16 #[.val (.int p0), .val (.ref u_VALUES), .val (.int (4 : Int32)), .val (.int (1 : Int32)), .val (.ref u_UNKNOWN)] [(.int (1 : Int32)), (.ref u_VALUES)])) rfl rfl (hb hby d1_16) _ kX)
    refine OGo.go (B := T4.setTop (mkF m 19 #[.val (.int p0), .val (.ref u_VALUES), .val (.int (4 : Int32)), .val (.int (1 : Int32)), .val (.ref u_SERVING)] [])) ?_ (fun tX kX => XS.astore X4.here hx rfl (hb hby d1_17) rfl rfl (l' := #[.val (.int p0), .val (.ref u_VALUES), .val (.int (4 : Int32)), .val (.int (1 : Int32)), .val (.ref u_SERVING)]) rfl kX)
    refine OGo.go (B := T4.setTop (mkF m 21 #[.val (.int p0), .val (.ref u_VALUES), .val (.int (4 : Int32)), .val (.int (1 : Int32)), .val (.ref u_SERVING)] [(.ref u_SERVING)])) ?_ (fun tX kX => XS.aload X4.here hx rfl (hb hby d1_19) rfl rfl kX)
    obtain ⟨T6, X6, e6, st6⟩ := getF X4 hx hZ hown (host := "") (Or.inl (hw _ (List.mem_of_getElem? (i := 7) rfl))) Via.refl e4 F_number_u_SERVING (g := (mkF m 21 #[.val (.int p0), .val (.ref u_VALUES), .val (.int (4 : Int32)), .val (.int (1 : Int32)), .val (.ref u_SERVING)] [(.ref u_SERVING)])) rfl rfl (hb hby d1_21)
    refine OGo.go (B := T6.setTop (mkF m 24 #[.val (.int p0), .val (.ref u_VALUES), .val (.int (4 : Int32)), .val (.int (1 : Int32)), .val (.ref u_SERVING)] [(.int (1 : Int32))])) ?_ st6
    refine OGo.go (B := T6.setTop (mkF m 25 #[.val (.int p0), .val (.ref u_VALUES), .val (.int (4 : Int32)), .val (.int (1 : Int32)), .val (.ref u_SERVING)] [(.int p0), (.int (1 : Int32))])) ?_ (fun tX kX => XS.iloadN X6.here hx rfl (hb hby d1_24) rfl kX)
    by_cases hc25_1 : (1 : Int32) = p0
    ·
      refine OGo.go (B := T6.setTop (mkF m 28 #[.val (.int p0), .val (.ref u_VALUES), .val (.int (4 : Int32)), .val (.int (1 : Int32)), .val (.ref u_SERVING)] [])) ?_ (fun tX kX => XS.icmpNo X6.here hx rfl (hb hby d1_25) rfl (teq hc25_1).2 kX)
      refine OGo.go (B := T6.setTop (mkF m 30 #[.val (.int p0), .val (.ref u_VALUES), .val (.int (4 : Int32)), .val (.int (1 : Int32)), .val (.ref u_SERVING)] [(.ref u_SERVING)])) ?_ (fun tX kX => XS.aload X6.here hx rfl (hb hby d1_28) rfl rfl kX)
      refine OGo.ret X6 (v := (some (.ref u_SERVING))) (fun h => by rw [Bd.returns] at h; cases h) (BodyLoose.notSynchronized Bd) (fun fs hr => retOut X6 hx Bd.returns rfl (Or.inr (Or.inr (Or.inr (Or.inr ⟨rfl, rfl, rfl⟩)))) (hb hby d1_30) hr) (Q := Q1 Z p0 u_UNKNOWN u_SERVING u_NOT_SERVING u_SERVICE_UNKNOWN u_VALUES kz_VALUES h0 n0) ?_ (by decide) (by decide)
      show Q1 Z p0 u_UNKNOWN u_SERVING u_NOT_SERVING u_SERVICE_UNKNOWN u_VALUES kz_VALUES h0 n0 _ T6.heap _
      rw [e6]
      exact ⟨(congrArg (fun z => some (Value.ref z)) (own_pick1 hc25_1)), N0, rfl⟩
    ·
      refine OGo.go (B := T6.setTop (mkF m 31 #[.val (.int p0), .val (.ref u_VALUES), .val (.int (4 : Int32)), .val (.int (1 : Int32)), .val (.ref u_SERVING)] [])) ?_ (fun tX kX => XS.icmpYes X6.here hx rfl (pc0 := 25) (pc' := 31) rfl (hb hby d1_25) rfl (feq hc25_1).2 (by decide) (by decide) kX)
      refine OGo.go (B := T6.setTop (mkF m 34 #[.val (.int p0), .val (.ref u_VALUES), .val (.int (4 : Int32)), .val (.int (2 : Int32)), .val (.ref u_SERVING)] [])) ?_ (fun tX kX => XS.iinc X6.here hx rfl (hb hby d1_31) rfl (l' := #[.val (.int p0), .val (.ref u_VALUES), .val (.int (4 : Int32)), .val (.int (2 : Int32)), .val (.ref u_SERVING)]) rfl kX)
      refine OGo.go (B := T6.setTop (mkF m 9 #[.val (.int p0), .val (.ref u_VALUES), .val (.int (4 : Int32)), .val (.int (2 : Int32)), .val (.ref u_SERVING)] [])) ?_ (fun tX kX => XS.goto X6.here hx rfl (pc0 := 34) (pc' := 9) rfl (hb hby d1_34) (by decide) (by decide) kX)
      refine OGo.go (B := T6.setTop (mkF m 10 #[.val (.int p0), .val (.ref u_VALUES), .val (.int (4 : Int32)), .val (.int (2 : Int32)), .val (.ref u_SERVING)] [(.int (2 : Int32))])) ?_ (fun tX kX => XS.iloadN X6.here hx rfl (hb hby d1_9) rfl kX)
      refine OGo.go (B := T6.setTop (mkF m 11 #[.val (.int p0), .val (.ref u_VALUES), .val (.int (4 : Int32)), .val (.int (2 : Int32)), .val (.ref u_SERVING)] [(.int (4 : Int32)), (.int (2 : Int32))])) ?_ (fun tX kX => XS.iloadN X6.here hx rfl (hb hby d1_10) rfl kX)
      refine OGo.go (B := T6.setTop (mkF m 14 #[.val (.int p0), .val (.ref u_VALUES), .val (.int (4 : Int32)), .val (.int (2 : Int32)), .val (.ref u_SERVING)] [])) ?_ (fun tX kX => XS.icmpNo X6.here hx rfl (hb hby d1_11) rfl (tlt (by decide)).2.1 kX)
      refine OGo.go (B := T6.setTop (mkF m 15 #[.val (.int p0), .val (.ref u_VALUES), .val (.int (4 : Int32)), .val (.int (2 : Int32)), .val (.ref u_SERVING)] [(.ref u_VALUES)])) ?_ (fun tX kX => XS.aloadN X6.here hx rfl (hb hby d1_14) rfl rfl kX)
      refine OGo.go (B := T6.setTop (mkF m 16 #[.val (.int p0), .val (.ref u_VALUES), .val (.int (4 : Int32)), .val (.int (2 : Int32)), .val (.ref u_SERVING)] [(.int (2 : Int32)), (.ref u_VALUES)])) ?_ (fun tX kX => XS.iloadN X6.here hx rfl (hb hby d1_15) rfl kX)
      obtain ⟨cl7, Ar7, qa7, S7, N7', H7, G7⟩ := id V_u_VALUES
      have hin7 := inb_of (j := (2 : Int32)) S7 ⟨by decide, by decide⟩
      have hat7 := H7.at (v := (.ref u_NOT_SERVING)) hin7 rfl
      refine OGo.go (B := T6.setTop (mkF m 17 #[.val (.int p0), .val (.ref u_VALUES), .val (.int (4 : Int32)), .val (.int (2 : Int32)), .val (.ref u_SERVING)] [(.ref u_NOT_SERVING)])) ?_ (fun tX kX => X6.aaload hx (j := (2 : Int32)) (v := (.ref u_NOT_SERVING)) (by rw [e6]; exact Ar7.1) (State.isArrayOf_alike hZ.alike Ar7.2.1) rfl Ar7.2.2 hin7 hat7 (g := (mkF m 16 #[.val (.int p0), .val (.ref u_VALUES), .val (.int (4 : Int32)), .val (.int (2 : Int32)), .val (.ref u_SERVING)] [(.int (2 : Int32)), (.ref u_VALUES)])) rfl rfl (hb hby d1_16) _ kX)
      refine OGo.go (B := T6.setTop (mkF m 19 #[.val (.int p0), .val (.ref u_VALUES), .val (.int (4 : Int32)), .val (.int (2 : Int32)), .val (.ref u_NOT_SERVING)] [])) ?_ (fun tX kX => XS.astore X6.here hx rfl (hb hby d1_17) rfl rfl (l' := #[.val (.int p0), .val (.ref u_VALUES), .val (.int (4 : Int32)), .val (.int (2 : Int32)), .val (.ref u_NOT_SERVING)]) rfl kX)
      refine OGo.go (B := T6.setTop (mkF m 21 #[.val (.int p0), .val (.ref u_VALUES), .val (.int (4 : Int32)), .val (.int (2 : Int32)), .val (.ref u_NOT_SERVING)] [(.ref u_NOT_SERVING)])) ?_ (fun tX kX => XS.aload X6.here hx rfl (hb hby d1_19) rfl rfl kX)
      obtain ⟨T8, X8, e8, st8⟩ := getF X6 hx hZ hown (host := "") (Or.inl (hw _ (List.mem_of_getElem? (i := 7) rfl))) Via.refl e6 F_number_u_NOT_SERVING (g := (mkF m 21 #[.val (.int p0), .val (.ref u_VALUES), .val (.int (4 : Int32)), .val (.int (2 : Int32)), .val (.ref u_NOT_SERVING)] [(.ref u_NOT_SERVING)])) rfl rfl (hb hby d1_21)
      refine OGo.go (B := T8.setTop (mkF m 24 #[.val (.int p0), .val (.ref u_VALUES), .val (.int (4 : Int32)), .val (.int (2 : Int32)), .val (.ref u_NOT_SERVING)] [(.int (2 : Int32))])) ?_ st8
      refine OGo.go (B := T8.setTop (mkF m 25 #[.val (.int p0), .val (.ref u_VALUES), .val (.int (4 : Int32)), .val (.int (2 : Int32)), .val (.ref u_NOT_SERVING)] [(.int p0), (.int (2 : Int32))])) ?_ (fun tX kX => XS.iloadN X8.here hx rfl (hb hby d1_24) rfl kX)
      by_cases hc25_2 : (2 : Int32) = p0
      ·
        refine OGo.go (B := T8.setTop (mkF m 28 #[.val (.int p0), .val (.ref u_VALUES), .val (.int (4 : Int32)), .val (.int (2 : Int32)), .val (.ref u_NOT_SERVING)] [])) ?_ (fun tX kX => XS.icmpNo X8.here hx rfl (hb hby d1_25) rfl (teq hc25_2).2 kX)
        refine OGo.go (B := T8.setTop (mkF m 30 #[.val (.int p0), .val (.ref u_VALUES), .val (.int (4 : Int32)), .val (.int (2 : Int32)), .val (.ref u_NOT_SERVING)] [(.ref u_NOT_SERVING)])) ?_ (fun tX kX => XS.aload X8.here hx rfl (hb hby d1_28) rfl rfl kX)
        refine OGo.ret X8 (v := (some (.ref u_NOT_SERVING))) (fun h => by rw [Bd.returns] at h; cases h) (BodyLoose.notSynchronized Bd) (fun fs hr => retOut X8 hx Bd.returns rfl (Or.inr (Or.inr (Or.inr (Or.inr ⟨rfl, rfl, rfl⟩)))) (hb hby d1_30) hr) (Q := Q1 Z p0 u_UNKNOWN u_SERVING u_NOT_SERVING u_SERVICE_UNKNOWN u_VALUES kz_VALUES h0 n0) ?_ (by decide) (by decide)
        show Q1 Z p0 u_UNKNOWN u_SERVING u_NOT_SERVING u_SERVICE_UNKNOWN u_VALUES kz_VALUES h0 n0 _ T8.heap _
        rw [e8]
        exact ⟨(congrArg (fun z => some (Value.ref z)) (own_pick2 hc25_2)), N0, rfl⟩
      ·
        refine OGo.go (B := T8.setTop (mkF m 31 #[.val (.int p0), .val (.ref u_VALUES), .val (.int (4 : Int32)), .val (.int (2 : Int32)), .val (.ref u_NOT_SERVING)] [])) ?_ (fun tX kX => XS.icmpYes X8.here hx rfl (pc0 := 25) (pc' := 31) rfl (hb hby d1_25) rfl (feq hc25_2).2 (by decide) (by decide) kX)
        refine OGo.go (B := T8.setTop (mkF m 34 #[.val (.int p0), .val (.ref u_VALUES), .val (.int (4 : Int32)), .val (.int (3 : Int32)), .val (.ref u_NOT_SERVING)] [])) ?_ (fun tX kX => XS.iinc X8.here hx rfl (hb hby d1_31) rfl (l' := #[.val (.int p0), .val (.ref u_VALUES), .val (.int (4 : Int32)), .val (.int (3 : Int32)), .val (.ref u_NOT_SERVING)]) rfl kX)
        refine OGo.go (B := T8.setTop (mkF m 9 #[.val (.int p0), .val (.ref u_VALUES), .val (.int (4 : Int32)), .val (.int (3 : Int32)), .val (.ref u_NOT_SERVING)] [])) ?_ (fun tX kX => XS.goto X8.here hx rfl (pc0 := 34) (pc' := 9) rfl (hb hby d1_34) (by decide) (by decide) kX)
        refine OGo.go (B := T8.setTop (mkF m 10 #[.val (.int p0), .val (.ref u_VALUES), .val (.int (4 : Int32)), .val (.int (3 : Int32)), .val (.ref u_NOT_SERVING)] [(.int (3 : Int32))])) ?_ (fun tX kX => XS.iloadN X8.here hx rfl (hb hby d1_9) rfl kX)
        refine OGo.go (B := T8.setTop (mkF m 11 #[.val (.int p0), .val (.ref u_VALUES), .val (.int (4 : Int32)), .val (.int (3 : Int32)), .val (.ref u_NOT_SERVING)] [(.int (4 : Int32)), (.int (3 : Int32))])) ?_ (fun tX kX => XS.iloadN X8.here hx rfl (hb hby d1_10) rfl kX)
        refine OGo.go (B := T8.setTop (mkF m 14 #[.val (.int p0), .val (.ref u_VALUES), .val (.int (4 : Int32)), .val (.int (3 : Int32)), .val (.ref u_NOT_SERVING)] [])) ?_ (fun tX kX => XS.icmpNo X8.here hx rfl (hb hby d1_11) rfl (tlt (by decide)).2.1 kX)
        refine OGo.go (B := T8.setTop (mkF m 15 #[.val (.int p0), .val (.ref u_VALUES), .val (.int (4 : Int32)), .val (.int (3 : Int32)), .val (.ref u_NOT_SERVING)] [(.ref u_VALUES)])) ?_ (fun tX kX => XS.aloadN X8.here hx rfl (hb hby d1_14) rfl rfl kX)
        refine OGo.go (B := T8.setTop (mkF m 16 #[.val (.int p0), .val (.ref u_VALUES), .val (.int (4 : Int32)), .val (.int (3 : Int32)), .val (.ref u_NOT_SERVING)] [(.int (3 : Int32)), (.ref u_VALUES)])) ?_ (fun tX kX => XS.iloadN X8.here hx rfl (hb hby d1_15) rfl kX)
        obtain ⟨cl9, Ar9, qa9, S9, N9', H9, G9⟩ := id V_u_VALUES
        have hin9 := inb_of (j := (3 : Int32)) S9 ⟨by decide, by decide⟩
        have hat9 := H9.at (v := (.ref u_SERVICE_UNKNOWN)) hin9 rfl
        refine OGo.go (B := T8.setTop (mkF m 17 #[.val (.int p0), .val (.ref u_VALUES), .val (.int (4 : Int32)), .val (.int (3 : Int32)), .val (.ref u_NOT_SERVING)] [(.ref u_SERVICE_UNKNOWN)])) ?_ (fun tX kX => X8.aaload hx (j := (3 : Int32)) (v := (.ref u_SERVICE_UNKNOWN)) (by rw [e8]; exact Ar9.1) (State.isArrayOf_alike hZ.alike Ar9.2.1) rfl Ar9.2.2 hin9 hat9 (g := (mkF m 16 #[.val (.int p0), .val (.ref u_VALUES), .val (.int (4 : Int32)), .val (.int (3 : Int32)), .val (.ref u_NOT_SERVING)] [(.int (3 : Int32)), (.ref u_VALUES)])) rfl rfl (hb hby d1_16) _ kX)
        refine OGo.go (B := T8.setTop (mkF m 19 #[.val (.int p0), .val (.ref u_VALUES), .val (.int (4 : Int32)), .val (.int (3 : Int32)), .val (.ref u_SERVICE_UNKNOWN)] [])) ?_ (fun tX kX => XS.astore X8.here hx rfl (hb hby d1_17) rfl rfl (l' := #[.val (.int p0), .val (.ref u_VALUES), .val (.int (4 : Int32)), .val (.int (3 : Int32)), .val (.ref u_SERVICE_UNKNOWN)]) rfl kX)
        refine OGo.go (B := T8.setTop (mkF m 21 #[.val (.int p0), .val (.ref u_VALUES), .val (.int (4 : Int32)), .val (.int (3 : Int32)), .val (.ref u_SERVICE_UNKNOWN)] [(.ref u_SERVICE_UNKNOWN)])) ?_ (fun tX kX => XS.aload X8.here hx rfl (hb hby d1_19) rfl rfl kX)
        obtain ⟨T10, X10, e10, st10⟩ := getF X8 hx hZ hown (host := "") (Or.inl (hw _ (List.mem_of_getElem? (i := 7) rfl))) Via.refl e8 F_number_u_SERVICE_UNKNOWN (g := (mkF m 21 #[.val (.int p0), .val (.ref u_VALUES), .val (.int (4 : Int32)), .val (.int (3 : Int32)), .val (.ref u_SERVICE_UNKNOWN)] [(.ref u_SERVICE_UNKNOWN)])) rfl rfl (hb hby d1_21)
        refine OGo.go (B := T10.setTop (mkF m 24 #[.val (.int p0), .val (.ref u_VALUES), .val (.int (4 : Int32)), .val (.int (3 : Int32)), .val (.ref u_SERVICE_UNKNOWN)] [(.int (3 : Int32))])) ?_ st10
        refine OGo.go (B := T10.setTop (mkF m 25 #[.val (.int p0), .val (.ref u_VALUES), .val (.int (4 : Int32)), .val (.int (3 : Int32)), .val (.ref u_SERVICE_UNKNOWN)] [(.int p0), (.int (3 : Int32))])) ?_ (fun tX kX => XS.iloadN X10.here hx rfl (hb hby d1_24) rfl kX)
        by_cases hc25_3 : (3 : Int32) = p0
        ·
          refine OGo.go (B := T10.setTop (mkF m 28 #[.val (.int p0), .val (.ref u_VALUES), .val (.int (4 : Int32)), .val (.int (3 : Int32)), .val (.ref u_SERVICE_UNKNOWN)] [])) ?_ (fun tX kX => XS.icmpNo X10.here hx rfl (hb hby d1_25) rfl (teq hc25_3).2 kX)
          refine OGo.go (B := T10.setTop (mkF m 30 #[.val (.int p0), .val (.ref u_VALUES), .val (.int (4 : Int32)), .val (.int (3 : Int32)), .val (.ref u_SERVICE_UNKNOWN)] [(.ref u_SERVICE_UNKNOWN)])) ?_ (fun tX kX => XS.aload X10.here hx rfl (hb hby d1_28) rfl rfl kX)
          refine OGo.ret X10 (v := (some (.ref u_SERVICE_UNKNOWN))) (fun h => by rw [Bd.returns] at h; cases h) (BodyLoose.notSynchronized Bd) (fun fs hr => retOut X10 hx Bd.returns rfl (Or.inr (Or.inr (Or.inr (Or.inr ⟨rfl, rfl, rfl⟩)))) (hb hby d1_30) hr) (Q := Q1 Z p0 u_UNKNOWN u_SERVING u_NOT_SERVING u_SERVICE_UNKNOWN u_VALUES kz_VALUES h0 n0) ?_ (by decide) (by decide)
          show Q1 Z p0 u_UNKNOWN u_SERVING u_NOT_SERVING u_SERVICE_UNKNOWN u_VALUES kz_VALUES h0 n0 _ T10.heap _
          rw [e10]
          exact ⟨(congrArg (fun z => some (Value.ref z)) (own_pick3 hc25_3)), N0, rfl⟩
        ·
          refine OGo.go (B := T10.setTop (mkF m 31 #[.val (.int p0), .val (.ref u_VALUES), .val (.int (4 : Int32)), .val (.int (3 : Int32)), .val (.ref u_SERVICE_UNKNOWN)] [])) ?_ (fun tX kX => XS.icmpYes X10.here hx rfl (pc0 := 25) (pc' := 31) rfl (hb hby d1_25) rfl (feq hc25_3).2 (by decide) (by decide) kX)
          refine OGo.go (B := T10.setTop (mkF m 34 #[.val (.int p0), .val (.ref u_VALUES), .val (.int (4 : Int32)), .val (.int (4 : Int32)), .val (.ref u_SERVICE_UNKNOWN)] [])) ?_ (fun tX kX => XS.iinc X10.here hx rfl (hb hby d1_31) rfl (l' := #[.val (.int p0), .val (.ref u_VALUES), .val (.int (4 : Int32)), .val (.int (4 : Int32)), .val (.ref u_SERVICE_UNKNOWN)]) rfl kX)
          refine OGo.go (B := T10.setTop (mkF m 9 #[.val (.int p0), .val (.ref u_VALUES), .val (.int (4 : Int32)), .val (.int (4 : Int32)), .val (.ref u_SERVICE_UNKNOWN)] [])) ?_ (fun tX kX => XS.goto X10.here hx rfl (pc0 := 34) (pc' := 9) rfl (hb hby d1_34) (by decide) (by decide) kX)
          refine OGo.go (B := T10.setTop (mkF m 10 #[.val (.int p0), .val (.ref u_VALUES), .val (.int (4 : Int32)), .val (.int (4 : Int32)), .val (.ref u_SERVICE_UNKNOWN)] [(.int (4 : Int32))])) ?_ (fun tX kX => XS.iloadN X10.here hx rfl (hb hby d1_9) rfl kX)
          refine OGo.go (B := T10.setTop (mkF m 11 #[.val (.int p0), .val (.ref u_VALUES), .val (.int (4 : Int32)), .val (.int (4 : Int32)), .val (.ref u_SERVICE_UNKNOWN)] [(.int (4 : Int32)), (.int (4 : Int32))])) ?_ (fun tX kX => XS.iloadN X10.here hx rfl (hb hby d1_10) rfl kX)
          refine OGo.go (B := T10.setTop (mkF m 37 #[.val (.int p0), .val (.ref u_VALUES), .val (.int (4 : Int32)), .val (.int (4 : Int32)), .val (.ref u_SERVICE_UNKNOWN)] [])) ?_ (fun tX kX => XS.icmpYes X10.here hx rfl (pc0 := 11) (pc' := 37) rfl (hb hby d1_11) rfl (flt (by decide)).2.1 (by decide) (by decide) kX)
          obtain ⟨T11, X11, e11, st11⟩ := getS2 X10 hx hZ hown (host := "") (Or.inl (hw _ (List.mem_of_getElem? (i := 12) rfl))) Via.refl e10 S_UNKNOWN (g := (mkF m 37 #[.val (.int p0), .val (.ref u_VALUES), .val (.int (4 : Int32)), .val (.int (4 : Int32)), .val (.ref u_SERVICE_UNKNOWN)] [])) rfl (hb hby d1_37)
          refine OGo.go (B := T11.setTop (mkF m 40 #[.val (.int p0), .val (.ref u_VALUES), .val (.int (4 : Int32)), .val (.int (4 : Int32)), .val (.ref u_SERVICE_UNKNOWN)] [(.ref u_UNKNOWN)])) ?_ st11
          refine OGo.ret X11 (v := (some (.ref u_UNKNOWN))) (fun h => by rw [Bd.returns] at h; cases h) (BodyLoose.notSynchronized Bd) (fun fs hr => retOut X11 hx Bd.returns rfl (Or.inr (Or.inr (Or.inr (Or.inr ⟨rfl, rfl, rfl⟩)))) (hb hby d1_40) hr) (Q := Q1 Z p0 u_UNKNOWN u_SERVING u_NOT_SERVING u_SERVICE_UNKNOWN u_VALUES kz_VALUES h0 n0) ?_ (by decide) (by decide)
          show Q1 Z p0 u_UNKNOWN u_SERVING u_NOT_SERVING u_SERVICE_UNKNOWN u_VALUES kz_VALUES h0 n0 _ T11.heap _
          rw [e11]
          exact ⟨(congrArg (fun z => some (Value.ref z)) (own_pickN (fun q => hc25_1 q.symm) (fun q => hc25_2 q.symm) (fun q => hc25_3 q.symm))), N0, rfl⟩
theorem d2_0 : decode method_2_code 0 = .ok (.iload_n 0, 1) := by decide +kernel
theorem d2_1 : decode method_2_code 1 = .ok (.iconst 1, 1) := by decide +kernel
theorem d2_2 : decode method_2_code 2 = .ok (.if_icmp .ne 7, 3) := by decide +kernel
theorem d2_5 : decode method_2_code 5 = .ok (.getstatic 7, 3) := by decide +kernel
theorem d2_8 : decode method_2_code 8 = .ok (.areturn, 1) := by decide +kernel
theorem d2_9 : decode method_2_code 9 = .ok (.iload_n 0, 1) := by decide +kernel
theorem d2_10 : decode method_2_code 10 = .ok (.iconst 2, 1) := by decide +kernel
theorem d2_11 : decode method_2_code 11 = .ok (.if_icmp .ne 7, 3) := by decide +kernel
theorem d2_14 : decode method_2_code 14 = .ok (.getstatic 13, 3) := by decide +kernel
theorem d2_17 : decode method_2_code 17 = .ok (.areturn, 1) := by decide +kernel
theorem d2_18 : decode method_2_code 18 = .ok (.iload_n 0, 1) := by decide +kernel
theorem d2_19 : decode method_2_code 19 = .ok (.iconst 3, 1) := by decide +kernel
theorem d2_20 : decode method_2_code 20 = .ok (.if_icmp .ne 7, 3) := by decide +kernel
theorem d2_23 : decode method_2_code 23 = .ok (.getstatic 16, 3) := by decide +kernel
theorem d2_26 : decode method_2_code 26 = .ok (.areturn, 1) := by decide +kernel
theorem d2_27 : decode method_2_code 27 = .ok (.getstatic 19, 3) := by decide +kernel
theorem d2_30 : decode method_2_code 30 = .ok (.areturn, 1) := by decide +kernel
theorem pn_com_example_vitalwire_vitalwire_protocol_ServingStatusForNumberPinLaw : plainName "com/example/vitalwire/vitalwire/protocol/ServingStatusForNumberPinLaw" = true := by first | (simp [plainName, overriddenIn]; done) | decide +kernel
def Q2 (Z : State) (p0 : Int32) (u_UNKNOWN : Addr) (u_SERVING : Addr) (u_NOT_SERVING : Addr) (u_SERVICE_UNKNOWN : Addr) (h0 : Heap) (n0 : Nat) (v : Option Value) (h : Heap) (L : List Loc) : Prop := v = some (.ref (own_pick p0 u_UNKNOWN u_SERVING u_NOT_SERVING u_SERVICE_UNKNOWN)) ∧ Fr n0 L ∧ h = h0
def P2 (Z : State) (p0 : Int32) (u_UNKNOWN : Addr) (u_SERVING : Addr) (u_NOT_SERVING : Addr) (u_SERVICE_UNKNOWN : Addr) (h0 : Heap) (n0 : Nat) (s : State) (o : Outcome) (U' : State) : Prop := ∃ v L, o = .returned v ∧ Q2 Z p0 u_UNKNOWN u_SERVING u_NOT_SERVING u_SERVICE_UNKNOWN h0 n0 v U'.heap L ∧ FrameEnd s o U' L ({ frames := 0, cells := 0, slots := 0, locals := 0 } : Room).cells ({ frames := 0, cells := 0, slots := 0, locals := 0 } : Room).slots
set_option maxRecDepth 65536 in
set_option maxHeartbeats 40000000 in
theorem rm2 (l : Launch) (Z : State) (aV : Array Value) (hw : ∀ d ∈ tables_1, d.before aV Z = true) (ws : List Jvm.Cond) (p0 : Int32) (u_UNKNOWN : Addr) (u_SERVING : Addr) (u_NOT_SERVING : Addr) (u_SERVICE_UNKNOWN : Addr) (h0 : Heap) (n0 : Nat) (Z0 : n0 ≤ h0.size) (S_UNKNOWN : Sta Z h0 "com/example/vitalwire/vitalwire/protocol/ServingStatus" "UNKNOWN" "Lcom/example/vitalwire/vitalwire/protocol/ServingStatus;" (.ref u_UNKNOWN)) (S_SERVING : Sta Z h0 "com/example/vitalwire/vitalwire/protocol/ServingStatus" "SERVING" "Lcom/example/vitalwire/vitalwire/protocol/ServingStatus;" (.ref u_SERVING)) (S_NOT_SERVING : Sta Z h0 "com/example/vitalwire/vitalwire/protocol/ServingStatus" "NOT_SERVING" "Lcom/example/vitalwire/vitalwire/protocol/ServingStatus;" (.ref u_NOT_SERVING)) (S_SERVICE_UNKNOWN : Sta Z h0 "com/example/vitalwire/vitalwire/protocol/ServingStatus" "SERVICE_UNKNOWN" "Lcom/example/vitalwire/vitalwire/protocol/ServingStatus;" (.ref u_SERVICE_UNKNOWN)) :
    MetFree l (⟨"com/example/vitalwire/vitalwire/protocol/ServingStatusForNumberPinLaw", "expected", "(I)Lcom/example/vitalwire/vitalwire/protocol/ServingStatus;"⟩ : MethodName) (head1 (Jvm.Cond.code (⟨"com/example/vitalwire/vitalwire/protocol/ServingStatusForNumberPinLaw", "expected", "(I)Lcom/example/vitalwire/vitalwire/protocol/ServingStatus;"⟩ : MethodName) method_2_code 1 (some (.object "com/example/vitalwire/vitalwire/protocol/ServingStatus")) :: ws) ({ frames := 0, cells := 0, slots := 0, locals := 0 } : Room)) (fun a U => a = #[(.int p0)] ∧ Z.Warmed39 U.vm ∧ U.heap = h0) (fun _ _ _ _ _ => True) (fun _ U o U' => ∃ v L, o = .returned v ∧ Q2 Z p0 u_UNKNOWN u_SERVING u_NOT_SERVING u_SERVICE_UNKNOWN h0 n0 v U'.heap L ∧ FrameEnd U o U' L ({ frames := 0, cells := 0, slots := 0, locals := 0 } : Room).cells ({ frames := 0, cells := 0, slots := 0, locals := 0 } : Room).slots) := by
  refine MetFree.of_bodySF (plainFor_of_name pn_com_example_vitalwire_vitalwire_protocol_ServingStatusForNumberPinLaw) hisR ?_
  intro p e s m args below meth c s₁ Bd hml0 hP hK
  obtain ⟨rfl, hZ, hh⟩ := hP
  have hx := Bd.exec
  have hby := Bd.bytes
  have hml : c.maxLocals = 1 := hml0
  have hown : s.vm.findClass "com/example/vitalwire/vitalwire/protocol/ServingStatusForNumberPinLaw" = some m.cls := findClass_of_methodNamed Bd.named
  have hnm := (name_of_methodNamed Bd.named Bd.method).1
  have X0 : Stand p l e ({ frames := 0, cells := 0, slots := 0, locals := 0 } : Room) s m #[(.int p0)] below meth c s₁ [] 0 0 := Stand.of_body Bd
  have e0 : s₁.heap = h0 := by rw [← hh, Bd.state]; rfl
  have efx : entryFrame m #[(.int p0)] 1 = mkF m 0 #[.val (.int p0)] [] := by first | (simp [entryFrame, mkF, argsToLocals, Value.category]; done) | rfl
  have N0 := Fr.nil n0
  have K0 : Keep h0 h0 [] := Keep.refl h0 _
  refine OGo.start (g' := mkF m 0 #[.val (.int p0)] []) (efx) ?_
  show OGo p.tables e below (P2 Z p0 u_UNKNOWN u_SERVING u_NOT_SERVING u_SERVICE_UNKNOWN h0 n0 s) (s₁.setTop (mkF m 0 #[.val (.int p0)] []))
  refine OGo.go (B := s₁.setTop (mkF m 1 #[.val (.int p0)] [(.int p0)])) ?_ (fun tX kX => XS.iloadN X0.here hx rfl (hb hby d2_0) rfl kX)
  refine OGo.go (B := s₁.setTop (mkF m 2 #[.val (.int p0)] [(.int (1 : Int32)), (.int p0)])) ?_ (fun tX kX => XS.iconst X0.here hx rfl (hb hby d2_1) kX)
  by_cases hc2 : p0 = (1 : Int32)
  ·
    refine OGo.go (B := s₁.setTop (mkF m 5 #[.val (.int p0)] [])) ?_ (fun tX kX => XS.icmpNo X0.here hx rfl (hb hby d2_2) rfl (teq hc2).2 kX)
    obtain ⟨T1, X1, e1, st1⟩ := getS2 X0 hx hZ hown (host := "") (Or.inl (hw _ (List.mem_of_getElem? (i := 20) rfl))) Via.refl e0 S_SERVING (g := (mkF m 5 #[.val (.int p0)] [])) rfl (hb hby d2_5)
    refine OGo.go (B := T1.setTop (mkF m 8 #[.val (.int p0)] [(.ref u_SERVING)])) ?_ st1
    refine OGo.ret X1 (v := (some (.ref u_SERVING))) (fun h => by rw [Bd.returns] at h; cases h) (BodyLoose.notSynchronized Bd) (fun fs hr => retOut X1 hx Bd.returns rfl (Or.inr (Or.inr (Or.inr (Or.inr ⟨rfl, rfl, rfl⟩)))) (hb hby d2_8) hr) (Q := Q2 Z p0 u_UNKNOWN u_SERVING u_NOT_SERVING u_SERVICE_UNKNOWN h0 n0) ?_ (by decide) (by decide)
    show Q2 Z p0 u_UNKNOWN u_SERVING u_NOT_SERVING u_SERVICE_UNKNOWN h0 n0 _ T1.heap _
    rw [e1]
    exact ⟨(congrArg (fun z => some (Value.ref z)) (own_pick1 hc2.symm)), N0, rfl⟩
  ·
    refine OGo.go (B := s₁.setTop (mkF m 9 #[.val (.int p0)] [])) ?_ (fun tX kX => XS.icmpYes X0.here hx rfl (pc0 := 2) (pc' := 9) rfl (hb hby d2_2) rfl (feq hc2).2 (by decide) (by decide) kX)
    refine OGo.go (B := s₁.setTop (mkF m 10 #[.val (.int p0)] [(.int p0)])) ?_ (fun tX kX => XS.iloadN X0.here hx rfl (hb hby d2_9) rfl kX)
    refine OGo.go (B := s₁.setTop (mkF m 11 #[.val (.int p0)] [(.int (2 : Int32)), (.int p0)])) ?_ (fun tX kX => XS.iconst X0.here hx rfl (hb hby d2_10) kX)
    by_cases hc11 : p0 = (2 : Int32)
    ·
      refine OGo.go (B := s₁.setTop (mkF m 14 #[.val (.int p0)] [])) ?_ (fun tX kX => XS.icmpNo X0.here hx rfl (hb hby d2_11) rfl (teq hc11).2 kX)
      obtain ⟨T2, X2, e2, st2⟩ := getS2 X0 hx hZ hown (host := "") (Or.inl (hw _ (List.mem_of_getElem? (i := 18) rfl))) Via.refl e0 S_NOT_SERVING (g := (mkF m 14 #[.val (.int p0)] [])) rfl (hb hby d2_14)
      refine OGo.go (B := T2.setTop (mkF m 17 #[.val (.int p0)] [(.ref u_NOT_SERVING)])) ?_ st2
      refine OGo.ret X2 (v := (some (.ref u_NOT_SERVING))) (fun h => by rw [Bd.returns] at h; cases h) (BodyLoose.notSynchronized Bd) (fun fs hr => retOut X2 hx Bd.returns rfl (Or.inr (Or.inr (Or.inr (Or.inr ⟨rfl, rfl, rfl⟩)))) (hb hby d2_17) hr) (Q := Q2 Z p0 u_UNKNOWN u_SERVING u_NOT_SERVING u_SERVICE_UNKNOWN h0 n0) ?_ (by decide) (by decide)
      show Q2 Z p0 u_UNKNOWN u_SERVING u_NOT_SERVING u_SERVICE_UNKNOWN h0 n0 _ T2.heap _
      rw [e2]
      exact ⟨(congrArg (fun z => some (Value.ref z)) (own_pick2 hc11.symm)), N0, rfl⟩
    ·
      refine OGo.go (B := s₁.setTop (mkF m 18 #[.val (.int p0)] [])) ?_ (fun tX kX => XS.icmpYes X0.here hx rfl (pc0 := 11) (pc' := 18) rfl (hb hby d2_11) rfl (feq hc11).2 (by decide) (by decide) kX)
      refine OGo.go (B := s₁.setTop (mkF m 19 #[.val (.int p0)] [(.int p0)])) ?_ (fun tX kX => XS.iloadN X0.here hx rfl (hb hby d2_18) rfl kX)
      refine OGo.go (B := s₁.setTop (mkF m 20 #[.val (.int p0)] [(.int (3 : Int32)), (.int p0)])) ?_ (fun tX kX => XS.iconst X0.here hx rfl (hb hby d2_19) kX)
      by_cases hc20 : p0 = (3 : Int32)
      ·
        refine OGo.go (B := s₁.setTop (mkF m 23 #[.val (.int p0)] [])) ?_ (fun tX kX => XS.icmpNo X0.here hx rfl (hb hby d2_20) rfl (teq hc20).2 kX)
        obtain ⟨T3, X3, e3, st3⟩ := getS2 X0 hx hZ hown (host := "") (Or.inl (hw _ (List.mem_of_getElem? (i := 19) rfl))) Via.refl e0 S_SERVICE_UNKNOWN (g := (mkF m 23 #[.val (.int p0)] [])) rfl (hb hby d2_23)
        refine OGo.go (B := T3.setTop (mkF m 26 #[.val (.int p0)] [(.ref u_SERVICE_UNKNOWN)])) ?_ st3
        refine OGo.ret X3 (v := (some (.ref u_SERVICE_UNKNOWN))) (fun h => by rw [Bd.returns] at h; cases h) (BodyLoose.notSynchronized Bd) (fun fs hr => retOut X3 hx Bd.returns rfl (Or.inr (Or.inr (Or.inr (Or.inr ⟨rfl, rfl, rfl⟩)))) (hb hby d2_26) hr) (Q := Q2 Z p0 u_UNKNOWN u_SERVING u_NOT_SERVING u_SERVICE_UNKNOWN h0 n0) ?_ (by decide) (by decide)
        show Q2 Z p0 u_UNKNOWN u_SERVING u_NOT_SERVING u_SERVICE_UNKNOWN h0 n0 _ T3.heap _
        rw [e3]
        exact ⟨(congrArg (fun z => some (Value.ref z)) (own_pick3 hc20.symm)), N0, rfl⟩
      ·
        refine OGo.go (B := s₁.setTop (mkF m 27 #[.val (.int p0)] [])) ?_ (fun tX kX => XS.icmpYes X0.here hx rfl (pc0 := 20) (pc' := 27) rfl (hb hby d2_20) rfl (feq hc20).2 (by decide) (by decide) kX)
        obtain ⟨T4, X4, e4, st4⟩ := getS2 X0 hx hZ hown (host := "") (Or.inl (hw _ (List.mem_of_getElem? (i := 17) rfl))) Via.refl e0 S_UNKNOWN (g := (mkF m 27 #[.val (.int p0)] [])) rfl (hb hby d2_27)
        refine OGo.go (B := T4.setTop (mkF m 30 #[.val (.int p0)] [(.ref u_UNKNOWN)])) ?_ st4
        refine OGo.ret X4 (v := (some (.ref u_UNKNOWN))) (fun h => by rw [Bd.returns] at h; cases h) (BodyLoose.notSynchronized Bd) (fun fs hr => retOut X4 hx Bd.returns rfl (Or.inr (Or.inr (Or.inr (Or.inr ⟨rfl, rfl, rfl⟩)))) (hb hby d2_30) hr) (Q := Q2 Z p0 u_UNKNOWN u_SERVING u_NOT_SERVING u_SERVICE_UNKNOWN h0 n0) ?_ (by decide) (by decide)
        show Q2 Z p0 u_UNKNOWN u_SERVING u_NOT_SERVING u_SERVICE_UNKNOWN h0 n0 _ T4.heap _
        rw [e4]
        exact ⟨(congrArg (fun z => some (Value.ref z)) (own_pickN hc2 hc11 hc20)), N0, rfl⟩
theorem pd__I_Lcom_example_vitalwire_vitalwire_protocol_ServingStatus_ : parseMethodDescriptor "(I)Lcom/example/vitalwire/vitalwire/protocol/ServingStatus;" = some ⟨[.int], some (.object "com/example/vitalwire/vitalwire/protocol/ServingStatus")⟩ := by decide +kernel
def Q0 (Z : State) (p0 : Int32) (p1 : Int32) (u_UNKNOWN : Addr) (u_SERVING : Addr) (u_NOT_SERVING : Addr) (u_SERVICE_UNKNOWN : Addr) (u_VALUES : Addr) (kz_VALUES : ClassId) (h0 : Heap) (n0 : Nat) (v : Option Value) (h : Heap) (L : List Loc) : Prop := v = some (.int (1 : Int32)) ∧ Fr n0 L
def P0 (Z : State) (p0 : Int32) (p1 : Int32) (u_UNKNOWN : Addr) (u_SERVING : Addr) (u_NOT_SERVING : Addr) (u_SERVICE_UNKNOWN : Addr) (u_VALUES : Addr) (kz_VALUES : ClassId) (h0 : Heap) (n0 : Nat) (s : State) (o : Outcome) (U' : State) : Prop := ∃ v L, o = .returned v ∧ Q0 Z p0 p1 u_UNKNOWN u_SERVING u_NOT_SERVING u_SERVICE_UNKNOWN u_VALUES kz_VALUES h0 n0 v U'.heap L ∧ FrameEnd s o U' L room_1.cells room_1.slots
set_option maxRecDepth 65536 in
set_option maxHeartbeats 40000000 in
theorem rm0 (l : Launch) (Z : State) (aV : Array Value) (hw : ∀ d ∈ tables_1, d.before aV Z = true) (ws : List Jvm.Cond) (p0 : Int32) (p1 : Int32) (u_UNKNOWN : Addr) (u_SERVING : Addr) (u_NOT_SERVING : Addr) (u_SERVICE_UNKNOWN : Addr) (u_VALUES : Addr) (kz_VALUES : ClassId) (h0 : Heap) (n0 : Nat) (Z0 : n0 ≤ h0.size) (S_VALUES : Sta Z h0 "com/example/vitalwire/vitalwire/protocol/ServingStatus" "VALUES" "[Lcom/example/vitalwire/vitalwire/protocol/ServingStatus;" (.ref u_VALUES)) (S_UNKNOWN : Sta Z h0 "com/example/vitalwire/vitalwire/protocol/ServingStatus" "UNKNOWN" "Lcom/example/vitalwire/vitalwire/protocol/ServingStatus;" (.ref u_UNKNOWN)) (E_u_UNKNOWN : Exa Z h0 u_UNKNOWN "com/example/vitalwire/vitalwire/protocol/ServingStatus") (F_number_u_UNKNOWN : Fld Z h0 u_UNKNOWN "com/example/vitalwire/vitalwire/protocol/ServingStatus" "number" "I" (.int (0 : Int32))) (S_SERVING : Sta Z h0 "com/example/vitalwire/vitalwire/protocol/ServingStatus" "SERVING" "Lcom/example/vitalwire/vitalwire/protocol/ServingStatus;" (.ref u_SERVING)) (E_u_SERVING : Exa Z h0 u_SERVING "com/example/vitalwire/vitalwire/protocol/ServingStatus") (F_number_u_SERVING : Fld Z h0 u_SERVING "com/example/vitalwire/vitalwire/protocol/ServingStatus" "number" "I" (.int (1 : Int32))) (S_NOT_SERVING : Sta Z h0 "com/example/vitalwire/vitalwire/protocol/ServingStatus" "NOT_SERVING" "Lcom/example/vitalwire/vitalwire/protocol/ServingStatus;" (.ref u_NOT_SERVING)) (E_u_NOT_SERVING : Exa Z h0 u_NOT_SERVING "com/example/vitalwire/vitalwire/protocol/ServingStatus") (F_number_u_NOT_SERVING : Fld Z h0 u_NOT_SERVING "com/example/vitalwire/vitalwire/protocol/ServingStatus" "number" "I" (.int (2 : Int32))) (S_SERVICE_UNKNOWN : Sta Z h0 "com/example/vitalwire/vitalwire/protocol/ServingStatus" "SERVICE_UNKNOWN" "Lcom/example/vitalwire/vitalwire/protocol/ServingStatus;" (.ref u_SERVICE_UNKNOWN)) (E_u_SERVICE_UNKNOWN : Exa Z h0 u_SERVICE_UNKNOWN "com/example/vitalwire/vitalwire/protocol/ServingStatus") (F_number_u_SERVICE_UNKNOWN : Fld Z h0 u_SERVICE_UNKNOWN "com/example/vitalwire/vitalwire/protocol/ServingStatus" "number" "I" (.int (3 : Int32))) (V_u_VALUES : Arv Z h0 u_VALUES kz_VALUES (.object "com/example/vitalwire/vitalwire/protocol/ServingStatus") (4 : Int32) [(.ref u_UNKNOWN), (.ref u_SERVING), (.ref u_NOT_SERVING), (.ref u_SERVICE_UNKNOWN)] .null) :
    MetFree l x (head1 (Jvm.Cond.code x code maxLocals ret :: ws) room_1) (fun a U => a = #[(.int p0), (.int p1)] ∧ Z.Warmed39 U.vm ∧ U.heap = h0) (fun _ _ _ _ _ => True) (fun _ U o U' => ∃ v L, o = .returned v ∧ Q0 Z p0 p1 u_UNKNOWN u_SERVING u_NOT_SERVING u_SERVICE_UNKNOWN u_VALUES kz_VALUES h0 n0 v U'.heap L ∧ FrameEnd U o U' L room_1.cells room_1.slots) := by
  refine MetFree.of_bodySF (plainFor_of_name pn_com_example_vitalwire_vitalwire_protocol_ServingStatusForNumberPinLaw) hisR ?_
  intro p e s m args below meth c s₁ Bd hml0 hP hK
  obtain ⟨rfl, hZ, hh⟩ := hP
  have hx := Bd.exec
  have hby := Bd.bytes
  have hml : c.maxLocals = 4 := hml0
  have hown : s.vm.findClass "com/example/vitalwire/vitalwire/protocol/ServingStatusForNumberPinLaw" = some m.cls := findClass_of_methodNamed Bd.named
  have hnm := (name_of_methodNamed Bd.named Bd.method).1
  have X0 : Stand p l e room_1 s m #[(.int p0), (.int p1)] below meth c s₁ [] 0 0 := Stand.of_body Bd
  have e0 : s₁.heap = h0 := by rw [← hh, Bd.state]; rfl
  have efx : entryFrame m #[(.int p0), (.int p1)] maxLocals = mkF m 0 #[.val (.int p0), .val (.int p1), .unset, .unset] [] := by first | (simp [entryFrame, mkF, argsToLocals, Value.category, maxLocals]; done) | rfl
  have N0 := Fr.nil n0
  have K0 : Keep h0 h0 [] := Keep.refl h0 _
  refine OGo.start (g' := mkF m 0 #[.val (.int p0), .val (.int p1), .unset, .unset] []) (efx) ?_
  show OGo p.tables e below (P0 Z p0 p1 u_UNKNOWN u_SERVING u_NOT_SERVING u_SERVICE_UNKNOWN u_VALUES kz_VALUES h0 n0 s) (s₁.setTop (mkF m 0 #[.val (.int p0), .val (.int p1), .unset, .unset] []))
  refine OGo.go (B := s₁.setTop (mkF m 1 #[.val (.int p0), .val (.int p1), .unset, .unset] [(.int p1)])) ?_ (fun tX kX => XS.iloadN X0.here hx rfl (hb hby at_0) rfl kX)
  refine OGo.go (B := s₁.setTop (mkF m 2 #[.val (.int p0), .val (.int p1), .unset, .unset] [(.int (1 : Int32)), (.int p1)])) ?_ (fun tX kX => XS.iconst X0.here hx rfl (hb hby at_1) kX)
  refine OGo.go (B := s₁.setTop (mkF m 3 #[.val (.int p0), .val (.int p1), .unset, .unset] [(.int (p1 &&& (1 : Int32)))])) ?_ (fun tX kX => XS.iand X0.here hx rfl (hb hby at_2) rfl kX)
  by_cases hc3 : (p1 &&& (1 : Int32)) = (0 : Int32)
  ·
    refine OGo.go (B := s₁.setTop (mkF m 15 #[.val (.int p0), .val (.int p1), .unset, .unset] [])) ?_ (fun tX kX => XS.ifYes X0.here hx rfl (pc0 := 3) (pc' := 15) rfl (hb hby at_3) rfl ((if0 _ _).trans (teq hc3).1) (by decide) (by decide) kX)
    refine OGo.go (B := s₁.setTop (mkF m 16 #[.val (.int p0), .val (.int p1), .unset, .unset] [(.int p0)])) ?_ (fun tX kX => XS.iloadN X0.here hx rfl (hb hby at_15) rfl kX)
    refine OGo.go (B := s₁.setTop (mkF m 17 #[.val (.int p0), .val (.int p1), .val (.int p0), .unset] [])) ?_ (fun tX kX => XS.istoreN X0.here hx rfl (hb hby at_16) rfl (l' := #[.val (.int p0), .val (.int p1), .val (.int p0), .unset]) rfl kX)
    refine OGo.go (B := s₁.setTop (mkF m 18 #[.val (.int p0), .val (.int p1), .val (.int p0), .unset] [(.int p0)])) ?_ (fun tX kX => XS.iloadN X0.here hx rfl (hb hby at_17) rfl kX)
    obtain ⟨_, _, ⟨T1, L1, k1, n1⟩, -, X1, ⟨Lc1, hQ1, l1, y1, z1⟩, st1⟩ := Jvm.LawKit.callS X0 hx (y := (⟨"com/example/vitalwire/vitalwire/protocol/ServingStatus", "forNumber", "(I)Lcom/example/vitalwire/vitalwire/protocol/ServingStatus;"⟩ : MethodName)) hown (mvT hZ (hw _ (List.mem_of_getElem? (i := 0) rfl))) (mvT hZ (hw _ (List.mem_of_getElem? (i := 1) rfl))) (mvT hZ (hw _ (List.mem_of_getElem? (i := 2) rfl))) (mvT hZ (hw _ (List.mem_of_getElem? (i := 3) rfl))) (by decide) (backOf (W := 0) (rm1 l Z aV hw [] p0 u_UNKNOWN u_SERVING u_NOT_SERVING u_SERVICE_UNKNOWN u_VALUES kz_VALUES h0 n0 Z0 S_VALUES S_UNKNOWN E_u_UNKNOWN F_number_u_UNKNOWN S_SERVING E_u_SERVING F_number_u_SERVING S_NOT_SERVING E_u_NOT_SERVING F_number_u_NOT_SERVING S_SERVICE_UNKNOWN E_u_SERVICE_UNKNOWN F_number_u_SERVICE_UNKNOWN V_u_VALUES) hZ (hw _ (List.mem_of_getElem? (i := 3) rfl)) (hw _ (List.mem_of_getElem? (i := 2) rfl)) (by decide) (by decide)) (g := (mkF m 18 #[.val (.int p0), .val (.int p1), .val (.int p0), .unset] [(.int p0)])) rfl (by rw [hml]; rfl) (argsL := [(.int p0)]) (rest := []) (lenOf pd__I_Lcom_example_vitalwire_vitalwire_protocol_ServingStatus_ rfl) rfl (by show 2 * 0 + _ ≤ _; exact Nat.le_of_eq rfl) (hb hby at_18) (fun _ _ => ⟨rfl, e0, (by decide : 0 + 0 ≤ _), (by decide : 0 + 0 ≤ _)⟩)
    dsimp only [Pt.U, Pt.locs, Pt.cells, Pt.slots] at X1 l1 y1 z1 st1 hQ1
    subst l1 y1 z1
    obtain ⟨rfl, N1q, e1⟩ := hQ1
    have N1 := Fr.app N0 N1q
    refine OGo.go (B := T1.setTop (mkF m 21 #[.val (.int p0), .val (.int p1), .val (.int p0), .unset] [(.ref (own_pick p0 u_UNKNOWN u_SERVING u_NOT_SERVING u_SERVICE_UNKNOWN))])) ?_ st1
    refine OGo.go (B := T1.setTop (mkF m 22 #[.val (.int p0), .val (.int p1), .val (.int p0), .val (.ref (own_pick p0 u_UNKNOWN u_SERVING u_NOT_SERVING u_SERVICE_UNKNOWN))] [])) ?_ (fun tX kX => XS.astoreN X1.here hx rfl (hb hby at_21) rfl rfl (l' := #[.val (.int p0), .val (.int p1), .val (.int p0), .val (.ref (own_pick p0 u_UNKNOWN u_SERVING u_NOT_SERVING u_SERVICE_UNKNOWN))]) rfl kX)
    refine OGo.go (B := T1.setTop (mkF m 23 #[.val (.int p0), .val (.int p1), .val (.int p0), .val (.ref (own_pick p0 u_UNKNOWN u_SERVING u_NOT_SERVING u_SERVICE_UNKNOWN))] [(.ref (own_pick p0 u_UNKNOWN u_SERVING u_NOT_SERVING u_SERVICE_UNKNOWN))])) ?_ (fun tX kX => XS.aloadN X1.here hx rfl (hb hby at_22) rfl rfl kX)
    refine OGo.go (B := T1.setTop (mkF m 24 #[.val (.int p0), .val (.int p1), .val (.int p0), .val (.ref (own_pick p0 u_UNKNOWN u_SERVING u_NOT_SERVING u_SERVICE_UNKNOWN))] [(.int p0), (.ref (own_pick p0 u_UNKNOWN u_SERVING u_NOT_SERVING u_SERVICE_UNKNOWN))])) ?_ (fun tX kX => XS.iloadN X1.here hx rfl (hb hby at_23) rfl kX)
    obtain ⟨_, _, ⟨T2, L2, k2, n2⟩, -, X2, ⟨Lc2, hQ2, l2, y2, z2⟩, st2⟩ := Jvm.LawKit.callS X1 hx (y := (⟨"com/example/vitalwire/vitalwire/protocol/ServingStatusForNumberPinLaw", "expected", "(I)Lcom/example/vitalwire/vitalwire/protocol/ServingStatus;"⟩ : MethodName)) hown (mvT hZ (hw _ (List.mem_of_getElem? (i := 13) rfl))) (mvT hZ (hw _ (List.mem_of_getElem? (i := 14) rfl))) (mvT hZ (hw _ (List.mem_of_getElem? (i := 15) rfl))) (mvT hZ (hw _ (List.mem_of_getElem? (i := 16) rfl))) (by decide) (backOf (W := 1) (rm2 l Z aV hw [] p0 u_UNKNOWN u_SERVING u_NOT_SERVING u_SERVICE_UNKNOWN h0 n0 Z0 S_UNKNOWN S_SERVING S_NOT_SERVING S_SERVICE_UNKNOWN) hZ (hw _ (List.mem_of_getElem? (i := 16) rfl)) (hw _ (List.mem_of_getElem? (i := 15) rfl)) (by decide) (by decide)) (g := (mkF m 24 #[.val (.int p0), .val (.int p1), .val (.int p0), .val (.ref (own_pick p0 u_UNKNOWN u_SERVING u_NOT_SERVING u_SERVICE_UNKNOWN))] [(.int p0), (.ref (own_pick p0 u_UNKNOWN u_SERVING u_NOT_SERVING u_SERVICE_UNKNOWN))])) rfl (by rw [hml]; rfl) (argsL := [(.int p0)]) (rest := [(.ref (own_pick p0 u_UNKNOWN u_SERVING u_NOT_SERVING u_SERVICE_UNKNOWN))]) (lenOf pd__I_Lcom_example_vitalwire_vitalwire_protocol_ServingStatus_ rfl) rfl (by show 2 * 0 + _ ≤ _; exact Nat.le_of_eq rfl) (hb hby at_24) (fun _ _ => ⟨rfl, e1, (by decide : 0 + 0 ≤ _), (by decide : 0 + 0 ≤ _)⟩)
    dsimp only [Pt.U, Pt.locs, Pt.cells, Pt.slots] at X2 l2 y2 z2 st2 hQ2
    subst l2 y2 z2
    obtain ⟨rfl, N2q, e2⟩ := hQ2
    have N2 := Fr.app N1 N2q
    refine OGo.go (B := T2.setTop (mkF m 27 #[.val (.int p0), .val (.int p1), .val (.int p0), .val (.ref (own_pick p0 u_UNKNOWN u_SERVING u_NOT_SERVING u_SERVICE_UNKNOWN))] [(.ref (own_pick p0 u_UNKNOWN u_SERVING u_NOT_SERVING u_SERVICE_UNKNOWN)), (.ref (own_pick p0 u_UNKNOWN u_SERVING u_NOT_SERVING u_SERVICE_UNKNOWN))])) ?_ st2
    refine OGo.go (B := T2.setTop (mkF m 30 #[.val (.int p0), .val (.int p1), .val (.int p0), .val (.ref (own_pick p0 u_UNKNOWN u_SERVING u_NOT_SERVING u_SERVICE_UNKNOWN))] [])) ?_ (fun tX kX => Jvm.RoadKit.acmp (g := (mkF m 27 #[.val (.int p0), .val (.int p1), .val (.int p0), .val (.ref (own_pick p0 u_UNKNOWN u_SERVING u_NOT_SERVING u_SERVICE_UNKNOWN))] [(.ref (own_pick p0 u_UNKNOWN u_SERVING u_NOT_SERVING u_SERVICE_UNKNOWN)), (.ref (own_pick p0 u_UNKNOWN u_SERVING u_NOT_SERVING u_SERVICE_UNKNOWN))])) X2 hx rfl rfl rfl (pc0 := 27) (pc' := 30) (same := true) rfl (hb hby at_27) rfl (decide_eq_true rfl) (by decide) (by decide) kX)
    refine OGo.go (B := T2.setTop (mkF m 31 #[.val (.int p0), .val (.int p1), .val (.int p0), .val (.ref (own_pick p0 u_UNKNOWN u_SERVING u_NOT_SERVING u_SERVICE_UNKNOWN))] [(.int (1 : Int32))])) ?_ (fun tX kX => XS.iconst X2.here hx rfl (hb hby at_30) kX)
    refine OGo.go (B := T2.setTop (mkF m 35 #[.val (.int p0), .val (.int p1), .val (.int p0), .val (.ref (own_pick p0 u_UNKNOWN u_SERVING u_NOT_SERVING u_SERVICE_UNKNOWN))] [(.int (1 : Int32))])) ?_ (fun tX kX => XS.goto X2.here hx rfl (pc0 := 31) (pc' := 35) rfl (hb hby at_31) (by decide) (by decide) kX)
    refine OGo.ret X2 (v := (some (.int (1 : Int32)))) (fun h => by rw [Bd.returns] at h; cases h) (BodyLoose.notSynchronized Bd) (fun fs hr => retN X2 hx (t := .boolean) (z := (1 : Int32)) Bd.returns (by simp) (hb hby at_35) hr) (Q := Q0 Z p0 p1 u_UNKNOWN u_SERVING u_NOT_SERVING u_SERVICE_UNKNOWN u_VALUES kz_VALUES h0 n0) ?_ (by decide) (by decide)
    show Q0 Z p0 p1 u_UNKNOWN u_SERVING u_NOT_SERVING u_SERVICE_UNKNOWN u_VALUES kz_VALUES h0 n0 _ T2.heap _
    rw [e2]
    exact ⟨rfl, N2⟩
  ·
    refine OGo.go (B := s₁.setTop (mkF m 6 #[.val (.int p0), .val (.int p1), .unset, .unset] [])) ?_ (fun tX kX => XS.ifNo X0.here hx rfl (hb hby at_3) rfl ((if0 _ _).trans (feq hc3).1) kX)
    refine OGo.go (B := s₁.setTop (mkF m 7 #[.val (.int p0), .val (.int p1), .unset, .unset] [(.int p0)])) ?_ (fun tX kX => XS.iloadN X0.here hx rfl (hb hby at_6) rfl kX)
    refine OGo.go (B := s₁.setTop (mkF m 9 #[.val (.int p0), .val (.int p1), .unset, .unset] [(.int (7 : Int32)), (.int p0)])) ?_ (fun tX kX => XS.bipush X0.here hx rfl (hb hby at_7) kX)
    refine OGo.go (B := s₁.setTop (mkF m 10 #[.val (.int p0), .val (.int p1), .unset, .unset] [(.int (p0 &&& (7 : Int32)))])) ?_ (fun tX kX => XS.iand X0.here hx rfl (hb hby at_9) rfl kX)
    refine OGo.go (B := s₁.setTop (mkF m 11 #[.val (.int p0), .val (.int p1), .unset, .unset] [(.int (2 : Int32)), (.int (p0 &&& (7 : Int32)))])) ?_ (fun tX kX => XS.iconst X0.here hx rfl (hb hby at_10) kX)
    refine OGo.go (B := s₁.setTop (mkF m 12 #[.val (.int p0), .val (.int p1), .unset, .unset] [(.int ((p0 &&& (7 : Int32)) - (2 : Int32)))])) ?_ (fun tX kX => XS.isub X0.here hx rfl (hb hby at_11) rfl kX)
    refine OGo.go (B := s₁.setTop (mkF m 16 #[.val (.int p0), .val (.int p1), .unset, .unset] [(.int ((p0 &&& (7 : Int32)) - (2 : Int32)))])) ?_ (fun tX kX => XS.goto X0.here hx rfl (pc0 := 12) (pc' := 16) rfl (hb hby at_12) (by decide) (by decide) kX)
    refine OGo.go (B := s₁.setTop (mkF m 17 #[.val (.int p0), .val (.int p1), .val (.int ((p0 &&& (7 : Int32)) - (2 : Int32))), .unset] [])) ?_ (fun tX kX => XS.istoreN X0.here hx rfl (hb hby at_16) rfl (l' := #[.val (.int p0), .val (.int p1), .val (.int ((p0 &&& (7 : Int32)) - (2 : Int32))), .unset]) rfl kX)
    refine OGo.go (B := s₁.setTop (mkF m 18 #[.val (.int p0), .val (.int p1), .val (.int ((p0 &&& (7 : Int32)) - (2 : Int32))), .unset] [(.int ((p0 &&& (7 : Int32)) - (2 : Int32)))])) ?_ (fun tX kX => XS.iloadN X0.here hx rfl (hb hby at_17) rfl kX)
    obtain ⟨_, _, ⟨T3, L3, k3, n3⟩, -, X3, ⟨Lc3, hQ3, l3, y3, z3⟩, st3⟩ := Jvm.LawKit.callS X0 hx (y := (⟨"com/example/vitalwire/vitalwire/protocol/ServingStatus", "forNumber", "(I)Lcom/example/vitalwire/vitalwire/protocol/ServingStatus;"⟩ : MethodName)) hown (mvT hZ (hw _ (List.mem_of_getElem? (i := 0) rfl))) (mvT hZ (hw _ (List.mem_of_getElem? (i := 1) rfl))) (mvT hZ (hw _ (List.mem_of_getElem? (i := 2) rfl))) (mvT hZ (hw _ (List.mem_of_getElem? (i := 3) rfl))) (by decide) (backOf (W := 0) (rm1 l Z aV hw [] ((p0 &&& (7 : Int32)) - (2 : Int32)) u_UNKNOWN u_SERVING u_NOT_SERVING u_SERVICE_UNKNOWN u_VALUES kz_VALUES h0 n0 Z0 S_VALUES S_UNKNOWN E_u_UNKNOWN F_number_u_UNKNOWN S_SERVING E_u_SERVING F_number_u_SERVING S_NOT_SERVING E_u_NOT_SERVING F_number_u_NOT_SERVING S_SERVICE_UNKNOWN E_u_SERVICE_UNKNOWN F_number_u_SERVICE_UNKNOWN V_u_VALUES) hZ (hw _ (List.mem_of_getElem? (i := 3) rfl)) (hw _ (List.mem_of_getElem? (i := 2) rfl)) (by decide) (by decide)) (g := (mkF m 18 #[.val (.int p0), .val (.int p1), .val (.int ((p0 &&& (7 : Int32)) - (2 : Int32))), .unset] [(.int ((p0 &&& (7 : Int32)) - (2 : Int32)))])) rfl (by rw [hml]; rfl) (argsL := [(.int ((p0 &&& (7 : Int32)) - (2 : Int32)))]) (rest := []) (lenOf pd__I_Lcom_example_vitalwire_vitalwire_protocol_ServingStatus_ rfl) rfl (by show 2 * 0 + _ ≤ _; exact Nat.le_of_eq rfl) (hb hby at_18) (fun _ _ => ⟨rfl, e0, (by decide : 0 + 0 ≤ _), (by decide : 0 + 0 ≤ _)⟩)
    dsimp only [Pt.U, Pt.locs, Pt.cells, Pt.slots] at X3 l3 y3 z3 st3 hQ3
    subst l3 y3 z3
    obtain ⟨rfl, N3q, e3⟩ := hQ3
    have N3 := Fr.app N0 N3q
    refine OGo.go (B := T3.setTop (mkF m 21 #[.val (.int p0), .val (.int p1), .val (.int ((p0 &&& (7 : Int32)) - (2 : Int32))), .unset] [(.ref (own_pick ((p0 &&& (7 : Int32)) - (2 : Int32)) u_UNKNOWN u_SERVING u_NOT_SERVING u_SERVICE_UNKNOWN))])) ?_ st3
    refine OGo.go (B := T3.setTop (mkF m 22 #[.val (.int p0), .val (.int p1), .val (.int ((p0 &&& (7 : Int32)) - (2 : Int32))), .val (.ref (own_pick ((p0 &&& (7 : Int32)) - (2 : Int32)) u_UNKNOWN u_SERVING u_NOT_SERVING u_SERVICE_UNKNOWN))] [])) ?_ (fun tX kX => XS.astoreN X3.here hx rfl (hb hby at_21) rfl rfl (l' := #[.val (.int p0), .val (.int p1), .val (.int ((p0 &&& (7 : Int32)) - (2 : Int32))), .val (.ref (own_pick ((p0 &&& (7 : Int32)) - (2 : Int32)) u_UNKNOWN u_SERVING u_NOT_SERVING u_SERVICE_UNKNOWN))]) rfl kX)
    refine OGo.go (B := T3.setTop (mkF m 23 #[.val (.int p0), .val (.int p1), .val (.int ((p0 &&& (7 : Int32)) - (2 : Int32))), .val (.ref (own_pick ((p0 &&& (7 : Int32)) - (2 : Int32)) u_UNKNOWN u_SERVING u_NOT_SERVING u_SERVICE_UNKNOWN))] [(.ref (own_pick ((p0 &&& (7 : Int32)) - (2 : Int32)) u_UNKNOWN u_SERVING u_NOT_SERVING u_SERVICE_UNKNOWN))])) ?_ (fun tX kX => XS.aloadN X3.here hx rfl (hb hby at_22) rfl rfl kX)
    refine OGo.go (B := T3.setTop (mkF m 24 #[.val (.int p0), .val (.int p1), .val (.int ((p0 &&& (7 : Int32)) - (2 : Int32))), .val (.ref (own_pick ((p0 &&& (7 : Int32)) - (2 : Int32)) u_UNKNOWN u_SERVING u_NOT_SERVING u_SERVICE_UNKNOWN))] [(.int ((p0 &&& (7 : Int32)) - (2 : Int32))), (.ref (own_pick ((p0 &&& (7 : Int32)) - (2 : Int32)) u_UNKNOWN u_SERVING u_NOT_SERVING u_SERVICE_UNKNOWN))])) ?_ (fun tX kX => XS.iloadN X3.here hx rfl (hb hby at_23) rfl kX)
    obtain ⟨_, _, ⟨T4, L4, k4, n4⟩, -, X4, ⟨Lc4, hQ4, l4, y4, z4⟩, st4⟩ := Jvm.LawKit.callS X3 hx (y := (⟨"com/example/vitalwire/vitalwire/protocol/ServingStatusForNumberPinLaw", "expected", "(I)Lcom/example/vitalwire/vitalwire/protocol/ServingStatus;"⟩ : MethodName)) hown (mvT hZ (hw _ (List.mem_of_getElem? (i := 13) rfl))) (mvT hZ (hw _ (List.mem_of_getElem? (i := 14) rfl))) (mvT hZ (hw _ (List.mem_of_getElem? (i := 15) rfl))) (mvT hZ (hw _ (List.mem_of_getElem? (i := 16) rfl))) (by decide) (backOf (W := 1) (rm2 l Z aV hw [] ((p0 &&& (7 : Int32)) - (2 : Int32)) u_UNKNOWN u_SERVING u_NOT_SERVING u_SERVICE_UNKNOWN h0 n0 Z0 S_UNKNOWN S_SERVING S_NOT_SERVING S_SERVICE_UNKNOWN) hZ (hw _ (List.mem_of_getElem? (i := 16) rfl)) (hw _ (List.mem_of_getElem? (i := 15) rfl)) (by decide) (by decide)) (g := (mkF m 24 #[.val (.int p0), .val (.int p1), .val (.int ((p0 &&& (7 : Int32)) - (2 : Int32))), .val (.ref (own_pick ((p0 &&& (7 : Int32)) - (2 : Int32)) u_UNKNOWN u_SERVING u_NOT_SERVING u_SERVICE_UNKNOWN))] [(.int ((p0 &&& (7 : Int32)) - (2 : Int32))), (.ref (own_pick ((p0 &&& (7 : Int32)) - (2 : Int32)) u_UNKNOWN u_SERVING u_NOT_SERVING u_SERVICE_UNKNOWN))])) rfl (by rw [hml]; rfl) (argsL := [(.int ((p0 &&& (7 : Int32)) - (2 : Int32)))]) (rest := [(.ref (own_pick ((p0 &&& (7 : Int32)) - (2 : Int32)) u_UNKNOWN u_SERVING u_NOT_SERVING u_SERVICE_UNKNOWN))]) (lenOf pd__I_Lcom_example_vitalwire_vitalwire_protocol_ServingStatus_ rfl) rfl (by show 2 * 0 + _ ≤ _; exact Nat.le_of_eq rfl) (hb hby at_24) (fun _ _ => ⟨rfl, e3, (by decide : 0 + 0 ≤ _), (by decide : 0 + 0 ≤ _)⟩)
    dsimp only [Pt.U, Pt.locs, Pt.cells, Pt.slots] at X4 l4 y4 z4 st4 hQ4
    subst l4 y4 z4
    obtain ⟨rfl, N4q, e4⟩ := hQ4
    have N4 := Fr.app N3 N4q
    refine OGo.go (B := T4.setTop (mkF m 27 #[.val (.int p0), .val (.int p1), .val (.int ((p0 &&& (7 : Int32)) - (2 : Int32))), .val (.ref (own_pick ((p0 &&& (7 : Int32)) - (2 : Int32)) u_UNKNOWN u_SERVING u_NOT_SERVING u_SERVICE_UNKNOWN))] [(.ref (own_pick ((p0 &&& (7 : Int32)) - (2 : Int32)) u_UNKNOWN u_SERVING u_NOT_SERVING u_SERVICE_UNKNOWN)), (.ref (own_pick ((p0 &&& (7 : Int32)) - (2 : Int32)) u_UNKNOWN u_SERVING u_NOT_SERVING u_SERVICE_UNKNOWN))])) ?_ st4
    refine OGo.go (B := T4.setTop (mkF m 30 #[.val (.int p0), .val (.int p1), .val (.int ((p0 &&& (7 : Int32)) - (2 : Int32))), .val (.ref (own_pick ((p0 &&& (7 : Int32)) - (2 : Int32)) u_UNKNOWN u_SERVING u_NOT_SERVING u_SERVICE_UNKNOWN))] [])) ?_ (fun tX kX => Jvm.RoadKit.acmp (g := (mkF m 27 #[.val (.int p0), .val (.int p1), .val (.int ((p0 &&& (7 : Int32)) - (2 : Int32))), .val (.ref (own_pick ((p0 &&& (7 : Int32)) - (2 : Int32)) u_UNKNOWN u_SERVING u_NOT_SERVING u_SERVICE_UNKNOWN))] [(.ref (own_pick ((p0 &&& (7 : Int32)) - (2 : Int32)) u_UNKNOWN u_SERVING u_NOT_SERVING u_SERVICE_UNKNOWN)), (.ref (own_pick ((p0 &&& (7 : Int32)) - (2 : Int32)) u_UNKNOWN u_SERVING u_NOT_SERVING u_SERVICE_UNKNOWN))])) X4 hx rfl rfl rfl (pc0 := 27) (pc' := 30) (same := true) rfl (hb hby at_27) rfl (decide_eq_true rfl) (by decide) (by decide) kX)
    refine OGo.go (B := T4.setTop (mkF m 31 #[.val (.int p0), .val (.int p1), .val (.int ((p0 &&& (7 : Int32)) - (2 : Int32))), .val (.ref (own_pick ((p0 &&& (7 : Int32)) - (2 : Int32)) u_UNKNOWN u_SERVING u_NOT_SERVING u_SERVICE_UNKNOWN))] [(.int (1 : Int32))])) ?_ (fun tX kX => XS.iconst X4.here hx rfl (hb hby at_30) kX)
    refine OGo.go (B := T4.setTop (mkF m 35 #[.val (.int p0), .val (.int p1), .val (.int ((p0 &&& (7 : Int32)) - (2 : Int32))), .val (.ref (own_pick ((p0 &&& (7 : Int32)) - (2 : Int32)) u_UNKNOWN u_SERVING u_NOT_SERVING u_SERVICE_UNKNOWN))] [(.int (1 : Int32))])) ?_ (fun tX kX => XS.goto X4.here hx rfl (pc0 := 31) (pc' := 35) rfl (hb hby at_31) (by decide) (by decide) kX)
    refine OGo.ret X4 (v := (some (.int (1 : Int32)))) (fun h => by rw [Bd.returns] at h; cases h) (BodyLoose.notSynchronized Bd) (fun fs hr => retN X4 hx (t := .boolean) (z := (1 : Int32)) Bd.returns (by simp) (hb hby at_35) hr) (Q := Q0 Z p0 p1 u_UNKNOWN u_SERVING u_NOT_SERVING u_SERVICE_UNKNOWN u_VALUES kz_VALUES h0 n0) ?_ (by decide) (by decide)
    show Q0 Z p0 p1 u_UNKNOWN u_SERVING u_NOT_SERVING u_SERVICE_UNKNOWN u_VALUES kz_VALUES h0 n0 _ T4.heap _
    rw [e4]
    exact ⟨rfl, N4⟩
set_option maxRecDepth 65536 in
set_option maxHeartbeats 40000000 in
theorem comes_1 {Post : Tables → Env → Array Value → State → Outcome → State → Prop} (hpost : ∀ tb e args s v u, (limb_1_1.after args s (.returned v) u = true ∧ limb_1_2.after args s (.returned v) u = true ∧ True) → FrameEnd s (.returned v) u (Jvm.fieldLocs frame_1_writes args s ++ Jvm.arrayLocs frame_1_arrays args s ++ Jvm.staticLocs frame_1_statics s) 0 0 → Post tb e args s (.returned v) u) :
    ArmFor flags0 classFile x code maxLocals ret World_1 tables_1 room_1 Calls_1 rest_1 Pre_1 Post := by
  intro l hfl _ _ p e ha hc hk s m args below hf hA hF happ hP
  obtain ⟨hcalls, hrest, hpre⟩ := hP
  obtain ⟨-, -, -, hnamed, -, -, -, hat⟩ := (Spec.applies_iff hf).mp happ
  obtain ⟨hg, hn⟩ := and_e (Cond.before_iff.mp (show (Jvm.Cond.and given_1 narrow_1).before args s = true from hpre))
  obtain ⟨gc0, gr0⟩ := and_e hg
  obtain ⟨gc1, gr1⟩ := and_e gr0
  obtain ⟨w0, w1, rfl⟩ : ∃ w0 w1 : Value, args = #[w0, w1] := by
    have hs : args.size = 2 := by simpa [Cond.value, given_1] using gc0
    obtain ⟨L⟩ := args
    match L, hs with
    | [w0, w1], _ => exact ⟨w0, w1, rfl⟩
  have hw := fun d (hd : d ∈ tables_1) => atoms_spec (ws := Jvm.Cond.code x code maxLocals ret :: tables_1) hat d (List.mem_cons_of_mem _ hd)
  have hfit : Fit s := fun {y c} hc i hi => by
    obtain ⟨ha, rfl⟩ := Array.getElem?_eq_some_iff.mp hc
    have q := List.all_eq_true.mp ((Array.all_eq_true_iff_forall_mem.mp hF) _ (Array.getElem_mem ha)) i (List.mem_range.mpr hi)
    simpa [Array.getElem?_eq_getElem hi] using q
  obtain ⟨i0, ei0⟩ := is_v gc1
  obtain rfl : w0 = (.int i0) := Option.some.inj ei0
  obtain ⟨i1, ei1⟩ := is_v gr1
  obtain rfl : w1 = (.int i1) := Option.some.inj ei1
  obtain ⟨nc0, nr0⟩ := and_e hn
  obtain ⟨nc1, nr1⟩ := and_e nr0
  obtain ⟨nc2, nr2⟩ := and_e nr1
  obtain ⟨nc3, nr3⟩ := and_e nr2
  obtain ⟨nc4, nr4⟩ := and_e nr3
  obtain ⟨nc5, nr5⟩ := and_e nr4
  obtain ⟨nc6, nr6⟩ := and_e nr5
  obtain ⟨nc7, nr7⟩ := and_e nr6
  obtain ⟨nc8, nr8⟩ := and_e nr7
  obtain ⟨nc9, nr9⟩ := and_e nr8
  obtain ⟨nc10, nr10⟩ := and_e nr9
  obtain ⟨nc11, nr11⟩ := and_e nr10
  obtain ⟨nc12, nr12⟩ := and_e nr11
  have nc13 := nr12
  obtain ⟨u_VALUES, ev_VALUES⟩ := arr_v nc0
  have S_VALUES := Sta.start ev_VALUES (Or.inr ⟨(hw _ (List.mem_of_getElem? (i := 2) rfl)), (hw _ (List.mem_of_getElem? (i := 5) rfl))⟩)
  obtain ⟨cl_VALUES, Ar_VALUES⟩ := Arr.start ev_VALUES nc0
  have ln_VALUES := lenI ev_VALUES Ar_VALUES nc1
  obtain ⟨u_UNKNOWN, ev_UNKNOWN⟩ := exa_v nc2
  have S_UNKNOWN := Sta.start ev_UNKNOWN (Or.inr ⟨(hw _ (List.mem_of_getElem? (i := 2) rfl)), (hw _ (List.mem_of_getElem? (i := 6) rfl))⟩)
  have E_u_UNKNOWN := Exa.start ev_UNKNOWN nc2
  have F_number_u_UNKNOWN := fldI ev_UNKNOWN nc4
  obtain ⟨u_SERVING, ev_SERVING⟩ := exa_v nc5
  have S_SERVING := Sta.start ev_SERVING (Or.inr ⟨(hw _ (List.mem_of_getElem? (i := 2) rfl)), (hw _ (List.mem_of_getElem? (i := 9) rfl))⟩)
  have E_u_SERVING := Exa.start ev_SERVING nc5
  have F_number_u_SERVING := fldI ev_SERVING nc7
  obtain ⟨u_NOT_SERVING, ev_NOT_SERVING⟩ := exa_v nc8
  have S_NOT_SERVING := Sta.start ev_NOT_SERVING (Or.inr ⟨(hw _ (List.mem_of_getElem? (i := 2) rfl)), (hw _ (List.mem_of_getElem? (i := 10) rfl))⟩)
  have E_u_NOT_SERVING := Exa.start ev_NOT_SERVING nc8
  have F_number_u_NOT_SERVING := fldI ev_NOT_SERVING nc10
  obtain ⟨u_SERVICE_UNKNOWN, ev_SERVICE_UNKNOWN⟩ := exa_v nc11
  have S_SERVICE_UNKNOWN := Sta.start ev_SERVICE_UNKNOWN (Or.inr ⟨(hw _ (List.mem_of_getElem? (i := 2) rfl)), (hw _ (List.mem_of_getElem? (i := 11) rfl))⟩)
  have E_u_SERVICE_UNKNOWN := Exa.start ev_SERVICE_UNKNOWN nc11
  have F_number_u_SERVICE_UNKNOWN := fldI ev_SERVICE_UNKNOWN nc13
  have el_VALUES_0 := elemR ev_VALUES Ar_VALUES ev_UNKNOWN nc3
  have el_VALUES_1 := elemR ev_VALUES Ar_VALUES ev_SERVING nc6
  have el_VALUES_2 := elemR ev_VALUES Ar_VALUES ev_NOT_SERVING nc9
  have el_VALUES_3 := elemR ev_VALUES Ar_VALUES ev_SERVICE_UNKNOWN nc12
  have V_u_VALUES : Arv s s.heap u_VALUES cl_VALUES.cls (.object "com/example/vitalwire/vitalwire/protocol/ServingStatus") (4 : Int32) [(.ref u_UNKNOWN), (.ref u_SERVING), (.ref u_NOT_SERVING), (.ref u_SERVICE_UNKNOWN)] .null := Arv.start hfit Ar_VALUES ln_VALUES.2 ln_VALUES.1 (by decide) rfl ⟨el_VALUES_0, el_VALUES_1, el_VALUES_2, el_VALUES_3, trivial⟩
  obtain ⟨n, o, h1, h2, h3, _, L, rfl, ⟨rfl, N⟩, hq⟩ := rm0 l s _ hw tables_1 i0 i1 u_UNKNOWN u_SERVING u_NOT_SERVING u_SERVICE_UNKNOWN u_VALUES cl_VALUES.cls s.heap s.heap.size (Nat.le_refl _) S_VALUES S_UNKNOWN E_u_UNKNOWN F_number_u_UNKNOWN S_SERVING E_u_SERVING F_number_u_SERVING S_NOT_SERVING E_u_NOT_SERVING F_number_u_NOT_SERVING S_SERVICE_UNKNOWN E_u_SERVICE_UNKNOWN F_number_u_SERVICE_UNKNOWN V_u_VALUES p e ha hc hk s m _ below hf ((Spec.applies_iff_loose hf).mp happ).1 ⟨rfl, State.Warmed39.refl s, rfl⟩ trivial
  refine ⟨n, _, h1, h2, h3, hpost _ _ _ _ _ _ ⟨Cond.after_iff.mpr rfl, Cond.after_iff.mpr (eq_i res_at (Term.int_eval (1)) rfl), trivial⟩ ⟨hq.1, hq.2.1, (hq.2.2.sift fun y hy => Or.inr (N y hy)).mono (by decide) (by decide)⟩⟩
theorem main_1_1 : Claimed_1_1 := comes_1 fun _ _ _ _ _ _ h hF => ⟨h.1, hF⟩
theorem main_1_2 : Claimed_1_2 := comes_1 fun _ _ _ _ _ _ h hF => ⟨h.2.1, hF⟩
end Jvm.Pilot.@@N@@
namespace Jvm.Pilot.@@N@@
open Jvm Jvm.ClassFile Sem Op Lib Jvm.Free Jvm.Stand Jvm.Pilot.@@N@@.Jvm.D
/-! MADE BY PROGRAM (witnessworld.py) out of the Statement's table words and the real class files: 13 classes; the members and pool entries that the words name. The judged class is class 1, her method 2. -/
namespace start1
open Jvm.ClassFile
def u (s : String) : CpInfo := .utf8 (stringToUtf16 s)
/-- a pool by its gaps: so many unusable entries, then the entry; so many at the end -/
def gap : Nat → List CpInfo → List CpInfo
  | 0, r => r
  | n + 1, r => .unusable :: gap n r
def poolList (es : List (Nat × CpInfo)) (last : Nat) : List CpInfo := es.foldr (fun e r => gap e.1 (e.2 :: r)) (gap last [])
def pool (es : List (Nat × CpInfo)) (last : Nat) : Array CpInfo := ⟨poolList es last⟩
def fileOf (pool : Array CpInfo) (this : Nat) (attrs : Array Attribute := #[]) (ms : Array MethodInfo := #[]) (fl : Nat := 33) (sup : Nat := 0) (ifs : Array Nat := #[]) (fds : Array FieldInfo := #[]) : ClassFile where
  minorVersion := 0
  majorVersion := 65
  constantPool := pool
  accessFlags := fl
  thisClass := this
  superClass := sup
  interfaces := ifs
  fields := fds
  methods := ms
  attributes := attrs
def plain (name : String) (sup : Option ClassId) : Class where
  name := name
  kind := .ordinary
  loader := none
  accessFlags := 33
  super := sup
  interfaces := #[]
  cf := none
  fields := #[]
  methods := #[]
  instanceTypes := #[]
  staticTypes := #[]
  resolved := #[]
  callSites := []
  init := .initialized
  statics := none
  mirror := none

def pool0 : Array CpInfo := pool [(5, u "<init>"), (0, u "()V"), (1, .class_ 10), (1, u "java/lang/Object")] 113

def k0m0 : Method := { name := "<init>", desc := "()V", sig := { parameters := [], returnType := none }, accessFlags := 1, code := none }
/-- java/lang/Object -/
def k0 : Class := { plain "java/lang/Object" none with
  accessFlags := 33
  interfaces := #[]
  cf := some (fileOf pool0 8 #[] #[{ accessFlags := 1, nameIndex := 5, descriptorIndex := 6, attributes := #[] }] 33 0 #[] #[])
  fields := #[]
  methods := #[k0m0]
  instanceTypes := #[]
  staticTypes := #[]
  resolved := Array.replicate 124 none
  statics := none }

def pool1 : Array CpInfo := pool [(2, .class_ 4), (1, u "java/lang/Object"), (0, u "<init>"), (0, u "()V"), (0, .fieldref 8 9), (0, .class_ 10), (0, .nameAndType 11 12), (0, u "com/example/vitalwire/vitalwire/protocol/ServingStatus"), (0, u "SERVING"), (0, u "Lcom/example/vitalwire/vitalwire/protocol/ServingStatus;"), (0, .fieldref 8 14), (0, .nameAndType 15 12), (0, u "NOT_SERVING"), (0, .fieldref 8 17), (0, .nameAndType 18 12), (0, u "SERVICE_UNKNOWN"), (0, .fieldref 8 20), (0, .nameAndType 21 12), (0, u "UNKNOWN"), (0, .methodref 8 23), (0, .nameAndType 24 25), (0, u "forNumber"), (0, u "(I)Lcom/example/vitalwire/vitalwire/protocol/ServingStatus;"), (0, .methodref 27 28), (0, .class_ 29), (0, .nameAndType 30 25), (0, u "com/example/vitalwire/vitalwire/protocol/ServingStatusForNumberPinLaw"), (0, u "expected"), (3, u "law"), (0, u "(II)Z")] 2

def k1m0 : Method := { name := "<init>", desc := "()V", sig := { parameters := [], returnType := none }, accessFlags := 2, code := none }
def k1c1 : Code := { maxStack := 2, maxLocals := 1, code := method_2_code, exceptionTable := #[], attributes := #[] }
def k1m1 : Method := { name := "expected", desc := "(I)Lcom/example/vitalwire/vitalwire/protocol/ServingStatus;", sig := { parameters := [.int], returnType := some (.object "com/example/vitalwire/vitalwire/protocol/ServingStatus") }, accessFlags := 10, code := some k1c1 }
def k1c2 : Code := { maxStack := 2, maxLocals := 4, code := code, exceptionTable := #[], attributes := #[] }
def k1m2 : Method := { name := "law", desc := "(II)Z", sig := { parameters := [.int, .int], returnType := some .boolean }, accessFlags := 9, code := some k1c2 }
/-- com/example/vitalwire/vitalwire/protocol/ServingStatusForNumberPinLaw -/
def k1 : Class := { plain "com/example/vitalwire/vitalwire/protocol/ServingStatusForNumberPinLaw" (some 0) with
  accessFlags := 49
  interfaces := #[]
  cf := some (fileOf pool1 27 #[] #[{ accessFlags := 2, nameIndex := 5, descriptorIndex := 6, attributes := #[] }, { accessFlags := 10, nameIndex := 30, descriptorIndex := 25, attributes := #[] }, { accessFlags := 9, nameIndex := 34, descriptorIndex := 35, attributes := #[] }] 49 2 #[] #[])
  fields := #[]
  methods := #[k1m0, k1m1, k1m2]
  instanceTypes := #[]
  staticTypes := #[]
  resolved := Array.replicate 38 none
  statics := none }

def pool2 : Array CpInfo := pool [(1, .class_ 2), (0, u "java/lang/constant/Constable"), (0, .class_ 4), (0, u "java/lang/Object")] 6

/-- java/lang/constant/Constable -/
def k2 : Class := { plain "java/lang/constant/Constable" (some 0) with
  accessFlags := 1537
  interfaces := #[]
  cf := some (fileOf pool2 1 #[] #[] 1537 3 #[] #[])
  fields := #[]
  methods := #[]
  instanceTypes := #[]
  staticTypes := #[]
  resolved := Array.replicate 11 none
  statics := none }

def pool3 : Array CpInfo := pool [(1, .class_ 2), (0, u "java/lang/Comparable"), (0, .class_ 4), (0, u "java/lang/Object")] 7

/-- java/lang/Comparable -/
def k3 : Class := { plain "java/lang/Comparable" (some 0) with
  accessFlags := 1537
  interfaces := #[]
  cf := some (fileOf pool3 1 #[] #[] 1537 3 #[] #[])
  fields := #[]
  methods := #[]
  instanceTypes := #[]
  staticTypes := #[]
  resolved := Array.replicate 12 none
  statics := none }

def pool4 : Array CpInfo := pool [(1, .class_ 2), (0, u "java/io/Serializable"), (0, .class_ 4), (0, u "java/lang/Object")] 2

/-- java/io/Serializable -/
def k4 : Class := { plain "java/io/Serializable" (some 0) with
  accessFlags := 1537
  interfaces := #[]
  cf := some (fileOf pool4 1 #[] #[] 1537 3 #[] #[])
  fields := #[]
  methods := #[]
  instanceTypes := #[]
  staticTypes := #[]
  resolved := Array.replicate 7 none
  statics := none }

def pool5 : Array CpInfo := pool [(2, .class_ 4), (1, u "java/lang/Enum"), (0, u "name"), (0, u "Ljava/lang/String;"), (2, u "ordinal"), (0, u "I"), (1, .class_ 14), (1, u "java/lang/Object"), (4, u "hash"), (86, .class_ 108), (1, u "java/lang/Enum$EnumDesc"), (2, .class_ 112), (0, u "java/lang/constant/Constable"), (0, .class_ 114), (0, u "java/lang/Comparable"), (0, .class_ 116), (0, u "java/io/Serializable")] 87

/-- java/lang/Enum -/
def k5 : Class := { plain "java/lang/Enum" (some 0) with
  accessFlags := 1057
  interfaces := #[2, 3, 4]
  cf := some (fileOf pool5 2 #[.nestMembers #[106]] #[] 1057 12 #[111, 113, 115] #[{ accessFlags := 18, nameIndex := 5, descriptorIndex := 6, attributes := #[] }, { accessFlags := 18, nameIndex := 9, descriptorIndex := 10, attributes := #[] }, { accessFlags := 2, nameIndex := 19, descriptorIndex := 10, attributes := #[] }])
  fields := #[{ name := "name", type := (.object "java/lang/String"), accessFlags := 18, slot := 0, constantValue := 0 }, { name := "ordinal", type := .int, accessFlags := 18, slot := 1, constantValue := 0 }, { name := "hash", type := .int, accessFlags := 2, slot := 2, constantValue := 0 }]
  methods := #[]
  instanceTypes := #[(.object "java/lang/String"), .int, .int]
  staticTypes := #[]
  resolved := Array.replicate 204 none
  statics := none }

def pool6 : Array CpInfo := pool [(1, .class_ 2), (0, u "com/example/vitalwire/vitalwire/protocol/ServingStatus"), (0, .fieldref 1 4), (0, .nameAndType 5 6), (0, u "UNKNOWN"), (0, u "Lcom/example/vitalwire/vitalwire/protocol/ServingStatus;"), (2, u "SERVING"), (2, u "NOT_SERVING"), (2, u "SERVICE_UNKNOWN"), (2, u "$VALUES"), (0, u "[Lcom/example/vitalwire/vitalwire/protocol/ServingStatus;"), (6, .class_ 28), (1, u "java/lang/Enum"), (6, .fieldref 1 36), (0, .nameAndType 37 38), (0, u "number"), (0, u "I"), (0, .fieldref 1 40), (0, .nameAndType 41 19), (0, u "VALUES"), (21, u "forNumber"), (0, u "(I)Lcom/example/vitalwire/vitalwire/protocol/ServingStatus;")] 6

def k6c0 : Code := { maxStack := 2, maxLocals := 5, code := prog_9_method_5_code, exceptionTable := #[], attributes := #[] }
def k6m0 : Method := { name := "forNumber", desc := "(I)Lcom/example/vitalwire/vitalwire/protocol/ServingStatus;", sig := { parameters := [.int], returnType := some (.object "com/example/vitalwire/vitalwire/protocol/ServingStatus") }, accessFlags := 9, code := some k6c0 }
/-- com/example/vitalwire/vitalwire/protocol/ServingStatus -/
def k6 : Class := { plain "com/example/vitalwire/vitalwire/protocol/ServingStatus" (some 5) with
  accessFlags := 16433
  interfaces := #[]
  cf := some (fileOf pool6 1 #[] #[{ accessFlags := 9, nameIndex := 63, descriptorIndex := 64, attributes := #[] }] 16433 26 #[] #[{ accessFlags := 16409, nameIndex := 5, descriptorIndex := 6, attributes := #[] }, { accessFlags := 16409, nameIndex := 9, descriptorIndex := 6, attributes := #[] }, { accessFlags := 16409, nameIndex := 12, descriptorIndex := 6, attributes := #[] }, { accessFlags := 16409, nameIndex := 15, descriptorIndex := 6, attributes := #[] }, { accessFlags := 26, nameIndex := 41, descriptorIndex := 19, attributes := #[] }, { accessFlags := 18, nameIndex := 37, descriptorIndex := 38, attributes := #[] }, { accessFlags := 4122, nameIndex := 18, descriptorIndex := 19, attributes := #[] }])
  fields := #[{ name := "UNKNOWN", type := (.object "com/example/vitalwire/vitalwire/protocol/ServingStatus"), accessFlags := 16409, slot := 0, constantValue := 0 }, { name := "SERVING", type := (.object "com/example/vitalwire/vitalwire/protocol/ServingStatus"), accessFlags := 16409, slot := 1, constantValue := 0 }, { name := "NOT_SERVING", type := (.object "com/example/vitalwire/vitalwire/protocol/ServingStatus"), accessFlags := 16409, slot := 2, constantValue := 0 }, { name := "SERVICE_UNKNOWN", type := (.object "com/example/vitalwire/vitalwire/protocol/ServingStatus"), accessFlags := 16409, slot := 3, constantValue := 0 }, { name := "VALUES", type := (.array (.object "com/example/vitalwire/vitalwire/protocol/ServingStatus")), accessFlags := 26, slot := 4, constantValue := 0 }, { name := "number", type := .int, accessFlags := 18, slot := 3, constantValue := 0 }, { name := "$VALUES", type := (.array (.object "com/example/vitalwire/vitalwire/protocol/ServingStatus")), accessFlags := 4122, slot := 5, constantValue := 0 }]
  methods := #[k6m0]
  instanceTypes := #[(.object "java/lang/String"), .int, .int, .int]
  staticTypes := #[(.object "com/example/vitalwire/vitalwire/protocol/ServingStatus"), (.object "com/example/vitalwire/vitalwire/protocol/ServingStatus"), (.object "com/example/vitalwire/vitalwire/protocol/ServingStatus"), (.object "com/example/vitalwire/vitalwire/protocol/ServingStatus"), (.array (.object "com/example/vitalwire/vitalwire/protocol/ServingStatus")), (.array (.object "com/example/vitalwire/vitalwire/protocol/ServingStatus"))]
  resolved := Array.replicate 71 none
  statics := some 0 }

def pool7 : Array CpInfo := pool [(1, u "java/lang/Cloneable"), (0, .class_ 1), (0, u "java/lang/Object"), (0, .class_ 3)] 3

/-- java/lang/Cloneable -/
def k7 : Class := { plain "java/lang/Cloneable" (some 0) with
  accessFlags := 1537
  interfaces := #[]
  cf := some (fileOf pool7 2 #[] #[] 1537 4 #[] #[])
  fields := #[]
  methods := #[]
  instanceTypes := #[]
  staticTypes := #[]
  resolved := Array.replicate 8 none
  statics := none }

/-- the primitive byte -/
def k8 : Class := { plain "byte" none with kind := .primitive 'B', accessFlags := 0x411 }
/-- [B -/
def k9 : Class := { plain "[B" (some 0) with kind := .array 8 .byte, interfaces := #[7, 4], accessFlags := 1041 }

/-- the primitive int -/
def k10 : Class := { plain "int" none with kind := .primitive 'I', accessFlags := 0x411 }
/-- [I -/
def k11 : Class := { plain "[I" (some 0) with kind := .array 10 .int, interfaces := #[7, 4], accessFlags := 1041 }

/-- [Lcom/example/vitalwire/vitalwire/protocol/ServingStatus; -/
def k12 : Class := { plain "[Lcom/example/vitalwire/vitalwire/protocol/ServingStatus;" (some 0) with kind := .array 6 (.object "com/example/vitalwire/vitalwire/protocol/ServingStatus"), interfaces := #[7, 4], accessFlags := 1041 }

def heap : Heap := #[{ cls := 6, slots := #[.ref 2, .ref 3, .ref 4, .ref 5, .ref 1, .null], vm := .statics 6 },
  { cls := 12, slots := #[.ref 2, .ref 3, .ref 4, .ref 5], vm := .none },
  { cls := 6, slots := #[.null, .int 0, .int 0, .int 0], vm := .none },
  { cls := 6, slots := #[.null, .int 1, .int 0, .int 1], vm := .none },
  { cls := 6, slots := #[.null, .int 2, .int 0, .int 2], vm := .none },
  { cls := 6, slots := #[.null, .int 3, .int 0, .int 3], vm := .none }]
def classes : Array Class := #[k0, k1, k2, k3, k4, k5, k6, k7, k8, k9, k10, k11, k12]
def interned : List (Array UInt16 × Addr) := []
def slotsUsed : Nat := 26
def theMethod : MethodId := ⟨1, 2⟩
def args0 : Array Value := #[.int 5, .int 1]
def aboutOver (below : List Frame) : State where
  vm := { classes := classes, interned := interned.toArray }
  heap := heap
  slotsUsed := slotsUsed
  threads := #[{ frames := .invoking theMethod args0 :: below }]
def below0 : List Frame := [.native { method := ⟨0, 0⟩, args := #[] }]
def about1 : State := aboutOver below0
def p0 : Program := .bare "" "" ""
def e0 : Env := launch0.env 0 0 0
theorem w_frames : about1.frames = Frame.invoking theMethod args0 :: below0 := rfl
set_option maxRecDepth 65536 in
theorem w_args : argsFit about1.vm theMethod args0 = true := by decide +kernel
set_option maxRecDepth 65536 in
theorem w_heap : heapFits about1 = true := by decide +kernel
set_option maxRecDepth 65536 in
theorem w_runnable : about1.curStatus? = some .runnable := by decide +kernel
set_option maxRecDepth 65536 in
theorem w_alone : about1.alone = true := by decide +kernel
set_option maxRecDepth 65536 in
theorem w_named : about1.methodNamed? x = some theMethod := by decide +kernel
set_option maxRecDepth 65536 in
theorem w_hears : about1.hears theMethod below0 = true := by decide +kernel
set_option maxRecDepth 65536 in
theorem w_ripe : about1.ripe theMethod args0 below0 = true := by decide +kernel
theorem w_running : about1.status = .running := rfl
set_option maxRecDepth 65536 in
theorem w_room : about1.hasRoom e0.platform room_1 = true :=
  launch0.hasRoom_least _ room_1 (by decide +kernel) (by decide +kernel) (by decide +kernel) (by decide +kernel) (by decide +kernel) (by decide +kernel)
theorem allAtoms_all (ts : List Jvm.Cond) (a : Array Jvm.Value) (st : Jvm.State) : (allAtoms ts).before a st = ts.all (fun c => c.before a st) := by
  induction ts with
  | nil => rfl
  | cons c t ih =>
    show (Jvm.Cond.and c (allAtoms t)).before a st = _
    rw [Jvm.Cond.before_and, ih, List.all_cons]
def words1 : List Jvm.Cond := Jvm.Cond.code x code maxLocals ret :: tables_1
/-- a 'code' word, met by the world's own term for the bytes: nothing is compared byte by byte -/
theorem code_word {y : MethodName} {bytes : ByteArray} {mx : Nat} {rt : Option FieldType} {a : Array Value} {s : State} {m : MethodId} {meth : Method} {c : Code} (h1 : s.methodNamed? y = some m) (h2 : s.vm.method? m = some meth) (h3 : meth.code = some c) (h4 : c.code = bytes)
    (h5 : (c.maxLocals == mx && c.exceptionTable.isEmpty && decide (c.maxStack ≤ mostOperands) && decide (meth.sig.returnType = rt) && !meth.locks && decide (parseMethodDescriptor y.desc = some meth.sig)) = true) : (Jvm.Cond.code y bytes mx rt).before a s = true := by
  simp only [Bool.and_eq_true, beq_iff_eq, Bool.not_eq_true', decide_eq_true_eq] at h5
  obtain ⟨⟨⟨⟨⟨g1, g2⟩, g3⟩, g4⟩, g5⟩, g6⟩ := h5
  simp [Cond.before, Cond.holds, Cond.value, h1, h2, h3, h4, g1, g2, g3, g4, g5, g6]
def isCode : Jvm.Cond → Bool
  | .code _ _ _ _ => true
  | _ => false
theorem all_split {L : List Jvm.Cond} {P : Jvm.Cond → Bool} (h1 : L.all (fun c => isCode c || P c) = true) (h2 : ∀ c ∈ L.filter isCode, P c = true) : L.all P = true := by
  refine List.all_eq_true.mpr fun c hc => ?_
  have h := List.all_eq_true.mp h1 c hc
  rcases Bool.eq_false_or_eq_true (isCode c) with hi | hi
  · exact h2 c (List.mem_filter.mpr ⟨hc, hi⟩)
  · simpa [hi] using h
set_option maxRecDepth 65536 in
theorem w_c0 : (Jvm.Cond.code x code maxLocals ret).before args0 about1 = true := code_word (m := ⟨1, 2⟩) (meth := k1m2) (c := k1c2) (by decide +kernel) rfl rfl rfl (by decide +kernel)
set_option maxRecDepth 65536 in
theorem w_c1 : (Jvm.Cond.code ({ cls := "com/example/vitalwire/vitalwire/protocol/ServingStatus", name := "forNumber", desc := "(I)Lcom/example/vitalwire/vitalwire/protocol/ServingStatus;" } : Jvm.MethodName) prog_9_method_5_code (5 : Nat) (Option.some (Jvm.ClassFile.FieldType.object "com/example/vitalwire/vitalwire/protocol/ServingStatus"))).before args0 about1 = true := code_word (m := ⟨6, 0⟩) (meth := k6m0) (c := k6c0) (by decide +kernel) rfl rfl rfl (by decide +kernel)
set_option maxRecDepth 65536 in
theorem w_c2 : (Jvm.Cond.code ({ cls := "com/example/vitalwire/vitalwire/protocol/ServingStatusForNumberPinLaw", name := "expected", desc := "(I)Lcom/example/vitalwire/vitalwire/protocol/ServingStatus;" } : Jvm.MethodName) method_2_code (1 : Nat) (Option.some (Jvm.ClassFile.FieldType.object "com/example/vitalwire/vitalwire/protocol/ServingStatus"))).before args0 about1 = true := code_word (m := ⟨1, 1⟩) (meth := k1m1) (c := k1c1) (by decide +kernel) rfl rfl rfl (by decide +kernel)
def codes1 : List Jvm.Cond := [Jvm.Cond.code x code maxLocals ret, Jvm.Cond.code ({ cls := "com/example/vitalwire/vitalwire/protocol/ServingStatus", name := "forNumber", desc := "(I)Lcom/example/vitalwire/vitalwire/protocol/ServingStatus;" } : Jvm.MethodName) prog_9_method_5_code (5 : Nat) (Option.some (Jvm.ClassFile.FieldType.object "com/example/vitalwire/vitalwire/protocol/ServingStatus")), Jvm.Cond.code ({ cls := "com/example/vitalwire/vitalwire/protocol/ServingStatusForNumberPinLaw", name := "expected", desc := "(I)Lcom/example/vitalwire/vitalwire/protocol/ServingStatus;" } : Jvm.MethodName) method_2_code (1 : Nat) (Option.some (Jvm.ClassFile.FieldType.object "com/example/vitalwire/vitalwire/protocol/ServingStatus"))]
set_option maxRecDepth 65536 in
theorem codes_eq : words1.filter isCode = codes1 := rfl
theorem w_codes : ∀ c ∈ words1.filter isCode, c.before args0 about1 = true := by
  rw [codes_eq]
  intro c hc
  simp only [codes1, List.mem_cons, List.not_mem_nil, or_false] at hc
  rcases hc with rfl | rfl | rfl
  · exact w_c0
  · exact w_c1
  · exact w_c2
set_option maxRecDepth 65536 in
theorem w_t1 : words1.all (fun c => isCode c || c.before args0 about1) = true := by decide +kernel
theorem w_tables : (allAtoms (Jvm.Cond.code x code maxLocals ret :: tables_1)).before args0 about1 = true := by
  rw [allAtoms_all]
  show words1.all (fun c => c.before args0 about1) = true
  refine all_split ?_ w_codes
  rw [w_t1]
set_option maxRecDepth 65536 in
theorem w_case : (Jvm.Cond.and given_1 narrow_1).before args0 about1 = true := by decide +kernel
theorem w_applies : (headSpec (Jvm.Cond.code x code maxLocals ret :: tables_1) room_1).applies x e0.platform about1 = true :=
  (Spec.applies_iff w_frames).mpr ⟨w_running, w_runnable, w_alone, w_named, w_hears, w_ripe, w_room, w_tables⟩
theorem atStart : AtStart classFile x code maxLocals ret World_1 tables_1 room_1 Calls_1 rest_1 Pre_1 launch0 p0 e0 about1 theMethod args0 below0 :=
  ⟨lists_1, trivial, launch0.admits_env _ _ _, launch0.least_env, fairChoices_fair.cas, fairChoices_fair.clock, w_frames, w_args, w_heap, w_applies, trivial, trivial, w_case⟩
end start1
theorem witness_1 : WitnessClaimed_1 := ⟨start1.p0, start1.e0, start1.about1, start1.theMethod, start1.args0, start1.below0, start1.atStart⟩
end Jvm.Pilot.@@N@@
