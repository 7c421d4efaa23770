import JvmDerived
import JvmDerived.Pilot.@@N@@Statement
import JvmDerived.Pilot.@@N@@Code
set_option linter.unusedVariables false
set_option linter.unusedSimpArgs false
namespace Jvm.Pilot.@@N@@.Own
open Jvm Sem ClassFile Op Lib Jvm.Stand Jvm.Free Jvm.LawKit Jvm.RoadKit
/-- from the state A the run comes to an end of which P holds -/
def OGo (tb : Tables) (e : Env) (below : List Frame) (P : Outcome → State → Prop) (A : State) : Prop := ∃ s₂ o, Steps tb e below A s₂ ∧ s₂.status = .running ∧ Ended s₂ below o ∧ P o s₂
theorem OGo.go {tb : Tables} {e : Env} {below : List Frame} {P : Outcome → State → Prop} {A B : State} (k : OGo tb e below P B) (h : ∀ t, Steps tb e below B t → Steps tb e below A t) : OGo tb e below P A := by
  obtain ⟨s, o, h1, h2⟩ := k; exact ⟨s, o, h _ h1, h2⟩
theorem OGo.start {tb : Tables} {e : Env} {below : List Frame} {P : Outcome → State → Prop} {T : State} {g g' : JFrame} (q : g = g') (k : OGo tb e below P (T.setTop g')) : OGo tb e below P (T.setTop g) := q ▸ k
theorem OGo.ret {p : Program} {l : Launch} {e : Env} {R : Room} {s : State} {m : MethodId} {args : Array Value} {below : List Frame} {meth : Method} {c : Code} {T : State} {locs : List Loc} {cells slots : Nat}
    (X : Stand p l e R s m args below meth c T locs cells slots) {v : Option Value} (hv : meth.sig.returnType = none → v = none) (hlocks : meth.locks = false) {A : State}
    (hA : ∀ fs, (∀ (f : JFrame) (acts : List Action), f.method = m → f.locked = none → f.entered = [] → (doReturn e (T.setTop f) acts v).1 = T.setFrames fs) → Steps p.tables e below A (T.setFrames fs))
    {Q : Option Value → Heap → List Loc → Prop} {C S : Nat} (hQ : Q v T.heap locs) (hc : cells ≤ C) (hs : slots ≤ S) :
    OGo p.tables e below (fun o U' => ∃ v L, o = .returned v ∧ Q v U'.heap L ∧ FrameEnd s o U' L C S) A := by
  obtain ⟨fs, hr, hrun, hended, hW, hsame⟩ := X.leave hv hlocks
  exact ⟨_, _, hA fs hr, hrun, hended, v, locs, rfl, hQ, ⟨_, rfl⟩, hW, hsame.mono hc hs⟩
theorem OGo.retW {p : Program} {l : Launch} {e : Env} {R : Room} {s : State} {m : MethodId} {args : Array Value} {below : List Frame} {meth : Method} {c : Code} {T : State} {locs : List Loc} {cells slots : Nat} {vm0 : Vm} {k0 : Nat}
    (X : Stand p l e R (s.setVm vm0) m args below meth c T locs cells slots) (hS : s.Since vm0 k0) (hn : k0 ≤ T.heap.size) {v : Option Value} (hv : meth.sig.returnType = none → v = none) (hlocks : meth.locks = false) {A : State}
    (hA : ∀ fs, (∀ (f : JFrame) (acts : List Action), f.method = m → f.locked = none → f.entered = [] → (doReturn e (T.setTop f) acts v).1 = T.setFrames fs) → Steps p.tables e below A (T.setFrames fs))
    {Q : Option Value → Heap → List Loc → Prop} {C S : Nat} (hQ : Q v T.heap locs) (hc : cells ≤ C) (hs : slots ≤ S) :
    OGo p.tables e below (fun o U' => ∃ v L, o = .returned v ∧ Q v U'.heap L ∧ ReturnedEndW s o U' L C S) A := by
  obtain ⟨fs, hr, hrun, hended, h1, h2, h3, h4⟩ := X.leaveW hS hn hv hlocks
  exact ⟨_, _, hA fs hr, hrun, hended, v, locs, rfl, hQ, h1, h2, h3, h4.mono hc hs⟩
theorem Sta.keep0 {Z : State} {h h' : Heap} {C n d : String} {v : Value} (F : Sta Z h C n d v) (K : Keep h h' []) : Sta Z h' C n d v := by
  obtain ⟨cf, i, k, f, st, cell, h1, h2, h3, h4, h5, r⟩ := F; exact ⟨cf, i, k, f, st, cell, h1, h2, h3, h4, K.2.1 _ _ h5 (fun q => nomatch q), r⟩
theorem Sta.keepE {Z : State} {h h' : Heap} {C n d : String} {v : Value} {ws : List Addr} (F : Sta Z h C n d v) (K : Keep h h' ws) (q : ∀ x ∈ ws, ∃ c : Cell, h[x]? = some c ∧ ∀ q, c.vm ≠ .statics q) : Sta Z h' C n d v := by
  obtain ⟨cf, i, k, f, st, cell, h1, h2, h3, h4, h5, h6, r⟩ := F
  refine ⟨cf, i, k, f, st, cell, h1, h2, h3, h4, K.2.1 _ _ h5 (fun hm => ?_), h6, r⟩
  obtain ⟨c, hc, hq⟩ := q _ hm
  cases h5.symm.trans hc
  cases hv : cell.vm <;> rw [hv] at h6 <;> first | exact hq _ hv | (simp [VmData.isStatics] at h6)
theorem staS {h : Heap} {y : Addr} {ws : List Addr} (a : ∃ c : Cell, h[y]? = some c ∧ ∀ q, c.vm ≠ .statics q) (r : ∀ x ∈ ws, ∃ c : Cell, h[x]? = some c ∧ ∀ q, c.vm ≠ .statics q) : ∀ x ∈ y :: ws, ∃ c : Cell, h[x]? = some c ∧ ∀ q, c.vm ≠ .statics q := fun x hx => (List.mem_cons.mp hx).elim (fun e => e ▸ a) (r x)
theorem own_nf {args : Array Value} {s : State} {C : String} {y y' : MethodName} (hsel : (Cond.selects C y' y').before args s = true) (e : y'.cls = y.cls) : NotFace s y := fun r0 h0 => by
  obtain ⟨c2, r2, m2, q1, q2, q3, q4, kP, hkP, hkPi⟩ := Cond.selects_spec hsel
  have a := findClass_of_methodNamed h0
  have b := findClass_of_methodNamed q3
  rw [e] at b
  have c : r0.cls = m2.cls := Option.some.inj (a.symm.trans b)
  exact ⟨kP, by rw [c]; exact hkP, hkPi⟩
theorem own_decl {a0 a1 : Array Value} {Z : State} {y : MethodName} {bytes : ByteArray} {maxL : Nat} {ret : Option FieldType} (w : (Cond.instanceMethod y).before a0 Z = true) (wc : (Cond.code y bytes maxL ret).before a0 Z = true) : (Cond.declares y).before a1 Z = true := by
  obtain ⟨m, meth, h1, h2, h3, -⟩ := Cond.instanceMethod_spec w
  obtain ⟨m2, c, h4, -, -, -, -, -, -, h5⟩ := Cond.code_spec h1 wc
  cases h2.symm.trans h4
  simp [Cond.before, Cond.holds, Cond.value, h1, h2, h3, h5]
theorem own_same {a0 : Array Value} {Z : State} {y : MethodName} (hmh : y.cls ≠ "java/lang/invoke/MethodHandle" ∧ y.cls ≠ "java/lang/invoke/VarHandle") (w : (Cond.declares y).before a0 Z = true) (nf : NotFace Z y) : (Cond.sameMethod y.cls y.cls y.name y.desc).before a0 Z = true := by
  obtain ⟨m, meth, h1, -⟩ := Cond.declares_spec w
  obtain ⟨k, hk, hi⟩ := nf m h1
  have hc := findClass_of_methodNamed h1
  have hf := State.methodFound?_of_named h1 hmh
  simp [Cond.before, Cond.holds, Cond.value, hc, hf, h1, hk, hi]
theorem fldI {args : Array Value} {s : State} {t : Term} {C n d : String} {x : Addr} {k : Int32} (ht : t.eval args s none [] s = some (.ref x)) (h : (Cond.eq (Term.field t C n d) (Term.int k)).value args s none s [] = some true) : Fld s s.heap x C n d (.int k) := by
  obtain ⟨u, w, hu, hw, hk, hk'⟩ := cmp_v (Or.inl h)
  cases (Term.int_eval k).symm.trans hw
  obtain ⟨z, rfl⟩ := hk'
  have e : z = k := by simpa [Cond.value, hu, Term.int_eval] using h
  subst e
  exact Fld.start (by rw [← fld_at ht]; exact hu)
theorem long_eval {args : Array Value} {s f : State} {o : Option Outcome} {idx : List Nat} (n : Int64) : (Term.long n).eval args f o idx s = some (.long n) := rfl
theorem fldL {args : Array Value} {s : State} {t : Term} {C n d : String} {x : Addr} {k : Int64} (ht : t.eval args s none [] s = some (.ref x)) (h : (Cond.eq (Term.field t C n d) (Term.long k)).value args s none s [] = some true) : Fld s s.heap x C n d (.long k) := by
  obtain ⟨u, w, hu, hw, hk, hk'⟩ := cmp_v (Or.inl h)
  cases (long_eval k).symm.trans hw
  obtain ⟨z, rfl⟩ := hk'
  have e : z = k := by simpa [Cond.value, hu, long_eval] using h
  subst e
  exact Fld.start (by rw [← fld_at ht]; exact hu)
theorem valL {args : Array Value} {s : State} {t : Term} {k : Int64} (h : (Cond.eq t (Term.long k)).value args s none s [] = some true) : t.eval args s none [] s = some (.long k) := by
  obtain ⟨u, w, hu, hw, hk, hk'⟩ := cmp_v (Or.inl h)
  cases (long_eval k).symm.trans hw
  obtain ⟨z, rfl⟩ := hk'
  have e : z = k := by simpa [Cond.value, hu, long_eval] using h
  subst e
  exact hu
theorem valI {args : Array Value} {s : State} {t : Term} {k : Int32} (h : (Cond.eq t (Term.int k)).value args s none s [] = some true) : t.eval args s none [] s = some (.int k) := by
  obtain ⟨u, w, hu, hw, hk, hk'⟩ := cmp_v (Or.inl h)
  cases (Term.int_eval k).symm.trans hw
  obtain ⟨z, rfl⟩ := hk'
  have e : z = k := by simpa [Cond.value, hu, Term.int_eval] using h
  subst e
  exact hu
theorem lenI {args : Array Value} {s : State} {t : Term} {x : Addr} {cl : Cell} {ty : FieldType} {k : Int32} (ht : t.eval args s none [] s = some (.ref x)) (A : Arr s s.heap x cl ty) (h : (Cond.eq (Term.length t) (Term.int k)).value args s none s [] = some true) : cl.slots.size.toInt32 = k ∧ cl.slots.size < 2 ^ 31 := by
  have hv := valI h
  have ha : s.arrayAt? x = some cl := Arr.fin (Vm.Alike.refl _) A
  simp only [Term.eval, ht, ha, Option.bind_eq_bind, Option.bind_some] at hv
  split at hv
  · rename_i q; exact ⟨by simpa using hv, q⟩
  · cases hv
theorem elemR {args : Array Value} {s : State} {t u : Term} {x y : Addr} {cl : Cell} {ty : FieldType} {k : Int32} (ht : t.eval args s none [] s = some (.ref x)) (A : Arr s s.heap x cl ty) (hu : u.eval args s none [] s = some (.ref y)) (h : (Cond.eq (Term.elem t (Term.int k)) u).value args s none s [] = some true) : cl.slots[k.toNatClampNeg]? = some (.ref y) := by
  obtain ⟨v, w, hv, hw, hk, hk'⟩ := cmp_v (Or.inl h)
  cases hu.symm.trans hw
  have e := (elem_in hv ht (Term.int_eval k) A.1).2
  rw [e]
  rcases ref_cases (v := v) hk'.2 with rfl | ⟨z, rfl⟩
  · simp [Cond.value, hv, hu] at h
  · have q : z = y := by simpa [Cond.value, hv, hu] using h
    rw [q]
end Jvm.Pilot.@@N@@.Own
namespace Jvm.Pilot.@@N@@
open Jvm Jvm.ClassFile Sem Op Lib Jvm.Free Jvm.Stand Jvm.LawKit Jvm.RoadKit Bundle Jvm.Pilot.@@N@@.Jvm.D Jvm.Pilot.@@N@@.Own
theorem d1_0 : decode method_2_code 0 = .ok (.iload_n 0, 1) := by decide +kernel
theorem d1_1 : decode method_2_code 1 = .ok (.ifCond .ne 7, 3) := by decide +kernel
theorem d1_4 : decode method_2_code 4 = .ok (.getstatic 7, 3) := by decide +kernel
theorem d1_7 : decode method_2_code 7 = .ok (.areturn, 1) := by decide +kernel
theorem d1_8 : decode method_2_code 8 = .ok (.iload_n 0, 1) := by decide +kernel
theorem d1_9 : decode method_2_code 9 = .ok (.iconst 1, 1) := by decide +kernel
theorem d1_10 : decode method_2_code 10 = .ok (.if_icmp .ne 7, 3) := by decide +kernel
theorem d1_13 : decode method_2_code 13 = .ok (.getstatic 13, 3) := by decide +kernel
theorem d1_16 : decode method_2_code 16 = .ok (.areturn, 1) := by decide +kernel
theorem d1_17 : decode method_2_code 17 = .ok (.iload_n 0, 1) := by decide +kernel
theorem d1_18 : decode method_2_code 18 = .ok (.iconst 2, 1) := by decide +kernel
theorem d1_19 : decode method_2_code 19 = .ok (.if_icmp .ne 7, 3) := by decide +kernel
theorem d1_22 : decode method_2_code 22 = .ok (.getstatic 16, 3) := by decide +kernel
theorem d1_25 : decode method_2_code 25 = .ok (.areturn, 1) := by decide +kernel
theorem d1_26 : decode method_2_code 26 = .ok (.iload_n 0, 1) := by decide +kernel
theorem d1_27 : decode method_2_code 27 = .ok (.iconst 3, 1) := by decide +kernel
theorem d1_28 : decode method_2_code 28 = .ok (.if_icmp .ne 7, 3) := by decide +kernel
theorem d1_31 : decode method_2_code 31 = .ok (.getstatic 19, 3) := by decide +kernel
theorem d1_34 : decode method_2_code 34 = .ok (.areturn, 1) := by decide +kernel
theorem d1_35 : decode method_2_code 35 = .ok (.iload_n 0, 1) := by decide +kernel
theorem d1_36 : decode method_2_code 36 = .ok (.iconst 4, 1) := by decide +kernel
theorem d1_37 : decode method_2_code 37 = .ok (.if_icmp .ne 7, 3) := by decide +kernel
theorem d1_40 : decode method_2_code 40 = .ok (.getstatic 22, 3) := by decide +kernel
theorem d1_43 : decode method_2_code 43 = .ok (.areturn, 1) := by decide +kernel
theorem d1_44 : decode method_2_code 44 = .ok (.iload_n 0, 1) := by decide +kernel
theorem d1_45 : decode method_2_code 45 = .ok (.iconst 5, 1) := by decide +kernel
theorem d1_46 : decode method_2_code 46 = .ok (.if_icmp .ne 7, 3) := by decide +kernel
theorem d1_49 : decode method_2_code 49 = .ok (.getstatic 25, 3) := by decide +kernel
theorem d1_52 : decode method_2_code 52 = .ok (.areturn, 1) := by decide +kernel
theorem d1_53 : decode method_2_code 53 = .ok (.iload_n 0, 1) := by decide +kernel
theorem d1_54 : decode method_2_code 54 = .ok (.bipush 6, 2) := by decide +kernel
theorem d1_56 : decode method_2_code 56 = .ok (.if_icmp .ne 7, 3) := by decide +kernel
theorem d1_59 : decode method_2_code 59 = .ok (.getstatic 28, 3) := by decide +kernel
theorem d1_62 : decode method_2_code 62 = .ok (.areturn, 1) := by decide +kernel
theorem d1_63 : decode method_2_code 63 = .ok (.iload_n 0, 1) := by decide +kernel
theorem d1_64 : decode method_2_code 64 = .ok (.bipush 7, 2) := by decide +kernel
theorem d1_66 : decode method_2_code 66 = .ok (.if_icmp .ne 7, 3) := by decide +kernel
theorem d1_69 : decode method_2_code 69 = .ok (.getstatic 31, 3) := by decide +kernel
theorem d1_72 : decode method_2_code 72 = .ok (.areturn, 1) := by decide +kernel
theorem d1_73 : decode method_2_code 73 = .ok (.iload_n 0, 1) := by decide +kernel
theorem d1_74 : decode method_2_code 74 = .ok (.bipush 8, 2) := by decide +kernel
theorem d1_76 : decode method_2_code 76 = .ok (.if_icmp .ne 7, 3) := by decide +kernel
theorem d1_79 : decode method_2_code 79 = .ok (.getstatic 34, 3) := by decide +kernel
theorem d1_82 : decode method_2_code 82 = .ok (.areturn, 1) := by decide +kernel
theorem d1_83 : decode method_2_code 83 = .ok (.iload_n 0, 1) := by decide +kernel
theorem d1_84 : decode method_2_code 84 = .ok (.bipush 9, 2) := by decide +kernel
theorem d1_86 : decode method_2_code 86 = .ok (.if_icmp .ne 7, 3) := by decide +kernel
theorem d1_89 : decode method_2_code 89 = .ok (.getstatic 37, 3) := by decide +kernel
theorem d1_92 : decode method_2_code 92 = .ok (.areturn, 1) := by decide +kernel
theorem d1_93 : decode method_2_code 93 = .ok (.iload_n 0, 1) := by decide +kernel
theorem d1_94 : decode method_2_code 94 = .ok (.bipush 10, 2) := by decide +kernel
theorem d1_96 : decode method_2_code 96 = .ok (.if_icmp .ne 7, 3) := by decide +kernel
theorem d1_99 : decode method_2_code 99 = .ok (.getstatic 40, 3) := by decide +kernel
theorem d1_102 : decode method_2_code 102 = .ok (.areturn, 1) := by decide +kernel
theorem d1_103 : decode method_2_code 103 = .ok (.iload_n 0, 1) := by decide +kernel
theorem d1_104 : decode method_2_code 104 = .ok (.bipush 11, 2) := by decide +kernel
theorem d1_106 : decode method_2_code 106 = .ok (.if_icmp .ne 7, 3) := by decide +kernel
theorem d1_109 : decode method_2_code 109 = .ok (.getstatic 43, 3) := by decide +kernel
theorem d1_112 : decode method_2_code 112 = .ok (.areturn, 1) := by decide +kernel
theorem d1_113 : decode method_2_code 113 = .ok (.getstatic 46, 3) := by decide +kernel
theorem d1_116 : decode method_2_code 116 = .ok (.areturn, 1) := by decide +kernel
theorem pn_com_example_orderly_session_orderlysession_postgresql_PgTypeRoundedInTextPinLaw : plainName "com/example/orderly_session/orderlysession/postgresql/PgTypeRoundedInTextPinLaw" = true := by first | (simp [plainName, overriddenIn]; done) | decide +kernel
def Q1 (Z : State) (p0 : Int32) (u_BOOLEAN : Addr) (u_BYTEA : Addr) (u_BIGINT : Addr) (u_SMALLINT : Addr) (u_INTEGER : Addr) (u_TEXT : Addr) (u_REAL : Addr) (u_DOUBLE_PRECISION : Addr) (u_DATE : Addr) (u_TIME : Addr) (u_TIMESTAMP : Addr) (u_TIMESTAMP_WITH_TIME_ZONE : Addr) (u_NUMERIC : Addr) (h0 : Heap) (n0 : Nat) (v : Option Value) (h : Heap) (L : List Loc) : Prop := ∃ (u : Addr) (od : Int32), v = some (.ref u) ∧ Fr n0 L ∧ h = h0 ∧ Exa Z h u "com/example/orderly_session/orderlysession/postgresql/PgType" ∧ Fld Z h u "com/example/orderly_session/orderlysession/postgresql/PgType" "oid" "I" (.int od) ∧ ((p0 = 6 ∧ u = u_REAL ∧ od = 700) ∨ (p0 = 7 ∧ u = u_DOUBLE_PRECISION ∧ od = 701) ∨ (¬ p0 = 6 ∧ ¬ p0 = 7 ∧ ¬ u = u_REAL ∧ ¬ u = u_DOUBLE_PRECISION ∧ ¬ od = 700 ∧ ¬ od = 701))
def P1 (Z : State) (p0 : Int32) (u_BOOLEAN : Addr) (u_BYTEA : Addr) (u_BIGINT : Addr) (u_SMALLINT : Addr) (u_INTEGER : Addr) (u_TEXT : Addr) (u_REAL : Addr) (u_DOUBLE_PRECISION : Addr) (u_DATE : Addr) (u_TIME : Addr) (u_TIMESTAMP : Addr) (u_TIMESTAMP_WITH_TIME_ZONE : Addr) (u_NUMERIC : Addr) (h0 : Heap) (n0 : Nat) (s : State) (o : Outcome) (U' : State) : Prop := ∃ v L, o = .returned v ∧ Q1 Z p0 u_BOOLEAN u_BYTEA u_BIGINT u_SMALLINT u_INTEGER u_TEXT u_REAL u_DOUBLE_PRECISION u_DATE u_TIME u_TIMESTAMP u_TIMESTAMP_WITH_TIME_ZONE u_NUMERIC h0 n0 v U'.heap L ∧ FrameEnd s o U' L ({ frames := 0, cells := 0, slots := 0, locals := 0 } : Room).cells ({ frames := 0, cells := 0, slots := 0, locals := 0 } : Room).slots
set_option maxRecDepth 65536 in
set_option maxHeartbeats 40000000 in
theorem rm1 (l : Launch) (Z : State) (aV : Array Value) (hw : ∀ d ∈ tables_1, d.before aV Z = true) (ws : List Jvm.Cond) (p0 : Int32) (u_BOOLEAN : Addr) (u_BYTEA : Addr) (u_BIGINT : Addr) (u_SMALLINT : Addr) (u_INTEGER : Addr) (u_TEXT : Addr) (u_REAL : Addr) (u_DOUBLE_PRECISION : Addr) (u_DATE : Addr) (u_TIME : Addr) (u_TIMESTAMP : Addr) (u_TIMESTAMP_WITH_TIME_ZONE : Addr) (u_NUMERIC : Addr) (h0 : Heap) (n0 : Nat) (Z0 : n0 ≤ h0.size) (S_BOOLEAN : Sta Z h0 "com/example/orderly_session/orderlysession/postgresql/PgType" "BOOLEAN" "Lcom/example/orderly_session/orderlysession/postgresql/PgType;" (.ref u_BOOLEAN)) (E_u_BOOLEAN : Exa Z h0 u_BOOLEAN "com/example/orderly_session/orderlysession/postgresql/PgType") (S_REAL : Sta Z h0 "com/example/orderly_session/orderlysession/postgresql/PgType" "REAL" "Lcom/example/orderly_session/orderlysession/postgresql/PgType;" (.ref u_REAL)) (E_u_REAL : Exa Z h0 u_REAL "com/example/orderly_session/orderlysession/postgresql/PgType") (S_DOUBLE_PRECISION : Sta Z h0 "com/example/orderly_session/orderlysession/postgresql/PgType" "DOUBLE_PRECISION" "Lcom/example/orderly_session/orderlysession/postgresql/PgType;" (.ref u_DOUBLE_PRECISION)) (E_u_DOUBLE_PRECISION : Exa Z h0 u_DOUBLE_PRECISION "com/example/orderly_session/orderlysession/postgresql/PgType") (F_oid_u_BOOLEAN : Fld Z h0 u_BOOLEAN "com/example/orderly_session/orderlysession/postgresql/PgType" "oid" "I" (.int (16 : Int32))) (S_SMALLINT : Sta Z h0 "com/example/orderly_session/orderlysession/postgresql/PgType" "SMALLINT" "Lcom/example/orderly_session/orderlysession/postgresql/PgType;" (.ref u_SMALLINT)) (E_u_SMALLINT : Exa Z h0 u_SMALLINT "com/example/orderly_session/orderlysession/postgresql/PgType") (F_oid_u_SMALLINT : Fld Z h0 u_SMALLINT "com/example/orderly_session/orderlysession/postgresql/PgType" "oid" "I" (.int (21 : Int32))) (F_oid_u_REAL : Fld Z h0 u_REAL "com/example/orderly_session/orderlysession/postgresql/PgType" "oid" "I" (.int (700 : Int32))) (S_TEXT : Sta Z h0 "com/example/orderly_session/orderlysession/postgresql/PgType" "TEXT" "Lcom/example/orderly_session/orderlysession/postgresql/PgType;" (.ref u_TEXT)) (E_u_TEXT : Exa Z h0 u_TEXT "com/example/orderly_session/orderlysession/postgresql/PgType") (F_oid_u_TEXT : Fld Z h0 u_TEXT "com/example/orderly_session/orderlysession/postgresql/PgType" "oid" "I" (.int (25 : Int32))) (F_oid_u_DOUBLE_PRECISION : Fld Z h0 u_DOUBLE_PRECISION "com/example/orderly_session/orderlysession/postgresql/PgType" "oid" "I" (.int (701 : Int32))) (S_TIME : Sta Z h0 "com/example/orderly_session/orderlysession/postgresql/PgType" "TIME" "Lcom/example/orderly_session/orderlysession/postgresql/PgType;" (.ref u_TIME)) (E_u_TIME : Exa Z h0 u_TIME "com/example/orderly_session/orderlysession/postgresql/PgType") (F_oid_u_TIME : Fld Z h0 u_TIME "com/example/orderly_session/orderlysession/postgresql/PgType" "oid" "I" (.int (1083 : Int32))) (S_BIGINT : Sta Z h0 "com/example/orderly_session/orderlysession/postgresql/PgType" "BIGINT" "Lcom/example/orderly_session/orderlysession/postgresql/PgType;" (.ref u_BIGINT)) (E_u_BIGINT : Exa Z h0 u_BIGINT "com/example/orderly_session/orderlysession/postgresql/PgType") (F_oid_u_BIGINT : Fld Z h0 u_BIGINT "com/example/orderly_session/orderlysession/postgresql/PgType" "oid" "I" (.int (20 : Int32))) (S_TIMESTAMP_WITH_TIME_ZONE : Sta Z h0 "com/example/orderly_session/orderlysession/postgresql/PgType" "TIMESTAMP_WITH_TIME_ZONE" "Lcom/example/orderly_session/orderlysession/postgresql/PgType;" (.ref u_TIMESTAMP_WITH_TIME_ZONE)) (E_u_TIMESTAMP_WITH_TIME_ZONE : Exa Z h0 u_TIMESTAMP_WITH_TIME_ZONE "com/example/orderly_session/orderlysession/postgresql/PgType") (F_oid_u_TIMESTAMP_WITH_TIME_ZONE : Fld Z h0 u_TIMESTAMP_WITH_TIME_ZONE "com/example/orderly_session/orderlysession/postgresql/PgType" "oid" "I" (.int (1184 : Int32))) (S_BYTEA : Sta Z h0 "com/example/orderly_session/orderlysession/postgresql/PgType" "BYTEA" "Lcom/example/orderly_session/orderlysession/postgresql/PgType;" (.ref u_BYTEA)) (E_u_BYTEA : Exa Z h0 u_BYTEA "com/example/orderly_session/orderlysession/postgresql/PgType") (F_oid_u_BYTEA : Fld Z h0 u_BYTEA "com/example/orderly_session/orderlysession/postgresql/PgType" "oid" "I" (.int (17 : Int32))) (S_DATE : Sta Z h0 "com/example/orderly_session/orderlysession/postgresql/PgType" "DATE" "Lcom/example/orderly_session/orderlysession/postgresql/PgType;" (.ref u_DATE)) (E_u_DATE : Exa Z h0 u_DATE "com/example/orderly_session/orderlysession/postgresql/PgType") (F_oid_u_DATE : Fld Z h0 u_DATE "com/example/orderly_session/orderlysession/postgresql/PgType" "oid" "I" (.int (1082 : Int32))) (S_TIMESTAMP : Sta Z h0 "com/example/orderly_session/orderlysession/postgresql/PgType" "TIMESTAMP" "Lcom/example/orderly_session/orderlysession/postgresql/PgType;" (.ref u_TIMESTAMP)) (E_u_TIMESTAMP : Exa Z h0 u_TIMESTAMP "com/example/orderly_session/orderlysession/postgresql/PgType") (F_oid_u_TIMESTAMP : Fld Z h0 u_TIMESTAMP "com/example/orderly_session/orderlysession/postgresql/PgType" "oid" "I" (.int (1114 : Int32))) (S_NUMERIC : Sta Z h0 "com/example/orderly_session/orderlysession/postgresql/PgType" "NUMERIC" "Lcom/example/orderly_session/orderlysession/postgresql/PgType;" (.ref u_NUMERIC)) (E_u_NUMERIC : Exa Z h0 u_NUMERIC "com/example/orderly_session/orderlysession/postgresql/PgType") (F_oid_u_NUMERIC : Fld Z h0 u_NUMERIC "com/example/orderly_session/orderlysession/postgresql/PgType" "oid" "I" (.int (1700 : Int32))) (S_INTEGER : Sta Z h0 "com/example/orderly_session/orderlysession/postgresql/PgType" "INTEGER" "Lcom/example/orderly_session/orderlysession/postgresql/PgType;" (.ref u_INTEGER)) (E_u_INTEGER : Exa Z h0 u_INTEGER "com/example/orderly_session/orderlysession/postgresql/PgType") (F_oid_u_INTEGER : Fld Z h0 u_INTEGER "com/example/orderly_session/orderlysession/postgresql/PgType" "oid" "I" (.int (23 : Int32))) :
    MetFree l (⟨"com/example/orderly_session/orderlysession/postgresql/PgTypeRoundedInTextPinLaw", "pick", "(I)Lcom/example/orderly_session/orderlysession/postgresql/PgType;"⟩ : MethodName) (head1 (Jvm.Cond.code (⟨"com/example/orderly_session/orderlysession/postgresql/PgTypeRoundedInTextPinLaw", "pick", "(I)Lcom/example/orderly_session/orderlysession/postgresql/PgType;"⟩ : MethodName) method_2_code 1 (some (.object "com/example/orderly_session/orderlysession/postgresql/PgType")) :: ws) ({ frames := 0, cells := 0, slots := 0, locals := 0 } : Room)) (fun a U => a = #[(.int p0)] ∧ Z.Warmed39 U.vm ∧ U.heap = h0) (fun _ _ _ _ _ => True) (fun _ U o U' => ∃ v L, o = .returned v ∧ Q1 Z p0 u_BOOLEAN u_BYTEA u_BIGINT u_SMALLINT u_INTEGER u_TEXT u_REAL u_DOUBLE_PRECISION u_DATE u_TIME u_TIMESTAMP u_TIMESTAMP_WITH_TIME_ZONE u_NUMERIC h0 n0 v U'.heap L ∧ FrameEnd U o U' L ({ frames := 0, cells := 0, slots := 0, locals := 0 } : Room).cells ({ frames := 0, cells := 0, slots := 0, locals := 0 } : Room).slots) := by
  refine MetFree.of_bodySF (plainFor_of_name pn_com_example_orderly_session_orderlysession_postgresql_PgTypeRoundedInTextPinLaw) hisR ?_
  intro p e s m args below meth c s₁ Bd hml0 hP hK
  obtain ⟨rfl, hZ, hh⟩ := hP
  have hx := Bd.exec
  have hby := Bd.bytes
  have hml : c.maxLocals = 1 := hml0
  have hown : s.vm.findClass "com/example/orderly_session/orderlysession/postgresql/PgTypeRoundedInTextPinLaw" = some m.cls := findClass_of_methodNamed Bd.named
  have hnm := (name_of_methodNamed Bd.named Bd.method).1
  have X0 : Stand p l e ({ frames := 0, cells := 0, slots := 0, locals := 0 } : Room) s m #[(.int p0)] below meth c s₁ [] 0 0 := Stand.of_body Bd
  have e0 : s₁.heap = h0 := by rw [← hh, Bd.state]; rfl
  have efx : entryFrame m #[(.int p0)] 1 = mkF m 0 #[.val (.int p0)] [] := by first | (simp [entryFrame, mkF, argsToLocals, Value.category]; done) | rfl
  have N0 := Fr.nil n0
  have K0 : Keep h0 h0 [] := Keep.refl h0 _
  refine OGo.start (g' := mkF m 0 #[.val (.int p0)] []) (efx) ?_
  show OGo p.tables e below (P1 Z p0 u_BOOLEAN u_BYTEA u_BIGINT u_SMALLINT u_INTEGER u_TEXT u_REAL u_DOUBLE_PRECISION u_DATE u_TIME u_TIMESTAMP u_TIMESTAMP_WITH_TIME_ZONE u_NUMERIC h0 n0 s) (s₁.setTop (mkF m 0 #[.val (.int p0)] []))
  refine OGo.go (B := s₁.setTop (mkF m 1 #[.val (.int p0)] [(.int p0)])) ?_ (fun tX kX => XS.iloadN X0.here hx rfl (hb hby d1_0) rfl kX)
  by_cases hc1 : p0 = (0 : Int32)
  ·
    refine OGo.go (B := s₁.setTop (mkF m 4 #[.val (.int p0)] [])) ?_ (fun tX kX => XS.ifNo X0.here hx rfl (hb hby d1_1) rfl ((if0 _ _).trans (teq hc1).2) kX)
    obtain ⟨T1, X1, e1, st1⟩ := getS2 X0 hx hZ hown (host := "") (Or.inl (hw _ (List.mem_of_getElem? (i := 5) rfl))) Via.refl e0 S_BOOLEAN (g := (mkF m 4 #[.val (.int p0)] [])) rfl (hb hby d1_4)
    refine OGo.go (B := T1.setTop (mkF m 7 #[.val (.int p0)] [(.ref u_BOOLEAN)])) ?_ st1
    refine OGo.ret X1 (v := (some (.ref u_BOOLEAN))) (fun h => by rw [Bd.returns] at h; cases h) (BodyLoose.notSynchronized Bd) (fun fs hr => retOut X1 hx Bd.returns rfl (Or.inr (Or.inr (Or.inr (Or.inr ⟨rfl, rfl, rfl⟩)))) (hb hby d1_7) hr) (Q := Q1 Z p0 u_BOOLEAN u_BYTEA u_BIGINT u_SMALLINT u_INTEGER u_TEXT u_REAL u_DOUBLE_PRECISION u_DATE u_TIME u_TIMESTAMP u_TIMESTAMP_WITH_TIME_ZONE u_NUMERIC h0 n0) ?_ (by decide) (by decide)
    show Q1 Z p0 u_BOOLEAN u_BYTEA u_BIGINT u_SMALLINT u_INTEGER u_TEXT u_REAL u_DOUBLE_PRECISION u_DATE u_TIME u_TIMESTAMP u_TIMESTAMP_WITH_TIME_ZONE u_NUMERIC h0 n0 _ T1.heap _
    rw [e1]
    exact ⟨u_BOOLEAN, (16 : Int32), rfl, N0, rfl, E_u_BOOLEAN, F_oid_u_BOOLEAN, (Or.inr (Or.inr ⟨(by rw [hc1]; decide), (by rw [hc1]; decide), (Fld.ne F_oid_u_BOOLEAN F_oid_u_REAL (by decide)), (Fld.ne F_oid_u_BOOLEAN F_oid_u_DOUBLE_PRECISION (by decide)), by decide, by decide⟩))⟩
  ·
    refine OGo.go (B := s₁.setTop (mkF m 8 #[.val (.int p0)] [])) ?_ (fun tX kX => XS.ifYes X0.here hx rfl (pc0 := 1) (pc' := 8) rfl (hb hby d1_1) rfl ((if0 _ _).trans (feq hc1).2) (by decide) (by decide) kX)
    refine OGo.go (B := s₁.setTop (mkF m 9 #[.val (.int p0)] [(.int p0)])) ?_ (fun tX kX => XS.iloadN X0.here hx rfl (hb hby d1_8) rfl kX)
    refine OGo.go (B := s₁.setTop (mkF m 10 #[.val (.int p0)] [(.int (1 : Int32)), (.int p0)])) ?_ (fun tX kX => XS.iconst X0.here hx rfl (hb hby d1_9) kX)
    by_cases hc10 : p0 = (1 : Int32)
    ·
      refine OGo.go (B := s₁.setTop (mkF m 13 #[.val (.int p0)] [])) ?_ (fun tX kX => XS.icmpNo X0.here hx rfl (hb hby d1_10) rfl (teq hc10).2 kX)
      obtain ⟨T2, X2, e2, st2⟩ := getS2 X0 hx hZ hown (host := "") (Or.inl (hw _ (List.mem_of_getElem? (i := 36) rfl))) Via.refl e0 S_BYTEA (g := (mkF m 13 #[.val (.int p0)] [])) rfl (hb hby d1_13)
      refine OGo.go (B := T2.setTop (mkF m 16 #[.val (.int p0)] [(.ref u_BYTEA)])) ?_ st2
      refine OGo.ret X2 (v := (some (.ref u_BYTEA))) (fun h => by rw [Bd.returns] at h; cases h) (BodyLoose.notSynchronized Bd) (fun fs hr => retOut X2 hx Bd.returns rfl (Or.inr (Or.inr (Or.inr (Or.inr ⟨rfl, rfl, rfl⟩)))) (hb hby d1_16) hr) (Q := Q1 Z p0 u_BOOLEAN u_BYTEA u_BIGINT u_SMALLINT u_INTEGER u_TEXT u_REAL u_DOUBLE_PRECISION u_DATE u_TIME u_TIMESTAMP u_TIMESTAMP_WITH_TIME_ZONE u_NUMERIC h0 n0) ?_ (by decide) (by decide)
      show Q1 Z p0 u_BOOLEAN u_BYTEA u_BIGINT u_SMALLINT u_INTEGER u_TEXT u_REAL u_DOUBLE_PRECISION u_DATE u_TIME u_TIMESTAMP u_TIMESTAMP_WITH_TIME_ZONE u_NUMERIC h0 n0 _ T2.heap _
      rw [e2]
      exact ⟨u_BYTEA, (17 : Int32), rfl, N0, rfl, E_u_BYTEA, F_oid_u_BYTEA, (Or.inr (Or.inr ⟨(by rw [hc10]; decide), (by rw [hc10]; decide), (Fld.ne F_oid_u_BYTEA F_oid_u_REAL (by decide)), (Fld.ne F_oid_u_BYTEA F_oid_u_DOUBLE_PRECISION (by decide)), by decide, by decide⟩))⟩
    ·
      refine OGo.go (B := s₁.setTop (mkF m 17 #[.val (.int p0)] [])) ?_ (fun tX kX => XS.icmpYes X0.here hx rfl (pc0 := 10) (pc' := 17) rfl (hb hby d1_10) rfl (feq hc10).2 (by decide) (by decide) kX)
      refine OGo.go (B := s₁.setTop (mkF m 18 #[.val (.int p0)] [(.int p0)])) ?_ (fun tX kX => XS.iloadN X0.here hx rfl (hb hby d1_17) rfl kX)
      refine OGo.go (B := s₁.setTop (mkF m 19 #[.val (.int p0)] [(.int (2 : Int32)), (.int p0)])) ?_ (fun tX kX => XS.iconst X0.here hx rfl (hb hby d1_18) kX)
      by_cases hc19 : p0 = (2 : Int32)
      ·
        refine OGo.go (B := s₁.setTop (mkF m 22 #[.val (.int p0)] [])) ?_ (fun tX kX => XS.icmpNo X0.here hx rfl (hb hby d1_19) rfl (teq hc19).2 kX)
        obtain ⟨T3, X3, e3, st3⟩ := getS2 X0 hx hZ hown (host := "") (Or.inl (hw _ (List.mem_of_getElem? (i := 32) rfl))) Via.refl e0 S_BIGINT (g := (mkF m 22 #[.val (.int p0)] [])) rfl (hb hby d1_22)
        refine OGo.go (B := T3.setTop (mkF m 25 #[.val (.int p0)] [(.ref u_BIGINT)])) ?_ st3
        refine OGo.ret X3 (v := (some (.ref u_BIGINT))) (fun h => by rw [Bd.returns] at h; cases h) (BodyLoose.notSynchronized Bd) (fun fs hr => retOut X3 hx Bd.returns rfl (Or.inr (Or.inr (Or.inr (Or.inr ⟨rfl, rfl, rfl⟩)))) (hb hby d1_25) hr) (Q := Q1 Z p0 u_BOOLEAN u_BYTEA u_BIGINT u_SMALLINT u_INTEGER u_TEXT u_REAL u_DOUBLE_PRECISION u_DATE u_TIME u_TIMESTAMP u_TIMESTAMP_WITH_TIME_ZONE u_NUMERIC h0 n0) ?_ (by decide) (by decide)
        show Q1 Z p0 u_BOOLEAN u_BYTEA u_BIGINT u_SMALLINT u_INTEGER u_TEXT u_REAL u_DOUBLE_PRECISION u_DATE u_TIME u_TIMESTAMP u_TIMESTAMP_WITH_TIME_ZONE u_NUMERIC h0 n0 _ T3.heap _
        rw [e3]
        exact ⟨u_BIGINT, (20 : Int32), rfl, N0, rfl, E_u_BIGINT, F_oid_u_BIGINT, (Or.inr (Or.inr ⟨(by rw [hc19]; decide), (by rw [hc19]; decide), (Fld.ne F_oid_u_BIGINT F_oid_u_REAL (by decide)), (Fld.ne F_oid_u_BIGINT F_oid_u_DOUBLE_PRECISION (by decide)), by decide, by decide⟩))⟩
      ·
        refine OGo.go (B := s₁.setTop (mkF m 26 #[.val (.int p0)] [])) ?_ (fun tX kX => XS.icmpYes X0.here hx rfl (pc0 := 19) (pc' := 26) rfl (hb hby d1_19) rfl (feq hc19).2 (by decide) (by decide) kX)
        refine OGo.go (B := s₁.setTop (mkF m 27 #[.val (.int p0)] [(.int p0)])) ?_ (fun tX kX => XS.iloadN X0.here hx rfl (hb hby d1_26) rfl kX)
        refine OGo.go (B := s₁.setTop (mkF m 28 #[.val (.int p0)] [(.int (3 : Int32)), (.int p0)])) ?_ (fun tX kX => XS.iconst X0.here hx rfl (hb hby d1_27) kX)
        by_cases hc28 : p0 = (3 : Int32)
        ·
          refine OGo.go (B := s₁.setTop (mkF m 31 #[.val (.int p0)] [])) ?_ (fun tX kX => XS.icmpNo X0.here hx rfl (hb hby d1_28) rfl (teq hc28).2 kX)
          obtain ⟨T4, X4, e4, st4⟩ := getS2 X0 hx hZ hown (host := "") (Or.inl (hw _ (List.mem_of_getElem? (i := 24) rfl))) Via.refl e0 S_SMALLINT (g := (mkF m 31 #[.val (.int p0)] [])) rfl (hb hby d1_31)
          refine OGo.go (B := T4.setTop (mkF m 34 #[.val (.int p0)] [(.ref u_SMALLINT)])) ?_ st4
          refine OGo.ret X4 (v := (some (.ref u_SMALLINT))) (fun h => by rw [Bd.returns] at h; cases h) (BodyLoose.notSynchronized Bd) (fun fs hr => retOut X4 hx Bd.returns rfl (Or.inr (Or.inr (Or.inr (Or.inr ⟨rfl, rfl, rfl⟩)))) (hb hby d1_34) hr) (Q := Q1 Z p0 u_BOOLEAN u_BYTEA u_BIGINT u_SMALLINT u_INTEGER u_TEXT u_REAL u_DOUBLE_PRECISION u_DATE u_TIME u_TIMESTAMP u_TIMESTAMP_WITH_TIME_ZONE u_NUMERIC h0 n0) ?_ (by decide) (by decide)
          show Q1 Z p0 u_BOOLEAN u_BYTEA u_BIGINT u_SMALLINT u_INTEGER u_TEXT u_REAL u_DOUBLE_PRECISION u_DATE u_TIME u_TIMESTAMP u_TIMESTAMP_WITH_TIME_ZONE u_NUMERIC h0 n0 _ T4.heap _
          rw [e4]
          exact ⟨u_SMALLINT, (21 : Int32), rfl, N0, rfl, E_u_SMALLINT, F_oid_u_SMALLINT, (Or.inr (Or.inr ⟨(by rw [hc28]; decide), (by rw [hc28]; decide), (Fld.ne F_oid_u_SMALLINT F_oid_u_REAL (by decide)), (Fld.ne F_oid_u_SMALLINT F_oid_u_DOUBLE_PRECISION (by decide)), by decide, by decide⟩))⟩
        ·
          refine OGo.go (B := s₁.setTop (mkF m 35 #[.val (.int p0)] [])) ?_ (fun tX kX => XS.icmpYes X0.here hx rfl (pc0 := 28) (pc' := 35) rfl (hb hby d1_28) rfl (feq hc28).2 (by decide) (by decide) kX)
          refine OGo.go (B := s₁.setTop (mkF m 36 #[.val (.int p0)] [(.int p0)])) ?_ (fun tX kX => XS.iloadN X0.here hx rfl (hb hby d1_35) rfl kX)
          refine OGo.go (B := s₁.setTop (mkF m 37 #[.val (.int p0)] [(.int (4 : Int32)), (.int p0)])) ?_ (fun tX kX => XS.iconst X0.here hx rfl (hb hby d1_36) kX)
          by_cases hc37 : p0 = (4 : Int32)
          ·
            refine OGo.go (B := s₁.setTop (mkF m 40 #[.val (.int p0)] [])) ?_ (fun tX kX => XS.icmpNo X0.here hx rfl (hb hby d1_37) rfl (teq hc37).2 kX)
            obtain ⟨T5, X5, e5, st5⟩ := getS2 X0 hx hZ hown (host := "") (Or.inl (hw _ (List.mem_of_getElem? (i := 44) rfl))) Via.refl e0 S_INTEGER (g := (mkF m 40 #[.val (.int p0)] [])) rfl (hb hby d1_40)
            refine OGo.go (B := T5.setTop (mkF m 43 #[.val (.int p0)] [(.ref u_INTEGER)])) ?_ st5
            refine OGo.ret X5 (v := (some (.ref u_INTEGER))) (fun h => by rw [Bd.returns] at h; cases h) (BodyLoose.notSynchronized Bd) (fun fs hr => retOut X5 hx Bd.returns rfl (Or.inr (Or.inr (Or.inr (Or.inr ⟨rfl, rfl, rfl⟩)))) (hb hby d1_43) hr) (Q := Q1 Z p0 u_BOOLEAN u_BYTEA u_BIGINT u_SMALLINT u_INTEGER u_TEXT u_REAL u_DOUBLE_PRECISION u_DATE u_TIME u_TIMESTAMP u_TIMESTAMP_WITH_TIME_ZONE u_NUMERIC h0 n0) ?_ (by decide) (by decide)
            show Q1 Z p0 u_BOOLEAN u_BYTEA u_BIGINT u_SMALLINT u_INTEGER u_TEXT u_REAL u_DOUBLE_PRECISION u_DATE u_TIME u_TIMESTAMP u_TIMESTAMP_WITH_TIME_ZONE u_NUMERIC h0 n0 _ T5.heap _
            rw [e5]
            exact ⟨u_INTEGER, (23 : Int32), rfl, N0, rfl, E_u_INTEGER, F_oid_u_INTEGER, (Or.inr (Or.inr ⟨(by rw [hc37]; decide), (by rw [hc37]; decide), (Fld.ne F_oid_u_INTEGER F_oid_u_REAL (by decide)), (Fld.ne F_oid_u_INTEGER F_oid_u_DOUBLE_PRECISION (by decide)), by decide, by decide⟩))⟩
          ·
            refine OGo.go (B := s₁.setTop (mkF m 44 #[.val (.int p0)] [])) ?_ (fun tX kX => XS.icmpYes X0.here hx rfl (pc0 := 37) (pc' := 44) rfl (hb hby d1_37) rfl (feq hc37).2 (by decide) (by decide) kX)
            refine OGo.go (B := s₁.setTop (mkF m 45 #[.val (.int p0)] [(.int p0)])) ?_ (fun tX kX => XS.iloadN X0.here hx rfl (hb hby d1_44) rfl kX)
            refine OGo.go (B := s₁.setTop (mkF m 46 #[.val (.int p0)] [(.int (5 : Int32)), (.int p0)])) ?_ (fun tX kX => XS.iconst X0.here hx rfl (hb hby d1_45) kX)
            by_cases hc46 : p0 = (5 : Int32)
            ·
              refine OGo.go (B := s₁.setTop (mkF m 49 #[.val (.int p0)] [])) ?_ (fun tX kX => XS.icmpNo X0.here hx rfl (hb hby d1_46) rfl (teq hc46).2 kX)
              obtain ⟨T6, X6, e6, st6⟩ := getS2 X0 hx hZ hown (host := "") (Or.inl (hw _ (List.mem_of_getElem? (i := 27) rfl))) Via.refl e0 S_TEXT (g := (mkF m 49 #[.val (.int p0)] [])) rfl (hb hby d1_49)
              refine OGo.go (B := T6.setTop (mkF m 52 #[.val (.int p0)] [(.ref u_TEXT)])) ?_ st6
              refine OGo.ret X6 (v := (some (.ref u_TEXT))) (fun h => by rw [Bd.returns] at h; cases h) (BodyLoose.notSynchronized Bd) (fun fs hr => retOut X6 hx Bd.returns rfl (Or.inr (Or.inr (Or.inr (Or.inr ⟨rfl, rfl, rfl⟩)))) (hb hby d1_52) hr) (Q := Q1 Z p0 u_BOOLEAN u_BYTEA u_BIGINT u_SMALLINT u_INTEGER u_TEXT u_REAL u_DOUBLE_PRECISION u_DATE u_TIME u_TIMESTAMP u_TIMESTAMP_WITH_TIME_ZONE u_NUMERIC h0 n0) ?_ (by decide) (by decide)
              show Q1 Z p0 u_BOOLEAN u_BYTEA u_BIGINT u_SMALLINT u_INTEGER u_TEXT u_REAL u_DOUBLE_PRECISION u_DATE u_TIME u_TIMESTAMP u_TIMESTAMP_WITH_TIME_ZONE u_NUMERIC h0 n0 _ T6.heap _
              rw [e6]
              exact ⟨u_TEXT, (25 : Int32), rfl, N0, rfl, E_u_TEXT, F_oid_u_TEXT, (Or.inr (Or.inr ⟨(by rw [hc46]; decide), (by rw [hc46]; decide), (Fld.ne F_oid_u_TEXT F_oid_u_REAL (by decide)), (Fld.ne F_oid_u_TEXT F_oid_u_DOUBLE_PRECISION (by decide)), by decide, by decide⟩))⟩
            ·
              refine OGo.go (B := s₁.setTop (mkF m 53 #[.val (.int p0)] [])) ?_ (fun tX kX => XS.icmpYes X0.here hx rfl (pc0 := 46) (pc' := 53) rfl (hb hby d1_46) rfl (feq hc46).2 (by decide) (by decide) kX)
              refine OGo.go (B := s₁.setTop (mkF m 54 #[.val (.int p0)] [(.int p0)])) ?_ (fun tX kX => XS.iloadN X0.here hx rfl (hb hby d1_53) rfl kX)
              refine OGo.go (B := s₁.setTop (mkF m 56 #[.val (.int p0)] [(.int (6 : Int32)), (.int p0)])) ?_ (fun tX kX => XS.bipush X0.here hx rfl (hb hby d1_54) kX)
              by_cases hc56 : p0 = (6 : Int32)
              ·
                refine OGo.go (B := s₁.setTop (mkF m 59 #[.val (.int p0)] [])) ?_ (fun tX kX => XS.icmpNo X0.here hx rfl (hb hby d1_56) rfl (teq hc56).2 kX)
                obtain ⟨T7, X7, e7, st7⟩ := getS2 X0 hx hZ hown (host := "") (Or.inl (hw _ (List.mem_of_getElem? (i := 26) rfl))) Via.refl e0 S_REAL (g := (mkF m 59 #[.val (.int p0)] [])) rfl (hb hby d1_59)
                refine OGo.go (B := T7.setTop (mkF m 62 #[.val (.int p0)] [(.ref u_REAL)])) ?_ st7
                refine OGo.ret X7 (v := (some (.ref u_REAL))) (fun h => by rw [Bd.returns] at h; cases h) (BodyLoose.notSynchronized Bd) (fun fs hr => retOut X7 hx Bd.returns rfl (Or.inr (Or.inr (Or.inr (Or.inr ⟨rfl, rfl, rfl⟩)))) (hb hby d1_62) hr) (Q := Q1 Z p0 u_BOOLEAN u_BYTEA u_BIGINT u_SMALLINT u_INTEGER u_TEXT u_REAL u_DOUBLE_PRECISION u_DATE u_TIME u_TIMESTAMP u_TIMESTAMP_WITH_TIME_ZONE u_NUMERIC h0 n0) ?_ (by decide) (by decide)
                show Q1 Z p0 u_BOOLEAN u_BYTEA u_BIGINT u_SMALLINT u_INTEGER u_TEXT u_REAL u_DOUBLE_PRECISION u_DATE u_TIME u_TIMESTAMP u_TIMESTAMP_WITH_TIME_ZONE u_NUMERIC h0 n0 _ T7.heap _
                rw [e7]
                exact ⟨u_REAL, (700 : Int32), rfl, N0, rfl, E_u_REAL, F_oid_u_REAL, (Or.inl ⟨hc56, rfl, rfl⟩)⟩
              ·
                refine OGo.go (B := s₁.setTop (mkF m 63 #[.val (.int p0)] [])) ?_ (fun tX kX => XS.icmpYes X0.here hx rfl (pc0 := 56) (pc' := 63) rfl (hb hby d1_56) rfl (feq hc56).2 (by decide) (by decide) kX)
                refine OGo.go (B := s₁.setTop (mkF m 64 #[.val (.int p0)] [(.int p0)])) ?_ (fun tX kX => XS.iloadN X0.here hx rfl (hb hby d1_63) rfl kX)
                refine OGo.go (B := s₁.setTop (mkF m 66 #[.val (.int p0)] [(.int (7 : Int32)), (.int p0)])) ?_ (fun tX kX => XS.bipush X0.here hx rfl (hb hby d1_64) kX)
                by_cases hc66 : p0 = (7 : Int32)
                ·
                  refine OGo.go (B := s₁.setTop (mkF m 69 #[.val (.int p0)] [])) ?_ (fun tX kX => XS.icmpNo X0.here hx rfl (hb hby d1_66) rfl (teq hc66).2 kX)
                  obtain ⟨T8, X8, e8, st8⟩ := getS2 X0 hx hZ hown (host := "") (Or.inl (hw _ (List.mem_of_getElem? (i := 29) rfl))) Via.refl e0 S_DOUBLE_PRECISION (g := (mkF m 69 #[.val (.int p0)] [])) rfl (hb hby d1_69)
                  refine OGo.go (B := T8.setTop (mkF m 72 #[.val (.int p0)] [(.ref u_DOUBLE_PRECISION)])) ?_ st8
                  refine OGo.ret X8 (v := (some (.ref u_DOUBLE_PRECISION))) (fun h => by rw [Bd.returns] at h; cases h) (BodyLoose.notSynchronized Bd) (fun fs hr => retOut X8 hx Bd.returns rfl (Or.inr (Or.inr (Or.inr (Or.inr ⟨rfl, rfl, rfl⟩)))) (hb hby d1_72) hr) (Q := Q1 Z p0 u_BOOLEAN u_BYTEA u_BIGINT u_SMALLINT u_INTEGER u_TEXT u_REAL u_DOUBLE_PRECISION u_DATE u_TIME u_TIMESTAMP u_TIMESTAMP_WITH_TIME_ZONE u_NUMERIC h0 n0) ?_ (by decide) (by decide)
                  show Q1 Z p0 u_BOOLEAN u_BYTEA u_BIGINT u_SMALLINT u_INTEGER u_TEXT u_REAL u_DOUBLE_PRECISION u_DATE u_TIME u_TIMESTAMP u_TIMESTAMP_WITH_TIME_ZONE u_NUMERIC h0 n0 _ T8.heap _
                  rw [e8]
                  exact ⟨u_DOUBLE_PRECISION, (701 : Int32), rfl, N0, rfl, E_u_DOUBLE_PRECISION, F_oid_u_DOUBLE_PRECISION, (Or.inr (Or.inl ⟨hc66, rfl, rfl⟩))⟩
                ·
                  refine OGo.go (B := s₁.setTop (mkF m 73 #[.val (.int p0)] [])) ?_ (fun tX kX => XS.icmpYes X0.here hx rfl (pc0 := 66) (pc' := 73) rfl (hb hby d1_66) rfl (feq hc66).2 (by decide) (by decide) kX)
                  refine OGo.go (B := s₁.setTop (mkF m 74 #[.val (.int p0)] [(.int p0)])) ?_ (fun tX kX => XS.iloadN X0.here hx rfl (hb hby d1_73) rfl kX)
                  refine OGo.go (B := s₁.setTop (mkF m 76 #[.val (.int p0)] [(.int (8 : Int32)), (.int p0)])) ?_ (fun tX kX => XS.bipush X0.here hx rfl (hb hby d1_74) kX)
                  by_cases hc76 : p0 = (8 : Int32)
                  ·
                    refine OGo.go (B := s₁.setTop (mkF m 79 #[.val (.int p0)] [])) ?_ (fun tX kX => XS.icmpNo X0.here hx rfl (hb hby d1_76) rfl (teq hc76).2 kX)
                    obtain ⟨T9, X9, e9, st9⟩ := getS2 X0 hx hZ hown (host := "") (Or.inl (hw _ (List.mem_of_getElem? (i := 38) rfl))) Via.refl e0 S_DATE (g := (mkF m 79 #[.val (.int p0)] [])) rfl (hb hby d1_79)
                    refine OGo.go (B := T9.setTop (mkF m 82 #[.val (.int p0)] [(.ref u_DATE)])) ?_ st9
                    refine OGo.ret X9 (v := (some (.ref u_DATE))) (fun h => by rw [Bd.returns] at h; cases h) (BodyLoose.notSynchronized Bd) (fun fs hr => retOut X9 hx Bd.returns rfl (Or.inr (Or.inr (Or.inr (Or.inr ⟨rfl, rfl, rfl⟩)))) (hb hby d1_82) hr) (Q := Q1 Z p0 u_BOOLEAN u_BYTEA u_BIGINT u_SMALLINT u_INTEGER u_TEXT u_REAL u_DOUBLE_PRECISION u_DATE u_TIME u_TIMESTAMP u_TIMESTAMP_WITH_TIME_ZONE u_NUMERIC h0 n0) ?_ (by decide) (by decide)
                    show Q1 Z p0 u_BOOLEAN u_BYTEA u_BIGINT u_SMALLINT u_INTEGER u_TEXT u_REAL u_DOUBLE_PRECISION u_DATE u_TIME u_TIMESTAMP u_TIMESTAMP_WITH_TIME_ZONE u_NUMERIC h0 n0 _ T9.heap _
                    rw [e9]
                    exact ⟨u_DATE, (1082 : Int32), rfl, N0, rfl, E_u_DATE, F_oid_u_DATE, (Or.inr (Or.inr ⟨(by rw [hc76]; decide), (by rw [hc76]; decide), (Fld.ne F_oid_u_DATE F_oid_u_REAL (by decide)), (Fld.ne F_oid_u_DATE F_oid_u_DOUBLE_PRECISION (by decide)), by decide, by decide⟩))⟩
                  ·
                    refine OGo.go (B := s₁.setTop (mkF m 83 #[.val (.int p0)] [])) ?_ (fun tX kX => XS.icmpYes X0.here hx rfl (pc0 := 76) (pc' := 83) rfl (hb hby d1_76) rfl (feq hc76).2 (by decide) (by decide) kX)
                    refine OGo.go (B := s₁.setTop (mkF m 84 #[.val (.int p0)] [(.int p0)])) ?_ (fun tX kX => XS.iloadN X0.here hx rfl (hb hby d1_83) rfl kX)
                    refine OGo.go (B := s₁.setTop (mkF m 86 #[.val (.int p0)] [(.int (9 : Int32)), (.int p0)])) ?_ (fun tX kX => XS.bipush X0.here hx rfl (hb hby d1_84) kX)
                    by_cases hc86 : p0 = (9 : Int32)
                    ·
                      refine OGo.go (B := s₁.setTop (mkF m 89 #[.val (.int p0)] [])) ?_ (fun tX kX => XS.icmpNo X0.here hx rfl (hb hby d1_86) rfl (teq hc86).2 kX)
                      obtain ⟨T10, X10, e10, st10⟩ := getS2 X0 hx hZ hown (host := "") (Or.inl (hw _ (List.mem_of_getElem? (i := 30) rfl))) Via.refl e0 S_TIME (g := (mkF m 89 #[.val (.int p0)] [])) rfl (hb hby d1_89)
                      refine OGo.go (B := T10.setTop (mkF m 92 #[.val (.int p0)] [(.ref u_TIME)])) ?_ st10
                      refine OGo.ret X10 (v := (some (.ref u_TIME))) (fun h => by rw [Bd.returns] at h; cases h) (BodyLoose.notSynchronized Bd) (fun fs hr => retOut X10 hx Bd.returns rfl (Or.inr (Or.inr (Or.inr (Or.inr ⟨rfl, rfl, rfl⟩)))) (hb hby d1_92) hr) (Q := Q1 Z p0 u_BOOLEAN u_BYTEA u_BIGINT u_SMALLINT u_INTEGER u_TEXT u_REAL u_DOUBLE_PRECISION u_DATE u_TIME u_TIMESTAMP u_TIMESTAMP_WITH_TIME_ZONE u_NUMERIC h0 n0) ?_ (by decide) (by decide)
                      show Q1 Z p0 u_BOOLEAN u_BYTEA u_BIGINT u_SMALLINT u_INTEGER u_TEXT u_REAL u_DOUBLE_PRECISION u_DATE u_TIME u_TIMESTAMP u_TIMESTAMP_WITH_TIME_ZONE u_NUMERIC h0 n0 _ T10.heap _
                      rw [e10]
                      exact ⟨u_TIME, (1083 : Int32), rfl, N0, rfl, E_u_TIME, F_oid_u_TIME, (Or.inr (Or.inr ⟨(by rw [hc86]; decide), (by rw [hc86]; decide), (Fld.ne F_oid_u_TIME F_oid_u_REAL (by decide)), (Fld.ne F_oid_u_TIME F_oid_u_DOUBLE_PRECISION (by decide)), by decide, by decide⟩))⟩
                    ·
                      refine OGo.go (B := s₁.setTop (mkF m 93 #[.val (.int p0)] [])) ?_ (fun tX kX => XS.icmpYes X0.here hx rfl (pc0 := 86) (pc' := 93) rfl (hb hby d1_86) rfl (feq hc86).2 (by decide) (by decide) kX)
                      refine OGo.go (B := s₁.setTop (mkF m 94 #[.val (.int p0)] [(.int p0)])) ?_ (fun tX kX => XS.iloadN X0.here hx rfl (hb hby d1_93) rfl kX)
                      refine OGo.go (B := s₁.setTop (mkF m 96 #[.val (.int p0)] [(.int (10 : Int32)), (.int p0)])) ?_ (fun tX kX => XS.bipush X0.here hx rfl (hb hby d1_94) kX)
                      by_cases hc96 : p0 = (10 : Int32)
                      ·
                        refine OGo.go (B := s₁.setTop (mkF m 99 #[.val (.int p0)] [])) ?_ (fun tX kX => XS.icmpNo X0.here hx rfl (hb hby d1_96) rfl (teq hc96).2 kX)
                        obtain ⟨T11, X11, e11, st11⟩ := getS2 X0 hx hZ hown (host := "") (Or.inl (hw _ (List.mem_of_getElem? (i := 40) rfl))) Via.refl e0 S_TIMESTAMP (g := (mkF m 99 #[.val (.int p0)] [])) rfl (hb hby d1_99)
                        refine OGo.go (B := T11.setTop (mkF m 102 #[.val (.int p0)] [(.ref u_TIMESTAMP)])) ?_ st11
                        refine OGo.ret X11 (v := (some (.ref u_TIMESTAMP))) (fun h => by rw [Bd.returns] at h; cases h) (BodyLoose.notSynchronized Bd) (fun fs hr => retOut X11 hx Bd.returns rfl (Or.inr (Or.inr (Or.inr (Or.inr ⟨rfl, rfl, rfl⟩)))) (hb hby d1_102) hr) (Q := Q1 Z p0 u_BOOLEAN u_BYTEA u_BIGINT u_SMALLINT u_INTEGER u_TEXT u_REAL u_DOUBLE_PRECISION u_DATE u_TIME u_TIMESTAMP u_TIMESTAMP_WITH_TIME_ZONE u_NUMERIC h0 n0) ?_ (by decide) (by decide)
                        show Q1 Z p0 u_BOOLEAN u_BYTEA u_BIGINT u_SMALLINT u_INTEGER u_TEXT u_REAL u_DOUBLE_PRECISION u_DATE u_TIME u_TIMESTAMP u_TIMESTAMP_WITH_TIME_ZONE u_NUMERIC h0 n0 _ T11.heap _
                        rw [e11]
                        exact ⟨u_TIMESTAMP, (1114 : Int32), rfl, N0, rfl, E_u_TIMESTAMP, F_oid_u_TIMESTAMP, (Or.inr (Or.inr ⟨(by rw [hc96]; decide), (by rw [hc96]; decide), (Fld.ne F_oid_u_TIMESTAMP F_oid_u_REAL (by decide)), (Fld.ne F_oid_u_TIMESTAMP F_oid_u_DOUBLE_PRECISION (by decide)), by decide, by decide⟩))⟩
                      ·
                        refine OGo.go (B := s₁.setTop (mkF m 103 #[.val (.int p0)] [])) ?_ (fun tX kX => XS.icmpYes X0.here hx rfl (pc0 := 96) (pc' := 103) rfl (hb hby d1_96) rfl (feq hc96).2 (by decide) (by decide) kX)
                        refine OGo.go (B := s₁.setTop (mkF m 104 #[.val (.int p0)] [(.int p0)])) ?_ (fun tX kX => XS.iloadN X0.here hx rfl (hb hby d1_103) rfl kX)
                        refine OGo.go (B := s₁.setTop (mkF m 106 #[.val (.int p0)] [(.int (11 : Int32)), (.int p0)])) ?_ (fun tX kX => XS.bipush X0.here hx rfl (hb hby d1_104) kX)
                        by_cases hc106 : p0 = (11 : Int32)
                        ·
                          refine OGo.go (B := s₁.setTop (mkF m 109 #[.val (.int p0)] [])) ?_ (fun tX kX => XS.icmpNo X0.here hx rfl (hb hby d1_106) rfl (teq hc106).2 kX)
                          obtain ⟨T12, X12, e12, st12⟩ := getS2 X0 hx hZ hown (host := "") (Or.inl (hw _ (List.mem_of_getElem? (i := 34) rfl))) Via.refl e0 S_TIMESTAMP_WITH_TIME_ZONE (g := (mkF m 109 #[.val (.int p0)] [])) rfl (hb hby d1_109)
                          refine OGo.go (B := T12.setTop (mkF m 112 #[.val (.int p0)] [(.ref u_TIMESTAMP_WITH_TIME_ZONE)])) ?_ st12
                          refine OGo.ret X12 (v := (some (.ref u_TIMESTAMP_WITH_TIME_ZONE))) (fun h => by rw [Bd.returns] at h; cases h) (BodyLoose.notSynchronized Bd) (fun fs hr => retOut X12 hx Bd.returns rfl (Or.inr (Or.inr (Or.inr (Or.inr ⟨rfl, rfl, rfl⟩)))) (hb hby d1_112) hr) (Q := Q1 Z p0 u_BOOLEAN u_BYTEA u_BIGINT u_SMALLINT u_INTEGER u_TEXT u_REAL u_DOUBLE_PRECISION u_DATE u_TIME u_TIMESTAMP u_TIMESTAMP_WITH_TIME_ZONE u_NUMERIC h0 n0) ?_ (by decide) (by decide)
                          show Q1 Z p0 u_BOOLEAN u_BYTEA u_BIGINT u_SMALLINT u_INTEGER u_TEXT u_REAL u_DOUBLE_PRECISION u_DATE u_TIME u_TIMESTAMP u_TIMESTAMP_WITH_TIME_ZONE u_NUMERIC h0 n0 _ T12.heap _
                          rw [e12]
                          exact ⟨u_TIMESTAMP_WITH_TIME_ZONE, (1184 : Int32), rfl, N0, rfl, E_u_TIMESTAMP_WITH_TIME_ZONE, F_oid_u_TIMESTAMP_WITH_TIME_ZONE, (Or.inr (Or.inr ⟨(by rw [hc106]; decide), (by rw [hc106]; decide), (Fld.ne F_oid_u_TIMESTAMP_WITH_TIME_ZONE F_oid_u_REAL (by decide)), (Fld.ne F_oid_u_TIMESTAMP_WITH_TIME_ZONE F_oid_u_DOUBLE_PRECISION (by decide)), by decide, by decide⟩))⟩
                        ·
                          refine OGo.go (B := s₁.setTop (mkF m 113 #[.val (.int p0)] [])) ?_ (fun tX kX => XS.icmpYes X0.here hx rfl (pc0 := 106) (pc' := 113) rfl (hb hby d1_106) rfl (feq hc106).2 (by decide) (by decide) kX)
                          obtain ⟨T13, X13, e13, st13⟩ := getS2 X0 hx hZ hown (host := "") (Or.inl (hw _ (List.mem_of_getElem? (i := 42) rfl))) Via.refl e0 S_NUMERIC (g := (mkF m 113 #[.val (.int p0)] [])) rfl (hb hby d1_113)
                          refine OGo.go (B := T13.setTop (mkF m 116 #[.val (.int p0)] [(.ref u_NUMERIC)])) ?_ st13
                          refine OGo.ret X13 (v := (some (.ref u_NUMERIC))) (fun h => by rw [Bd.returns] at h; cases h) (BodyLoose.notSynchronized Bd) (fun fs hr => retOut X13 hx Bd.returns rfl (Or.inr (Or.inr (Or.inr (Or.inr ⟨rfl, rfl, rfl⟩)))) (hb hby d1_116) hr) (Q := Q1 Z p0 u_BOOLEAN u_BYTEA u_BIGINT u_SMALLINT u_INTEGER u_TEXT u_REAL u_DOUBLE_PRECISION u_DATE u_TIME u_TIMESTAMP u_TIMESTAMP_WITH_TIME_ZONE u_NUMERIC h0 n0) ?_ (by decide) (by decide)
                          show Q1 Z p0 u_BOOLEAN u_BYTEA u_BIGINT u_SMALLINT u_INTEGER u_TEXT u_REAL u_DOUBLE_PRECISION u_DATE u_TIME u_TIMESTAMP u_TIMESTAMP_WITH_TIME_ZONE u_NUMERIC h0 n0 _ T13.heap _
                          rw [e13]
                          exact ⟨u_NUMERIC, (1700 : Int32), rfl, N0, rfl, E_u_NUMERIC, F_oid_u_NUMERIC, (Or.inr (Or.inr ⟨hc56, hc66, (Fld.ne F_oid_u_NUMERIC F_oid_u_REAL (by decide)), (Fld.ne F_oid_u_NUMERIC F_oid_u_DOUBLE_PRECISION (by decide)), by decide, by decide⟩))⟩
theorem d2_0 : decode prog_43_method_13_code 0 = .ok (.aload_n 0, 1) := by decide +kernel
theorem d2_1 : decode prog_43_method_13_code 1 = .ok (.getstatic 22, 3) := by decide +kernel
theorem d2_4 : decode prog_43_method_13_code 4 = .ok (.if_acmp .eq 10, 3) := by decide +kernel
theorem d2_14 : decode prog_43_method_13_code 14 = .ok (.iconst 1, 1) := by decide +kernel
theorem d2_15 : decode prog_43_method_13_code 15 = .ok (.goto 4, 3) := by decide +kernel
theorem d2_19 : decode prog_43_method_13_code 19 = .ok (.ireturn, 1) := by decide +kernel
theorem d2_7 : decode prog_43_method_13_code 7 = .ok (.aload_n 0, 1) := by decide +kernel
theorem d2_8 : decode prog_43_method_13_code 8 = .ok (.getstatic 25, 3) := by decide +kernel
theorem d2_11 : decode prog_43_method_13_code 11 = .ok (.if_acmp .ne 7, 3) := by decide +kernel
theorem d2_18 : decode prog_43_method_13_code 18 = .ok (.iconst 0, 1) := by decide +kernel
theorem pn_com_example_orderly_session_orderlysession_postgresql_PgType : plainName "com/example/orderly_session/orderlysession/postgresql/PgType" = true := by first | (simp [plainName, overriddenIn]; done) | decide +kernel
def Q2 (Z : State) (a0 : Addr) (u_REAL : Addr) (u_DOUBLE_PRECISION : Addr) (h0 : Heap) (n0 : Nat) (v : Option Value) (h : Heap) (L : List Loc) : Prop := v = some (.int (if a0 = u_REAL ∨ a0 = u_DOUBLE_PRECISION then (1 : Int32) else (0 : Int32))) ∧ Fr n0 L ∧ h = h0
def P2 (Z : State) (a0 : Addr) (u_REAL : Addr) (u_DOUBLE_PRECISION : Addr) (h0 : Heap) (n0 : Nat) (s : State) (o : Outcome) (U' : State) : Prop := ∃ v L, o = .returned v ∧ Q2 Z a0 u_REAL u_DOUBLE_PRECISION h0 n0 v U'.heap L ∧ FrameEnd s o U' L ({ frames := 0, cells := 0, slots := 0, locals := 0 } : Room).cells ({ frames := 0, cells := 0, slots := 0, locals := 0 } : Room).slots
set_option maxRecDepth 65536 in
set_option maxHeartbeats 40000000 in
theorem rm2 (l : Launch) (Z : State) (aV : Array Value) (hw : ∀ d ∈ tables_1, d.before aV Z = true) (ws : List Jvm.Cond) (a0 : Addr) (u_REAL : Addr) (u_DOUBLE_PRECISION : Addr) (h0 : Heap) (n0 : Nat) (Z0 : n0 ≤ h0.size) (S_REAL : Sta Z h0 "com/example/orderly_session/orderlysession/postgresql/PgType" "REAL" "Lcom/example/orderly_session/orderlysession/postgresql/PgType;" (.ref u_REAL)) (S_DOUBLE_PRECISION : Sta Z h0 "com/example/orderly_session/orderlysession/postgresql/PgType" "DOUBLE_PRECISION" "Lcom/example/orderly_session/orderlysession/postgresql/PgType;" (.ref u_DOUBLE_PRECISION)) :
    MetFree l (⟨"com/example/orderly_session/orderlysession/postgresql/PgType", "roundedInText", "()Z"⟩ : MethodName) (head1 (Jvm.Cond.code (⟨"com/example/orderly_session/orderlysession/postgresql/PgType", "roundedInText", "()Z"⟩ : MethodName) prog_43_method_13_code 1 (some .boolean) :: ws) ({ frames := 0, cells := 0, slots := 0, locals := 0 } : Room)) (fun a U => a = #[(.ref a0)] ∧ Z.Warmed39 U.vm ∧ U.heap = h0) (fun _ _ _ _ _ => True) (fun _ U o U' => ∃ v L, o = .returned v ∧ Q2 Z a0 u_REAL u_DOUBLE_PRECISION h0 n0 v U'.heap L ∧ FrameEnd U o U' L ({ frames := 0, cells := 0, slots := 0, locals := 0 } : Room).cells ({ frames := 0, cells := 0, slots := 0, locals := 0 } : Room).slots) := by
  refine MetFree.of_bodySF (plainFor_of_name pn_com_example_orderly_session_orderlysession_postgresql_PgType) hisR ?_
  intro p e s m args below meth c s₁ Bd hml0 hP hK
  obtain ⟨rfl, hZ, hh⟩ := hP
  have hx := Bd.exec
  have hby := Bd.bytes
  have hml : c.maxLocals = 1 := hml0
  have hown : s.vm.findClass "com/example/orderly_session/orderlysession/postgresql/PgType" = some m.cls := findClass_of_methodNamed Bd.named
  have hnm := (name_of_methodNamed Bd.named Bd.method).1
  have X0 : Stand p l e ({ frames := 0, cells := 0, slots := 0, locals := 0 } : Room) s m #[(.ref a0)] below meth c s₁ [] 0 0 := Stand.of_body Bd
  have e0 : s₁.heap = h0 := by rw [← hh, Bd.state]; rfl
  have efx : entryFrame m #[(.ref a0)] 1 = mkF m 0 #[.val (.ref a0)] [] := by first | (simp [entryFrame, mkF, argsToLocals, Value.category]; done) | rfl
  have N0 := Fr.nil n0
  have K0 : Keep h0 h0 [] := Keep.refl h0 _
  refine OGo.start (g' := mkF m 0 #[.val (.ref a0)] []) (efx) ?_
  show OGo p.tables e below (P2 Z a0 u_REAL u_DOUBLE_PRECISION h0 n0 s) (s₁.setTop (mkF m 0 #[.val (.ref a0)] []))
  refine OGo.go (B := s₁.setTop (mkF m 1 #[.val (.ref a0)] [(.ref a0)])) ?_ (fun tX kX => XS.aloadN X0.here hx rfl (hb hby d2_0) rfl rfl kX)
  obtain ⟨T1, X1, e1, st1⟩ := getS2 X0 hx hZ hown (host := "") (Or.inl (hw _ (List.mem_of_getElem? (i := 13) rfl))) Via.refl e0 S_REAL (g := (mkF m 1 #[.val (.ref a0)] [(.ref a0)])) rfl (hb hby d2_1)
  refine OGo.go (B := T1.setTop (mkF m 4 #[.val (.ref a0)] [(.ref u_REAL), (.ref a0)])) ?_ st1
  by_cases ha4 : a0 = u_REAL
  ·
    refine OGo.go (B := T1.setTop (mkF m 14 #[.val (.ref a0)] [])) ?_ (fun tX kX => Jvm.RoadKit.acmp (g := (mkF m 4 #[.val (.ref a0)] [(.ref u_REAL), (.ref a0)])) X1 hx rfl rfl rfl (pc0 := 4) (pc' := 14) (same := true) rfl (hb hby d2_4) rfl (decide_eq_true (congrArg Value.ref ha4)) (by decide) (by decide) kX)
    refine OGo.go (B := T1.setTop (mkF m 15 #[.val (.ref a0)] [(.int (1 : Int32))])) ?_ (fun tX kX => XS.iconst X1.here hx rfl (hb hby d2_14) kX)
    refine OGo.go (B := T1.setTop (mkF m 19 #[.val (.ref a0)] [(.int (1 : Int32))])) ?_ (fun tX kX => XS.goto X1.here hx rfl (pc0 := 15) (pc' := 19) rfl (hb hby d2_15) (by decide) (by decide) kX)
    refine OGo.ret X1 (v := (some (.int (1 : Int32)))) (fun h => by rw [Bd.returns] at h; cases h) (BodyLoose.notSynchronized Bd) (fun fs hr => retN X1 hx (t := .boolean) (z := (1 : Int32)) Bd.returns (by simp) (hb hby d2_19) hr) (Q := Q2 Z a0 u_REAL u_DOUBLE_PRECISION h0 n0) ?_ (by decide) (by decide)
    show Q2 Z a0 u_REAL u_DOUBLE_PRECISION h0 n0 _ T1.heap _
    rw [e1]
    exact ⟨(congrArg (fun z => some (Value.int z)) (if_pos (Or.inl ha4)).symm), N0, rfl⟩
  ·
    refine OGo.go (B := T1.setTop (mkF m 7 #[.val (.ref a0)] [])) ?_ (fun tX kX => Jvm.RoadKit.acmp (g := (mkF m 4 #[.val (.ref a0)] [(.ref u_REAL), (.ref a0)])) X1 hx rfl rfl rfl (pc0 := 4) (pc' := 7) (same := false) rfl (hb hby d2_4) rfl (decide_eq_false fun q => ha4 (Value.ref.inj q)) (by decide) (by decide) kX)
    refine OGo.go (B := T1.setTop (mkF m 8 #[.val (.ref a0)] [(.ref a0)])) ?_ (fun tX kX => XS.aloadN X1.here hx rfl (hb hby d2_7) rfl rfl kX)
    obtain ⟨T2, X2, e2, st2⟩ := getS2 X1 hx hZ hown (host := "") (Or.inl (hw _ (List.mem_of_getElem? (i := 15) rfl))) Via.refl e1 S_DOUBLE_PRECISION (g := (mkF m 8 #[.val (.ref a0)] [(.ref a0)])) rfl (hb hby d2_8)
    refine OGo.go (B := T2.setTop (mkF m 11 #[.val (.ref a0)] [(.ref u_DOUBLE_PRECISION), (.ref a0)])) ?_ st2
    by_cases ha11 : a0 = u_DOUBLE_PRECISION
    ·
      refine OGo.go (B := T2.setTop (mkF m 14 #[.val (.ref a0)] [])) ?_ (fun tX kX => Jvm.RoadKit.acmp (g := (mkF m 11 #[.val (.ref a0)] [(.ref u_DOUBLE_PRECISION), (.ref a0)])) X2 hx rfl rfl rfl (pc0 := 11) (pc' := 14) (same := true) rfl (hb hby d2_11) rfl (decide_eq_true (congrArg Value.ref ha11)) (by decide) (by decide) kX)
      refine OGo.go (B := T2.setTop (mkF m 15 #[.val (.ref a0)] [(.int (1 : Int32))])) ?_ (fun tX kX => XS.iconst X2.here hx rfl (hb hby d2_14) kX)
      refine OGo.go (B := T2.setTop (mkF m 19 #[.val (.ref a0)] [(.int (1 : Int32))])) ?_ (fun tX kX => XS.goto X2.here hx rfl (pc0 := 15) (pc' := 19) rfl (hb hby d2_15) (by decide) (by decide) kX)
      refine OGo.ret X2 (v := (some (.int (1 : Int32)))) (fun h => by rw [Bd.returns] at h; cases h) (BodyLoose.notSynchronized Bd) (fun fs hr => retN X2 hx (t := .boolean) (z := (1 : Int32)) Bd.returns (by simp) (hb hby d2_19) hr) (Q := Q2 Z a0 u_REAL u_DOUBLE_PRECISION h0 n0) ?_ (by decide) (by decide)
      show Q2 Z a0 u_REAL u_DOUBLE_PRECISION h0 n0 _ T2.heap _
      rw [e2]
      exact ⟨(congrArg (fun z => some (Value.int z)) (if_pos (Or.inr ha11)).symm), N0, rfl⟩
    ·
      refine OGo.go (B := T2.setTop (mkF m 18 #[.val (.ref a0)] [])) ?_ (fun tX kX => Jvm.RoadKit.acmp (g := (mkF m 11 #[.val (.ref a0)] [(.ref u_DOUBLE_PRECISION), (.ref a0)])) X2 hx rfl rfl rfl (pc0 := 11) (pc' := 18) (same := false) rfl (hb hby d2_11) rfl (decide_eq_false fun q => ha11 (Value.ref.inj q)) (by decide) (by decide) kX)
      refine OGo.go (B := T2.setTop (mkF m 19 #[.val (.ref a0)] [(.int (0 : Int32))])) ?_ (fun tX kX => XS.iconst X2.here hx rfl (hb hby d2_18) kX)
      refine OGo.ret X2 (v := (some (.int (0 : Int32)))) (fun h => by rw [Bd.returns] at h; cases h) (BodyLoose.notSynchronized Bd) (fun fs hr => retN X2 hx (t := .boolean) (z := (0 : Int32)) Bd.returns (by simp) (hb hby d2_19) hr) (Q := Q2 Z a0 u_REAL u_DOUBLE_PRECISION h0 n0) ?_ (by decide) (by decide)
      show Q2 Z a0 u_REAL u_DOUBLE_PRECISION h0 n0 _ T2.heap _
      rw [e2]
      exact ⟨(congrArg (fun z => some (Value.int z)) (if_neg (fun q => q.elim ha4 ha11)).symm), N0, rfl⟩
theorem d3_0 : decode prog_43_method_10_code 0 = .ok (.aload_n 0, 1) := by decide +kernel
theorem d3_1 : decode prog_43_method_10_code 1 = .ok (.getfield 73, 3) := by decide +kernel
theorem d3_4 : decode prog_43_method_10_code 4 = .ok (.ireturn, 1) := by decide +kernel
def Q3 (Z : State) (a0 : Addr) (od : Int32) (h0 : Heap) (n0 : Nat) (v : Option Value) (h : Heap) (L : List Loc) : Prop := v = some (.int od) ∧ Fr n0 L ∧ h = h0
def P3 (Z : State) (a0 : Addr) (od : Int32) (h0 : Heap) (n0 : Nat) (s : State) (o : Outcome) (U' : State) : Prop := ∃ v L, o = .returned v ∧ Q3 Z a0 od h0 n0 v U'.heap L ∧ FrameEnd s o U' L ({ frames := 0, cells := 0, slots := 0, locals := 0 } : Room).cells ({ frames := 0, cells := 0, slots := 0, locals := 0 } : Room).slots
set_option maxRecDepth 65536 in
set_option maxHeartbeats 40000000 in
theorem rm3 (l : Launch) (Z : State) (aV : Array Value) (hw : ∀ d ∈ tables_1, d.before aV Z = true) (ws : List Jvm.Cond) (a0 : Addr) (od : Int32) (h0 : Heap) (n0 : Nat) (Z0 : n0 ≤ h0.size) (F_oid_a0 : Fld Z h0 a0 "com/example/orderly_session/orderlysession/postgresql/PgType" "oid" "I" (.int od)) :
    MetFree l (⟨"com/example/orderly_session/orderlysession/postgresql/PgType", "oid", "()I"⟩ : MethodName) (head1 (Jvm.Cond.code (⟨"com/example/orderly_session/orderlysession/postgresql/PgType", "oid", "()I"⟩ : MethodName) prog_43_method_10_code 1 (some .int) :: ws) ({ frames := 0, cells := 0, slots := 0, locals := 0 } : Room)) (fun a U => a = #[(.ref a0)] ∧ Z.Warmed39 U.vm ∧ U.heap = h0) (fun _ _ _ _ _ => True) (fun _ U o U' => ∃ v L, o = .returned v ∧ Q3 Z a0 od h0 n0 v U'.heap L ∧ FrameEnd U o U' L ({ frames := 0, cells := 0, slots := 0, locals := 0 } : Room).cells ({ frames := 0, cells := 0, slots := 0, locals := 0 } : Room).slots) := by
  refine MetFree.of_bodySF (plainFor_of_name pn_com_example_orderly_session_orderlysession_postgresql_PgType) hisR ?_
  intro p e s m args below meth c s₁ Bd hml0 hP hK
  obtain ⟨rfl, hZ, hh⟩ := hP
  have hx := Bd.exec
  have hby := Bd.bytes
  have hml : c.maxLocals = 1 := hml0
  have hown : s.vm.findClass "com/example/orderly_session/orderlysession/postgresql/PgType" = some m.cls := findClass_of_methodNamed Bd.named
  have hnm := (name_of_methodNamed Bd.named Bd.method).1
  have X0 : Stand p l e ({ frames := 0, cells := 0, slots := 0, locals := 0 } : Room) s m #[(.ref a0)] below meth c s₁ [] 0 0 := Stand.of_body Bd
  have e0 : s₁.heap = h0 := by rw [← hh, Bd.state]; rfl
  have efx : entryFrame m #[(.ref a0)] 1 = mkF m 0 #[.val (.ref a0)] [] := by first | (simp [entryFrame, mkF, argsToLocals, Value.category]; done) | rfl
  have N0 := Fr.nil n0
  have K0 : Keep h0 h0 [] := Keep.refl h0 _
  refine OGo.start (g' := mkF m 0 #[.val (.ref a0)] []) (efx) ?_
  show OGo p.tables e below (P3 Z a0 od h0 n0 s) (s₁.setTop (mkF m 0 #[.val (.ref a0)] []))
  refine OGo.go (B := s₁.setTop (mkF m 1 #[.val (.ref a0)] [(.ref a0)])) ?_ (fun tX kX => XS.aloadN X0.here hx rfl (hb hby d3_0) rfl rfl kX)
  obtain ⟨T1, X1, e1, st1⟩ := getF X0 hx hZ hown (host := "") (Or.inl (hw _ (List.mem_of_getElem? (i := 22) rfl))) Via.refl e0 F_oid_a0 (g := (mkF m 1 #[.val (.ref a0)] [(.ref a0)])) rfl rfl (hb hby d3_1)
  refine OGo.go (B := T1.setTop (mkF m 4 #[.val (.ref a0)] [(.int od)])) ?_ st1
  refine OGo.ret X1 (v := (some (.int od))) (fun h => by rw [Bd.returns] at h; cases h) (BodyLoose.notSynchronized Bd) (fun fs hr => retOut X1 hx Bd.returns rfl (Or.inl ⟨rfl, Or.inl rfl, _, rfl⟩) (hb hby d3_4) hr) (Q := Q3 Z a0 od h0 n0) ?_ (by decide) (by decide)
  show Q3 Z a0 od h0 n0 _ T1.heap _
  rw [e1]
  exact ⟨rfl, N0, rfl⟩
theorem pd__I_Lcom_example_orderly_session_orderlysession_postgresql_PgType_ : parseMethodDescriptor "(I)Lcom/example/orderly_session/orderlysession/postgresql/PgType;" = some ⟨[.int], some (.object "com/example/orderly_session/orderlysession/postgresql/PgType")⟩ := by decide +kernel
theorem pd___Z : parseMethodDescriptor "()Z" = some ⟨[], some .boolean⟩ := by decide +kernel
theorem pd___I : parseMethodDescriptor "()I" = some ⟨[], some .int⟩ := by decide +kernel
def Q0 (Z : State) (p0 : Int32) (u_BOOLEAN : Addr) (u_BYTEA : Addr) (u_BIGINT : Addr) (u_SMALLINT : Addr) (u_INTEGER : Addr) (u_TEXT : Addr) (u_REAL : Addr) (u_DOUBLE_PRECISION : Addr) (u_DATE : Addr) (u_TIME : Addr) (u_TIMESTAMP : Addr) (u_TIMESTAMP_WITH_TIME_ZONE : Addr) (u_NUMERIC : Addr) (h0 : Heap) (n0 : Nat) (v : Option Value) (h : Heap) (L : List Loc) : Prop := v = some (.int (1 : Int32)) ∧ Fr n0 L
def P0 (Z : State) (p0 : Int32) (u_BOOLEAN : Addr) (u_BYTEA : Addr) (u_BIGINT : Addr) (u_SMALLINT : Addr) (u_INTEGER : Addr) (u_TEXT : Addr) (u_REAL : Addr) (u_DOUBLE_PRECISION : Addr) (u_DATE : Addr) (u_TIME : Addr) (u_TIMESTAMP : Addr) (u_TIMESTAMP_WITH_TIME_ZONE : Addr) (u_NUMERIC : Addr) (h0 : Heap) (n0 : Nat) (s : State) (o : Outcome) (U' : State) : Prop := ∃ v L, o = .returned v ∧ Q0 Z p0 u_BOOLEAN u_BYTEA u_BIGINT u_SMALLINT u_INTEGER u_TEXT u_REAL u_DOUBLE_PRECISION u_DATE u_TIME u_TIMESTAMP u_TIMESTAMP_WITH_TIME_ZONE u_NUMERIC h0 n0 v U'.heap L ∧ FrameEnd s o U' L room_1.cells room_1.slots
set_option maxRecDepth 65536 in
set_option maxHeartbeats 40000000 in
theorem rm0 (l : Launch) (Z : State) (aV : Array Value) (hw : ∀ d ∈ tables_1, d.before aV Z = true) (ws : List Jvm.Cond) (p0 : Int32) (u_BOOLEAN : Addr) (u_BYTEA : Addr) (u_BIGINT : Addr) (u_SMALLINT : Addr) (u_INTEGER : Addr) (u_TEXT : Addr) (u_REAL : Addr) (u_DOUBLE_PRECISION : Addr) (u_DATE : Addr) (u_TIME : Addr) (u_TIMESTAMP : Addr) (u_TIMESTAMP_WITH_TIME_ZONE : Addr) (u_NUMERIC : Addr) (h0 : Heap) (n0 : Nat) (Z0 : n0 ≤ h0.size) (S_BOOLEAN : Sta Z h0 "com/example/orderly_session/orderlysession/postgresql/PgType" "BOOLEAN" "Lcom/example/orderly_session/orderlysession/postgresql/PgType;" (.ref u_BOOLEAN)) (E_u_BOOLEAN : Exa Z h0 u_BOOLEAN "com/example/orderly_session/orderlysession/postgresql/PgType") (S_REAL : Sta Z h0 "com/example/orderly_session/orderlysession/postgresql/PgType" "REAL" "Lcom/example/orderly_session/orderlysession/postgresql/PgType;" (.ref u_REAL)) (E_u_REAL : Exa Z h0 u_REAL "com/example/orderly_session/orderlysession/postgresql/PgType") (S_DOUBLE_PRECISION : Sta Z h0 "com/example/orderly_session/orderlysession/postgresql/PgType" "DOUBLE_PRECISION" "Lcom/example/orderly_session/orderlysession/postgresql/PgType;" (.ref u_DOUBLE_PRECISION)) (E_u_DOUBLE_PRECISION : Exa Z h0 u_DOUBLE_PRECISION "com/example/orderly_session/orderlysession/postgresql/PgType") (F_oid_u_BOOLEAN : Fld Z h0 u_BOOLEAN "com/example/orderly_session/orderlysession/postgresql/PgType" "oid" "I" (.int (16 : Int32))) (S_SMALLINT : Sta Z h0 "com/example/orderly_session/orderlysession/postgresql/PgType" "SMALLINT" "Lcom/example/orderly_session/orderlysession/postgresql/PgType;" (.ref u_SMALLINT)) (E_u_SMALLINT : Exa Z h0 u_SMALLINT "com/example/orderly_session/orderlysession/postgresql/PgType") (F_oid_u_SMALLINT : Fld Z h0 u_SMALLINT "com/example/orderly_session/orderlysession/postgresql/PgType" "oid" "I" (.int (21 : Int32))) (F_oid_u_REAL : Fld Z h0 u_REAL "com/example/orderly_session/orderlysession/postgresql/PgType" "oid" "I" (.int (700 : Int32))) (S_TEXT : Sta Z h0 "com/example/orderly_session/orderlysession/postgresql/PgType" "TEXT" "Lcom/example/orderly_session/orderlysession/postgresql/PgType;" (.ref u_TEXT)) (E_u_TEXT : Exa Z h0 u_TEXT "com/example/orderly_session/orderlysession/postgresql/PgType") (F_oid_u_TEXT : Fld Z h0 u_TEXT "com/example/orderly_session/orderlysession/postgresql/PgType" "oid" "I" (.int (25 : Int32))) (F_oid_u_DOUBLE_PRECISION : Fld Z h0 u_DOUBLE_PRECISION "com/example/orderly_session/orderlysession/postgresql/PgType" "oid" "I" (.int (701 : Int32))) (S_TIME : Sta Z h0 "com/example/orderly_session/orderlysession/postgresql/PgType" "TIME" "Lcom/example/orderly_session/orderlysession/postgresql/PgType;" (.ref u_TIME)) (E_u_TIME : Exa Z h0 u_TIME "com/example/orderly_session/orderlysession/postgresql/PgType") (F_oid_u_TIME : Fld Z h0 u_TIME "com/example/orderly_session/orderlysession/postgresql/PgType" "oid" "I" (.int (1083 : Int32))) (S_BIGINT : Sta Z h0 "com/example/orderly_session/orderlysession/postgresql/PgType" "BIGINT" "Lcom/example/orderly_session/orderlysession/postgresql/PgType;" (.ref u_BIGINT)) (E_u_BIGINT : Exa Z h0 u_BIGINT "com/example/orderly_session/orderlysession/postgresql/PgType") (F_oid_u_BIGINT : Fld Z h0 u_BIGINT "com/example/orderly_session/orderlysession/postgresql/PgType" "oid" "I" (.int (20 : Int32))) (S_TIMESTAMP_WITH_TIME_ZONE : Sta Z h0 "com/example/orderly_session/orderlysession/postgresql/PgType" "TIMESTAMP_WITH_TIME_ZONE" "Lcom/example/orderly_session/orderlysession/postgresql/PgType;" (.ref u_TIMESTAMP_WITH_TIME_ZONE)) (E_u_TIMESTAMP_WITH_TIME_ZONE : Exa Z h0 u_TIMESTAMP_WITH_TIME_ZONE "com/example/orderly_session/orderlysession/postgresql/PgType") (F_oid_u_TIMESTAMP_WITH_TIME_ZONE : Fld Z h0 u_TIMESTAMP_WITH_TIME_ZONE "com/example/orderly_session/orderlysession/postgresql/PgType" "oid" "I" (.int (1184 : Int32))) (S_BYTEA : Sta Z h0 "com/example/orderly_session/orderlysession/postgresql/PgType" "BYTEA" "Lcom/example/orderly_session/orderlysession/postgresql/PgType;" (.ref u_BYTEA)) (E_u_BYTEA : Exa Z h0 u_BYTEA "com/example/orderly_session/orderlysession/postgresql/PgType") (F_oid_u_BYTEA : Fld Z h0 u_BYTEA "com/example/orderly_session/orderlysession/postgresql/PgType" "oid" "I" (.int (17 : Int32))) (S_DATE : Sta Z h0 "com/example/orderly_session/orderlysession/postgresql/PgType" "DATE" "Lcom/example/orderly_session/orderlysession/postgresql/PgType;" (.ref u_DATE)) (E_u_DATE : Exa Z h0 u_DATE "com/example/orderly_session/orderlysession/postgresql/PgType") (F_oid_u_DATE : Fld Z h0 u_DATE "com/example/orderly_session/orderlysession/postgresql/PgType" "oid" "I" (.int (1082 : Int32))) (S_TIMESTAMP : Sta Z h0 "com/example/orderly_session/orderlysession/postgresql/PgType" "TIMESTAMP" "Lcom/example/orderly_session/orderlysession/postgresql/PgType;" (.ref u_TIMESTAMP)) (E_u_TIMESTAMP : Exa Z h0 u_TIMESTAMP "com/example/orderly_session/orderlysession/postgresql/PgType") (F_oid_u_TIMESTAMP : Fld Z h0 u_TIMESTAMP "com/example/orderly_session/orderlysession/postgresql/PgType" "oid" "I" (.int (1114 : Int32))) (S_NUMERIC : Sta Z h0 "com/example/orderly_session/orderlysession/postgresql/PgType" "NUMERIC" "Lcom/example/orderly_session/orderlysession/postgresql/PgType;" (.ref u_NUMERIC)) (E_u_NUMERIC : Exa Z h0 u_NUMERIC "com/example/orderly_session/orderlysession/postgresql/PgType") (F_oid_u_NUMERIC : Fld Z h0 u_NUMERIC "com/example/orderly_session/orderlysession/postgresql/PgType" "oid" "I" (.int (1700 : Int32))) (S_INTEGER : Sta Z h0 "com/example/orderly_session/orderlysession/postgresql/PgType" "INTEGER" "Lcom/example/orderly_session/orderlysession/postgresql/PgType;" (.ref u_INTEGER)) (E_u_INTEGER : Exa Z h0 u_INTEGER "com/example/orderly_session/orderlysession/postgresql/PgType") (F_oid_u_INTEGER : Fld Z h0 u_INTEGER "com/example/orderly_session/orderlysession/postgresql/PgType" "oid" "I" (.int (23 : Int32))) :
    MetFree l x (head1 (Jvm.Cond.code x code maxLocals ret :: ws) room_1) (fun a U => a = #[(.int p0)] ∧ Z.Warmed39 U.vm ∧ U.heap = h0) (fun _ _ _ _ _ => True) (fun _ U o U' => ∃ v L, o = .returned v ∧ Q0 Z p0 u_BOOLEAN u_BYTEA u_BIGINT u_SMALLINT u_INTEGER u_TEXT u_REAL u_DOUBLE_PRECISION u_DATE u_TIME u_TIMESTAMP u_TIMESTAMP_WITH_TIME_ZONE u_NUMERIC h0 n0 v U'.heap L ∧ FrameEnd U o U' L room_1.cells room_1.slots) := by
  refine MetFree.of_bodySF (plainFor_of_name pn_com_example_orderly_session_orderlysession_postgresql_PgTypeRoundedInTextPinLaw) hisR ?_
  intro p e s m args below meth c s₁ Bd hml0 hP hK
  obtain ⟨rfl, hZ, hh⟩ := hP
  have hx := Bd.exec
  have hby := Bd.bytes
  have hml : c.maxLocals = 7 := hml0
  have hown : s.vm.findClass "com/example/orderly_session/orderlysession/postgresql/PgTypeRoundedInTextPinLaw" = some m.cls := findClass_of_methodNamed Bd.named
  have hnm := (name_of_methodNamed Bd.named Bd.method).1
  have X0 : Stand p l e room_1 s m #[(.int p0)] below meth c s₁ [] 0 0 := Stand.of_body Bd
  have e0 : s₁.heap = h0 := by rw [← hh, Bd.state]; rfl
  have efx : entryFrame m #[(.int p0)] maxLocals = mkF m 0 #[.val (.int p0), .unset, .unset, .unset, .unset, .unset, .unset] [] := by first | (simp [entryFrame, mkF, argsToLocals, Value.category, maxLocals]; done) | rfl
  have N0 := Fr.nil n0
  have K0 : Keep h0 h0 [] := Keep.refl h0 _
  refine OGo.start (g' := mkF m 0 #[.val (.int p0), .unset, .unset, .unset, .unset, .unset, .unset] []) (efx) ?_
  show OGo p.tables e below (P0 Z p0 u_BOOLEAN u_BYTEA u_BIGINT u_SMALLINT u_INTEGER u_TEXT u_REAL u_DOUBLE_PRECISION u_DATE u_TIME u_TIMESTAMP u_TIMESTAMP_WITH_TIME_ZONE u_NUMERIC h0 n0 s) (s₁.setTop (mkF m 0 #[.val (.int p0), .unset, .unset, .unset, .unset, .unset, .unset] []))
  refine OGo.go (B := s₁.setTop (mkF m 1 #[.val (.int p0), .unset, .unset, .unset, .unset, .unset, .unset] [(.int p0)])) ?_ (fun tX kX => XS.iloadN X0.here hx rfl (hb hby at_0) rfl kX)
  refine OGo.go (B := s₁.setTop (mkF m 3 #[.val (.int p0), .unset, .unset, .unset, .unset, .unset, .unset] [(.int (2147483647 : Int32)), (.int p0)])) ?_ (fun tX kX => X0.ldcInt hx hown (mvT hZ (hw _ (List.mem_of_getElem? (i := 0) rfl))) (g := (mkF m 1 #[.val (.int p0), .unset, .unset, .unset, .unset, .unset, .unset] [(.int p0)])) rfl (hb hby at_1) _ kX)
  refine OGo.go (B := s₁.setTop (mkF m 4 #[.val (.int p0), .unset, .unset, .unset, .unset, .unset, .unset] [(.int (p0 &&& (2147483647 : Int32)))])) ?_ (fun tX kX => XS.iand X0.here hx rfl (hb hby at_3) rfl kX)
  refine OGo.go (B := s₁.setTop (mkF m 6 #[.val (.int p0), .unset, .unset, .unset, .unset, .unset, .unset] [(.int (13 : Int32)), (.int (p0 &&& (2147483647 : Int32)))])) ?_ (fun tX kX => XS.bipush X0.here hx rfl (hb hby at_4) kX)
  refine OGo.go (B := s₁.setTop (mkF m 7 #[.val (.int p0), .unset, .unset, .unset, .unset, .unset, .unset] [(.int ((p0 &&& (2147483647 : Int32)) % (13 : Int32)))])) ?_ (fun tX kX => iremM X0 hx rfl (hb hby at_6) rfl (by decide) kX)
  generalize hk : ((p0 &&& (2147483647 : Int32)) % (13 : Int32)) = kv
  refine OGo.go (B := s₁.setTop (mkF m 8 #[.val (.int p0), .val (.int kv), .unset, .unset, .unset, .unset, .unset] [])) ?_ (fun tX kX => XS.istoreN X0.here hx rfl (hb hby at_7) rfl (l' := #[.val (.int p0), .val (.int kv), .unset, .unset, .unset, .unset, .unset]) rfl kX)
  refine OGo.go (B := s₁.setTop (mkF m 9 #[.val (.int p0), .val (.int kv), .unset, .unset, .unset, .unset, .unset] [(.int kv)])) ?_ (fun tX kX => XS.iloadN X0.here hx rfl (hb hby at_8) rfl kX)
  obtain ⟨_, _, ⟨T1, L1, k1, n1⟩, -, X1, ⟨Lc1, hQ1, l1, y1, z1⟩, st1⟩ := Jvm.LawKit.callS X0 hx (y := (⟨"com/example/orderly_session/orderlysession/postgresql/PgTypeRoundedInTextPinLaw", "pick", "(I)Lcom/example/orderly_session/orderlysession/postgresql/PgType;"⟩ : MethodName)) hown (mvT hZ (hw _ (List.mem_of_getElem? (i := 1) rfl))) (mvT hZ (hw _ (List.mem_of_getElem? (i := 2) rfl))) (mvT hZ (hw _ (List.mem_of_getElem? (i := 3) rfl))) (mvT hZ (hw _ (List.mem_of_getElem? (i := 4) rfl))) (by decide) (backOf (W := 0) (rm1 l Z aV hw [] kv u_BOOLEAN u_BYTEA u_BIGINT u_SMALLINT u_INTEGER u_TEXT u_REAL u_DOUBLE_PRECISION u_DATE u_TIME u_TIMESTAMP u_TIMESTAMP_WITH_TIME_ZONE u_NUMERIC h0 n0 Z0 S_BOOLEAN E_u_BOOLEAN S_REAL E_u_REAL S_DOUBLE_PRECISION E_u_DOUBLE_PRECISION F_oid_u_BOOLEAN S_SMALLINT E_u_SMALLINT F_oid_u_SMALLINT F_oid_u_REAL S_TEXT E_u_TEXT F_oid_u_TEXT F_oid_u_DOUBLE_PRECISION S_TIME E_u_TIME F_oid_u_TIME S_BIGINT E_u_BIGINT F_oid_u_BIGINT S_TIMESTAMP_WITH_TIME_ZONE E_u_TIMESTAMP_WITH_TIME_ZONE F_oid_u_TIMESTAMP_WITH_TIME_ZONE S_BYTEA E_u_BYTEA F_oid_u_BYTEA S_DATE E_u_DATE F_oid_u_DATE S_TIMESTAMP E_u_TIMESTAMP F_oid_u_TIMESTAMP S_NUMERIC E_u_NUMERIC F_oid_u_NUMERIC S_INTEGER E_u_INTEGER F_oid_u_INTEGER) hZ (hw _ (List.mem_of_getElem? (i := 4) rfl)) (hw _ (List.mem_of_getElem? (i := 3) rfl)) (by decide) (by decide)) (g := (mkF m 9 #[.val (.int p0), .val (.int kv), .unset, .unset, .unset, .unset, .unset] [(.int kv)])) rfl (by rw [hml]; rfl) (argsL := [(.int kv)]) (rest := []) (lenOf pd__I_Lcom_example_orderly_session_orderlysession_postgresql_PgType_ rfl) rfl (by show 2 * 0 + _ ≤ _; exact Nat.le_of_eq rfl) (hb hby at_9) (fun _ _ => ⟨rfl, e0, (by decide : 0 + 0 ≤ _), (by decide : 0 + 0 ≤ _)⟩)
  dsimp only [Pt.U, Pt.locs, Pt.cells, Pt.slots] at X1 l1 y1 z1 st1 hQ1
  subst l1 y1 z1
  obtain ⟨u_1, od_1, rfl, N1q, e1, E_u_1_p, F_oid_u_1_p, hr1_0⟩ := hQ1
  have N1 := Fr.app N0 N1q
  rw [e1] at E_u_1_p
  rw [e1] at F_oid_u_1_p
  have E_u_1 := E_u_1_p
  have F_oid_u_1 := F_oid_u_1_p
  refine OGo.go (B := T1.setTop (mkF m 12 #[.val (.int p0), .val (.int kv), .unset, .unset, .unset, .unset, .unset] [(.ref u_1)])) ?_ st1
  rcases hr1_0 with ⟨hk1, hk2, hk3⟩ | ⟨hk1, hk2, hk3⟩ | ⟨hk1, hk2, hk3, hk4, hk5, hk6⟩
  ·
    refine OGo.go (B := T1.setTop (mkF m 13 #[.val (.int p0), .val (.int kv), .val (.ref u_1), .unset, .unset, .unset, .unset] [])) ?_ (fun tX kX => XS.astoreN X1.here hx rfl (hb hby at_12) rfl rfl (l' := #[.val (.int p0), .val (.int kv), .val (.ref u_1), .unset, .unset, .unset, .unset]) rfl kX)
    refine OGo.go (B := T1.setTop (mkF m 14 #[.val (.int p0), .val (.int kv), .val (.ref u_1), .unset, .unset, .unset, .unset] [(.ref u_1)])) ?_ (fun tX kX => XS.aloadN X1.here hx rfl (hb hby at_13) rfl rfl kX)
    obtain ⟨cq2, kq2, q2a, q2b, q2c⟩ := isOf hZ e1 E_u_1
    obtain ⟨_, _, ⟨T2, L2, k2, n2⟩, -, X2, ⟨Lc2, hQ2, l2, y2, z2⟩, st2⟩ := X1.virtualBack hx (y := (⟨"com/example/orderly_session/orderlysession/postgresql/PgType", "roundedInText", "()Z"⟩ : MethodName)) (z := (⟨"com/example/orderly_session/orderlysession/postgresql/PgType", "roundedInText", "()Z"⟩ : MethodName)) hown (mvT hZ (hw _ (List.mem_of_getElem? (i := 8) rfl))) (mvT hZ (hw _ (List.mem_of_getElem? (i := 9) rfl))) (notFace_of_selects (args := #[]) (mvT hZ (hw _ (List.mem_of_getElem? (i := 11) rfl)))) (mvT hZ (hw _ (List.mem_of_getElem? (i := 11) rfl))) (mvT hZ (hw _ (List.mem_of_getElem? (i := 10) rfl))) (by decide) (backOf (W := 0) (rm2 l Z aV hw [] u_1 u_REAL u_DOUBLE_PRECISION h0 n0 Z0 S_REAL S_DOUBLE_PRECISION) hZ (hw _ (List.mem_of_getElem? (i := 12) rfl)) (hw _ (List.mem_of_getElem? (i := 6) rfl)) (by decide) (by decide)) q2a q2c (g := (mkF m 14 #[.val (.int p0), .val (.int kv), .val (.ref u_1), .unset, .unset, .unset, .unset] [(.ref u_1)])) rfl (by rw [hml]; rfl) (Steps.refl _) (argsL := []) (rest := []) (lenOf pd___Z rfl) rfl (by show 2 * 0 + _ ≤ _; exact Nat.le_of_eq rfl) (hb hby at_14) (fun _ _ => ⟨rfl, e1, (by decide : 0 + 0 ≤ _), (by decide : 0 + 0 ≤ _)⟩)
    dsimp only [Pt.U, Pt.locs, Pt.cells, Pt.slots] at X2 l2 y2 z2 st2 hQ2
    subst l2 y2 z2
    obtain ⟨rfl, N2q, e2⟩ := hQ2
    have N2 := Fr.app N1 N2q
    refine OGo.go (B := T2.setTop (mkF m 17 #[.val (.int p0), .val (.int kv), .val (.ref u_1), .unset, .unset, .unset, .unset] [(.int (if u_1 = u_REAL ∨ u_1 = u_DOUBLE_PRECISION then (1 : Int32) else (0 : Int32)))])) ?_ (fun tX kX => st2.trans kX)
    refine OGo.go (B := T2.setTop (mkF m 18 #[.val (.int p0), .val (.int kv), .val (.ref u_1), .val (.int (if u_1 = u_REAL ∨ u_1 = u_DOUBLE_PRECISION then (1 : Int32) else (0 : Int32))), .unset, .unset, .unset] [])) ?_ (fun tX kX => XS.istoreN X2.here hx rfl (hb hby at_17) rfl (l' := #[.val (.int p0), .val (.int kv), .val (.ref u_1), .val (.int (if u_1 = u_REAL ∨ u_1 = u_DOUBLE_PRECISION then (1 : Int32) else (0 : Int32))), .unset, .unset, .unset]) rfl kX)
    refine OGo.go (B := T2.setTop (mkF m 19 #[.val (.int p0), .val (.int kv), .val (.ref u_1), .val (.int (if u_1 = u_REAL ∨ u_1 = u_DOUBLE_PRECISION then (1 : Int32) else (0 : Int32))), .unset, .unset, .unset] [(.int kv)])) ?_ (fun tX kX => XS.iloadN X2.here hx rfl (hb hby at_18) rfl kX)
    refine OGo.go (B := T2.setTop (mkF m 21 #[.val (.int p0), .val (.int kv), .val (.ref u_1), .val (.int (if u_1 = u_REAL ∨ u_1 = u_DOUBLE_PRECISION then (1 : Int32) else (0 : Int32))), .unset, .unset, .unset] [(.int (6 : Int32)), (.int kv)])) ?_ (fun tX kX => XS.bipush X2.here hx rfl (hb hby at_19) kX)
    refine OGo.go (B := T2.setTop (mkF m 30 #[.val (.int p0), .val (.int kv), .val (.ref u_1), .val (.int (if u_1 = u_REAL ∨ u_1 = u_DOUBLE_PRECISION then (1 : Int32) else (0 : Int32))), .unset, .unset, .unset] [])) ?_ (fun tX kX => XS.icmpYes X2.here hx rfl (pc0 := 21) (pc' := 30) rfl (hb hby at_21) rfl (teq hk1).1 (by decide) (by decide) kX)
    refine OGo.go (B := T2.setTop (mkF m 31 #[.val (.int p0), .val (.int kv), .val (.ref u_1), .val (.int (if u_1 = u_REAL ∨ u_1 = u_DOUBLE_PRECISION then (1 : Int32) else (0 : Int32))), .unset, .unset, .unset] [(.int (1 : Int32))])) ?_ (fun tX kX => XS.iconst X2.here hx rfl (hb hby at_30) kX)
    refine OGo.go (B := T2.setTop (mkF m 35 #[.val (.int p0), .val (.int kv), .val (.ref u_1), .val (.int (if u_1 = u_REAL ∨ u_1 = u_DOUBLE_PRECISION then (1 : Int32) else (0 : Int32))), .unset, .unset, .unset] [(.int (1 : Int32))])) ?_ (fun tX kX => XS.goto X2.here hx rfl (pc0 := 31) (pc' := 35) rfl (hb hby at_31) (by decide) (by decide) kX)
    refine OGo.go (B := T2.setTop (mkF m 37 #[.val (.int p0), .val (.int kv), .val (.ref u_1), .val (.int (if u_1 = u_REAL ∨ u_1 = u_DOUBLE_PRECISION then (1 : Int32) else (0 : Int32))), .val (.int (1 : Int32)), .unset, .unset] [])) ?_ (fun tX kX => XS.istore X2.here hx rfl (hb hby at_35) rfl (l' := #[.val (.int p0), .val (.int kv), .val (.ref u_1), .val (.int (if u_1 = u_REAL ∨ u_1 = u_DOUBLE_PRECISION then (1 : Int32) else (0 : Int32))), .val (.int (1 : Int32)), .unset, .unset]) rfl kX)
    refine OGo.go (B := T2.setTop (mkF m 38 #[.val (.int p0), .val (.int kv), .val (.ref u_1), .val (.int (if u_1 = u_REAL ∨ u_1 = u_DOUBLE_PRECISION then (1 : Int32) else (0 : Int32))), .val (.int (1 : Int32)), .unset, .unset] [(.ref u_1)])) ?_ (fun tX kX => XS.aloadN X2.here hx rfl (hb hby at_37) rfl rfl kX)
    obtain ⟨cq3, kq3, q3a, q3b, q3c⟩ := isOf hZ e2 E_u_1
    obtain ⟨_, _, ⟨T3, L3, k3, n3⟩, -, X3, ⟨Lc3, hQ3, l3, y3, z3⟩, st3⟩ := X2.virtualBack hx (y := (⟨"com/example/orderly_session/orderlysession/postgresql/PgType", "oid", "()I"⟩ : MethodName)) (z := (⟨"com/example/orderly_session/orderlysession/postgresql/PgType", "oid", "()I"⟩ : MethodName)) hown (mvT hZ (hw _ (List.mem_of_getElem? (i := 17) rfl))) (mvT hZ (hw _ (List.mem_of_getElem? (i := 18) rfl))) (notFace_of_selects (args := #[]) (mvT hZ (hw _ (List.mem_of_getElem? (i := 20) rfl)))) (mvT hZ (hw _ (List.mem_of_getElem? (i := 20) rfl))) (mvT hZ (hw _ (List.mem_of_getElem? (i := 19) rfl))) (by decide) (backOf (W := 0) (rm3 l Z aV hw [] u_1 od_1 h0 n0 Z0 F_oid_u_1) hZ (hw _ (List.mem_of_getElem? (i := 21) rfl)) (hw _ (List.mem_of_getElem? (i := 6) rfl)) (by decide) (by decide)) q3a q3c (g := (mkF m 38 #[.val (.int p0), .val (.int kv), .val (.ref u_1), .val (.int (if u_1 = u_REAL ∨ u_1 = u_DOUBLE_PRECISION then (1 : Int32) else (0 : Int32))), .val (.int (1 : Int32)), .unset, .unset] [(.ref u_1)])) rfl (by rw [hml]; rfl) (Steps.refl _) (argsL := []) (rest := []) (lenOf pd___I rfl) rfl (by show 2 * 0 + _ ≤ _; exact Nat.le_of_eq rfl) (hb hby at_38) (fun _ _ => ⟨rfl, e2, (by decide : 0 + 0 ≤ _), (by decide : 0 + 0 ≤ _)⟩)
    dsimp only [Pt.U, Pt.locs, Pt.cells, Pt.slots] at X3 l3 y3 z3 st3 hQ3
    subst l3 y3 z3
    obtain ⟨rfl, N3q, e3⟩ := hQ3
    have N3 := Fr.app N2 N3q
    refine OGo.go (B := T3.setTop (mkF m 41 #[.val (.int p0), .val (.int kv), .val (.ref u_1), .val (.int (if u_1 = u_REAL ∨ u_1 = u_DOUBLE_PRECISION then (1 : Int32) else (0 : Int32))), .val (.int (1 : Int32)), .unset, .unset] [(.int od_1)])) ?_ (fun tX kX => st3.trans kX)
    refine OGo.go (B := T3.setTop (mkF m 43 #[.val (.int p0), .val (.int kv), .val (.ref u_1), .val (.int (if u_1 = u_REAL ∨ u_1 = u_DOUBLE_PRECISION then (1 : Int32) else (0 : Int32))), .val (.int (1 : Int32)), .val (.int od_1), .unset] [])) ?_ (fun tX kX => XS.istore X3.here hx rfl (hb hby at_41) rfl (l' := #[.val (.int p0), .val (.int kv), .val (.ref u_1), .val (.int (if u_1 = u_REAL ∨ u_1 = u_DOUBLE_PRECISION then (1 : Int32) else (0 : Int32))), .val (.int (1 : Int32)), .val (.int od_1), .unset]) rfl kX)
    refine OGo.go (B := T3.setTop (mkF m 45 #[.val (.int p0), .val (.int kv), .val (.ref u_1), .val (.int (if u_1 = u_REAL ∨ u_1 = u_DOUBLE_PRECISION then (1 : Int32) else (0 : Int32))), .val (.int (1 : Int32)), .val (.int od_1), .unset] [(.int od_1)])) ?_ (fun tX kX => XS.iload X3.here hx rfl (hb hby at_43) rfl kX)
    refine OGo.go (B := T3.setTop (mkF m 48 #[.val (.int p0), .val (.int kv), .val (.ref u_1), .val (.int (if u_1 = u_REAL ∨ u_1 = u_DOUBLE_PRECISION then (1 : Int32) else (0 : Int32))), .val (.int (1 : Int32)), .val (.int od_1), .unset] [(.int (700 : Int32)), (.int od_1)])) ?_ (fun tX kX => XS.sipush X3.here hx rfl (hb hby at_45) kX)
    refine OGo.go (B := T3.setTop (mkF m 59 #[.val (.int p0), .val (.int kv), .val (.ref u_1), .val (.int (if u_1 = u_REAL ∨ u_1 = u_DOUBLE_PRECISION then (1 : Int32) else (0 : Int32))), .val (.int (1 : Int32)), .val (.int od_1), .unset] [])) ?_ (fun tX kX => XS.icmpYes X3.here hx rfl (pc0 := 48) (pc' := 59) rfl (hb hby at_48) rfl (teq hk3).1 (by decide) (by decide) kX)
    refine OGo.go (B := T3.setTop (mkF m 60 #[.val (.int p0), .val (.int kv), .val (.ref u_1), .val (.int (if u_1 = u_REAL ∨ u_1 = u_DOUBLE_PRECISION then (1 : Int32) else (0 : Int32))), .val (.int (1 : Int32)), .val (.int od_1), .unset] [(.int (1 : Int32))])) ?_ (fun tX kX => XS.iconst X3.here hx rfl (hb hby at_59) kX)
    refine OGo.go (B := T3.setTop (mkF m 64 #[.val (.int p0), .val (.int kv), .val (.ref u_1), .val (.int (if u_1 = u_REAL ∨ u_1 = u_DOUBLE_PRECISION then (1 : Int32) else (0 : Int32))), .val (.int (1 : Int32)), .val (.int od_1), .unset] [(.int (1 : Int32))])) ?_ (fun tX kX => XS.goto X3.here hx rfl (pc0 := 60) (pc' := 64) rfl (hb hby at_60) (by decide) (by decide) kX)
    refine OGo.go (B := T3.setTop (mkF m 66 #[.val (.int p0), .val (.int kv), .val (.ref u_1), .val (.int (if u_1 = u_REAL ∨ u_1 = u_DOUBLE_PRECISION then (1 : Int32) else (0 : Int32))), .val (.int (1 : Int32)), .val (.int od_1), .val (.int (1 : Int32))] [])) ?_ (fun tX kX => XS.istore X3.here hx rfl (hb hby at_64) rfl (l' := #[.val (.int p0), .val (.int kv), .val (.ref u_1), .val (.int (if u_1 = u_REAL ∨ u_1 = u_DOUBLE_PRECISION then (1 : Int32) else (0 : Int32))), .val (.int (1 : Int32)), .val (.int od_1), .val (.int (1 : Int32))]) rfl kX)
    refine OGo.go (B := T3.setTop (mkF m 67 #[.val (.int p0), .val (.int kv), .val (.ref u_1), .val (.int (if u_1 = u_REAL ∨ u_1 = u_DOUBLE_PRECISION then (1 : Int32) else (0 : Int32))), .val (.int (1 : Int32)), .val (.int od_1), .val (.int (1 : Int32))] [(.int (if u_1 = u_REAL ∨ u_1 = u_DOUBLE_PRECISION then (1 : Int32) else (0 : Int32)))])) ?_ (fun tX kX => XS.iloadN X3.here hx rfl (hb hby at_66) rfl kX)
    refine OGo.go (B := T3.setTop (mkF m 69 #[.val (.int p0), .val (.int kv), .val (.ref u_1), .val (.int (if u_1 = u_REAL ∨ u_1 = u_DOUBLE_PRECISION then (1 : Int32) else (0 : Int32))), .val (.int (1 : Int32)), .val (.int od_1), .val (.int (1 : Int32))] [(.int (1 : Int32)), (.int (if u_1 = u_REAL ∨ u_1 = u_DOUBLE_PRECISION then (1 : Int32) else (0 : Int32)))])) ?_ (fun tX kX => XS.iload X3.here hx rfl (hb hby at_67) rfl kX)
    refine OGo.go (B := T3.setTop (mkF m 72 #[.val (.int p0), .val (.int kv), .val (.ref u_1), .val (.int (if u_1 = u_REAL ∨ u_1 = u_DOUBLE_PRECISION then (1 : Int32) else (0 : Int32))), .val (.int (1 : Int32)), .val (.int od_1), .val (.int (1 : Int32))] [])) ?_ (fun tX kX => XS.icmpNo X3.here hx rfl (hb hby at_69) rfl (teq (if_pos (Or.inl hk2))).2 kX)
    refine OGo.go (B := T3.setTop (mkF m 73 #[.val (.int p0), .val (.int kv), .val (.ref u_1), .val (.int (if u_1 = u_REAL ∨ u_1 = u_DOUBLE_PRECISION then (1 : Int32) else (0 : Int32))), .val (.int (1 : Int32)), .val (.int od_1), .val (.int (1 : Int32))] [(.int (if u_1 = u_REAL ∨ u_1 = u_DOUBLE_PRECISION then (1 : Int32) else (0 : Int32)))])) ?_ (fun tX kX => XS.iloadN X3.here hx rfl (hb hby at_72) rfl kX)
    refine OGo.go (B := T3.setTop (mkF m 75 #[.val (.int p0), .val (.int kv), .val (.ref u_1), .val (.int (if u_1 = u_REAL ∨ u_1 = u_DOUBLE_PRECISION then (1 : Int32) else (0 : Int32))), .val (.int (1 : Int32)), .val (.int od_1), .val (.int (1 : Int32))] [(.int (1 : Int32)), (.int (if u_1 = u_REAL ∨ u_1 = u_DOUBLE_PRECISION then (1 : Int32) else (0 : Int32)))])) ?_ (fun tX kX => XS.iload X3.here hx rfl (hb hby at_73) rfl kX)
    refine OGo.go (B := T3.setTop (mkF m 78 #[.val (.int p0), .val (.int kv), .val (.ref u_1), .val (.int (if u_1 = u_REAL ∨ u_1 = u_DOUBLE_PRECISION then (1 : Int32) else (0 : Int32))), .val (.int (1 : Int32)), .val (.int od_1), .val (.int (1 : Int32))] [])) ?_ (fun tX kX => XS.icmpNo X3.here hx rfl (hb hby at_75) rfl (teq (if_pos (Or.inl hk2))).2 kX)
    refine OGo.go (B := T3.setTop (mkF m 79 #[.val (.int p0), .val (.int kv), .val (.ref u_1), .val (.int (if u_1 = u_REAL ∨ u_1 = u_DOUBLE_PRECISION then (1 : Int32) else (0 : Int32))), .val (.int (1 : Int32)), .val (.int od_1), .val (.int (1 : Int32))] [(.int (1 : Int32))])) ?_ (fun tX kX => XS.iconst X3.here hx rfl (hb hby at_78) kX)
    refine OGo.go (B := T3.setTop (mkF m 83 #[.val (.int p0), .val (.int kv), .val (.ref u_1), .val (.int (if u_1 = u_REAL ∨ u_1 = u_DOUBLE_PRECISION then (1 : Int32) else (0 : Int32))), .val (.int (1 : Int32)), .val (.int od_1), .val (.int (1 : Int32))] [(.int (1 : Int32))])) ?_ (fun tX kX => XS.goto X3.here hx rfl (pc0 := 79) (pc' := 83) rfl (hb hby at_79) (by decide) (by decide) kX)
    refine OGo.ret X3 (v := (some (.int (1 : Int32)))) (fun h => by rw [Bd.returns] at h; cases h) (BodyLoose.notSynchronized Bd) (fun fs hr => retN X3 hx (t := .boolean) (z := (1 : Int32)) Bd.returns (by simp) (hb hby at_83) hr) (Q := Q0 Z p0 u_BOOLEAN u_BYTEA u_BIGINT u_SMALLINT u_INTEGER u_TEXT u_REAL u_DOUBLE_PRECISION u_DATE u_TIME u_TIMESTAMP u_TIMESTAMP_WITH_TIME_ZONE u_NUMERIC h0 n0) ?_ (by decide) (by decide)
    show Q0 Z p0 u_BOOLEAN u_BYTEA u_BIGINT u_SMALLINT u_INTEGER u_TEXT u_REAL u_DOUBLE_PRECISION u_DATE u_TIME u_TIMESTAMP u_TIMESTAMP_WITH_TIME_ZONE u_NUMERIC h0 n0 _ T3.heap _
    rw [e3]
    exact ⟨rfl, N3⟩
  ·
    refine OGo.go (B := T1.setTop (mkF m 13 #[.val (.int p0), .val (.int kv), .val (.ref u_1), .unset, .unset, .unset, .unset] [])) ?_ (fun tX kX => XS.astoreN X1.here hx rfl (hb hby at_12) rfl rfl (l' := #[.val (.int p0), .val (.int kv), .val (.ref u_1), .unset, .unset, .unset, .unset]) rfl kX)
    refine OGo.go (B := T1.setTop (mkF m 14 #[.val (.int p0), .val (.int kv), .val (.ref u_1), .unset, .unset, .unset, .unset] [(.ref u_1)])) ?_ (fun tX kX => XS.aloadN X1.here hx rfl (hb hby at_13) rfl rfl kX)
    obtain ⟨cq4, kq4, q4a, q4b, q4c⟩ := isOf hZ e1 E_u_1
    obtain ⟨_, _, ⟨T4, L4, k4, n4⟩, -, X4, ⟨Lc4, hQ4, l4, y4, z4⟩, st4⟩ := X1.virtualBack hx (y := (⟨"com/example/orderly_session/orderlysession/postgresql/PgType", "roundedInText", "()Z"⟩ : MethodName)) (z := (⟨"com/example/orderly_session/orderlysession/postgresql/PgType", "roundedInText", "()Z"⟩ : MethodName)) hown (mvT hZ (hw _ (List.mem_of_getElem? (i := 8) rfl))) (mvT hZ (hw _ (List.mem_of_getElem? (i := 9) rfl))) (notFace_of_selects (args := #[]) (mvT hZ (hw _ (List.mem_of_getElem? (i := 11) rfl)))) (mvT hZ (hw _ (List.mem_of_getElem? (i := 11) rfl))) (mvT hZ (hw _ (List.mem_of_getElem? (i := 10) rfl))) (by decide) (backOf (W := 0) (rm2 l Z aV hw [] u_1 u_REAL u_DOUBLE_PRECISION h0 n0 Z0 S_REAL S_DOUBLE_PRECISION) hZ (hw _ (List.mem_of_getElem? (i := 12) rfl)) (hw _ (List.mem_of_getElem? (i := 6) rfl)) (by decide) (by decide)) q4a q4c (g := (mkF m 14 #[.val (.int p0), .val (.int kv), .val (.ref u_1), .unset, .unset, .unset, .unset] [(.ref u_1)])) rfl (by rw [hml]; rfl) (Steps.refl _) (argsL := []) (rest := []) (lenOf pd___Z rfl) rfl (by show 2 * 0 + _ ≤ _; exact Nat.le_of_eq rfl) (hb hby at_14) (fun _ _ => ⟨rfl, e1, (by decide : 0 + 0 ≤ _), (by decide : 0 + 0 ≤ _)⟩)
    dsimp only [Pt.U, Pt.locs, Pt.cells, Pt.slots] at X4 l4 y4 z4 st4 hQ4
    subst l4 y4 z4
    obtain ⟨rfl, N4q, e4⟩ := hQ4
    have N4 := Fr.app N1 N4q
    refine OGo.go (B := T4.setTop (mkF m 17 #[.val (.int p0), .val (.int kv), .val (.ref u_1), .unset, .unset, .unset, .unset] [(.int (if u_1 = u_REAL ∨ u_1 = u_DOUBLE_PRECISION then (1 : Int32) else (0 : Int32)))])) ?_ (fun tX kX => st4.trans kX)
    refine OGo.go (B := T4.setTop (mkF m 18 #[.val (.int p0), .val (.int kv), .val (.ref u_1), .val (.int (if u_1 = u_REAL ∨ u_1 = u_DOUBLE_PRECISION then (1 : Int32) else (0 : Int32))), .unset, .unset, .unset] [])) ?_ (fun tX kX => XS.istoreN X4.here hx rfl (hb hby at_17) rfl (l' := #[.val (.int p0), .val (.int kv), .val (.ref u_1), .val (.int (if u_1 = u_REAL ∨ u_1 = u_DOUBLE_PRECISION then (1 : Int32) else (0 : Int32))), .unset, .unset, .unset]) rfl kX)
    refine OGo.go (B := T4.setTop (mkF m 19 #[.val (.int p0), .val (.int kv), .val (.ref u_1), .val (.int (if u_1 = u_REAL ∨ u_1 = u_DOUBLE_PRECISION then (1 : Int32) else (0 : Int32))), .unset, .unset, .unset] [(.int kv)])) ?_ (fun tX kX => XS.iloadN X4.here hx rfl (hb hby at_18) rfl kX)
    refine OGo.go (B := T4.setTop (mkF m 21 #[.val (.int p0), .val (.int kv), .val (.ref u_1), .val (.int (if u_1 = u_REAL ∨ u_1 = u_DOUBLE_PRECISION then (1 : Int32) else (0 : Int32))), .unset, .unset, .unset] [(.int (6 : Int32)), (.int kv)])) ?_ (fun tX kX => XS.bipush X4.here hx rfl (hb hby at_19) kX)
    refine OGo.go (B := T4.setTop (mkF m 24 #[.val (.int p0), .val (.int kv), .val (.ref u_1), .val (.int (if u_1 = u_REAL ∨ u_1 = u_DOUBLE_PRECISION then (1 : Int32) else (0 : Int32))), .unset, .unset, .unset] [])) ?_ (fun tX kX => XS.icmpNo X4.here hx rfl (hb hby at_21) rfl (feq (by rw [hk1]; decide)).1 kX)
    refine OGo.go (B := T4.setTop (mkF m 25 #[.val (.int p0), .val (.int kv), .val (.ref u_1), .val (.int (if u_1 = u_REAL ∨ u_1 = u_DOUBLE_PRECISION then (1 : Int32) else (0 : Int32))), .unset, .unset, .unset] [(.int kv)])) ?_ (fun tX kX => XS.iloadN X4.here hx rfl (hb hby at_24) rfl kX)
    refine OGo.go (B := T4.setTop (mkF m 27 #[.val (.int p0), .val (.int kv), .val (.ref u_1), .val (.int (if u_1 = u_REAL ∨ u_1 = u_DOUBLE_PRECISION then (1 : Int32) else (0 : Int32))), .unset, .unset, .unset] [(.int (7 : Int32)), (.int kv)])) ?_ (fun tX kX => XS.bipush X4.here hx rfl (hb hby at_25) kX)
    refine OGo.go (B := T4.setTop (mkF m 30 #[.val (.int p0), .val (.int kv), .val (.ref u_1), .val (.int (if u_1 = u_REAL ∨ u_1 = u_DOUBLE_PRECISION then (1 : Int32) else (0 : Int32))), .unset, .unset, .unset] [])) ?_ (fun tX kX => XS.icmpNo X4.here hx rfl (hb hby at_27) rfl (teq hk1).2 kX)
    refine OGo.go (B := T4.setTop (mkF m 31 #[.val (.int p0), .val (.int kv), .val (.ref u_1), .val (.int (if u_1 = u_REAL ∨ u_1 = u_DOUBLE_PRECISION then (1 : Int32) else (0 : Int32))), .unset, .unset, .unset] [(.int (1 : Int32))])) ?_ (fun tX kX => XS.iconst X4.here hx rfl (hb hby at_30) kX)
    refine OGo.go (B := T4.setTop (mkF m 35 #[.val (.int p0), .val (.int kv), .val (.ref u_1), .val (.int (if u_1 = u_REAL ∨ u_1 = u_DOUBLE_PRECISION then (1 : Int32) else (0 : Int32))), .unset, .unset, .unset] [(.int (1 : Int32))])) ?_ (fun tX kX => XS.goto X4.here hx rfl (pc0 := 31) (pc' := 35) rfl (hb hby at_31) (by decide) (by decide) kX)
    refine OGo.go (B := T4.setTop (mkF m 37 #[.val (.int p0), .val (.int kv), .val (.ref u_1), .val (.int (if u_1 = u_REAL ∨ u_1 = u_DOUBLE_PRECISION then (1 : Int32) else (0 : Int32))), .val (.int (1 : Int32)), .unset, .unset] [])) ?_ (fun tX kX => XS.istore X4.here hx rfl (hb hby at_35) rfl (l' := #[.val (.int p0), .val (.int kv), .val (.ref u_1), .val (.int (if u_1 = u_REAL ∨ u_1 = u_DOUBLE_PRECISION then (1 : Int32) else (0 : Int32))), .val (.int (1 : Int32)), .unset, .unset]) rfl kX)
    refine OGo.go (B := T4.setTop (mkF m 38 #[.val (.int p0), .val (.int kv), .val (.ref u_1), .val (.int (if u_1 = u_REAL ∨ u_1 = u_DOUBLE_PRECISION then (1 : Int32) else (0 : Int32))), .val (.int (1 : Int32)), .unset, .unset] [(.ref u_1)])) ?_ (fun tX kX => XS.aloadN X4.here hx rfl (hb hby at_37) rfl rfl kX)
    obtain ⟨cq5, kq5, q5a, q5b, q5c⟩ := isOf hZ e4 E_u_1
    obtain ⟨_, _, ⟨T5, L5, k5, n5⟩, -, X5, ⟨Lc5, hQ5, l5, y5, z5⟩, st5⟩ := X4.virtualBack hx (y := (⟨"com/example/orderly_session/orderlysession/postgresql/PgType", "oid", "()I"⟩ : MethodName)) (z := (⟨"com/example/orderly_session/orderlysession/postgresql/PgType", "oid", "()I"⟩ : MethodName)) hown (mvT hZ (hw _ (List.mem_of_getElem? (i := 17) rfl))) (mvT hZ (hw _ (List.mem_of_getElem? (i := 18) rfl))) (notFace_of_selects (args := #[]) (mvT hZ (hw _ (List.mem_of_getElem? (i := 20) rfl)))) (mvT hZ (hw _ (List.mem_of_getElem? (i := 20) rfl))) (mvT hZ (hw _ (List.mem_of_getElem? (i := 19) rfl))) (by decide) (backOf (W := 0) (rm3 l Z aV hw [] u_1 od_1 h0 n0 Z0 F_oid_u_1) hZ (hw _ (List.mem_of_getElem? (i := 21) rfl)) (hw _ (List.mem_of_getElem? (i := 6) rfl)) (by decide) (by decide)) q5a q5c (g := (mkF m 38 #[.val (.int p0), .val (.int kv), .val (.ref u_1), .val (.int (if u_1 = u_REAL ∨ u_1 = u_DOUBLE_PRECISION then (1 : Int32) else (0 : Int32))), .val (.int (1 : Int32)), .unset, .unset] [(.ref u_1)])) rfl (by rw [hml]; rfl) (Steps.refl _) (argsL := []) (rest := []) (lenOf pd___I rfl) rfl (by show 2 * 0 + _ ≤ _; exact Nat.le_of_eq rfl) (hb hby at_38) (fun _ _ => ⟨rfl, e4, (by decide : 0 + 0 ≤ _), (by decide : 0 + 0 ≤ _)⟩)
    dsimp only [Pt.U, Pt.locs, Pt.cells, Pt.slots] at X5 l5 y5 z5 st5 hQ5
    subst l5 y5 z5
    obtain ⟨rfl, N5q, e5⟩ := hQ5
    have N5 := Fr.app N4 N5q
    refine OGo.go (B := T5.setTop (mkF m 41 #[.val (.int p0), .val (.int kv), .val (.ref u_1), .val (.int (if u_1 = u_REAL ∨ u_1 = u_DOUBLE_PRECISION then (1 : Int32) else (0 : Int32))), .val (.int (1 : Int32)), .unset, .unset] [(.int od_1)])) ?_ (fun tX kX => st5.trans kX)
    refine OGo.go (B := T5.setTop (mkF m 43 #[.val (.int p0), .val (.int kv), .val (.ref u_1), .val (.int (if u_1 = u_REAL ∨ u_1 = u_DOUBLE_PRECISION then (1 : Int32) else (0 : Int32))), .val (.int (1 : Int32)), .val (.int od_1), .unset] [])) ?_ (fun tX kX => XS.istore X5.here hx rfl (hb hby at_41) rfl (l' := #[.val (.int p0), .val (.int kv), .val (.ref u_1), .val (.int (if u_1 = u_REAL ∨ u_1 = u_DOUBLE_PRECISION then (1 : Int32) else (0 : Int32))), .val (.int (1 : Int32)), .val (.int od_1), .unset]) rfl kX)
    refine OGo.go (B := T5.setTop (mkF m 45 #[.val (.int p0), .val (.int kv), .val (.ref u_1), .val (.int (if u_1 = u_REAL ∨ u_1 = u_DOUBLE_PRECISION then (1 : Int32) else (0 : Int32))), .val (.int (1 : Int32)), .val (.int od_1), .unset] [(.int od_1)])) ?_ (fun tX kX => XS.iload X5.here hx rfl (hb hby at_43) rfl kX)
    refine OGo.go (B := T5.setTop (mkF m 48 #[.val (.int p0), .val (.int kv), .val (.ref u_1), .val (.int (if u_1 = u_REAL ∨ u_1 = u_DOUBLE_PRECISION then (1 : Int32) else (0 : Int32))), .val (.int (1 : Int32)), .val (.int od_1), .unset] [(.int (700 : Int32)), (.int od_1)])) ?_ (fun tX kX => XS.sipush X5.here hx rfl (hb hby at_45) kX)
    refine OGo.go (B := T5.setTop (mkF m 51 #[.val (.int p0), .val (.int kv), .val (.ref u_1), .val (.int (if u_1 = u_REAL ∨ u_1 = u_DOUBLE_PRECISION then (1 : Int32) else (0 : Int32))), .val (.int (1 : Int32)), .val (.int od_1), .unset] [])) ?_ (fun tX kX => XS.icmpNo X5.here hx rfl (hb hby at_48) rfl (feq (by rw [hk3]; decide)).1 kX)
    refine OGo.go (B := T5.setTop (mkF m 53 #[.val (.int p0), .val (.int kv), .val (.ref u_1), .val (.int (if u_1 = u_REAL ∨ u_1 = u_DOUBLE_PRECISION then (1 : Int32) else (0 : Int32))), .val (.int (1 : Int32)), .val (.int od_1), .unset] [(.int od_1)])) ?_ (fun tX kX => XS.iload X5.here hx rfl (hb hby at_51) rfl kX)
    refine OGo.go (B := T5.setTop (mkF m 56 #[.val (.int p0), .val (.int kv), .val (.ref u_1), .val (.int (if u_1 = u_REAL ∨ u_1 = u_DOUBLE_PRECISION then (1 : Int32) else (0 : Int32))), .val (.int (1 : Int32)), .val (.int od_1), .unset] [(.int (701 : Int32)), (.int od_1)])) ?_ (fun tX kX => XS.sipush X5.here hx rfl (hb hby at_53) kX)
    refine OGo.go (B := T5.setTop (mkF m 59 #[.val (.int p0), .val (.int kv), .val (.ref u_1), .val (.int (if u_1 = u_REAL ∨ u_1 = u_DOUBLE_PRECISION then (1 : Int32) else (0 : Int32))), .val (.int (1 : Int32)), .val (.int od_1), .unset] [])) ?_ (fun tX kX => XS.icmpNo X5.here hx rfl (hb hby at_56) rfl (teq hk3).2 kX)
    refine OGo.go (B := T5.setTop (mkF m 60 #[.val (.int p0), .val (.int kv), .val (.ref u_1), .val (.int (if u_1 = u_REAL ∨ u_1 = u_DOUBLE_PRECISION then (1 : Int32) else (0 : Int32))), .val (.int (1 : Int32)), .val (.int od_1), .unset] [(.int (1 : Int32))])) ?_ (fun tX kX => XS.iconst X5.here hx rfl (hb hby at_59) kX)
    refine OGo.go (B := T5.setTop (mkF m 64 #[.val (.int p0), .val (.int kv), .val (.ref u_1), .val (.int (if u_1 = u_REAL ∨ u_1 = u_DOUBLE_PRECISION then (1 : Int32) else (0 : Int32))), .val (.int (1 : Int32)), .val (.int od_1), .unset] [(.int (1 : Int32))])) ?_ (fun tX kX => XS.goto X5.here hx rfl (pc0 := 60) (pc' := 64) rfl (hb hby at_60) (by decide) (by decide) kX)
    refine OGo.go (B := T5.setTop (mkF m 66 #[.val (.int p0), .val (.int kv), .val (.ref u_1), .val (.int (if u_1 = u_REAL ∨ u_1 = u_DOUBLE_PRECISION then (1 : Int32) else (0 : Int32))), .val (.int (1 : Int32)), .val (.int od_1), .val (.int (1 : Int32))] [])) ?_ (fun tX kX => XS.istore X5.here hx rfl (hb hby at_64) rfl (l' := #[.val (.int p0), .val (.int kv), .val (.ref u_1), .val (.int (if u_1 = u_REAL ∨ u_1 = u_DOUBLE_PRECISION then (1 : Int32) else (0 : Int32))), .val (.int (1 : Int32)), .val (.int od_1), .val (.int (1 : Int32))]) rfl kX)
    refine OGo.go (B := T5.setTop (mkF m 67 #[.val (.int p0), .val (.int kv), .val (.ref u_1), .val (.int (if u_1 = u_REAL ∨ u_1 = u_DOUBLE_PRECISION then (1 : Int32) else (0 : Int32))), .val (.int (1 : Int32)), .val (.int od_1), .val (.int (1 : Int32))] [(.int (if u_1 = u_REAL ∨ u_1 = u_DOUBLE_PRECISION then (1 : Int32) else (0 : Int32)))])) ?_ (fun tX kX => XS.iloadN X5.here hx rfl (hb hby at_66) rfl kX)
    refine OGo.go (B := T5.setTop (mkF m 69 #[.val (.int p0), .val (.int kv), .val (.ref u_1), .val (.int (if u_1 = u_REAL ∨ u_1 = u_DOUBLE_PRECISION then (1 : Int32) else (0 : Int32))), .val (.int (1 : Int32)), .val (.int od_1), .val (.int (1 : Int32))] [(.int (1 : Int32)), (.int (if u_1 = u_REAL ∨ u_1 = u_DOUBLE_PRECISION then (1 : Int32) else (0 : Int32)))])) ?_ (fun tX kX => XS.iload X5.here hx rfl (hb hby at_67) rfl kX)
    refine OGo.go (B := T5.setTop (mkF m 72 #[.val (.int p0), .val (.int kv), .val (.ref u_1), .val (.int (if u_1 = u_REAL ∨ u_1 = u_DOUBLE_PRECISION then (1 : Int32) else (0 : Int32))), .val (.int (1 : Int32)), .val (.int od_1), .val (.int (1 : Int32))] [])) ?_ (fun tX kX => XS.icmpNo X5.here hx rfl (hb hby at_69) rfl (teq (if_pos (Or.inr hk2))).2 kX)
    refine OGo.go (B := T5.setTop (mkF m 73 #[.val (.int p0), .val (.int kv), .val (.ref u_1), .val (.int (if u_1 = u_REAL ∨ u_1 = u_DOUBLE_PRECISION then (1 : Int32) else (0 : Int32))), .val (.int (1 : Int32)), .val (.int od_1), .val (.int (1 : Int32))] [(.int (if u_1 = u_REAL ∨ u_1 = u_DOUBLE_PRECISION then (1 : Int32) else (0 : Int32)))])) ?_ (fun tX kX => XS.iloadN X5.here hx rfl (hb hby at_72) rfl kX)
    refine OGo.go (B := T5.setTop (mkF m 75 #[.val (.int p0), .val (.int kv), .val (.ref u_1), .val (.int (if u_1 = u_REAL ∨ u_1 = u_DOUBLE_PRECISION then (1 : Int32) else (0 : Int32))), .val (.int (1 : Int32)), .val (.int od_1), .val (.int (1 : Int32))] [(.int (1 : Int32)), (.int (if u_1 = u_REAL ∨ u_1 = u_DOUBLE_PRECISION then (1 : Int32) else (0 : Int32)))])) ?_ (fun tX kX => XS.iload X5.here hx rfl (hb hby at_73) rfl kX)
    refine OGo.go (B := T5.setTop (mkF m 78 #[.val (.int p0), .val (.int kv), .val (.ref u_1), .val (.int (if u_1 = u_REAL ∨ u_1 = u_DOUBLE_PRECISION then (1 : Int32) else (0 : Int32))), .val (.int (1 : Int32)), .val (.int od_1), .val (.int (1 : Int32))] [])) ?_ (fun tX kX => XS.icmpNo X5.here hx rfl (hb hby at_75) rfl (teq (if_pos (Or.inr hk2))).2 kX)
    refine OGo.go (B := T5.setTop (mkF m 79 #[.val (.int p0), .val (.int kv), .val (.ref u_1), .val (.int (if u_1 = u_REAL ∨ u_1 = u_DOUBLE_PRECISION then (1 : Int32) else (0 : Int32))), .val (.int (1 : Int32)), .val (.int od_1), .val (.int (1 : Int32))] [(.int (1 : Int32))])) ?_ (fun tX kX => XS.iconst X5.here hx rfl (hb hby at_78) kX)
    refine OGo.go (B := T5.setTop (mkF m 83 #[.val (.int p0), .val (.int kv), .val (.ref u_1), .val (.int (if u_1 = u_REAL ∨ u_1 = u_DOUBLE_PRECISION then (1 : Int32) else (0 : Int32))), .val (.int (1 : Int32)), .val (.int od_1), .val (.int (1 : Int32))] [(.int (1 : Int32))])) ?_ (fun tX kX => XS.goto X5.here hx rfl (pc0 := 79) (pc' := 83) rfl (hb hby at_79) (by decide) (by decide) kX)
    refine OGo.ret X5 (v := (some (.int (1 : Int32)))) (fun h => by rw [Bd.returns] at h; cases h) (BodyLoose.notSynchronized Bd) (fun fs hr => retN X5 hx (t := .boolean) (z := (1 : Int32)) Bd.returns (by simp) (hb hby at_83) hr) (Q := Q0 Z p0 u_BOOLEAN u_BYTEA u_BIGINT u_SMALLINT u_INTEGER u_TEXT u_REAL u_DOUBLE_PRECISION u_DATE u_TIME u_TIMESTAMP u_TIMESTAMP_WITH_TIME_ZONE u_NUMERIC h0 n0) ?_ (by decide) (by decide)
    show Q0 Z p0 u_BOOLEAN u_BYTEA u_BIGINT u_SMALLINT u_INTEGER u_TEXT u_REAL u_DOUBLE_PRECISION u_DATE u_TIME u_TIMESTAMP u_TIMESTAMP_WITH_TIME_ZONE u_NUMERIC h0 n0 _ T5.heap _
    rw [e5]
    exact ⟨rfl, N5⟩
  ·
    refine OGo.go (B := T1.setTop (mkF m 13 #[.val (.int p0), .val (.int kv), .val (.ref u_1), .unset, .unset, .unset, .unset] [])) ?_ (fun tX kX => XS.astoreN X1.here hx rfl (hb hby at_12) rfl rfl (l' := #[.val (.int p0), .val (.int kv), .val (.ref u_1), .unset, .unset, .unset, .unset]) rfl kX)
    refine OGo.go (B := T1.setTop (mkF m 14 #[.val (.int p0), .val (.int kv), .val (.ref u_1), .unset, .unset, .unset, .unset] [(.ref u_1)])) ?_ (fun tX kX => XS.aloadN X1.here hx rfl (hb hby at_13) rfl rfl kX)
    obtain ⟨cq6, kq6, q6a, q6b, q6c⟩ := isOf hZ e1 E_u_1
    obtain ⟨_, _, ⟨T6, L6, k6, n6⟩, -, X6, ⟨Lc6, hQ6, l6, y6, z6⟩, st6⟩ := X1.virtualBack hx (y := (⟨"com/example/orderly_session/orderlysession/postgresql/PgType", "roundedInText", "()Z"⟩ : MethodName)) (z := (⟨"com/example/orderly_session/orderlysession/postgresql/PgType", "roundedInText", "()Z"⟩ : MethodName)) hown (mvT hZ (hw _ (List.mem_of_getElem? (i := 8) rfl))) (mvT hZ (hw _ (List.mem_of_getElem? (i := 9) rfl))) (notFace_of_selects (args := #[]) (mvT hZ (hw _ (List.mem_of_getElem? (i := 11) rfl)))) (mvT hZ (hw _ (List.mem_of_getElem? (i := 11) rfl))) (mvT hZ (hw _ (List.mem_of_getElem? (i := 10) rfl))) (by decide) (backOf (W := 0) (rm2 l Z aV hw [] u_1 u_REAL u_DOUBLE_PRECISION h0 n0 Z0 S_REAL S_DOUBLE_PRECISION) hZ (hw _ (List.mem_of_getElem? (i := 12) rfl)) (hw _ (List.mem_of_getElem? (i := 6) rfl)) (by decide) (by decide)) q6a q6c (g := (mkF m 14 #[.val (.int p0), .val (.int kv), .val (.ref u_1), .unset, .unset, .unset, .unset] [(.ref u_1)])) rfl (by rw [hml]; rfl) (Steps.refl _) (argsL := []) (rest := []) (lenOf pd___Z rfl) rfl (by show 2 * 0 + _ ≤ _; exact Nat.le_of_eq rfl) (hb hby at_14) (fun _ _ => ⟨rfl, e1, (by decide : 0 + 0 ≤ _), (by decide : 0 + 0 ≤ _)⟩)
    dsimp only [Pt.U, Pt.locs, Pt.cells, Pt.slots] at X6 l6 y6 z6 st6 hQ6
    subst l6 y6 z6
    obtain ⟨rfl, N6q, e6⟩ := hQ6
    have N6 := Fr.app N1 N6q
    refine OGo.go (B := T6.setTop (mkF m 17 #[.val (.int p0), .val (.int kv), .val (.ref u_1), .unset, .unset, .unset, .unset] [(.int (if u_1 = u_REAL ∨ u_1 = u_DOUBLE_PRECISION then (1 : Int32) else (0 : Int32)))])) ?_ (fun tX kX => st6.trans kX)
    refine OGo.go (B := T6.setTop (mkF m 18 #[.val (.int p0), .val (.int kv), .val (.ref u_1), .val (.int (if u_1 = u_REAL ∨ u_1 = u_DOUBLE_PRECISION then (1 : Int32) else (0 : Int32))), .unset, .unset, .unset] [])) ?_ (fun tX kX => XS.istoreN X6.here hx rfl (hb hby at_17) rfl (l' := #[.val (.int p0), .val (.int kv), .val (.ref u_1), .val (.int (if u_1 = u_REAL ∨ u_1 = u_DOUBLE_PRECISION then (1 : Int32) else (0 : Int32))), .unset, .unset, .unset]) rfl kX)
    refine OGo.go (B := T6.setTop (mkF m 19 #[.val (.int p0), .val (.int kv), .val (.ref u_1), .val (.int (if u_1 = u_REAL ∨ u_1 = u_DOUBLE_PRECISION then (1 : Int32) else (0 : Int32))), .unset, .unset, .unset] [(.int kv)])) ?_ (fun tX kX => XS.iloadN X6.here hx rfl (hb hby at_18) rfl kX)
    refine OGo.go (B := T6.setTop (mkF m 21 #[.val (.int p0), .val (.int kv), .val (.ref u_1), .val (.int (if u_1 = u_REAL ∨ u_1 = u_DOUBLE_PRECISION then (1 : Int32) else (0 : Int32))), .unset, .unset, .unset] [(.int (6 : Int32)), (.int kv)])) ?_ (fun tX kX => XS.bipush X6.here hx rfl (hb hby at_19) kX)
    refine OGo.go (B := T6.setTop (mkF m 24 #[.val (.int p0), .val (.int kv), .val (.ref u_1), .val (.int (if u_1 = u_REAL ∨ u_1 = u_DOUBLE_PRECISION then (1 : Int32) else (0 : Int32))), .unset, .unset, .unset] [])) ?_ (fun tX kX => XS.icmpNo X6.here hx rfl (hb hby at_21) rfl (feq hk1).1 kX)
    refine OGo.go (B := T6.setTop (mkF m 25 #[.val (.int p0), .val (.int kv), .val (.ref u_1), .val (.int (if u_1 = u_REAL ∨ u_1 = u_DOUBLE_PRECISION then (1 : Int32) else (0 : Int32))), .unset, .unset, .unset] [(.int kv)])) ?_ (fun tX kX => XS.iloadN X6.here hx rfl (hb hby at_24) rfl kX)
    refine OGo.go (B := T6.setTop (mkF m 27 #[.val (.int p0), .val (.int kv), .val (.ref u_1), .val (.int (if u_1 = u_REAL ∨ u_1 = u_DOUBLE_PRECISION then (1 : Int32) else (0 : Int32))), .unset, .unset, .unset] [(.int (7 : Int32)), (.int kv)])) ?_ (fun tX kX => XS.bipush X6.here hx rfl (hb hby at_25) kX)
    refine OGo.go (B := T6.setTop (mkF m 34 #[.val (.int p0), .val (.int kv), .val (.ref u_1), .val (.int (if u_1 = u_REAL ∨ u_1 = u_DOUBLE_PRECISION then (1 : Int32) else (0 : Int32))), .unset, .unset, .unset] [])) ?_ (fun tX kX => XS.icmpYes X6.here hx rfl (pc0 := 27) (pc' := 34) rfl (hb hby at_27) rfl (feq hk2).2 (by decide) (by decide) kX)
    refine OGo.go (B := T6.setTop (mkF m 35 #[.val (.int p0), .val (.int kv), .val (.ref u_1), .val (.int (if u_1 = u_REAL ∨ u_1 = u_DOUBLE_PRECISION then (1 : Int32) else (0 : Int32))), .unset, .unset, .unset] [(.int (0 : Int32))])) ?_ (fun tX kX => XS.iconst X6.here hx rfl (hb hby at_34) kX)
    refine OGo.go (B := T6.setTop (mkF m 37 #[.val (.int p0), .val (.int kv), .val (.ref u_1), .val (.int (if u_1 = u_REAL ∨ u_1 = u_DOUBLE_PRECISION then (1 : Int32) else (0 : Int32))), .val (.int (0 : Int32)), .unset, .unset] [])) ?_ (fun tX kX => XS.istore X6.here hx rfl (hb hby at_35) rfl (l' := #[.val (.int p0), .val (.int kv), .val (.ref u_1), .val (.int (if u_1 = u_REAL ∨ u_1 = u_DOUBLE_PRECISION then (1 : Int32) else (0 : Int32))), .val (.int (0 : Int32)), .unset, .unset]) rfl kX)
    refine OGo.go (B := T6.setTop (mkF m 38 #[.val (.int p0), .val (.int kv), .val (.ref u_1), .val (.int (if u_1 = u_REAL ∨ u_1 = u_DOUBLE_PRECISION then (1 : Int32) else (0 : Int32))), .val (.int (0 : Int32)), .unset, .unset] [(.ref u_1)])) ?_ (fun tX kX => XS.aloadN X6.here hx rfl (hb hby at_37) rfl rfl kX)
    obtain ⟨cq7, kq7, q7a, q7b, q7c⟩ := isOf hZ e6 E_u_1
    obtain ⟨_, _, ⟨T7, L7, k7, n7⟩, -, X7, ⟨Lc7, hQ7, l7, y7, z7⟩, st7⟩ := X6.virtualBack hx (y := (⟨"com/example/orderly_session/orderlysession/postgresql/PgType", "oid", "()I"⟩ : MethodName)) (z := (⟨"com/example/orderly_session/orderlysession/postgresql/PgType", "oid", "()I"⟩ : MethodName)) hown (mvT hZ (hw _ (List.mem_of_getElem? (i := 17) rfl))) (mvT hZ (hw _ (List.mem_of_getElem? (i := 18) rfl))) (notFace_of_selects (args := #[]) (mvT hZ (hw _ (List.mem_of_getElem? (i := 20) rfl)))) (mvT hZ (hw _ (List.mem_of_getElem? (i := 20) rfl))) (mvT hZ (hw _ (List.mem_of_getElem? (i := 19) rfl))) (by decide) (backOf (W := 0) (rm3 l Z aV hw [] u_1 od_1 h0 n0 Z0 F_oid_u_1) hZ (hw _ (List.mem_of_getElem? (i := 21) rfl)) (hw _ (List.mem_of_getElem? (i := 6) rfl)) (by decide) (by decide)) q7a q7c (g := (mkF m 38 #[.val (.int p0), .val (.int kv), .val (.ref u_1), .val (.int (if u_1 = u_REAL ∨ u_1 = u_DOUBLE_PRECISION then (1 : Int32) else (0 : Int32))), .val (.int (0 : Int32)), .unset, .unset] [(.ref u_1)])) rfl (by rw [hml]; rfl) (Steps.refl _) (argsL := []) (rest := []) (lenOf pd___I rfl) rfl (by show 2 * 0 + _ ≤ _; exact Nat.le_of_eq rfl) (hb hby at_38) (fun _ _ => ⟨rfl, e6, (by decide : 0 + 0 ≤ _), (by decide : 0 + 0 ≤ _)⟩)
    dsimp only [Pt.U, Pt.locs, Pt.cells, Pt.slots] at X7 l7 y7 z7 st7 hQ7
    subst l7 y7 z7
    obtain ⟨rfl, N7q, e7⟩ := hQ7
    have N7 := Fr.app N6 N7q
    refine OGo.go (B := T7.setTop (mkF m 41 #[.val (.int p0), .val (.int kv), .val (.ref u_1), .val (.int (if u_1 = u_REAL ∨ u_1 = u_DOUBLE_PRECISION then (1 : Int32) else (0 : Int32))), .val (.int (0 : Int32)), .unset, .unset] [(.int od_1)])) ?_ (fun tX kX => st7.trans kX)
    refine OGo.go (B := T7.setTop (mkF m 43 #[.val (.int p0), .val (.int kv), .val (.ref u_1), .val (.int (if u_1 = u_REAL ∨ u_1 = u_DOUBLE_PRECISION then (1 : Int32) else (0 : Int32))), .val (.int (0 : Int32)), .val (.int od_1), .unset] [])) ?_ (fun tX kX => XS.istore X7.here hx rfl (hb hby at_41) rfl (l' := #[.val (.int p0), .val (.int kv), .val (.ref u_1), .val (.int (if u_1 = u_REAL ∨ u_1 = u_DOUBLE_PRECISION then (1 : Int32) else (0 : Int32))), .val (.int (0 : Int32)), .val (.int od_1), .unset]) rfl kX)
    refine OGo.go (B := T7.setTop (mkF m 45 #[.val (.int p0), .val (.int kv), .val (.ref u_1), .val (.int (if u_1 = u_REAL ∨ u_1 = u_DOUBLE_PRECISION then (1 : Int32) else (0 : Int32))), .val (.int (0 : Int32)), .val (.int od_1), .unset] [(.int od_1)])) ?_ (fun tX kX => XS.iload X7.here hx rfl (hb hby at_43) rfl kX)
    refine OGo.go (B := T7.setTop (mkF m 48 #[.val (.int p0), .val (.int kv), .val (.ref u_1), .val (.int (if u_1 = u_REAL ∨ u_1 = u_DOUBLE_PRECISION then (1 : Int32) else (0 : Int32))), .val (.int (0 : Int32)), .val (.int od_1), .unset] [(.int (700 : Int32)), (.int od_1)])) ?_ (fun tX kX => XS.sipush X7.here hx rfl (hb hby at_45) kX)
    refine OGo.go (B := T7.setTop (mkF m 51 #[.val (.int p0), .val (.int kv), .val (.ref u_1), .val (.int (if u_1 = u_REAL ∨ u_1 = u_DOUBLE_PRECISION then (1 : Int32) else (0 : Int32))), .val (.int (0 : Int32)), .val (.int od_1), .unset] [])) ?_ (fun tX kX => XS.icmpNo X7.here hx rfl (hb hby at_48) rfl (feq hk5).1 kX)
    refine OGo.go (B := T7.setTop (mkF m 53 #[.val (.int p0), .val (.int kv), .val (.ref u_1), .val (.int (if u_1 = u_REAL ∨ u_1 = u_DOUBLE_PRECISION then (1 : Int32) else (0 : Int32))), .val (.int (0 : Int32)), .val (.int od_1), .unset] [(.int od_1)])) ?_ (fun tX kX => XS.iload X7.here hx rfl (hb hby at_51) rfl kX)
    refine OGo.go (B := T7.setTop (mkF m 56 #[.val (.int p0), .val (.int kv), .val (.ref u_1), .val (.int (if u_1 = u_REAL ∨ u_1 = u_DOUBLE_PRECISION then (1 : Int32) else (0 : Int32))), .val (.int (0 : Int32)), .val (.int od_1), .unset] [(.int (701 : Int32)), (.int od_1)])) ?_ (fun tX kX => XS.sipush X7.here hx rfl (hb hby at_53) kX)
    refine OGo.go (B := T7.setTop (mkF m 63 #[.val (.int p0), .val (.int kv), .val (.ref u_1), .val (.int (if u_1 = u_REAL ∨ u_1 = u_DOUBLE_PRECISION then (1 : Int32) else (0 : Int32))), .val (.int (0 : Int32)), .val (.int od_1), .unset] [])) ?_ (fun tX kX => XS.icmpYes X7.here hx rfl (pc0 := 56) (pc' := 63) rfl (hb hby at_56) rfl (feq hk6).2 (by decide) (by decide) kX)
    refine OGo.go (B := T7.setTop (mkF m 64 #[.val (.int p0), .val (.int kv), .val (.ref u_1), .val (.int (if u_1 = u_REAL ∨ u_1 = u_DOUBLE_PRECISION then (1 : Int32) else (0 : Int32))), .val (.int (0 : Int32)), .val (.int od_1), .unset] [(.int (0 : Int32))])) ?_ (fun tX kX => XS.iconst X7.here hx rfl (hb hby at_63) kX)
    refine OGo.go (B := T7.setTop (mkF m 66 #[.val (.int p0), .val (.int kv), .val (.ref u_1), .val (.int (if u_1 = u_REAL ∨ u_1 = u_DOUBLE_PRECISION then (1 : Int32) else (0 : Int32))), .val (.int (0 : Int32)), .val (.int od_1), .val (.int (0 : Int32))] [])) ?_ (fun tX kX => XS.istore X7.here hx rfl (hb hby at_64) rfl (l' := #[.val (.int p0), .val (.int kv), .val (.ref u_1), .val (.int (if u_1 = u_REAL ∨ u_1 = u_DOUBLE_PRECISION then (1 : Int32) else (0 : Int32))), .val (.int (0 : Int32)), .val (.int od_1), .val (.int (0 : Int32))]) rfl kX)
    refine OGo.go (B := T7.setTop (mkF m 67 #[.val (.int p0), .val (.int kv), .val (.ref u_1), .val (.int (if u_1 = u_REAL ∨ u_1 = u_DOUBLE_PRECISION then (1 : Int32) else (0 : Int32))), .val (.int (0 : Int32)), .val (.int od_1), .val (.int (0 : Int32))] [(.int (if u_1 = u_REAL ∨ u_1 = u_DOUBLE_PRECISION then (1 : Int32) else (0 : Int32)))])) ?_ (fun tX kX => XS.iloadN X7.here hx rfl (hb hby at_66) rfl kX)
    refine OGo.go (B := T7.setTop (mkF m 69 #[.val (.int p0), .val (.int kv), .val (.ref u_1), .val (.int (if u_1 = u_REAL ∨ u_1 = u_DOUBLE_PRECISION then (1 : Int32) else (0 : Int32))), .val (.int (0 : Int32)), .val (.int od_1), .val (.int (0 : Int32))] [(.int (0 : Int32)), (.int (if u_1 = u_REAL ∨ u_1 = u_DOUBLE_PRECISION then (1 : Int32) else (0 : Int32)))])) ?_ (fun tX kX => XS.iload X7.here hx rfl (hb hby at_67) rfl kX)
    refine OGo.go (B := T7.setTop (mkF m 72 #[.val (.int p0), .val (.int kv), .val (.ref u_1), .val (.int (if u_1 = u_REAL ∨ u_1 = u_DOUBLE_PRECISION then (1 : Int32) else (0 : Int32))), .val (.int (0 : Int32)), .val (.int od_1), .val (.int (0 : Int32))] [])) ?_ (fun tX kX => XS.icmpNo X7.here hx rfl (hb hby at_69) rfl (teq (if_neg (fun q => q.elim hk3 hk4))).2 kX)
    refine OGo.go (B := T7.setTop (mkF m 73 #[.val (.int p0), .val (.int kv), .val (.ref u_1), .val (.int (if u_1 = u_REAL ∨ u_1 = u_DOUBLE_PRECISION then (1 : Int32) else (0 : Int32))), .val (.int (0 : Int32)), .val (.int od_1), .val (.int (0 : Int32))] [(.int (if u_1 = u_REAL ∨ u_1 = u_DOUBLE_PRECISION then (1 : Int32) else (0 : Int32)))])) ?_ (fun tX kX => XS.iloadN X7.here hx rfl (hb hby at_72) rfl kX)
    refine OGo.go (B := T7.setTop (mkF m 75 #[.val (.int p0), .val (.int kv), .val (.ref u_1), .val (.int (if u_1 = u_REAL ∨ u_1 = u_DOUBLE_PRECISION then (1 : Int32) else (0 : Int32))), .val (.int (0 : Int32)), .val (.int od_1), .val (.int (0 : Int32))] [(.int (0 : Int32)), (.int (if u_1 = u_REAL ∨ u_1 = u_DOUBLE_PRECISION then (1 : Int32) else (0 : Int32)))])) ?_ (fun tX kX => XS.iload X7.here hx rfl (hb hby at_73) rfl kX)
    refine OGo.go (B := T7.setTop (mkF m 78 #[.val (.int p0), .val (.int kv), .val (.ref u_1), .val (.int (if u_1 = u_REAL ∨ u_1 = u_DOUBLE_PRECISION then (1 : Int32) else (0 : Int32))), .val (.int (0 : Int32)), .val (.int od_1), .val (.int (0 : Int32))] [])) ?_ (fun tX kX => XS.icmpNo X7.here hx rfl (hb hby at_75) rfl (teq (if_neg (fun q => q.elim hk3 hk4))).2 kX)
    refine OGo.go (B := T7.setTop (mkF m 79 #[.val (.int p0), .val (.int kv), .val (.ref u_1), .val (.int (if u_1 = u_REAL ∨ u_1 = u_DOUBLE_PRECISION then (1 : Int32) else (0 : Int32))), .val (.int (0 : Int32)), .val (.int od_1), .val (.int (0 : Int32))] [(.int (1 : Int32))])) ?_ (fun tX kX => XS.iconst X7.here hx rfl (hb hby at_78) kX)
    refine OGo.go (B := T7.setTop (mkF m 83 #[.val (.int p0), .val (.int kv), .val (.ref u_1), .val (.int (if u_1 = u_REAL ∨ u_1 = u_DOUBLE_PRECISION then (1 : Int32) else (0 : Int32))), .val (.int (0 : Int32)), .val (.int od_1), .val (.int (0 : Int32))] [(.int (1 : Int32))])) ?_ (fun tX kX => XS.goto X7.here hx rfl (pc0 := 79) (pc' := 83) rfl (hb hby at_79) (by decide) (by decide) kX)
    refine OGo.ret X7 (v := (some (.int (1 : Int32)))) (fun h => by rw [Bd.returns] at h; cases h) (BodyLoose.notSynchronized Bd) (fun fs hr => retN X7 hx (t := .boolean) (z := (1 : Int32)) Bd.returns (by simp) (hb hby at_83) hr) (Q := Q0 Z p0 u_BOOLEAN u_BYTEA u_BIGINT u_SMALLINT u_INTEGER u_TEXT u_REAL u_DOUBLE_PRECISION u_DATE u_TIME u_TIMESTAMP u_TIMESTAMP_WITH_TIME_ZONE u_NUMERIC h0 n0) ?_ (by decide) (by decide)
    show Q0 Z p0 u_BOOLEAN u_BYTEA u_BIGINT u_SMALLINT u_INTEGER u_TEXT u_REAL u_DOUBLE_PRECISION u_DATE u_TIME u_TIMESTAMP u_TIMESTAMP_WITH_TIME_ZONE u_NUMERIC h0 n0 _ T7.heap _
    rw [e7]
    exact ⟨rfl, N7⟩
set_option maxRecDepth 65536 in
set_option maxHeartbeats 40000000 in
theorem comes_1 {Post : Tables → Env → Array Value → State → Outcome → State → Prop} (hpost : ∀ tb e args s v u, (limb_1_1.after args s (.returned v) u = true ∧ limb_1_2.after args s (.returned v) u = true ∧ True) → FrameEnd s (.returned v) u (Jvm.fieldLocs frame_1_writes args s ++ Jvm.arrayLocs frame_1_arrays args s ++ Jvm.staticLocs frame_1_statics s) 0 0 → Post tb e args s (.returned v) u) :
    ArmFor flags0 classFile x code maxLocals ret World_1 tables_1 room_1 Calls_1 rest_1 Pre_1 Post := by
  intro l hfl _ _ p e ha hc hk s m args below hf hA hF happ hP
  obtain ⟨hcalls, hrest, hpre⟩ := hP
  obtain ⟨-, -, -, hnamed, -, -, -, hat⟩ := (Spec.applies_iff hf).mp happ
  obtain ⟨hg, hn⟩ := and_e (Cond.before_iff.mp (show (Jvm.Cond.and given_1 narrow_1).before args s = true from hpre))
  obtain ⟨gc0, gr0⟩ := and_e hg
  obtain ⟨w0, rfl⟩ : ∃ w0 : Value, args = #[w0] := by
    have hs : args.size = 1 := by simpa [Cond.value, given_1] using gc0
    obtain ⟨L⟩ := args
    match L, hs with
    | [w0], _ => exact ⟨w0, rfl⟩
  have hw := fun d (hd : d ∈ tables_1) => atoms_spec (ws := Jvm.Cond.code x code maxLocals ret :: tables_1) hat d (List.mem_cons_of_mem _ hd)
  have hfit : Fit s := fun {y c} hc i hi => by
    obtain ⟨ha, rfl⟩ := Array.getElem?_eq_some_iff.mp hc
    have q := List.all_eq_true.mp ((Array.all_eq_true_iff_forall_mem.mp hF) _ (Array.getElem_mem ha)) i (List.mem_range.mpr hi)
    simpa [Array.getElem?_eq_getElem hi] using q
  obtain ⟨i0, ei0⟩ := is_v gr0
  obtain rfl : w0 = (.int i0) := Option.some.inj ei0
  obtain ⟨nc0, nr0⟩ := and_e hn
  obtain ⟨nc1, nr1⟩ := and_e nr0
  obtain ⟨nc2, nr2⟩ := and_e nr1
  obtain ⟨nc3, nr3⟩ := and_e nr2
  obtain ⟨nc4, nr4⟩ := and_e nr3
  obtain ⟨nc5, nr5⟩ := and_e nr4
  obtain ⟨nc6, nr6⟩ := and_e nr5
  obtain ⟨nc7, nr7⟩ := and_e nr6
  obtain ⟨nc8, nr8⟩ := and_e nr7
  obtain ⟨nc9, nr9⟩ := and_e nr8
  obtain ⟨nc10, nr10⟩ := and_e nr9
  obtain ⟨nc11, nr11⟩ := and_e nr10
  obtain ⟨nc12, nr12⟩ := and_e nr11
  obtain ⟨nc13, nr13⟩ := and_e nr12
  obtain ⟨nc14, nr14⟩ := and_e nr13
  obtain ⟨nc15, nr15⟩ := and_e nr14
  obtain ⟨nc16, nr16⟩ := and_e nr15
  obtain ⟨nc17, nr17⟩ := and_e nr16
  obtain ⟨nc18, nr18⟩ := and_e nr17
  obtain ⟨nc19, nr19⟩ := and_e nr18
  obtain ⟨nc20, nr20⟩ := and_e nr19
  obtain ⟨nc21, nr21⟩ := and_e nr20
  obtain ⟨nc22, nr22⟩ := and_e nr21
  obtain ⟨nc23, nr23⟩ := and_e nr22
  obtain ⟨nc24, nr24⟩ := and_e nr23
  obtain ⟨nc25, nr25⟩ := and_e nr24
  obtain ⟨nc26, nr26⟩ := and_e nr25
  obtain ⟨nc27, nr27⟩ := and_e nr26
  obtain ⟨nc28, nr28⟩ := and_e nr27
  obtain ⟨nc29, nr29⟩ := and_e nr28
  obtain ⟨nc30, nr30⟩ := and_e nr29
  obtain ⟨nc31, nr31⟩ := and_e nr30
  obtain ⟨nc32, nr32⟩ := and_e nr31
  obtain ⟨nc33, nr33⟩ := and_e nr32
  obtain ⟨nc34, nr34⟩ := and_e nr33
  obtain ⟨nc35, nr35⟩ := and_e nr34
  obtain ⟨nc36, nr36⟩ := and_e nr35
  obtain ⟨nc37, nr37⟩ := and_e nr36
  have nc38 := nr37
  obtain ⟨u_BOOLEAN, ev_BOOLEAN⟩ := exa_v nc0
  have S_BOOLEAN := Sta.start ev_BOOLEAN (Or.inr ⟨(hw _ (List.mem_of_getElem? (i := 6) rfl)), (hw _ (List.mem_of_getElem? (i := 7) rfl))⟩)
  have E_u_BOOLEAN := Exa.start ev_BOOLEAN nc0
  obtain ⟨u_REAL, ev_REAL⟩ := exa_v nc1
  have S_REAL := Sta.start ev_REAL (Or.inr ⟨(hw _ (List.mem_of_getElem? (i := 6) rfl)), (hw _ (List.mem_of_getElem? (i := 14) rfl))⟩)
  have E_u_REAL := Exa.start ev_REAL nc1
  have F_ordinal_u_BOOLEAN := fldI ev_BOOLEAN nc2
  have F_ordinal_u_REAL := fldI ev_REAL nc3
  obtain ⟨u_DOUBLE_PRECISION, ev_DOUBLE_PRECISION⟩ := exa_v nc4
  have S_DOUBLE_PRECISION := Sta.start ev_DOUBLE_PRECISION (Or.inr ⟨(hw _ (List.mem_of_getElem? (i := 6) rfl)), (hw _ (List.mem_of_getElem? (i := 16) rfl))⟩)
  have E_u_DOUBLE_PRECISION := Exa.start ev_DOUBLE_PRECISION nc4
  have F_ordinal_u_DOUBLE_PRECISION := fldI ev_DOUBLE_PRECISION nc5
  have F_oid_u_BOOLEAN := fldI ev_BOOLEAN nc6
  obtain ⟨u_SMALLINT, ev_SMALLINT⟩ := exa_v nc7
  have S_SMALLINT := Sta.start ev_SMALLINT (Or.inr ⟨(hw _ (List.mem_of_getElem? (i := 6) rfl)), (hw _ (List.mem_of_getElem? (i := 25) rfl))⟩)
  have E_u_SMALLINT := Exa.start ev_SMALLINT nc7
  have F_ordinal_u_SMALLINT := fldI ev_SMALLINT nc8
  have F_oid_u_SMALLINT := fldI ev_SMALLINT nc9
  have F_oid_u_REAL := fldI ev_REAL nc10
  obtain ⟨u_TEXT, ev_TEXT⟩ := exa_v nc11
  have S_TEXT := Sta.start ev_TEXT (Or.inr ⟨(hw _ (List.mem_of_getElem? (i := 6) rfl)), (hw _ (List.mem_of_getElem? (i := 28) rfl))⟩)
  have E_u_TEXT := Exa.start ev_TEXT nc11
  have F_ordinal_u_TEXT := fldI ev_TEXT nc12
  have F_oid_u_TEXT := fldI ev_TEXT nc13
  have F_oid_u_DOUBLE_PRECISION := fldI ev_DOUBLE_PRECISION nc14
  obtain ⟨u_TIME, ev_TIME⟩ := exa_v nc15
  have S_TIME := Sta.start ev_TIME (Or.inr ⟨(hw _ (List.mem_of_getElem? (i := 6) rfl)), (hw _ (List.mem_of_getElem? (i := 31) rfl))⟩)
  have E_u_TIME := Exa.start ev_TIME nc15
  have F_ordinal_u_TIME := fldI ev_TIME nc16
  have F_oid_u_TIME := fldI ev_TIME nc17
  obtain ⟨u_BIGINT, ev_BIGINT⟩ := exa_v nc18
  have S_BIGINT := Sta.start ev_BIGINT (Or.inr ⟨(hw _ (List.mem_of_getElem? (i := 6) rfl)), (hw _ (List.mem_of_getElem? (i := 33) rfl))⟩)
  have E_u_BIGINT := Exa.start ev_BIGINT nc18
  have F_ordinal_u_BIGINT := fldI ev_BIGINT nc19
  have F_oid_u_BIGINT := fldI ev_BIGINT nc20
  obtain ⟨u_TIMESTAMP_WITH_TIME_ZONE, ev_TIMESTAMP_WITH_TIME_ZONE⟩ := exa_v nc21
  have S_TIMESTAMP_WITH_TIME_ZONE := Sta.start ev_TIMESTAMP_WITH_TIME_ZONE (Or.inr ⟨(hw _ (List.mem_of_getElem? (i := 6) rfl)), (hw _ (List.mem_of_getElem? (i := 35) rfl))⟩)
  have E_u_TIMESTAMP_WITH_TIME_ZONE := Exa.start ev_TIMESTAMP_WITH_TIME_ZONE nc21
  have F_ordinal_u_TIMESTAMP_WITH_TIME_ZONE := fldI ev_TIMESTAMP_WITH_TIME_ZONE nc22
  have F_oid_u_TIMESTAMP_WITH_TIME_ZONE := fldI ev_TIMESTAMP_WITH_TIME_ZONE nc23
  obtain ⟨u_BYTEA, ev_BYTEA⟩ := exa_v nc24
  have S_BYTEA := Sta.start ev_BYTEA (Or.inr ⟨(hw _ (List.mem_of_getElem? (i := 6) rfl)), (hw _ (List.mem_of_getElem? (i := 37) rfl))⟩)
  have E_u_BYTEA := Exa.start ev_BYTEA nc24
  have F_ordinal_u_BYTEA := fldI ev_BYTEA nc25
  have F_oid_u_BYTEA := fldI ev_BYTEA nc26
  obtain ⟨u_DATE, ev_DATE⟩ := exa_v nc27
  have S_DATE := Sta.start ev_DATE (Or.inr ⟨(hw _ (List.mem_of_getElem? (i := 6) rfl)), (hw _ (List.mem_of_getElem? (i := 39) rfl))⟩)
  have E_u_DATE := Exa.start ev_DATE nc27
  have F_ordinal_u_DATE := fldI ev_DATE nc28
  have F_oid_u_DATE := fldI ev_DATE nc29
  obtain ⟨u_TIMESTAMP, ev_TIMESTAMP⟩ := exa_v nc30
  have S_TIMESTAMP := Sta.start ev_TIMESTAMP (Or.inr ⟨(hw _ (List.mem_of_getElem? (i := 6) rfl)), (hw _ (List.mem_of_getElem? (i := 41) rfl))⟩)
  have E_u_TIMESTAMP := Exa.start ev_TIMESTAMP nc30
  have F_ordinal_u_TIMESTAMP := fldI ev_TIMESTAMP nc31
  have F_oid_u_TIMESTAMP := fldI ev_TIMESTAMP nc32
  obtain ⟨u_NUMERIC, ev_NUMERIC⟩ := exa_v nc33
  have S_NUMERIC := Sta.start ev_NUMERIC (Or.inr ⟨(hw _ (List.mem_of_getElem? (i := 6) rfl)), (hw _ (List.mem_of_getElem? (i := 43) rfl))⟩)
  have E_u_NUMERIC := Exa.start ev_NUMERIC nc33
  have F_ordinal_u_NUMERIC := fldI ev_NUMERIC nc34
  have F_oid_u_NUMERIC := fldI ev_NUMERIC nc35
  obtain ⟨u_INTEGER, ev_INTEGER⟩ := exa_v nc36
  have S_INTEGER := Sta.start ev_INTEGER (Or.inr ⟨(hw _ (List.mem_of_getElem? (i := 6) rfl)), (hw _ (List.mem_of_getElem? (i := 45) rfl))⟩)
  have E_u_INTEGER := Exa.start ev_INTEGER nc36
  have F_ordinal_u_INTEGER := fldI ev_INTEGER nc37
  have F_oid_u_INTEGER := fldI ev_INTEGER nc38
  obtain ⟨n, o, h1, h2, h3, _, L, rfl, ⟨rfl, N⟩, hq⟩ := rm0 l s _ hw tables_1 i0 u_BOOLEAN u_BYTEA u_BIGINT u_SMALLINT u_INTEGER u_TEXT u_REAL u_DOUBLE_PRECISION u_DATE u_TIME u_TIMESTAMP u_TIMESTAMP_WITH_TIME_ZONE u_NUMERIC s.heap s.heap.size (Nat.le_refl _) S_BOOLEAN E_u_BOOLEAN S_REAL E_u_REAL S_DOUBLE_PRECISION E_u_DOUBLE_PRECISION F_oid_u_BOOLEAN S_SMALLINT E_u_SMALLINT F_oid_u_SMALLINT F_oid_u_REAL S_TEXT E_u_TEXT F_oid_u_TEXT F_oid_u_DOUBLE_PRECISION S_TIME E_u_TIME F_oid_u_TIME S_BIGINT E_u_BIGINT F_oid_u_BIGINT S_TIMESTAMP_WITH_TIME_ZONE E_u_TIMESTAMP_WITH_TIME_ZONE F_oid_u_TIMESTAMP_WITH_TIME_ZONE S_BYTEA E_u_BYTEA F_oid_u_BYTEA S_DATE E_u_DATE F_oid_u_DATE S_TIMESTAMP E_u_TIMESTAMP F_oid_u_TIMESTAMP S_NUMERIC E_u_NUMERIC F_oid_u_NUMERIC S_INTEGER E_u_INTEGER F_oid_u_INTEGER p e ha hc hk s m _ below hf ((Spec.applies_iff_loose hf).mp happ).1 ⟨rfl, State.Warmed39.refl s, rfl⟩ trivial
  refine ⟨n, _, h1, h2, h3, hpost _ _ _ _ _ _ ⟨Cond.after_iff.mpr rfl, Cond.after_iff.mpr (eq_i res_at (Term.int_eval (1)) rfl), trivial⟩ ⟨hq.1, hq.2.1, (hq.2.2.sift fun y hy => Or.inr (N y hy)).mono (by decide) (by decide)⟩⟩
theorem main_1_1 : Claimed_1_1 := comes_1 fun _ _ _ _ _ _ h hF => ⟨h.1, hF⟩
theorem main_1_2 : Claimed_1_2 := comes_1 fun _ _ _ _ _ _ h hF => ⟨h.2.1, hF⟩
end Jvm.Pilot.@@N@@
namespace Jvm.Pilot.@@N@@
open Jvm Jvm.ClassFile Sem Op Lib Jvm.Free Jvm.Stand Jvm.Pilot.@@N@@.Jvm.D
/-! MADE BY PROGRAM (witnessworld.py) out of the Statement's table words and the real class files: 12 classes; the members and pool entries that the words name. The judged class is class 1, her method 2. -/
namespace start1
open Jvm.ClassFile
def u (s : String) : CpInfo := .utf8 (stringToUtf16 s)
/-- a pool by its gaps: so many unusable entries, then the entry; so many at the end -/
def gap : Nat → List CpInfo → List CpInfo
  | 0, r => r
  | n + 1, r => .unusable :: gap n r
def poolList (es : List (Nat × CpInfo)) (last : Nat) : List CpInfo := es.foldr (fun e r => gap e.1 (e.2 :: r)) (gap last [])
def pool (es : List (Nat × CpInfo)) (last : Nat) : Array CpInfo := ⟨poolList es last⟩
def fileOf (pool : Array CpInfo) (this : Nat) (attrs : Array Attribute := #[]) (ms : Array MethodInfo := #[]) (fl : Nat := 33) (sup : Nat := 0) (ifs : Array Nat := #[]) (fds : Array FieldInfo := #[]) : ClassFile where
  minorVersion := 0
  majorVersion := 65
  constantPool := pool
  accessFlags := fl
  thisClass := this
  superClass := sup
  interfaces := ifs
  fields := fds
  methods := ms
  attributes := attrs
def plain (name : String) (sup : Option ClassId) : Class where
  name := name
  kind := .ordinary
  loader := none
  accessFlags := 33
  super := sup
  interfaces := #[]
  cf := none
  fields := #[]
  methods := #[]
  instanceTypes := #[]
  staticTypes := #[]
  resolved := #[]
  callSites := []
  init := .initialized
  statics := none
  mirror := none

def pool0 : Array CpInfo := pool [(5, u "<init>"), (0, u "()V"), (1, .class_ 10), (1, u "java/lang/Object")] 113

def k0m0 : Method := { name := "<init>", desc := "()V", sig := { parameters := [], returnType := none }, accessFlags := 1, code := none }
/-- java/lang/Object -/
def k0 : Class := { plain "java/lang/Object" none with
  accessFlags := 33
  interfaces := #[]
  cf := some (fileOf pool0 8 #[] #[{ accessFlags := 1, nameIndex := 5, descriptorIndex := 6, attributes := #[] }] 33 0 #[] #[])
  fields := #[]
  methods := #[k0m0]
  instanceTypes := #[]
  staticTypes := #[]
  resolved := Array.replicate 124 none
  statics := none }

def pool1 : Array CpInfo := pool [(2, .class_ 4), (1, u "java/lang/Object"), (0, u "<init>"), (0, u "()V"), (0, .fieldref 8 9), (0, .class_ 10), (0, .nameAndType 11 12), (0, u "com/example/orderly_session/orderlysession/postgresql/PgType"), (0, u "BOOLEAN"), (0, u "Lcom/example/orderly_session/orderlysession/postgresql/PgType;"), (0, .fieldref 8 14), (0, .nameAndType 15 12), (0, u "BYTEA"), (0, .fieldref 8 17), (0, .nameAndType 18 12), (0, u "BIGINT"), (0, .fieldref 8 20), (0, .nameAndType 21 12), (0, u "SMALLINT"), (0, .fieldref 8 23), (0, .nameAndType 24 12), (0, u "INTEGER"), (0, .fieldref 8 26), (0, .nameAndType 27 12), (0, u "TEXT"), (0, .fieldref 8 29), (0, .nameAndType 30 12), (0, u "REAL"), (0, .fieldref 8 32), (0, .nameAndType 33 12), (0, u "DOUBLE_PRECISION"), (0, .fieldref 8 35), (0, .nameAndType 36 12), (0, u "DATE"), (0, .fieldref 8 38), (0, .nameAndType 39 12), (0, u "TIME"), (0, .fieldref 8 41), (0, .nameAndType 42 12), (0, u "TIMESTAMP"), (0, .fieldref 8 44), (0, .nameAndType 45 12), (0, u "TIMESTAMP_WITH_TIME_ZONE"), (0, .fieldref 8 47), (0, .nameAndType 48 12), (0, u "NUMERIC"), (0, .integer 2147483647), (0, .methodref 51 52), (0, .class_ 53), (0, .nameAndType 54 55), (0, u "com/example/orderly_session/orderlysession/postgresql/PgTypeRoundedInTextPinLaw"), (0, u "pick"), (0, u "(I)Lcom/example/orderly_session/orderlysession/postgresql/PgType;"), (0, .methodref 8 57), (0, .nameAndType 58 59), (0, u "roundedInText"), (0, u "()Z"), (0, .methodref 8 61), (0, .nameAndType 62 63), (0, u "oid"), (0, u "()I"), (3, u "law"), (0, u "(I)Z")] 2

def k1m0 : Method := { name := "<init>", desc := "()V", sig := { parameters := [], returnType := none }, accessFlags := 2, code := none }
def k1c1 : Code := { maxStack := 2, maxLocals := 1, code := method_2_code, exceptionTable := #[], attributes := #[] }
def k1m1 : Method := { name := "pick", desc := "(I)Lcom/example/orderly_session/orderlysession/postgresql/PgType;", sig := { parameters := [.int], returnType := some (.object "com/example/orderly_session/orderlysession/postgresql/PgType") }, accessFlags := 10, code := some k1c1 }
def k1c2 : Code := { maxStack := 2, maxLocals := 7, code := code, exceptionTable := #[], attributes := #[] }
def k1m2 : Method := { name := "law", desc := "(I)Z", sig := { parameters := [.int], returnType := some .boolean }, accessFlags := 9, code := some k1c2 }
/-- com/example/orderly_session/orderlysession/postgresql/PgTypeRoundedInTextPinLaw -/
def k1 : Class := { plain "com/example/orderly_session/orderlysession/postgresql/PgTypeRoundedInTextPinLaw" (some 0) with
  accessFlags := 49
  interfaces := #[]
  cf := some (fileOf pool1 51 #[] #[{ accessFlags := 2, nameIndex := 5, descriptorIndex := 6, attributes := #[] }, { accessFlags := 10, nameIndex := 54, descriptorIndex := 55, attributes := #[] }, { accessFlags := 9, nameIndex := 67, descriptorIndex := 68, attributes := #[] }] 49 2 #[] #[])
  fields := #[]
  methods := #[k1m0, k1m1, k1m2]
  instanceTypes := #[]
  staticTypes := #[]
  resolved := Array.replicate 71 none
  statics := none }

def pool2 : Array CpInfo := pool [(1, .class_ 2), (0, u "java/lang/constant/Constable"), (0, .class_ 4), (0, u "java/lang/Object")] 6

/-- java/lang/constant/Constable -/
def k2 : Class := { plain "java/lang/constant/Constable" (some 0) with
  accessFlags := 1537
  interfaces := #[]
  cf := some (fileOf pool2 1 #[] #[] 1537 3 #[] #[])
  fields := #[]
  methods := #[]
  instanceTypes := #[]
  staticTypes := #[]
  resolved := Array.replicate 11 none
  statics := none }

def pool3 : Array CpInfo := pool [(1, .class_ 2), (0, u "java/lang/Comparable"), (0, .class_ 4), (0, u "java/lang/Object")] 7

/-- java/lang/Comparable -/
def k3 : Class := { plain "java/lang/Comparable" (some 0) with
  accessFlags := 1537
  interfaces := #[]
  cf := some (fileOf pool3 1 #[] #[] 1537 3 #[] #[])
  fields := #[]
  methods := #[]
  instanceTypes := #[]
  staticTypes := #[]
  resolved := Array.replicate 12 none
  statics := none }

def pool4 : Array CpInfo := pool [(1, .class_ 2), (0, u "java/io/Serializable"), (0, .class_ 4), (0, u "java/lang/Object")] 2

/-- java/io/Serializable -/
def k4 : Class := { plain "java/io/Serializable" (some 0) with
  accessFlags := 1537
  interfaces := #[]
  cf := some (fileOf pool4 1 #[] #[] 1537 3 #[] #[])
  fields := #[]
  methods := #[]
  instanceTypes := #[]
  staticTypes := #[]
  resolved := Array.replicate 7 none
  statics := none }

def pool5 : Array CpInfo := pool [(2, .class_ 4), (1, u "java/lang/Enum"), (0, u "name"), (0, u "Ljava/lang/String;"), (2, u "ordinal"), (0, u "I"), (1, .class_ 14), (1, u "java/lang/Object"), (4, u "hash"), (86, .class_ 108), (1, u "java/lang/Enum$EnumDesc"), (2, .class_ 112), (0, u "java/lang/constant/Constable"), (0, .class_ 114), (0, u "java/lang/Comparable"), (0, .class_ 116), (0, u "java/io/Serializable")] 87

/-- java/lang/Enum -/
def k5 : Class := { plain "java/lang/Enum" (some 0) with
  accessFlags := 1057
  interfaces := #[2, 3, 4]
  cf := some (fileOf pool5 2 #[.nestMembers #[106]] #[] 1057 12 #[111, 113, 115] #[{ accessFlags := 18, nameIndex := 5, descriptorIndex := 6, attributes := #[] }, { accessFlags := 18, nameIndex := 9, descriptorIndex := 10, attributes := #[] }, { accessFlags := 2, nameIndex := 19, descriptorIndex := 10, attributes := #[] }])
  fields := #[{ name := "name", type := (.object "java/lang/String"), accessFlags := 18, slot := 0, constantValue := 0 }, { name := "ordinal", type := .int, accessFlags := 18, slot := 1, constantValue := 0 }, { name := "hash", type := .int, accessFlags := 2, slot := 2, constantValue := 0 }]
  methods := #[]
  instanceTypes := #[(.object "java/lang/String"), .int, .int]
  staticTypes := #[]
  resolved := Array.replicate 204 none
  statics := none }

def pool6 : Array CpInfo := pool [(1, .class_ 2), (0, u "com/example/orderly_session/orderlysession/postgresql/PgType"), (2, u "BOOLEAN"), (0, u "Lcom/example/orderly_session/orderlysession/postgresql/PgType;"), (2, u "BYTEA"), (2, u "BIGINT"), (2, u "SMALLINT"), (2, u "INTEGER"), (2, u "TEXT"), (0, .fieldref 1 23), (0, .nameAndType 24 6), (0, u "REAL"), (0, .fieldref 1 26), (0, .nameAndType 27 6), (0, u "DOUBLE_PRECISION"), (2, u "DATE"), (2, u "TIME"), (2, u "TIMESTAMP"), (2, u "TIMESTAMP_WITH_TIME_ZONE"), (2, u "NUMERIC"), (2, u "$VALUES"), (0, u "[Lcom/example/orderly_session/orderlysession/postgresql/PgType;"), (6, .class_ 55), (1, u "java/lang/Enum"), (17, .fieldref 1 74), (0, .nameAndType 75 76), (0, u "oid"), (0, u "I"), (2, u "javaType"), (0, u "Ljava/lang/Class;"), (2, u "reader"), (0, u "Lcom/example/orderly_session/orderlysession/postgresql/PgType$TextReader;"), (2, u "shapedByDateStyle"), (0, u "Z"), (2, u "binaryReader"), (0, u "Ljava/util/function/Function;"), (6, u "writer"), (2, u "BY_OID"), (0, u "Ljava/util/Map;"), (18, .class_ 124), (1, u "com/example/orderly_session/orderlysession/postgresql/PgType$TextReader"), (3, u "BY_PARAMETER_TYPE"), (39, u "()I"), (25, u "HEX_DIGITS"), (0, u "[B"), (37, .class_ 235), (1, u "com/example/orderly_session/orderlysession/postgresql/PgType$StyledReader"), (127, u "PARAMETER_TYPES"), (0, u "Ljava/util/Set;"), (39, u "()Z"), (1, u "roundedInText")] 186

def k6c0 : Code := { maxStack := 1, maxLocals := 1, code := prog_43_method_10_code, exceptionTable := #[], attributes := #[] }
def k6m0 : Method := { name := "oid", desc := "()I", sig := { parameters := [], returnType := some .int }, accessFlags := 0, code := some k6c0 }
def k6c1 : Code := { maxStack := 2, maxLocals := 1, code := prog_43_method_13_code, exceptionTable := #[], attributes := #[] }
def k6m1 : Method := { name := "roundedInText", desc := "()Z", sig := { parameters := [], returnType := some .boolean }, accessFlags := 0, code := some k6c1 }
/-- com/example/orderly_session/orderlysession/postgresql/PgType -/
def k6 : Class := { plain "com/example/orderly_session/orderlysession/postgresql/PgType" (some 5) with
  accessFlags := 16432
  interfaces := #[]
  cf := some (fileOf pool6 1 #[.nestMembers #[122, 233]] #[{ accessFlags := 0, nameIndex := 75, descriptorIndex := 168, attributes := #[] }, { accessFlags := 0, nameIndex := 406, descriptorIndex := 404, attributes := #[] }] 16432 53 #[] #[{ accessFlags := 16409, nameIndex := 5, descriptorIndex := 6, attributes := #[] }, { accessFlags := 16409, nameIndex := 9, descriptorIndex := 6, attributes := #[] }, { accessFlags := 16409, nameIndex := 12, descriptorIndex := 6, attributes := #[] }, { accessFlags := 16409, nameIndex := 15, descriptorIndex := 6, attributes := #[] }, { accessFlags := 16409, nameIndex := 18, descriptorIndex := 6, attributes := #[] }, { accessFlags := 16409, nameIndex := 21, descriptorIndex := 6, attributes := #[] }, { accessFlags := 16409, nameIndex := 24, descriptorIndex := 6, attributes := #[] }, { accessFlags := 16409, nameIndex := 27, descriptorIndex := 6, attributes := #[] }, { accessFlags := 16409, nameIndex := 30, descriptorIndex := 6, attributes := #[] }, { accessFlags := 16409, nameIndex := 33, descriptorIndex := 6, attributes := #[] }, { accessFlags := 16409, nameIndex := 36, descriptorIndex := 6, attributes := #[] }, { accessFlags := 16409, nameIndex := 39, descriptorIndex := 6, attributes := #[] }, { accessFlags := 16409, nameIndex := 42, descriptorIndex := 6, attributes := #[] }, { accessFlags := 24, nameIndex := 363, descriptorIndex := 364, attributes := #[] }, { accessFlags := 26, nameIndex := 102, descriptorIndex := 103, attributes := #[] }, { accessFlags := 26, nameIndex := 128, descriptorIndex := 103, attributes := #[] }, { accessFlags := 26, nameIndex := 194, descriptorIndex := 195, attributes := #[] }, { accessFlags := 18, nameIndex := 75, descriptorIndex := 76, attributes := #[] }, { accessFlags := 18, nameIndex := 79, descriptorIndex := 80, attributes := #[] }, { accessFlags := 18, nameIndex := 83, descriptorIndex := 84, attributes := #[] }, { accessFlags := 18, nameIndex := 87, descriptorIndex := 88, attributes := #[] }, { accessFlags := 18, nameIndex := 91, descriptorIndex := 92, attributes := #[] }, { accessFlags := 18, nameIndex := 99, descriptorIndex := 92, attributes := #[] }, { accessFlags := 4122, nameIndex := 45, descriptorIndex := 46, attributes := #[] }])
  fields := #[{ name := "BOOLEAN", type := (.object "com/example/orderly_session/orderlysession/postgresql/PgType"), accessFlags := 16409, slot := 0, constantValue := 0 }, { name := "BYTEA", type := (.object "com/example/orderly_session/orderlysession/postgresql/PgType"), accessFlags := 16409, slot := 1, constantValue := 0 }, { name := "BIGINT", type := (.object "com/example/orderly_session/orderlysession/postgresql/PgType"), accessFlags := 16409, slot := 2, constantValue := 0 }, { name := "SMALLINT", type := (.object "com/example/orderly_session/orderlysession/postgresql/PgType"), accessFlags := 16409, slot := 3, constantValue := 0 }, { name := "INTEGER", type := (.object "com/example/orderly_session/orderlysession/postgresql/PgType"), accessFlags := 16409, slot := 4, constantValue := 0 }, { name := "TEXT", type := (.object "com/example/orderly_session/orderlysession/postgresql/PgType"), accessFlags := 16409, slot := 5, constantValue := 0 }, { name := "REAL", type := (.object "com/example/orderly_session/orderlysession/postgresql/PgType"), accessFlags := 16409, slot := 6, constantValue := 0 }, { name := "DOUBLE_PRECISION", type := (.object "com/example/orderly_session/orderlysession/postgresql/PgType"), accessFlags := 16409, slot := 7, constantValue := 0 }, { name := "DATE", type := (.object "com/example/orderly_session/orderlysession/postgresql/PgType"), accessFlags := 16409, slot := 8, constantValue := 0 }, { name := "TIME", type := (.object "com/example/orderly_session/orderlysession/postgresql/PgType"), accessFlags := 16409, slot := 9, constantValue := 0 }, { name := "TIMESTAMP", type := (.object "com/example/orderly_session/orderlysession/postgresql/PgType"), accessFlags := 16409, slot := 10, constantValue := 0 }, { name := "TIMESTAMP_WITH_TIME_ZONE", type := (.object "com/example/orderly_session/orderlysession/postgresql/PgType"), accessFlags := 16409, slot := 11, constantValue := 0 }, { name := "NUMERIC", type := (.object "com/example/orderly_session/orderlysession/postgresql/PgType"), accessFlags := 16409, slot := 12, constantValue := 0 }, { name := "PARAMETER_TYPES", type := (.object "java/util/Set"), accessFlags := 24, slot := 13, constantValue := 0 }, { name := "BY_OID", type := (.object "java/util/Map"), accessFlags := 26, slot := 14, constantValue := 0 }, { name := "BY_PARAMETER_TYPE", type := (.object "java/util/Map"), accessFlags := 26, slot := 15, constantValue := 0 }, { name := "HEX_DIGITS", type := (.array .byte), accessFlags := 26, slot := 16, constantValue := 0 }, { name := "oid", type := .int, accessFlags := 18, slot := 3, constantValue := 0 }, { name := "javaType", type := (.object "java/lang/Class"), accessFlags := 18, slot := 4, constantValue := 0 }, { name := "reader", type := (.object "com/example/orderly_session/orderlysession/postgresql/PgType$TextReader"), accessFlags := 18, slot := 5, constantValue := 0 }, { name := "shapedByDateStyle", type := .boolean, accessFlags := 18, slot := 6, constantValue := 0 }, { name := "binaryReader", type := (.object "java/util/function/Function"), accessFlags := 18, slot := 7, constantValue := 0 }, { name := "writer", type := (.object "java/util/function/Function"), accessFlags := 18, slot := 8, constantValue := 0 }, { name := "$VALUES", type := (.array (.object "com/example/orderly_session/orderlysession/postgresql/PgType")), accessFlags := 4122, slot := 17, constantValue := 0 }]
  methods := #[k6m0, k6m1]
  instanceTypes := #[(.object "java/lang/String"), .int, .int, .int, (.object "java/lang/Class"), (.object "com/example/orderly_session/orderlysession/postgresql/PgType$TextReader"), .boolean, (.object "java/util/function/Function"), (.object "java/util/function/Function")]
  staticTypes := #[(.object "com/example/orderly_session/orderlysession/postgresql/PgType"), (.object "com/example/orderly_session/orderlysession/postgresql/PgType"), (.object "com/example/orderly_session/orderlysession/postgresql/PgType"), (.object "com/example/orderly_session/orderlysession/postgresql/PgType"), (.object "com/example/orderly_session/orderlysession/postgresql/PgType"), (.object "com/example/orderly_session/orderlysession/postgresql/PgType"), (.object "com/example/orderly_session/orderlysession/postgresql/PgType"), (.object "com/example/orderly_session/orderlysession/postgresql/PgType"), (.object "com/example/orderly_session/orderlysession/postgresql/PgType"), (.object "com/example/orderly_session/orderlysession/postgresql/PgType"), (.object "com/example/orderly_session/orderlysession/postgresql/PgType"), (.object "com/example/orderly_session/orderlysession/postgresql/PgType"), (.object "com/example/orderly_session/orderlysession/postgresql/PgType"), (.object "java/util/Set"), (.object "java/util/Map"), (.object "java/util/Map"), (.array .byte), (.array (.object "com/example/orderly_session/orderlysession/postgresql/PgType"))]
  resolved := Array.replicate 593 none
  statics := some 0 }

def pool7 : Array CpInfo := pool [(1, u "java/lang/Cloneable"), (0, .class_ 1), (0, u "java/lang/Object"), (0, .class_ 3)] 3

/-- java/lang/Cloneable -/
def k7 : Class := { plain "java/lang/Cloneable" (some 0) with
  accessFlags := 1537
  interfaces := #[]
  cf := some (fileOf pool7 2 #[] #[] 1537 4 #[] #[])
  fields := #[]
  methods := #[]
  instanceTypes := #[]
  staticTypes := #[]
  resolved := Array.replicate 8 none
  statics := none }

/-- the primitive byte -/
def k8 : Class := { plain "byte" none with kind := .primitive 'B', accessFlags := 0x411 }
/-- [B -/
def k9 : Class := { plain "[B" (some 0) with kind := .array 8 .byte, interfaces := #[7, 4], accessFlags := 1041 }

/-- the primitive int -/
def k10 : Class := { plain "int" none with kind := .primitive 'I', accessFlags := 0x411 }
/-- [I -/
def k11 : Class := { plain "[I" (some 0) with kind := .array 10 .int, interfaces := #[7, 4], accessFlags := 1041 }

def heap : Heap := #[{ cls := 6, slots := #[.ref 1, .ref 2, .ref 3, .ref 4, .ref 5, .ref 6, .ref 7, .ref 8, .ref 9, .ref 10, .ref 11, .ref 12, .ref 13, .null, .null, .null, .null, .null], vm := .statics 6 },
  { cls := 6, slots := #[.null, .int 0, .int 0, .int 16, .null, .null, .int 0, .null, .null], vm := .none },
  { cls := 6, slots := #[.null, .int 1, .int 0, .int 17, .null, .null, .int 0, .null, .null], vm := .none },
  { cls := 6, slots := #[.null, .int 2, .int 0, .int 20, .null, .null, .int 0, .null, .null], vm := .none },
  { cls := 6, slots := #[.null, .int 3, .int 0, .int 21, .null, .null, .int 0, .null, .null], vm := .none },
  { cls := 6, slots := #[.null, .int 4, .int 0, .int 23, .null, .null, .int 0, .null, .null], vm := .none },
  { cls := 6, slots := #[.null, .int 5, .int 0, .int 25, .null, .null, .int 0, .null, .null], vm := .none },
  { cls := 6, slots := #[.null, .int 6, .int 0, .int 700, .null, .null, .int 0, .null, .null], vm := .none },
  { cls := 6, slots := #[.null, .int 7, .int 0, .int 701, .null, .null, .int 0, .null, .null], vm := .none },
  { cls := 6, slots := #[.null, .int 8, .int 0, .int 1082, .null, .null, .int 0, .null, .null], vm := .none },
  { cls := 6, slots := #[.null, .int 9, .int 0, .int 1083, .null, .null, .int 0, .null, .null], vm := .none },
  { cls := 6, slots := #[.null, .int 10, .int 0, .int 1114, .null, .null, .int 0, .null, .null], vm := .none },
  { cls := 6, slots := #[.null, .int 11, .int 0, .int 1184, .null, .null, .int 0, .null, .null], vm := .none },
  { cls := 6, slots := #[.null, .int 12, .int 0, .int 1700, .null, .null, .int 0, .null, .null], vm := .none }]
def classes : Array Class := #[k0, k1, k2, k3, k4, k5, k6, k7, k8, k9, k10, k11]
def interned : List (Array UInt16 × Addr) := []
def slotsUsed : Nat := 135
def theMethod : MethodId := ⟨1, 2⟩
def args0 : Array Value := #[.int 5]
def aboutOver (below : List Frame) : State where
  vm := { classes := classes, interned := interned.toArray }
  heap := heap
  slotsUsed := slotsUsed
  threads := #[{ frames := .invoking theMethod args0 :: below }]
def below0 : List Frame := [.native { method := ⟨0, 0⟩, args := #[] }]
def about1 : State := aboutOver below0
def p0 : Program := .bare "" "" ""
def e0 : Env := launch0.env 0 0 0
theorem w_frames : about1.frames = Frame.invoking theMethod args0 :: below0 := rfl
set_option maxRecDepth 65536 in
theorem w_args : argsFit about1.vm theMethod args0 = true := by decide +kernel
set_option maxRecDepth 65536 in
theorem w_heap : heapFits about1 = true := by decide +kernel
set_option maxRecDepth 65536 in
theorem w_runnable : about1.curStatus? = some .runnable := by decide +kernel
set_option maxRecDepth 65536 in
theorem w_alone : about1.alone = true := by decide +kernel
set_option maxRecDepth 65536 in
theorem w_named : about1.methodNamed? x = some theMethod := by decide +kernel
set_option maxRecDepth 65536 in
theorem w_hears : about1.hears theMethod below0 = true := by decide +kernel
set_option maxRecDepth 65536 in
theorem w_ripe : about1.ripe theMethod args0 below0 = true := by decide +kernel
theorem w_running : about1.status = .running := rfl
set_option maxRecDepth 65536 in
theorem w_room : about1.hasRoom e0.platform room_1 = true :=
  launch0.hasRoom_least _ room_1 (by decide +kernel) (by decide +kernel) (by decide +kernel) (by decide +kernel) (by decide +kernel) (by decide +kernel)
theorem allAtoms_all (ts : List Jvm.Cond) (a : Array Jvm.Value) (st : Jvm.State) : (allAtoms ts).before a st = ts.all (fun c => c.before a st) := by
  induction ts with
  | nil => rfl
  | cons c t ih =>
    show (Jvm.Cond.and c (allAtoms t)).before a st = _
    rw [Jvm.Cond.before_and, ih, List.all_cons]
def words1 : List Jvm.Cond := Jvm.Cond.code x code maxLocals ret :: tables_1
/-- a 'code' word, met by the world's own term for the bytes: nothing is compared byte by byte -/
theorem code_word {y : MethodName} {bytes : ByteArray} {mx : Nat} {rt : Option FieldType} {a : Array Value} {s : State} {m : MethodId} {meth : Method} {c : Code} (h1 : s.methodNamed? y = some m) (h2 : s.vm.method? m = some meth) (h3 : meth.code = some c) (h4 : c.code = bytes)
    (h5 : (c.maxLocals == mx && c.exceptionTable.isEmpty && decide (c.maxStack ≤ mostOperands) && decide (meth.sig.returnType = rt) && !meth.locks && decide (parseMethodDescriptor y.desc = some meth.sig)) = true) : (Jvm.Cond.code y bytes mx rt).before a s = true := by
  simp only [Bool.and_eq_true, beq_iff_eq, Bool.not_eq_true', decide_eq_true_eq] at h5
  obtain ⟨⟨⟨⟨⟨g1, g2⟩, g3⟩, g4⟩, g5⟩, g6⟩ := h5
  simp [Cond.before, Cond.holds, Cond.value, h1, h2, h3, h4, g1, g2, g3, g4, g5, g6]
def isCode : Jvm.Cond → Bool
  | .code _ _ _ _ => true
  | _ => false
theorem all_split {L : List Jvm.Cond} {P : Jvm.Cond → Bool} (h1 : L.all (fun c => isCode c || P c) = true) (h2 : ∀ c ∈ L.filter isCode, P c = true) : L.all P = true := by
  refine List.all_eq_true.mpr fun c hc => ?_
  have h := List.all_eq_true.mp h1 c hc
  rcases Bool.eq_false_or_eq_true (isCode c) with hi | hi
  · exact h2 c (List.mem_filter.mpr ⟨hc, hi⟩)
  · simpa [hi] using h
set_option maxRecDepth 65536 in
theorem w_c0 : (Jvm.Cond.code x code maxLocals ret).before args0 about1 = true := code_word (m := ⟨1, 2⟩) (meth := k1m2) (c := k1c2) (by decide +kernel) rfl rfl rfl (by decide +kernel)
set_option maxRecDepth 65536 in
theorem w_c1 : (Jvm.Cond.code ({ cls := "com/example/orderly_session/orderlysession/postgresql/PgTypeRoundedInTextPinLaw", name := "pick", desc := "(I)Lcom/example/orderly_session/orderlysession/postgresql/PgType;" } : Jvm.MethodName) method_2_code (1 : Nat) (Option.some (Jvm.ClassFile.FieldType.object "com/example/orderly_session/orderlysession/postgresql/PgType"))).before args0 about1 = true := code_word (m := ⟨1, 1⟩) (meth := k1m1) (c := k1c1) (by decide +kernel) rfl rfl rfl (by decide +kernel)
set_option maxRecDepth 65536 in
theorem w_c2 : (Jvm.Cond.code ({ cls := "com/example/orderly_session/orderlysession/postgresql/PgType", name := "roundedInText", desc := "()Z" } : Jvm.MethodName) prog_43_method_13_code (1 : Nat) (Option.some Jvm.ClassFile.FieldType.boolean)).before args0 about1 = true := code_word (m := ⟨6, 1⟩) (meth := k6m1) (c := k6c1) (by decide +kernel) rfl rfl rfl (by decide +kernel)
set_option maxRecDepth 65536 in
theorem w_c3 : (Jvm.Cond.code ({ cls := "com/example/orderly_session/orderlysession/postgresql/PgType", name := "oid", desc := "()I" } : Jvm.MethodName) prog_43_method_10_code (1 : Nat) (Option.some Jvm.ClassFile.FieldType.int)).before args0 about1 = true := code_word (m := ⟨6, 0⟩) (meth := k6m0) (c := k6c0) (by decide +kernel) rfl rfl rfl (by decide +kernel)
def codes1 : List Jvm.Cond := [Jvm.Cond.code x code maxLocals ret, Jvm.Cond.code ({ cls := "com/example/orderly_session/orderlysession/postgresql/PgTypeRoundedInTextPinLaw", name := "pick", desc := "(I)Lcom/example/orderly_session/orderlysession/postgresql/PgType;" } : Jvm.MethodName) method_2_code (1 : Nat) (Option.some (Jvm.ClassFile.FieldType.object "com/example/orderly_session/orderlysession/postgresql/PgType")), Jvm.Cond.code ({ cls := "com/example/orderly_session/orderlysession/postgresql/PgType", name := "roundedInText", desc := "()Z" } : Jvm.MethodName) prog_43_method_13_code (1 : Nat) (Option.some Jvm.ClassFile.FieldType.boolean), Jvm.Cond.code ({ cls := "com/example/orderly_session/orderlysession/postgresql/PgType", name := "oid", desc := "()I" } : Jvm.MethodName) prog_43_method_10_code (1 : Nat) (Option.some Jvm.ClassFile.FieldType.int)]
set_option maxRecDepth 65536 in
theorem codes_eq : words1.filter isCode = codes1 := rfl
theorem w_codes : ∀ c ∈ words1.filter isCode, c.before args0 about1 = true := by
  rw [codes_eq]
  intro c hc
  simp only [codes1, List.mem_cons, List.not_mem_nil, or_false] at hc
  rcases hc with rfl | rfl | rfl | rfl
  · exact w_c0
  · exact w_c1
  · exact w_c2
  · exact w_c3
set_option maxRecDepth 65536 in
theorem w_t1 : (words1.take 24).all (fun c => isCode c || c.before args0 about1) = true := by decide +kernel
set_option maxRecDepth 65536 in
theorem w_t2 : (words1.drop 24).all (fun c => isCode c || c.before args0 about1) = true := by decide +kernel
theorem w_tables : (allAtoms (Jvm.Cond.code x code maxLocals ret :: tables_1)).before args0 about1 = true := by
  rw [allAtoms_all]
  show words1.all (fun c => c.before args0 about1) = true
  refine all_split ?_ w_codes
  rw [← List.take_append_drop 24 words1, List.all_append, w_t1, w_t2]
  rfl
set_option maxRecDepth 65536 in
theorem w_case : (Jvm.Cond.and given_1 narrow_1).before args0 about1 = true := by decide +kernel
theorem w_applies : (headSpec (Jvm.Cond.code x code maxLocals ret :: tables_1) room_1).applies x e0.platform about1 = true :=
  (Spec.applies_iff w_frames).mpr ⟨w_running, w_runnable, w_alone, w_named, w_hears, w_ripe, w_room, w_tables⟩
theorem atStart : AtStart classFile x code maxLocals ret World_1 tables_1 room_1 Calls_1 rest_1 Pre_1 launch0 p0 e0 about1 theMethod args0 below0 :=
  ⟨lists_1, trivial, launch0.admits_env _ _ _, launch0.least_env, fairChoices_fair.cas, fairChoices_fair.clock, w_frames, w_args, w_heap, w_applies, trivial, trivial, w_case⟩
end start1
theorem witness_1 : WitnessClaimed_1 := ⟨start1.p0, start1.e0, start1.about1, start1.theMethod, start1.args0, start1.below0, start1.atStart⟩
end Jvm.Pilot.@@N@@
