import JvmDerived
import JvmDerived.Pilot.@@N@@Statement
import JvmDerived.Pilot.@@N@@Code
set_option linter.unusedVariables false
set_option linter.unusedSimpArgs false
namespace Jvm.Pilot.@@N@@.Own
open Jvm Sem ClassFile Op Lib Jvm.Stand Jvm.Free Jvm.LawKit Jvm.RoadKit
/-- from the state A the run comes to an end of which P holds -/
def OGo (tb : Tables) (e : Env) (below : List Frame) (P : Outcome → State → Prop) (A : State) : Prop := ∃ s₂ o, Steps tb e below A s₂ ∧ s₂.status = .running ∧ Ended s₂ below o ∧ P o s₂
theorem OGo.go {tb : Tables} {e : Env} {below : List Frame} {P : Outcome → State → Prop} {A B : State} (k : OGo tb e below P B) (h : ∀ t, Steps tb e below B t → Steps tb e below A t) : OGo tb e below P A := by
  obtain ⟨s, o, h1, h2⟩ := k; exact ⟨s, o, h _ h1, h2⟩
theorem OGo.start {tb : Tables} {e : Env} {below : List Frame} {P : Outcome → State → Prop} {T : State} {g g' : JFrame} (q : g = g') (k : OGo tb e below P (T.setTop g')) : OGo tb e below P (T.setTop g) := q ▸ k
theorem OGo.ret {p : Program} {l : Launch} {e : Env} {R : Room} {s : State} {m : MethodId} {args : Array Value} {below : List Frame} {meth : Method} {c : Code} {T : State} {locs : List Loc} {cells slots : Nat}
    (X : Stand p l e R s m args below meth c T locs cells slots) {v : Option Value} (hv : meth.sig.returnType = none → v = none) (hlocks : meth.locks = false) {A : State}
    (hA : ∀ fs, (∀ (f : JFrame) (acts : List Action), f.method = m → f.locked = none → f.entered = [] → (doReturn e (T.setTop f) acts v).1 = T.setFrames fs) → Steps p.tables e below A (T.setFrames fs))
    {Q : Option Value → Heap → List Loc → Prop} {C S : Nat} (hQ : Q v T.heap locs) (hc : cells ≤ C) (hs : slots ≤ S) :
    OGo p.tables e below (fun o U' => ∃ v L, o = .returned v ∧ Q v U'.heap L ∧ FrameEnd s o U' L C S) A := by
  obtain ⟨fs, hr, hrun, hended, hW, hsame⟩ := X.leave hv hlocks
  exact ⟨_, _, hA fs hr, hrun, hended, v, locs, rfl, hQ, ⟨_, rfl⟩, hW, hsame.mono hc hs⟩
theorem OGo.retW {p : Program} {l : Launch} {e : Env} {R : Room} {s : State} {m : MethodId} {args : Array Value} {below : List Frame} {meth : Method} {c : Code} {T : State} {locs : List Loc} {cells slots : Nat} {vm0 : Vm} {k0 : Nat}
    (X : Stand p l e R (s.setVm vm0) m args below meth c T locs cells slots) (hS : s.Since vm0 k0) (hn : k0 ≤ T.heap.size) {v : Option Value} (hv : meth.sig.returnType = none → v = none) (hlocks : meth.locks = false) {A : State}
    (hA : ∀ fs, (∀ (f : JFrame) (acts : List Action), f.method = m → f.locked = none → f.entered = [] → (doReturn e (T.setTop f) acts v).1 = T.setFrames fs) → Steps p.tables e below A (T.setFrames fs))
    {Q : Option Value → Heap → List Loc → Prop} {C S : Nat} (hQ : Q v T.heap locs) (hc : cells ≤ C) (hs : slots ≤ S) :
    OGo p.tables e below (fun o U' => ∃ v L, o = .returned v ∧ Q v U'.heap L ∧ ReturnedEndW s o U' L C S) A := by
  obtain ⟨fs, hr, hrun, hended, h1, h2, h3, h4⟩ := X.leaveW hS hn hv hlocks
  exact ⟨_, _, hA fs hr, hrun, hended, v, locs, rfl, hQ, h1, h2, h3, h4.mono hc hs⟩
theorem Sta.keep0 {Z : State} {h h' : Heap} {C n d : String} {v : Value} (F : Sta Z h C n d v) (K : Keep h h' []) : Sta Z h' C n d v := by
  obtain ⟨cf, i, k, f, st, cell, h1, h2, h3, h4, h5, r⟩ := F; exact ⟨cf, i, k, f, st, cell, h1, h2, h3, h4, K.2.1 _ _ h5 (fun q => nomatch q), r⟩
theorem Sta.keepE {Z : State} {h h' : Heap} {C n d : String} {v : Value} {ws : List Addr} (F : Sta Z h C n d v) (K : Keep h h' ws) (q : ∀ x ∈ ws, ∃ c : Cell, h[x]? = some c ∧ ∀ q, c.vm ≠ .statics q) : Sta Z h' C n d v := by
  obtain ⟨cf, i, k, f, st, cell, h1, h2, h3, h4, h5, h6, r⟩ := F
  refine ⟨cf, i, k, f, st, cell, h1, h2, h3, h4, K.2.1 _ _ h5 (fun hm => ?_), h6, r⟩
  obtain ⟨c, hc, hq⟩ := q _ hm
  cases h5.symm.trans hc
  cases hv : cell.vm <;> rw [hv] at h6 <;> first | exact hq _ hv | (simp [VmData.isStatics] at h6)
theorem staS {h : Heap} {y : Addr} {ws : List Addr} (a : ∃ c : Cell, h[y]? = some c ∧ ∀ q, c.vm ≠ .statics q) (r : ∀ x ∈ ws, ∃ c : Cell, h[x]? = some c ∧ ∀ q, c.vm ≠ .statics q) : ∀ x ∈ y :: ws, ∃ c : Cell, h[x]? = some c ∧ ∀ q, c.vm ≠ .statics q := fun x hx => (List.mem_cons.mp hx).elim (fun e => e ▸ a) (r x)
theorem own_nf {args : Array Value} {s : State} {C : String} {y y' : MethodName} (hsel : (Cond.selects C y' y').before args s = true) (e : y'.cls = y.cls) : NotFace s y := fun r0 h0 => by
  obtain ⟨c2, r2, m2, q1, q2, q3, q4, kP, hkP, hkPi⟩ := Cond.selects_spec hsel
  have a := findClass_of_methodNamed h0
  have b := findClass_of_methodNamed q3
  rw [e] at b
  have c : r0.cls = m2.cls := Option.some.inj (a.symm.trans b)
  exact ⟨kP, by rw [c]; exact hkP, hkPi⟩
theorem own_decl {a0 a1 : Array Value} {Z : State} {y : MethodName} {bytes : ByteArray} {maxL : Nat} {ret : Option FieldType} (w : (Cond.instanceMethod y).before a0 Z = true) (wc : (Cond.code y bytes maxL ret).before a0 Z = true) : (Cond.declares y).before a1 Z = true := by
  obtain ⟨m, meth, h1, h2, h3, -⟩ := Cond.instanceMethod_spec w
  obtain ⟨m2, c, h4, -, -, -, -, -, -, h5⟩ := Cond.code_spec h1 wc
  cases h2.symm.trans h4
  simp [Cond.before, Cond.holds, Cond.value, h1, h2, h3, h5]
theorem own_same {a0 : Array Value} {Z : State} {y : MethodName} (hmh : y.cls ≠ "java/lang/invoke/MethodHandle" ∧ y.cls ≠ "java/lang/invoke/VarHandle") (w : (Cond.declares y).before a0 Z = true) (nf : NotFace Z y) : (Cond.sameMethod y.cls y.cls y.name y.desc).before a0 Z = true := by
  obtain ⟨m, meth, h1, -⟩ := Cond.declares_spec w
  obtain ⟨k, hk, hi⟩ := nf m h1
  have hc := findClass_of_methodNamed h1
  have hf := State.methodFound?_of_named h1 hmh
  simp [Cond.before, Cond.holds, Cond.value, hc, hf, h1, hk, hi]
theorem fldI {args : Array Value} {s : State} {t : Term} {C n d : String} {x : Addr} {k : Int32} (ht : t.eval args s none [] s = some (.ref x)) (h : (Cond.eq (Term.field t C n d) (Term.int k)).value args s none s [] = some true) : Fld s s.heap x C n d (.int k) := by
  obtain ⟨u, w, hu, hw, hk, hk'⟩ := cmp_v (Or.inl h)
  cases (Term.int_eval k).symm.trans hw
  obtain ⟨z, rfl⟩ := hk'
  have e : z = k := by simpa [Cond.value, hu, Term.int_eval] using h
  subst e
  exact Fld.start (by rw [← fld_at ht]; exact hu)
theorem long_eval {args : Array Value} {s f : State} {o : Option Outcome} {idx : List Nat} (n : Int64) : (Term.long n).eval args f o idx s = some (.long n) := rfl
theorem fldL {args : Array Value} {s : State} {t : Term} {C n d : String} {x : Addr} {k : Int64} (ht : t.eval args s none [] s = some (.ref x)) (h : (Cond.eq (Term.field t C n d) (Term.long k)).value args s none s [] = some true) : Fld s s.heap x C n d (.long k) := by
  obtain ⟨u, w, hu, hw, hk, hk'⟩ := cmp_v (Or.inl h)
  cases (long_eval k).symm.trans hw
  obtain ⟨z, rfl⟩ := hk'
  have e : z = k := by simpa [Cond.value, hu, long_eval] using h
  subst e
  exact Fld.start (by rw [← fld_at ht]; exact hu)
theorem valL {args : Array Value} {s : State} {t : Term} {k : Int64} (h : (Cond.eq t (Term.long k)).value args s none s [] = some true) : t.eval args s none [] s = some (.long k) := by
  obtain ⟨u, w, hu, hw, hk, hk'⟩ := cmp_v (Or.inl h)
  cases (long_eval k).symm.trans hw
  obtain ⟨z, rfl⟩ := hk'
  have e : z = k := by simpa [Cond.value, hu, long_eval] using h
  subst e
  exact hu
theorem valI {args : Array Value} {s : State} {t : Term} {k : Int32} (h : (Cond.eq t (Term.int k)).value args s none s [] = some true) : t.eval args s none [] s = some (.int k) := by
  obtain ⟨u, w, hu, hw, hk, hk'⟩ := cmp_v (Or.inl h)
  cases (Term.int_eval k).symm.trans hw
  obtain ⟨z, rfl⟩ := hk'
  have e : z = k := by simpa [Cond.value, hu, Term.int_eval] using h
  subst e
  exact hu
theorem lenI {args : Array Value} {s : State} {t : Term} {x : Addr} {cl : Cell} {ty : FieldType} {k : Int32} (ht : t.eval args s none [] s = some (.ref x)) (A : Arr s s.heap x cl ty) (h : (Cond.eq (Term.length t) (Term.int k)).value args s none s [] = some true) : cl.slots.size.toInt32 = k ∧ cl.slots.size < 2 ^ 31 := by
  have hv := valI h
  have ha : s.arrayAt? x = some cl := Arr.fin (Vm.Alike.refl _) A
  simp only [Term.eval, ht, ha, Option.bind_eq_bind, Option.bind_some] at hv
  split at hv
  · rename_i q; exact ⟨by simpa using hv, q⟩
  · cases hv
theorem elemR {args : Array Value} {s : State} {t u : Term} {x y : Addr} {cl : Cell} {ty : FieldType} {k : Int32} (ht : t.eval args s none [] s = some (.ref x)) (A : Arr s s.heap x cl ty) (hu : u.eval args s none [] s = some (.ref y)) (h : (Cond.eq (Term.elem t (Term.int k)) u).value args s none s [] = some true) : cl.slots[k.toNatClampNeg]? = some (.ref y) := by
  obtain ⟨v, w, hv, hw, hk, hk'⟩ := cmp_v (Or.inl h)
  cases hu.symm.trans hw
  have e := (elem_in hv ht (Term.int_eval k) A.1).2
  rw [e]
  rcases ref_cases (v := v) hk'.2 with rfl | ⟨z, rfl⟩
  · simp [Cond.value, hv, hu] at h
  · have q : z = y := by simpa [Cond.value, hv, hu] using h
    rw [q]
end Jvm.Pilot.@@N@@.Own
namespace Jvm.Pilot.@@N@@
open Jvm Jvm.ClassFile Sem Op Lib Jvm.Free Jvm.Stand Jvm.LawKit Jvm.RoadKit Bundle Jvm.Pilot.@@N@@.Jvm.D Jvm.Pilot.@@N@@.Own
def own_dig (j : Int32) : Int32 := if j < (10 : Int32) then j + (48 : Int32) else j + (55 : Int32)
def own_dg (v : Int32) : Int32 := if v < (10 : Int32) then ((((48 : Int32) + v).toUInt32.toUInt16.toUInt32.toInt32).toUInt32.toUInt16.toUInt32.toInt32) else ((((65 : Int32) + (v - (10 : Int32))).toUInt32.toUInt16.toUInt32.toInt32).toUInt32.toUInt16.toUInt32.toInt32)
def own_D : List Value := [(.int (48 : Int32)), (.int (49 : Int32)), (.int (50 : Int32)), (.int (51 : Int32)), (.int (52 : Int32)), (.int (53 : Int32)), (.int (54 : Int32)), (.int (55 : Int32)), (.int (56 : Int32)), (.int (57 : Int32)), (.int (65 : Int32)), (.int (66 : Int32)), (.int (67 : Int32)), (.int (68 : Int32)), (.int (69 : Int32)), (.int (70 : Int32))]

theorem own_small (P : Int32 → Prop) (k : Nat) (hk : k ≤ 256) (h : ∀ n : Nat, n < k → P (Int32.ofNat n)) (v : Int32) (h1 : 0 ≤ v.toInt) (h2 : v.toInt < k) : P v := by
  have e : v = Int32.ofNat v.toInt.toNat := by
    apply Int32.toInt_inj.mp
    rw [Int32.toInt_ofNat_small (by omega)]; omega
  rw [e]; exact h _ (by omega)
theorem own_m15 (x : Int32) : 0 ≤ (x &&& (15 : Int32)).toInt ∧ (x &&& (15 : Int32)).toInt < (16 : Nat) := by
  have a := c_mask x 15 4 (by decide) (by decide)
  omega
theorem own_getD (x : Int32) : own_D.getD (x &&& (15 : Int32)).toNatClampNeg (.int (0 : Int32)) = .int (own_dig (x &&& (15 : Int32))) :=
  own_small (fun j => own_D.getD j.toNatClampNeg (.int (0 : Int32)) = .int (own_dig j)) 16 (by decide) (by decide +kernel) _ (own_m15 x).1 (own_m15 x).2
theorem own_in16 (x : Int32) : ¬ (x &&& (15 : Int32)) < 0 ∧ (x &&& (15 : Int32)) < (16 : Int32) := by
  have a := own_m15 x
  have z0 : (0 : Int32).toInt = 0 := by decide
  have z1 : (16 : Int32).toInt = 16 := by decide
  rw [Int32.lt_iff_toInt_lt, Int32.lt_iff_toInt_lt]; omega
theorem own_le255 (x : Int32) : ¬ (255 : Int32) < own_dig (x &&& (15 : Int32)) :=
  own_small (fun j => ¬ (255 : Int32) < own_dig j) 16 (by decide) (by decide +kernel) _ (own_m15 x).1 (own_m15 x).2
theorem own_chr (j : Int32) (h1 : 0 ≤ j.toInt) (h2 : j.toInt < (16 : Nat)) : ((((((own_dig j).toInt8.toInt32).toInt8.toInt32) &&& (255 : Int32)).toUInt32.toUInt16.toUInt32.toInt32).toUInt32.toUInt16.toUInt32.toInt32) = own_dg j :=
  own_small (fun j => ((((((own_dig j).toInt8.toInt32).toInt8.toInt32) &&& (255 : Int32)).toUInt32.toUInt16.toUInt32.toInt32).toUInt32.toUInt16.toUInt32.toInt32) = own_dg j) 16 (by decide) (by decide +kernel) _ h1 h2
theorem own_hi (x : Int32) : ((x &&& (255 : Int32)) / (16 : Int32)) = ((x >>> ((4 : Int32) &&& 31)) &&& (15 : Int32)) := by
  apply Int32.toInt_inj.mp
  have a := c_mask x 255 8 (by decide) (by decide)
  have b := (c_idiv (x &&& (255 : Int32)) 16 16 (by decide) (by decide)).1 (by omega)
  have c := c_ishr x 4 4 (by decide)
  have d := c_mask (x >>> ((4 : Int32) &&& 31)) 15 4 (by decide) (by decide)
  omega
theorem own_lo (x : Int32) : ((x &&& (255 : Int32)) % (16 : Int32)) = (x &&& (15 : Int32)) := by
  apply Int32.toInt_inj.mp
  have a := c_mask x 255 8 (by decide) (by decide)
  have b := (c_irem (x &&& (255 : Int32)) 16 16 (by decide)).1 (by omega)
  have d := c_mask x 15 4 (by decide) (by decide)
  omega
theorem own_hi' (x : Int32) : ((((((own_dig ((x >>> ((4 : Int32) &&& 31)) &&& (15 : Int32))).toInt8.toInt32).toInt8.toInt32) &&& (255 : Int32)).toUInt32.toUInt16.toUInt32.toInt32).toUInt32.toUInt16.toUInt32.toInt32) = own_dg ((x &&& (255 : Int32)) / (16 : Int32)) := by rw [own_hi]; exact own_chr _ (own_m15 _).1 (own_m15 _).2
theorem own_lo' (x : Int32) : ((((((own_dig (x &&& (15 : Int32))).toInt8.toInt32).toInt8.toInt32) &&& (255 : Int32)).toUInt32.toUInt16.toUInt32.toInt32).toUInt32.toUInt16.toUInt32.toInt32) = own_dg ((x &&& (255 : Int32)) % (16 : Int32)) := by rw [own_lo]; exact own_chr _ (own_m15 _).1 (own_m15 _).2
theorem own_four (x : Int32) : (x &&& (3 : Int32)) = (0 : Int32) ∨ (x &&& (3 : Int32)) = (1 : Int32) ∨ (x &&& (3 : Int32)) = (2 : Int32) ∨ (x &&& (3 : Int32)) = (3 : Int32) := by
  have a := c_mask x 3 2 (by decide) (by decide)
  have z0 : (0 : Int32).toInt = 0 := by decide
  have z1 : (1 : Int32).toInt = 1 := by decide
  have z2 : (2 : Int32).toInt = 2 := by decide
  have z3 : (3 : Int32).toInt = 3 := by decide
  simp only [← Int32.toInt_inj]; omega
theorem own_cc (x : Int32) : (x.toUInt32.toUInt16.toUInt32.toInt32).toUInt32.toUInt16.toUInt32.toInt32 = x.toUInt32.toUInt16.toUInt32.toInt32 := by
  apply Int32.toInt_inj.mp
  have a := c_i2c x; have b := c_i2c (x.toUInt32.toUInt16.toUInt32.toInt32); omega
theorem own_ii (x : Int32) : x.toInt8.toInt32.toInt8.toInt32 = x.toInt8.toInt32 := by
  apply Int32.toInt_inj.mp
  have a := c_i2b x; have b := c_i2b (x.toInt8.toInt32); omega

theorem d3_0 : decode jdk_68_method_2_code 0 = .ok (.aload_n 0, 1) := by decide +kernel
theorem d3_1 : decode jdk_68_method_2_code 1 = .ok (.invokespecial 3, 3) := by decide +kernel
theorem d3_4 : decode jdk_68_method_2_code 4 = .ok (.getstatic 18, 3) := by decide +kernel
theorem d3_7 : decode jdk_68_method_2_code 7 = .ok (.ifCond .eq 18, 3) := by decide +kernel
theorem d3_10 : decode jdk_68_method_2_code 10 = .ok (.aload_n 0, 1) := by decide +kernel
theorem d3_11 : decode jdk_68_method_2_code 11 = .ok (.iload_n 1, 1) := by decide +kernel
theorem d3_12 : decode jdk_68_method_2_code 12 = .ok (.newarray .byte, 2) := by decide +kernel
theorem d3_14 : decode jdk_68_method_2_code 14 = .ok (.putfield 15, 3) := by decide +kernel
theorem d3_17 : decode jdk_68_method_2_code 17 = .ok (.aload_n 0, 1) := by decide +kernel
theorem d3_18 : decode jdk_68_method_2_code 18 = .ok (.iconst 0, 1) := by decide +kernel
theorem d3_19 : decode jdk_68_method_2_code 19 = .ok (.putfield 22, 3) := by decide +kernel
theorem d3_22 : decode jdk_68_method_2_code 22 = .ok (.goto 16, 3) := by decide +kernel
theorem d3_38 : decode jdk_68_method_2_code 38 = .ok (.return_, 1) := by decide +kernel
theorem pn_java_lang_AbstractStringBuilder : plainName "java/lang/AbstractStringBuilder" = true := by first | (simp [plainName, overriddenIn]; done) | decide +kernel
def Q3n0 (Z : State) (a0 : Addr) (u1 : Value) (u2 : Value) (cs : Int32) (h0 : Heap) (n0 : Nat) (v : Option Value) (h : Heap) (L : List Loc) : Prop := ∃ (vb : Addr) (kb : ClassId), v = none ∧ Fr n0 L ∧ Keep h0 h [a0] ∧ h0.size ≤ vb ∧ Exa Z h a0 "java/lang/StringBuilder" ∧ Fld Z h a0 "java/lang/AbstractStringBuilder" "value" "[B" (.ref vb) ∧ Fld Z h a0 "java/lang/AbstractStringBuilder" "coder" "B" (.int (0 : Int32)) ∧ Fld Z h a0 "java/lang/AbstractStringBuilder" "count" "I" (.int (0 : Int32)) ∧ Exa Z h vb "[B" ∧ Arv Z h vb kb .byte (0 : Int32) [] (.int (0 : Int32))
def P3n0 (Z : State) (a0 : Addr) (u1 : Value) (u2 : Value) (cs : Int32) (h0 : Heap) (n0 : Nat) (s : State) (o : Outcome) (U' : State) : Prop := ∃ v L, o = .returned v ∧ Q3n0 Z a0 u1 u2 cs h0 n0 v U'.heap L ∧ FrameEnd s o U' L ({ frames := 1, cells := 1, slots := 0, locals := 12 } : Room).cells ({ frames := 1, cells := 1, slots := 0, locals := 12 } : Room).slots
set_option maxRecDepth 65536 in
set_option maxHeartbeats 40000000 in
theorem rm3n0 (l : Launch) (Z : State) (aV : Array Value) (hw : ∀ d ∈ tables_1, d.before aV Z = true) (ws : List Jvm.Cond) (a0 : Addr) (u1 : Value) (u2 : Value) (cs : Int32) (h0 : Heap) (n0 : Nat) (Z0 : n0 ≤ h0.size) (E_a0 : Exa Z h0 a0 "java/lang/StringBuilder") (F_value_a0 : Fld Z h0 a0 "java/lang/AbstractStringBuilder" "value" "[B" u1) (F_coder_a0 : Fld Z h0 a0 "java/lang/AbstractStringBuilder" "coder" "B" u2) (F_count_a0 : Fld Z h0 a0 "java/lang/AbstractStringBuilder" "count" "I" (.int (0 : Int32))) (S_COMPACT_STRINGS : Sta Z h0 "java/lang/String" "COMPACT_STRINGS" "Z" (.int cs)) (ga : n0 ≤ a0) (hcs : ¬ cs = 0) :
    MetFree l (⟨"java/lang/AbstractStringBuilder", "<init>", "(I)V"⟩ : MethodName) (head1 (Jvm.Cond.code (⟨"java/lang/AbstractStringBuilder", "<init>", "(I)V"⟩ : MethodName) jdk_68_method_2_code 2 none :: ws) ({ frames := 1, cells := 1, slots := 0, locals := 12 } : Room)) (fun a U => a = #[(.ref a0), (.int (0 : Int32))] ∧ Z.Warmed39 U.vm ∧ U.heap = h0) (fun _ _ _ _ _ => True) (fun _ U o U' => ∃ v L, o = .returned v ∧ Q3n0 Z a0 u1 u2 cs h0 n0 v U'.heap L ∧ FrameEnd U o U' L ({ frames := 1, cells := 1, slots := 0, locals := 12 } : Room).cells ({ frames := 1, cells := 1, slots := 0, locals := 12 } : Room).slots) := by
  refine MetFree.of_bodySF (plainFor_of_name pn_java_lang_AbstractStringBuilder) hisR ?_
  intro p e s m args below meth c s₁ Bd hml0 hP hK
  obtain ⟨rfl, hZ, hh⟩ := hP
  have hx := Bd.exec
  have hby := Bd.bytes
  have hml : c.maxLocals = 2 := hml0
  have hown : s.vm.findClass "java/lang/AbstractStringBuilder" = some m.cls := findClass_of_methodNamed Bd.named
  have hnm := (name_of_methodNamed Bd.named Bd.method).1
  have X0 : Stand p l e ({ frames := 1, cells := 1, slots := 0, locals := 12 } : Room) s m #[(.ref a0), (.int (0 : Int32))] below meth c s₁ [] 0 0 := Stand.of_body Bd
  have e0 : s₁.heap = h0 := by rw [← hh, Bd.state]; rfl
  have efx : entryFrame m #[(.ref a0), (.int (0 : Int32))] 2 = mkF m 0 #[.val (.ref a0), .val (.int (0 : Int32))] [] := by first | (simp [entryFrame, mkF, argsToLocals, Value.category]; done) | rfl
  have N0 := Fr.nil n0
  have K0 : Keep h0 h0 [a0] := Keep.refl h0 _
  refine OGo.start (g' := mkF m 0 #[.val (.ref a0), .val (.int (0 : Int32))] []) (efx) ?_
  show OGo p.tables e below (P3n0 Z a0 u1 u2 cs h0 n0 s) (s₁.setTop (mkF m 0 #[.val (.ref a0), .val (.int (0 : Int32))] []))
  refine OGo.go (B := s₁.setTop (mkF m 1 #[.val (.ref a0), .val (.int (0 : Int32))] [(.ref a0)])) ?_ (fun tX kX => XS.aloadN X0.here hx rfl (hb hby d3_0) rfl rfl kX)
  obtain ⟨T1, X1, e1, st1⟩ := initO X0 hx hZ hown (hw _ (List.mem_of_getElem? (i := 17) rfl)) (hw _ (List.mem_of_getElem? (i := 18) rfl)) (hw _ (List.mem_of_getElem? (i := 19) rfl)) e0 (g := (mkF m 1 #[.val (.ref a0), .val (.int (0 : Int32))] [(.ref a0)])) rfl (by rw [hml]; rfl) rfl (hb hby d3_1) (by decide) (W := 0) (by show 2 * 0 + _ ≤ _; exact Nat.le_of_eq rfl) (by decide)
  refine OGo.go (B := T1.setTop (mkF m 4 #[.val (.ref a0), .val (.int (0 : Int32))] [])) ?_ st1
  obtain ⟨T2, X2, e2, st2⟩ := getS2 X1 hx hZ hown (host := "") (Or.inl (hw _ (List.mem_of_getElem? (i := 20) rfl))) Via.refl e1 S_COMPACT_STRINGS (g := (mkF m 4 #[.val (.ref a0), .val (.int (0 : Int32))] [])) rfl (hb hby d3_4)
  refine OGo.go (B := T2.setTop (mkF m 7 #[.val (.ref a0), .val (.int (0 : Int32))] [(.int cs)])) ?_ st2
  refine OGo.go (B := T2.setTop (mkF m 10 #[.val (.ref a0), .val (.int (0 : Int32))] [])) ?_ (fun tX kX => XS.ifNo X2.here hx rfl (hb hby d3_7) rfl ((if0 _ _).trans (feq hcs).1) kX)
  refine OGo.go (B := T2.setTop (mkF m 11 #[.val (.ref a0), .val (.int (0 : Int32))] [(.ref a0)])) ?_ (fun tX kX => XS.aloadN X2.here hx rfl (hb hby d3_10) rfl rfl kX)
  refine OGo.go (B := T2.setTop (mkF m 12 #[.val (.ref a0), .val (.int (0 : Int32))] [(.int (0 : Int32)), (.ref a0)])) ?_ (fun tX kX => XS.iloadN X2.here hx rfl (hb hby d3_11) rfl kX)
  obtain ⟨T3, h3, k3, X3, e3, E3, A3, EA3, st3⟩ := newPE X2 hx hZ (hw _ (List.mem_of_getElem? (i := 0) rfl)) e2 (g := (mkF m 12 #[.val (.ref a0), .val (.int (0 : Int32))] [(.int (0 : Int32)), (.ref a0)])) rfl (hb hby d3_12) rfl (by decide) (cap := 0) (by decide) (by decide) (by decide) (by decide) (ad := "[B") (by decide)
  obtain ⟨b3, g3⟩ : ∃ z, z = h0.size := ⟨_, rfl⟩
  rw [← g3] at A3 EA3 st3
  have ne_a0_b3 : a0 ≠ b3 := Nat.ne_of_lt (Nat.lt_of_lt_of_le E_a0.lt (Nat.le_of_eq g3.symm))
  have E_a0 := E_a0.ext E3
  have F_value_a0 := F_value_a0.ext E3
  have F_coder_a0 := F_coder_a0.ext E3
  have F_count_a0 := F_count_a0.ext E3
  have S_COMPACT_STRINGS := S_COMPACT_STRINGS.ext E3
  have g_b3 : n0 ≤ b3 := Nat.le_trans Z0 (Nat.le_of_eq g3.symm)
  have sz_b3 : h0.size ≤ b3 := Nat.le_trans K0.1 (Nat.le_of_eq g3.symm)
  have zn3 : n0 ≤ h3.size := Nat.le_trans Z0 E3.1
  have K3 := K0.ext E3
  have E_b3 := EA3
  have V_b3 : Arv Z h3 b3 k3 .byte (0 : Int32) [] (.int (0 : Int32)) := Arv.new A3 (by decide)
  refine OGo.go (B := T3.setTop (mkF m 14 #[.val (.ref a0), .val (.int (0 : Int32))] [(.ref b3), (.ref a0)])) ?_ st3
  obtain ⟨T4, h4, X4, e4, W4, st4⟩ := putF X3 hx hZ hown (host := "") (Or.inl (hw _ (List.mem_of_getElem? (i := 22) rfl))) Via.refl e3 F_value_a0 E_a0 (Or.inl (hw _ (List.mem_of_getElem? (i := 23) rfl))) (hw _ (List.mem_of_getElem? (i := 6) rfl)) (ty := (.array .byte)) (by decide) rfl rfl (g := (mkF m 14 #[.val (.ref a0), .val (.int (0 : Int32))] [(.ref b3), (.ref a0)])) rfl rfl (hb hby d3_14)
  have E_a0 := E_a0.wr W4
  have F_value_a0 := F_value_a0.same W4
  have F_coder_a0 := F_coder_a0.other W4 (Or.inr (slot_ne (Or.inl (hw _ (List.mem_of_getElem? (i := 25) rfl))) (Or.inl (hw _ (List.mem_of_getElem? (i := 23) rfl))) (by decide) (t := .byte) (t' := (.array .byte)) (by decide) (by decide)))
  have F_count_a0 := F_count_a0.other W4 (Or.inr (slot_ne (Or.inl (hw _ (List.mem_of_getElem? (i := 56) rfl))) (Or.inl (hw _ (List.mem_of_getElem? (i := 23) rfl))) (by decide) (t := .int) (t' := (.array .byte)) (by decide) (by decide)))
  have S_COMPACT_STRINGS := S_COMPACT_STRINGS.wr W4
  have E_b3 := E_b3.wr W4
  have V_b3 := V_b3.other W4 (Ne.symm ne_a0_b3)
  have K4 := K3.wr W4 (Or.inl (List.mem_of_getElem? (i := 0) rfl))
  have zn4 : n0 ≤ h4.size := Nat.le_trans zn3 (Keep.of_wr W4).1
  have N4 := Fr.snoc X4 N0 ga
  refine OGo.go (B := T4.setTop (mkF m 17 #[.val (.ref a0), .val (.int (0 : Int32))] [])) ?_ st4
  refine OGo.go (B := T4.setTop (mkF m 18 #[.val (.ref a0), .val (.int (0 : Int32))] [(.ref a0)])) ?_ (fun tX kX => XS.aloadN X4.here hx rfl (hb hby d3_17) rfl rfl kX)
  refine OGo.go (B := T4.setTop (mkF m 19 #[.val (.ref a0), .val (.int (0 : Int32))] [(.int (0 : Int32)), (.ref a0)])) ?_ (fun tX kX => XS.iconst X4.here hx rfl (hb hby d3_18) kX)
  obtain ⟨T5, h5, X5, e5, W5, st5⟩ := putF X4 hx hZ hown (host := "") (Or.inl (hw _ (List.mem_of_getElem? (i := 24) rfl))) Via.refl e4 F_coder_a0 E_a0 (Or.inl (hw _ (List.mem_of_getElem? (i := 25) rfl))) (hw _ (List.mem_of_getElem? (i := 6) rfl)) (ty := .byte) (by decide) rfl rfl (g := (mkF m 19 #[.val (.ref a0), .val (.int (0 : Int32))] [(.int (0 : Int32)), (.ref a0)])) rfl rfl (hb hby d3_19)
  have E_a0 := E_a0.wr W5
  have F_value_a0 := F_value_a0.other W5 (Or.inr (slot_ne (Or.inl (hw _ (List.mem_of_getElem? (i := 23) rfl))) (Or.inl (hw _ (List.mem_of_getElem? (i := 25) rfl))) (by decide) (t := (.array .byte)) (t' := .byte) (by decide) (by decide)))
  have F_coder_a0 := F_coder_a0.same W5
  have F_count_a0 := F_count_a0.other W5 (Or.inr (slot_ne (Or.inl (hw _ (List.mem_of_getElem? (i := 56) rfl))) (Or.inl (hw _ (List.mem_of_getElem? (i := 25) rfl))) (by decide) (t := .int) (t' := .byte) (by decide) (by decide)))
  have S_COMPACT_STRINGS := S_COMPACT_STRINGS.wr W5
  have E_b3 := E_b3.wr W5
  have V_b3 := V_b3.other W5 (Ne.symm ne_a0_b3)
  have K5 := K4.wr W5 (Or.inl (List.mem_of_getElem? (i := 0) rfl))
  have zn5 : n0 ≤ h5.size := Nat.le_trans zn4 (Keep.of_wr W5).1
  have N5 := Fr.snoc X5 N4 ga
  refine OGo.go (B := T5.setTop (mkF m 22 #[.val (.ref a0), .val (.int (0 : Int32))] [])) ?_ st5
  refine OGo.go (B := T5.setTop (mkF m 38 #[.val (.ref a0), .val (.int (0 : Int32))] [])) ?_ (fun tX kX => XS.goto X5.here hx rfl (pc0 := 22) (pc' := 38) rfl (hb hby d3_22) (by decide) (by decide) kX)
  refine OGo.ret X5 (v := none) (fun _ => rfl) (BodyLoose.notSynchronized Bd) (fun fs hr => X5.returnOut hx Bd.returns (hb hby d3_38) hr) (Q := Q3n0 Z a0 u1 u2 cs h0 n0) ?_ (by decide) (by decide)
  show Q3n0 Z a0 u1 u2 cs h0 n0 _ T5.heap _
  rw [e5]
  exact ⟨b3, k3, rfl, N5, K5, sz_b3, E_a0, F_value_a0, F_coder_a0, F_count_a0, E_b3, V_b3⟩
theorem d2_0 : decode jdk_67_method_2_code 0 = .ok (.aload_n 0, 1) := by decide +kernel
theorem d2_1 : decode jdk_67_method_2_code 1 = .ok (.iload_n 1, 1) := by decide +kernel
theorem d2_2 : decode jdk_67_method_2_code 2 = .ok (.invokespecial 1, 3) := by decide +kernel
theorem pd__I_V : parseMethodDescriptor "(I)V" = some ⟨[.int], none⟩ := by decide +kernel
theorem d2_5 : decode jdk_67_method_2_code 5 = .ok (.return_, 1) := by decide +kernel
theorem pn_java_lang_StringBuilder : plainName "java/lang/StringBuilder" = true := by first | (simp [plainName, overriddenIn]; done) | decide +kernel
def Q2n0 (Z : State) (a0 : Addr) (u1 : Value) (u2 : Value) (cs : Int32) (h0 : Heap) (n0 : Nat) (v : Option Value) (h : Heap) (L : List Loc) : Prop := ∃ (vb : Addr) (kb : ClassId), v = none ∧ Fr n0 L ∧ Keep h0 h [a0] ∧ h0.size ≤ vb ∧ Exa Z h a0 "java/lang/StringBuilder" ∧ Fld Z h a0 "java/lang/AbstractStringBuilder" "value" "[B" (.ref vb) ∧ Fld Z h a0 "java/lang/AbstractStringBuilder" "coder" "B" (.int (0 : Int32)) ∧ Fld Z h a0 "java/lang/AbstractStringBuilder" "count" "I" (.int (0 : Int32)) ∧ Exa Z h vb "[B" ∧ Arv Z h vb kb .byte (0 : Int32) [] (.int (0 : Int32))
def P2n0 (Z : State) (a0 : Addr) (u1 : Value) (u2 : Value) (cs : Int32) (h0 : Heap) (n0 : Nat) (s : State) (o : Outcome) (U' : State) : Prop := ∃ v L, o = .returned v ∧ Q2n0 Z a0 u1 u2 cs h0 n0 v U'.heap L ∧ FrameEnd s o U' L ({ frames := 2, cells := 1, slots := 0, locals := 25 } : Room).cells ({ frames := 2, cells := 1, slots := 0, locals := 25 } : Room).slots
set_option maxRecDepth 65536 in
set_option maxHeartbeats 40000000 in
theorem rm2n0 (l : Launch) (Z : State) (aV : Array Value) (hw : ∀ d ∈ tables_1, d.before aV Z = true) (ws : List Jvm.Cond) (a0 : Addr) (u1 : Value) (u2 : Value) (cs : Int32) (h0 : Heap) (n0 : Nat) (Z0 : n0 ≤ h0.size) (E_a0 : Exa Z h0 a0 "java/lang/StringBuilder") (F_value_a0 : Fld Z h0 a0 "java/lang/AbstractStringBuilder" "value" "[B" u1) (F_coder_a0 : Fld Z h0 a0 "java/lang/AbstractStringBuilder" "coder" "B" u2) (F_count_a0 : Fld Z h0 a0 "java/lang/AbstractStringBuilder" "count" "I" (.int (0 : Int32))) (S_COMPACT_STRINGS : Sta Z h0 "java/lang/String" "COMPACT_STRINGS" "Z" (.int cs)) (ga : n0 ≤ a0) (hcs : ¬ cs = 0) :
    MetFree l (⟨"java/lang/StringBuilder", "<init>", "(I)V"⟩ : MethodName) (head1 (Jvm.Cond.code (⟨"java/lang/StringBuilder", "<init>", "(I)V"⟩ : MethodName) jdk_67_method_2_code 2 none :: ws) ({ frames := 2, cells := 1, slots := 0, locals := 25 } : Room)) (fun a U => a = #[(.ref a0), (.int (0 : Int32))] ∧ Z.Warmed39 U.vm ∧ U.heap = h0) (fun _ _ _ _ _ => True) (fun _ U o U' => ∃ v L, o = .returned v ∧ Q2n0 Z a0 u1 u2 cs h0 n0 v U'.heap L ∧ FrameEnd U o U' L ({ frames := 2, cells := 1, slots := 0, locals := 25 } : Room).cells ({ frames := 2, cells := 1, slots := 0, locals := 25 } : Room).slots) := by
  refine MetFree.of_bodySF (plainFor_of_name pn_java_lang_StringBuilder) hisR ?_
  intro p e s m args below meth c s₁ Bd hml0 hP hK
  obtain ⟨rfl, hZ, hh⟩ := hP
  have hx := Bd.exec
  have hby := Bd.bytes
  have hml : c.maxLocals = 2 := hml0
  have hown : s.vm.findClass "java/lang/StringBuilder" = some m.cls := findClass_of_methodNamed Bd.named
  have hnm := (name_of_methodNamed Bd.named Bd.method).1
  have X0 : Stand p l e ({ frames := 2, cells := 1, slots := 0, locals := 25 } : Room) s m #[(.ref a0), (.int (0 : Int32))] below meth c s₁ [] 0 0 := Stand.of_body Bd
  have e0 : s₁.heap = h0 := by rw [← hh, Bd.state]; rfl
  have efx : entryFrame m #[(.ref a0), (.int (0 : Int32))] 2 = mkF m 0 #[.val (.ref a0), .val (.int (0 : Int32))] [] := by first | (simp [entryFrame, mkF, argsToLocals, Value.category]; done) | rfl
  have N0 := Fr.nil n0
  have K0 : Keep h0 h0 [a0] := Keep.refl h0 _
  refine OGo.start (g' := mkF m 0 #[.val (.ref a0), .val (.int (0 : Int32))] []) (efx) ?_
  show OGo p.tables e below (P2n0 Z a0 u1 u2 cs h0 n0 s) (s₁.setTop (mkF m 0 #[.val (.ref a0), .val (.int (0 : Int32))] []))
  refine OGo.go (B := s₁.setTop (mkF m 1 #[.val (.ref a0), .val (.int (0 : Int32))] [(.ref a0)])) ?_ (fun tX kX => XS.aloadN X0.here hx rfl (hb hby d2_0) rfl rfl kX)
  refine OGo.go (B := s₁.setTop (mkF m 2 #[.val (.ref a0), .val (.int (0 : Int32))] [(.int (0 : Int32)), (.ref a0)])) ?_ (fun tX kX => XS.iloadN X0.here hx rfl (hb hby d2_1) rfl kX)
  obtain ⟨_, _, ⟨T1, L1, k1, n1⟩, -, X1, ⟨Lc1, hQ1, l1, y1, z1⟩, st1⟩ := X0.specialBack hx (y := (⟨"java/lang/AbstractStringBuilder", "<init>", "(I)V"⟩ : MethodName)) rfl hown (mvT hZ (hw _ (List.mem_of_getElem? (i := 11) rfl))) (mvT hZ (hw _ (List.mem_of_getElem? (i := 12) rfl))) (mvT hZ (hw _ (List.mem_of_getElem? (i := 16) rfl))) (by decide) (backOf (W := 0) (rm3n0 l Z aV hw [] a0 u1 u2 cs h0 n0 Z0 E_a0 F_value_a0 F_coder_a0 F_count_a0 S_COMPACT_STRINGS ga hcs) hZ (hw _ (List.mem_of_getElem? (i := 16) rfl)) (hw _ (List.mem_of_getElem? (i := 15) rfl)) (by decide) (by decide)) (g := (mkF m 2 #[.val (.ref a0), .val (.int (0 : Int32))] [(.int (0 : Int32)), (.ref a0)])) rfl (by rw [hml]; rfl) (Steps.refl _) (a := a0) (argsL := [(.int (0 : Int32))]) (rest := []) (lenOf pd__I_V rfl) rfl (by show 2 * 0 + _ ≤ _; exact Nat.le_of_eq rfl) (hb hby d2_2) (fun _ _ => ⟨rfl, e0, (by decide : 0 + 1 ≤ _), (by decide : 0 + 0 ≤ _)⟩)
  dsimp only [Pt.U, Pt.locs, Pt.cells, Pt.slots] at X1 l1 y1 z1 st1 hQ1
  subst l1 y1 z1
  obtain ⟨vb_1, kb_1, rfl, N1q, Kq1, sz1_vb, E_a0_p, F_value_a0_p, F_coder_a0_p, F_count_a0_p, E_vb_1_p, V_vb_1_p⟩ := hQ1
  have N1 := Fr.app N0 N1q
  have ne_a0_vb_1 : a0 ≠ vb_1 := Nat.ne_of_lt (Nat.lt_of_lt_of_le E_a0.lt sz1_vb)
  have S_COMPACT_STRINGS := Sta.keepE S_COMPACT_STRINGS Kq1 (staS E_a0.cell (fun x hx' => nomatch hx'))
  have E_a0 := E_a0.keep Kq1
  have g_vb_1 : n0 ≤ vb_1 := Nat.le_trans Z0 sz1_vb
  have sz_vb_1 : h0.size ≤ vb_1 := Nat.le_trans K0.1 sz1_vb
  have K1 := K0.trans Kq1 (allS (P := fun x => x ∈ [a0] ∨ h0.size ≤ x) (Or.inl (List.mem_of_getElem? (i := 0) rfl)) all0)
  have zn1 : n0 ≤ T1.heap.size := Nat.le_trans Z0 Kq1.1
  have E_a0 := E_a0_p
  have F_value_a0 := F_value_a0_p
  have F_coder_a0 := F_coder_a0_p
  have F_count_a0 := F_count_a0_p
  have E_vb_1 := E_vb_1_p
  have V_vb_1 := V_vb_1_p
  refine OGo.go (B := T1.setTop (mkF m 5 #[.val (.ref a0), .val (.int (0 : Int32))] [])) ?_ (fun tX kX => st1.trans kX)
  refine OGo.ret X1 (v := none) (fun _ => rfl) (BodyLoose.notSynchronized Bd) (fun fs hr => X1.returnOut hx Bd.returns (hb hby d2_5) hr) (Q := Q2n0 Z a0 u1 u2 cs h0 n0) ?_ (by decide) (by decide)
  show Q2n0 Z a0 u1 u2 cs h0 n0 _ T1.heap _
  exact ⟨vb_1, kb_1, rfl, N1, K1, sz_vb_1, E_a0, F_value_a0, F_coder_a0, F_count_a0, E_vb_1, V_vb_1⟩
def Q3n3 (Z : State) (a0 : Addr) (u1 : Value) (u2 : Value) (cs : Int32) (h0 : Heap) (n0 : Nat) (v : Option Value) (h : Heap) (L : List Loc) : Prop := ∃ (vb : Addr) (kb : ClassId), v = none ∧ Fr n0 L ∧ Keep h0 h [a0] ∧ h0.size ≤ vb ∧ Exa Z h a0 "java/lang/StringBuilder" ∧ Fld Z h a0 "java/lang/AbstractStringBuilder" "value" "[B" (.ref vb) ∧ Fld Z h a0 "java/lang/AbstractStringBuilder" "coder" "B" (.int (0 : Int32)) ∧ Fld Z h a0 "java/lang/AbstractStringBuilder" "count" "I" (.int (0 : Int32)) ∧ Exa Z h vb "[B" ∧ Arv Z h vb kb .byte (3 : Int32) [(.int (0 : Int32)), (.int (0 : Int32)), (.int (0 : Int32))] (.int (0 : Int32))
def P3n3 (Z : State) (a0 : Addr) (u1 : Value) (u2 : Value) (cs : Int32) (h0 : Heap) (n0 : Nat) (s : State) (o : Outcome) (U' : State) : Prop := ∃ v L, o = .returned v ∧ Q3n3 Z a0 u1 u2 cs h0 n0 v U'.heap L ∧ FrameEnd s o U' L ({ frames := 1, cells := 1, slots := 3, locals := 12 } : Room).cells ({ frames := 1, cells := 1, slots := 3, locals := 12 } : Room).slots
set_option maxRecDepth 65536 in
set_option maxHeartbeats 40000000 in
theorem rm3n3 (l : Launch) (Z : State) (aV : Array Value) (hw : ∀ d ∈ tables_1, d.before aV Z = true) (ws : List Jvm.Cond) (a0 : Addr) (u1 : Value) (u2 : Value) (cs : Int32) (h0 : Heap) (n0 : Nat) (Z0 : n0 ≤ h0.size) (E_a0 : Exa Z h0 a0 "java/lang/StringBuilder") (F_value_a0 : Fld Z h0 a0 "java/lang/AbstractStringBuilder" "value" "[B" u1) (F_coder_a0 : Fld Z h0 a0 "java/lang/AbstractStringBuilder" "coder" "B" u2) (F_count_a0 : Fld Z h0 a0 "java/lang/AbstractStringBuilder" "count" "I" (.int (0 : Int32))) (S_COMPACT_STRINGS : Sta Z h0 "java/lang/String" "COMPACT_STRINGS" "Z" (.int cs)) (ga : n0 ≤ a0) (hcs : ¬ cs = 0) :
    MetFree l (⟨"java/lang/AbstractStringBuilder", "<init>", "(I)V"⟩ : MethodName) (head1 (Jvm.Cond.code (⟨"java/lang/AbstractStringBuilder", "<init>", "(I)V"⟩ : MethodName) jdk_68_method_2_code 2 none :: ws) ({ frames := 1, cells := 1, slots := 3, locals := 12 } : Room)) (fun a U => a = #[(.ref a0), (.int (3 : Int32))] ∧ Z.Warmed39 U.vm ∧ U.heap = h0) (fun _ _ _ _ _ => True) (fun _ U o U' => ∃ v L, o = .returned v ∧ Q3n3 Z a0 u1 u2 cs h0 n0 v U'.heap L ∧ FrameEnd U o U' L ({ frames := 1, cells := 1, slots := 3, locals := 12 } : Room).cells ({ frames := 1, cells := 1, slots := 3, locals := 12 } : Room).slots) := by
  refine MetFree.of_bodySF (plainFor_of_name pn_java_lang_AbstractStringBuilder) hisR ?_
  intro p e s m args below meth c s₁ Bd hml0 hP hK
  obtain ⟨rfl, hZ, hh⟩ := hP
  have hx := Bd.exec
  have hby := Bd.bytes
  have hml : c.maxLocals = 2 := hml0
  have hown : s.vm.findClass "java/lang/AbstractStringBuilder" = some m.cls := findClass_of_methodNamed Bd.named
  have hnm := (name_of_methodNamed Bd.named Bd.method).1
  have X0 : Stand p l e ({ frames := 1, cells := 1, slots := 3, locals := 12 } : Room) s m #[(.ref a0), (.int (3 : Int32))] below meth c s₁ [] 0 0 := Stand.of_body Bd
  have e0 : s₁.heap = h0 := by rw [← hh, Bd.state]; rfl
  have efx : entryFrame m #[(.ref a0), (.int (3 : Int32))] 2 = mkF m 0 #[.val (.ref a0), .val (.int (3 : Int32))] [] := by first | (simp [entryFrame, mkF, argsToLocals, Value.category]; done) | rfl
  have N0 := Fr.nil n0
  have K0 : Keep h0 h0 [a0] := Keep.refl h0 _
  refine OGo.start (g' := mkF m 0 #[.val (.ref a0), .val (.int (3 : Int32))] []) (efx) ?_
  show OGo p.tables e below (P3n3 Z a0 u1 u2 cs h0 n0 s) (s₁.setTop (mkF m 0 #[.val (.ref a0), .val (.int (3 : Int32))] []))
  refine OGo.go (B := s₁.setTop (mkF m 1 #[.val (.ref a0), .val (.int (3 : Int32))] [(.ref a0)])) ?_ (fun tX kX => XS.aloadN X0.here hx rfl (hb hby d3_0) rfl rfl kX)
  obtain ⟨T1, X1, e1, st1⟩ := initO X0 hx hZ hown (hw _ (List.mem_of_getElem? (i := 17) rfl)) (hw _ (List.mem_of_getElem? (i := 18) rfl)) (hw _ (List.mem_of_getElem? (i := 19) rfl)) e0 (g := (mkF m 1 #[.val (.ref a0), .val (.int (3 : Int32))] [(.ref a0)])) rfl (by rw [hml]; rfl) rfl (hb hby d3_1) (by decide) (W := 0) (by show 2 * 0 + _ ≤ _; exact Nat.le_of_eq rfl) (by decide)
  refine OGo.go (B := T1.setTop (mkF m 4 #[.val (.ref a0), .val (.int (3 : Int32))] [])) ?_ st1
  obtain ⟨T2, X2, e2, st2⟩ := getS2 X1 hx hZ hown (host := "") (Or.inl (hw _ (List.mem_of_getElem? (i := 20) rfl))) Via.refl e1 S_COMPACT_STRINGS (g := (mkF m 4 #[.val (.ref a0), .val (.int (3 : Int32))] [])) rfl (hb hby d3_4)
  refine OGo.go (B := T2.setTop (mkF m 7 #[.val (.ref a0), .val (.int (3 : Int32))] [(.int cs)])) ?_ st2
  refine OGo.go (B := T2.setTop (mkF m 10 #[.val (.ref a0), .val (.int (3 : Int32))] [])) ?_ (fun tX kX => XS.ifNo X2.here hx rfl (hb hby d3_7) rfl ((if0 _ _).trans (feq hcs).1) kX)
  refine OGo.go (B := T2.setTop (mkF m 11 #[.val (.ref a0), .val (.int (3 : Int32))] [(.ref a0)])) ?_ (fun tX kX => XS.aloadN X2.here hx rfl (hb hby d3_10) rfl rfl kX)
  refine OGo.go (B := T2.setTop (mkF m 12 #[.val (.ref a0), .val (.int (3 : Int32))] [(.int (3 : Int32)), (.ref a0)])) ?_ (fun tX kX => XS.iloadN X2.here hx rfl (hb hby d3_11) rfl kX)
  obtain ⟨T3, h3, k3, X3, e3, E3, A3, EA3, st3⟩ := newPE X2 hx hZ (hw _ (List.mem_of_getElem? (i := 0) rfl)) e2 (g := (mkF m 12 #[.val (.ref a0), .val (.int (3 : Int32))] [(.int (3 : Int32)), (.ref a0)])) rfl (hb hby d3_12) rfl (by decide) (cap := 3) (by decide) (by decide) (by decide) (by decide) (ad := "[B") (by decide)
  obtain ⟨b3, g3⟩ : ∃ z, z = h0.size := ⟨_, rfl⟩
  rw [← g3] at A3 EA3 st3
  have ne_a0_b3 : a0 ≠ b3 := Nat.ne_of_lt (Nat.lt_of_lt_of_le E_a0.lt (Nat.le_of_eq g3.symm))
  have E_a0 := E_a0.ext E3
  have F_value_a0 := F_value_a0.ext E3
  have F_coder_a0 := F_coder_a0.ext E3
  have F_count_a0 := F_count_a0.ext E3
  have S_COMPACT_STRINGS := S_COMPACT_STRINGS.ext E3
  have g_b3 : n0 ≤ b3 := Nat.le_trans Z0 (Nat.le_of_eq g3.symm)
  have sz_b3 : h0.size ≤ b3 := Nat.le_trans K0.1 (Nat.le_of_eq g3.symm)
  have zn3 : n0 ≤ h3.size := Nat.le_trans Z0 E3.1
  have K3 := K0.ext E3
  have E_b3 := EA3
  have V_b3 : Arv Z h3 b3 k3 .byte (3 : Int32) [(.int (0 : Int32)), (.int (0 : Int32)), (.int (0 : Int32))] (.int (0 : Int32)) := (Arv.new A3 (by decide)).pad (pad_rep [] (.int (0 : Int32)) 3)
  refine OGo.go (B := T3.setTop (mkF m 14 #[.val (.ref a0), .val (.int (3 : Int32))] [(.ref b3), (.ref a0)])) ?_ st3
  obtain ⟨T4, h4, X4, e4, W4, st4⟩ := putF X3 hx hZ hown (host := "") (Or.inl (hw _ (List.mem_of_getElem? (i := 22) rfl))) Via.refl e3 F_value_a0 E_a0 (Or.inl (hw _ (List.mem_of_getElem? (i := 23) rfl))) (hw _ (List.mem_of_getElem? (i := 6) rfl)) (ty := (.array .byte)) (by decide) rfl rfl (g := (mkF m 14 #[.val (.ref a0), .val (.int (3 : Int32))] [(.ref b3), (.ref a0)])) rfl rfl (hb hby d3_14)
  have E_a0 := E_a0.wr W4
  have F_value_a0 := F_value_a0.same W4
  have F_coder_a0 := F_coder_a0.other W4 (Or.inr (slot_ne (Or.inl (hw _ (List.mem_of_getElem? (i := 25) rfl))) (Or.inl (hw _ (List.mem_of_getElem? (i := 23) rfl))) (by decide) (t := .byte) (t' := (.array .byte)) (by decide) (by decide)))
  have F_count_a0 := F_count_a0.other W4 (Or.inr (slot_ne (Or.inl (hw _ (List.mem_of_getElem? (i := 56) rfl))) (Or.inl (hw _ (List.mem_of_getElem? (i := 23) rfl))) (by decide) (t := .int) (t' := (.array .byte)) (by decide) (by decide)))
  have S_COMPACT_STRINGS := S_COMPACT_STRINGS.wr W4
  have E_b3 := E_b3.wr W4
  have V_b3 := V_b3.other W4 (Ne.symm ne_a0_b3)
  have K4 := K3.wr W4 (Or.inl (List.mem_of_getElem? (i := 0) rfl))
  have zn4 : n0 ≤ h4.size := Nat.le_trans zn3 (Keep.of_wr W4).1
  have N4 := Fr.snoc X4 N0 ga
  refine OGo.go (B := T4.setTop (mkF m 17 #[.val (.ref a0), .val (.int (3 : Int32))] [])) ?_ st4
  refine OGo.go (B := T4.setTop (mkF m 18 #[.val (.ref a0), .val (.int (3 : Int32))] [(.ref a0)])) ?_ (fun tX kX => XS.aloadN X4.here hx rfl (hb hby d3_17) rfl rfl kX)
  refine OGo.go (B := T4.setTop (mkF m 19 #[.val (.ref a0), .val (.int (3 : Int32))] [(.int (0 : Int32)), (.ref a0)])) ?_ (fun tX kX => XS.iconst X4.here hx rfl (hb hby d3_18) kX)
  obtain ⟨T5, h5, X5, e5, W5, st5⟩ := putF X4 hx hZ hown (host := "") (Or.inl (hw _ (List.mem_of_getElem? (i := 24) rfl))) Via.refl e4 F_coder_a0 E_a0 (Or.inl (hw _ (List.mem_of_getElem? (i := 25) rfl))) (hw _ (List.mem_of_getElem? (i := 6) rfl)) (ty := .byte) (by decide) rfl rfl (g := (mkF m 19 #[.val (.ref a0), .val (.int (3 : Int32))] [(.int (0 : Int32)), (.ref a0)])) rfl rfl (hb hby d3_19)
  have E_a0 := E_a0.wr W5
  have F_value_a0 := F_value_a0.other W5 (Or.inr (slot_ne (Or.inl (hw _ (List.mem_of_getElem? (i := 23) rfl))) (Or.inl (hw _ (List.mem_of_getElem? (i := 25) rfl))) (by decide) (t := (.array .byte)) (t' := .byte) (by decide) (by decide)))
  have F_coder_a0 := F_coder_a0.same W5
  have F_count_a0 := F_count_a0.other W5 (Or.inr (slot_ne (Or.inl (hw _ (List.mem_of_getElem? (i := 56) rfl))) (Or.inl (hw _ (List.mem_of_getElem? (i := 25) rfl))) (by decide) (t := .int) (t' := .byte) (by decide) (by decide)))
  have S_COMPACT_STRINGS := S_COMPACT_STRINGS.wr W5
  have E_b3 := E_b3.wr W5
  have V_b3 := V_b3.other W5 (Ne.symm ne_a0_b3)
  have K5 := K4.wr W5 (Or.inl (List.mem_of_getElem? (i := 0) rfl))
  have zn5 : n0 ≤ h5.size := Nat.le_trans zn4 (Keep.of_wr W5).1
  have N5 := Fr.snoc X5 N4 ga
  refine OGo.go (B := T5.setTop (mkF m 22 #[.val (.ref a0), .val (.int (3 : Int32))] [])) ?_ st5
  refine OGo.go (B := T5.setTop (mkF m 38 #[.val (.ref a0), .val (.int (3 : Int32))] [])) ?_ (fun tX kX => XS.goto X5.here hx rfl (pc0 := 22) (pc' := 38) rfl (hb hby d3_22) (by decide) (by decide) kX)
  refine OGo.ret X5 (v := none) (fun _ => rfl) (BodyLoose.notSynchronized Bd) (fun fs hr => X5.returnOut hx Bd.returns (hb hby d3_38) hr) (Q := Q3n3 Z a0 u1 u2 cs h0 n0) ?_ (by decide) (by decide)
  show Q3n3 Z a0 u1 u2 cs h0 n0 _ T5.heap _
  rw [e5]
  exact ⟨b3, k3, rfl, N5, K5, sz_b3, E_a0, F_value_a0, F_coder_a0, F_count_a0, E_b3, V_b3⟩
def Q2n3 (Z : State) (a0 : Addr) (u1 : Value) (u2 : Value) (cs : Int32) (h0 : Heap) (n0 : Nat) (v : Option Value) (h : Heap) (L : List Loc) : Prop := ∃ (vb : Addr) (kb : ClassId), v = none ∧ Fr n0 L ∧ Keep h0 h [a0] ∧ h0.size ≤ vb ∧ Exa Z h a0 "java/lang/StringBuilder" ∧ Fld Z h a0 "java/lang/AbstractStringBuilder" "value" "[B" (.ref vb) ∧ Fld Z h a0 "java/lang/AbstractStringBuilder" "coder" "B" (.int (0 : Int32)) ∧ Fld Z h a0 "java/lang/AbstractStringBuilder" "count" "I" (.int (0 : Int32)) ∧ Exa Z h vb "[B" ∧ Arv Z h vb kb .byte (3 : Int32) [(.int (0 : Int32)), (.int (0 : Int32)), (.int (0 : Int32))] (.int (0 : Int32))
def P2n3 (Z : State) (a0 : Addr) (u1 : Value) (u2 : Value) (cs : Int32) (h0 : Heap) (n0 : Nat) (s : State) (o : Outcome) (U' : State) : Prop := ∃ v L, o = .returned v ∧ Q2n3 Z a0 u1 u2 cs h0 n0 v U'.heap L ∧ FrameEnd s o U' L ({ frames := 2, cells := 1, slots := 3, locals := 25 } : Room).cells ({ frames := 2, cells := 1, slots := 3, locals := 25 } : Room).slots
set_option maxRecDepth 65536 in
set_option maxHeartbeats 40000000 in
theorem rm2n3 (l : Launch) (Z : State) (aV : Array Value) (hw : ∀ d ∈ tables_1, d.before aV Z = true) (ws : List Jvm.Cond) (a0 : Addr) (u1 : Value) (u2 : Value) (cs : Int32) (h0 : Heap) (n0 : Nat) (Z0 : n0 ≤ h0.size) (E_a0 : Exa Z h0 a0 "java/lang/StringBuilder") (F_value_a0 : Fld Z h0 a0 "java/lang/AbstractStringBuilder" "value" "[B" u1) (F_coder_a0 : Fld Z h0 a0 "java/lang/AbstractStringBuilder" "coder" "B" u2) (F_count_a0 : Fld Z h0 a0 "java/lang/AbstractStringBuilder" "count" "I" (.int (0 : Int32))) (S_COMPACT_STRINGS : Sta Z h0 "java/lang/String" "COMPACT_STRINGS" "Z" (.int cs)) (ga : n0 ≤ a0) (hcs : ¬ cs = 0) :
    MetFree l (⟨"java/lang/StringBuilder", "<init>", "(I)V"⟩ : MethodName) (head1 (Jvm.Cond.code (⟨"java/lang/StringBuilder", "<init>", "(I)V"⟩ : MethodName) jdk_67_method_2_code 2 none :: ws) ({ frames := 2, cells := 1, slots := 3, locals := 25 } : Room)) (fun a U => a = #[(.ref a0), (.int (3 : Int32))] ∧ Z.Warmed39 U.vm ∧ U.heap = h0) (fun _ _ _ _ _ => True) (fun _ U o U' => ∃ v L, o = .returned v ∧ Q2n3 Z a0 u1 u2 cs h0 n0 v U'.heap L ∧ FrameEnd U o U' L ({ frames := 2, cells := 1, slots := 3, locals := 25 } : Room).cells ({ frames := 2, cells := 1, slots := 3, locals := 25 } : Room).slots) := by
  refine MetFree.of_bodySF (plainFor_of_name pn_java_lang_StringBuilder) hisR ?_
  intro p e s m args below meth c s₁ Bd hml0 hP hK
  obtain ⟨rfl, hZ, hh⟩ := hP
  have hx := Bd.exec
  have hby := Bd.bytes
  have hml : c.maxLocals = 2 := hml0
  have hown : s.vm.findClass "java/lang/StringBuilder" = some m.cls := findClass_of_methodNamed Bd.named
  have hnm := (name_of_methodNamed Bd.named Bd.method).1
  have X0 : Stand p l e ({ frames := 2, cells := 1, slots := 3, locals := 25 } : Room) s m #[(.ref a0), (.int (3 : Int32))] below meth c s₁ [] 0 0 := Stand.of_body Bd
  have e0 : s₁.heap = h0 := by rw [← hh, Bd.state]; rfl
  have efx : entryFrame m #[(.ref a0), (.int (3 : Int32))] 2 = mkF m 0 #[.val (.ref a0), .val (.int (3 : Int32))] [] := by first | (simp [entryFrame, mkF, argsToLocals, Value.category]; done) | rfl
  have N0 := Fr.nil n0
  have K0 : Keep h0 h0 [a0] := Keep.refl h0 _
  refine OGo.start (g' := mkF m 0 #[.val (.ref a0), .val (.int (3 : Int32))] []) (efx) ?_
  show OGo p.tables e below (P2n3 Z a0 u1 u2 cs h0 n0 s) (s₁.setTop (mkF m 0 #[.val (.ref a0), .val (.int (3 : Int32))] []))
  refine OGo.go (B := s₁.setTop (mkF m 1 #[.val (.ref a0), .val (.int (3 : Int32))] [(.ref a0)])) ?_ (fun tX kX => XS.aloadN X0.here hx rfl (hb hby d2_0) rfl rfl kX)
  refine OGo.go (B := s₁.setTop (mkF m 2 #[.val (.ref a0), .val (.int (3 : Int32))] [(.int (3 : Int32)), (.ref a0)])) ?_ (fun tX kX => XS.iloadN X0.here hx rfl (hb hby d2_1) rfl kX)
  obtain ⟨_, _, ⟨T1, L1, k1, n1⟩, -, X1, ⟨Lc1, hQ1, l1, y1, z1⟩, st1⟩ := X0.specialBack hx (y := (⟨"java/lang/AbstractStringBuilder", "<init>", "(I)V"⟩ : MethodName)) rfl hown (mvT hZ (hw _ (List.mem_of_getElem? (i := 11) rfl))) (mvT hZ (hw _ (List.mem_of_getElem? (i := 12) rfl))) (mvT hZ (hw _ (List.mem_of_getElem? (i := 16) rfl))) (by decide) (backOf (W := 0) (rm3n3 l Z aV hw [] a0 u1 u2 cs h0 n0 Z0 E_a0 F_value_a0 F_coder_a0 F_count_a0 S_COMPACT_STRINGS ga hcs) hZ (hw _ (List.mem_of_getElem? (i := 16) rfl)) (hw _ (List.mem_of_getElem? (i := 15) rfl)) (by decide) (by decide)) (g := (mkF m 2 #[.val (.ref a0), .val (.int (3 : Int32))] [(.int (3 : Int32)), (.ref a0)])) rfl (by rw [hml]; rfl) (Steps.refl _) (a := a0) (argsL := [(.int (3 : Int32))]) (rest := []) (lenOf pd__I_V rfl) rfl (by show 2 * 0 + _ ≤ _; exact Nat.le_of_eq rfl) (hb hby d2_2) (fun _ _ => ⟨rfl, e0, (by decide : 0 + 1 ≤ _), (by decide : 0 + 3 ≤ _)⟩)
  dsimp only [Pt.U, Pt.locs, Pt.cells, Pt.slots] at X1 l1 y1 z1 st1 hQ1
  subst l1 y1 z1
  obtain ⟨vb_1, kb_1, rfl, N1q, Kq1, sz1_vb, E_a0_p, F_value_a0_p, F_coder_a0_p, F_count_a0_p, E_vb_1_p, V_vb_1_p⟩ := hQ1
  have N1 := Fr.app N0 N1q
  have ne_a0_vb_1 : a0 ≠ vb_1 := Nat.ne_of_lt (Nat.lt_of_lt_of_le E_a0.lt sz1_vb)
  have S_COMPACT_STRINGS := Sta.keepE S_COMPACT_STRINGS Kq1 (staS E_a0.cell (fun x hx' => nomatch hx'))
  have E_a0 := E_a0.keep Kq1
  have g_vb_1 : n0 ≤ vb_1 := Nat.le_trans Z0 sz1_vb
  have sz_vb_1 : h0.size ≤ vb_1 := Nat.le_trans K0.1 sz1_vb
  have K1 := K0.trans Kq1 (allS (P := fun x => x ∈ [a0] ∨ h0.size ≤ x) (Or.inl (List.mem_of_getElem? (i := 0) rfl)) all0)
  have zn1 : n0 ≤ T1.heap.size := Nat.le_trans Z0 Kq1.1
  have E_a0 := E_a0_p
  have F_value_a0 := F_value_a0_p
  have F_coder_a0 := F_coder_a0_p
  have F_count_a0 := F_count_a0_p
  have E_vb_1 := E_vb_1_p
  have V_vb_1 := V_vb_1_p
  refine OGo.go (B := T1.setTop (mkF m 5 #[.val (.ref a0), .val (.int (3 : Int32))] [])) ?_ (fun tX kX => st1.trans kX)
  refine OGo.ret X1 (v := none) (fun _ => rfl) (BodyLoose.notSynchronized Bd) (fun fs hr => X1.returnOut hx Bd.returns (hb hby d2_5) hr) (Q := Q2n3 Z a0 u1 u2 cs h0 n0) ?_ (by decide) (by decide)
  show Q2n3 Z a0 u1 u2 cs h0 n0 _ T1.heap _
  exact ⟨vb_1, kb_1, rfl, N1, K1, sz_vb_1, E_a0, F_value_a0, F_coder_a0, F_count_a0, E_vb_1, V_vb_1⟩
def Q3n6 (Z : State) (a0 : Addr) (u1 : Value) (u2 : Value) (cs : Int32) (h0 : Heap) (n0 : Nat) (v : Option Value) (h : Heap) (L : List Loc) : Prop := ∃ (vb : Addr) (kb : ClassId), v = none ∧ Fr n0 L ∧ Keep h0 h [a0] ∧ h0.size ≤ vb ∧ Exa Z h a0 "java/lang/StringBuilder" ∧ Fld Z h a0 "java/lang/AbstractStringBuilder" "value" "[B" (.ref vb) ∧ Fld Z h a0 "java/lang/AbstractStringBuilder" "coder" "B" (.int (0 : Int32)) ∧ Fld Z h a0 "java/lang/AbstractStringBuilder" "count" "I" (.int (0 : Int32)) ∧ Exa Z h vb "[B" ∧ Arv Z h vb kb .byte (6 : Int32) [(.int (0 : Int32)), (.int (0 : Int32)), (.int (0 : Int32)), (.int (0 : Int32)), (.int (0 : Int32)), (.int (0 : Int32))] (.int (0 : Int32))
def P3n6 (Z : State) (a0 : Addr) (u1 : Value) (u2 : Value) (cs : Int32) (h0 : Heap) (n0 : Nat) (s : State) (o : Outcome) (U' : State) : Prop := ∃ v L, o = .returned v ∧ Q3n6 Z a0 u1 u2 cs h0 n0 v U'.heap L ∧ FrameEnd s o U' L ({ frames := 1, cells := 1, slots := 6, locals := 12 } : Room).cells ({ frames := 1, cells := 1, slots := 6, locals := 12 } : Room).slots
set_option maxRecDepth 65536 in
set_option maxHeartbeats 40000000 in
theorem rm3n6 (l : Launch) (Z : State) (aV : Array Value) (hw : ∀ d ∈ tables_1, d.before aV Z = true) (ws : List Jvm.Cond) (a0 : Addr) (u1 : Value) (u2 : Value) (cs : Int32) (h0 : Heap) (n0 : Nat) (Z0 : n0 ≤ h0.size) (E_a0 : Exa Z h0 a0 "java/lang/StringBuilder") (F_value_a0 : Fld Z h0 a0 "java/lang/AbstractStringBuilder" "value" "[B" u1) (F_coder_a0 : Fld Z h0 a0 "java/lang/AbstractStringBuilder" "coder" "B" u2) (F_count_a0 : Fld Z h0 a0 "java/lang/AbstractStringBuilder" "count" "I" (.int (0 : Int32))) (S_COMPACT_STRINGS : Sta Z h0 "java/lang/String" "COMPACT_STRINGS" "Z" (.int cs)) (ga : n0 ≤ a0) (hcs : ¬ cs = 0) :
    MetFree l (⟨"java/lang/AbstractStringBuilder", "<init>", "(I)V"⟩ : MethodName) (head1 (Jvm.Cond.code (⟨"java/lang/AbstractStringBuilder", "<init>", "(I)V"⟩ : MethodName) jdk_68_method_2_code 2 none :: ws) ({ frames := 1, cells := 1, slots := 6, locals := 12 } : Room)) (fun a U => a = #[(.ref a0), (.int (6 : Int32))] ∧ Z.Warmed39 U.vm ∧ U.heap = h0) (fun _ _ _ _ _ => True) (fun _ U o U' => ∃ v L, o = .returned v ∧ Q3n6 Z a0 u1 u2 cs h0 n0 v U'.heap L ∧ FrameEnd U o U' L ({ frames := 1, cells := 1, slots := 6, locals := 12 } : Room).cells ({ frames := 1, cells := 1, slots := 6, locals := 12 } : Room).slots) := by
  refine MetFree.of_bodySF (plainFor_of_name pn_java_lang_AbstractStringBuilder) hisR ?_
  intro p e s m args below meth c s₁ Bd hml0 hP hK
  obtain ⟨rfl, hZ, hh⟩ := hP
  have hx := Bd.exec
  have hby := Bd.bytes
  have hml : c.maxLocals = 2 := hml0
  have hown : s.vm.findClass "java/lang/AbstractStringBuilder" = some m.cls := findClass_of_methodNamed Bd.named
  have hnm := (name_of_methodNamed Bd.named Bd.method).1
  have X0 : Stand p l e ({ frames := 1, cells := 1, slots := 6, locals := 12 } : Room) s m #[(.ref a0), (.int (6 : Int32))] below meth c s₁ [] 0 0 := Stand.of_body Bd
  have e0 : s₁.heap = h0 := by rw [← hh, Bd.state]; rfl
  have efx : entryFrame m #[(.ref a0), (.int (6 : Int32))] 2 = mkF m 0 #[.val (.ref a0), .val (.int (6 : Int32))] [] := by first | (simp [entryFrame, mkF, argsToLocals, Value.category]; done) | rfl
  have N0 := Fr.nil n0
  have K0 : Keep h0 h0 [a0] := Keep.refl h0 _
  refine OGo.start (g' := mkF m 0 #[.val (.ref a0), .val (.int (6 : Int32))] []) (efx) ?_
  show OGo p.tables e below (P3n6 Z a0 u1 u2 cs h0 n0 s) (s₁.setTop (mkF m 0 #[.val (.ref a0), .val (.int (6 : Int32))] []))
  refine OGo.go (B := s₁.setTop (mkF m 1 #[.val (.ref a0), .val (.int (6 : Int32))] [(.ref a0)])) ?_ (fun tX kX => XS.aloadN X0.here hx rfl (hb hby d3_0) rfl rfl kX)
  obtain ⟨T1, X1, e1, st1⟩ := initO X0 hx hZ hown (hw _ (List.mem_of_getElem? (i := 17) rfl)) (hw _ (List.mem_of_getElem? (i := 18) rfl)) (hw _ (List.mem_of_getElem? (i := 19) rfl)) e0 (g := (mkF m 1 #[.val (.ref a0), .val (.int (6 : Int32))] [(.ref a0)])) rfl (by rw [hml]; rfl) rfl (hb hby d3_1) (by decide) (W := 0) (by show 2 * 0 + _ ≤ _; exact Nat.le_of_eq rfl) (by decide)
  refine OGo.go (B := T1.setTop (mkF m 4 #[.val (.ref a0), .val (.int (6 : Int32))] [])) ?_ st1
  obtain ⟨T2, X2, e2, st2⟩ := getS2 X1 hx hZ hown (host := "") (Or.inl (hw _ (List.mem_of_getElem? (i := 20) rfl))) Via.refl e1 S_COMPACT_STRINGS (g := (mkF m 4 #[.val (.ref a0), .val (.int (6 : Int32))] [])) rfl (hb hby d3_4)
  refine OGo.go (B := T2.setTop (mkF m 7 #[.val (.ref a0), .val (.int (6 : Int32))] [(.int cs)])) ?_ st2
  refine OGo.go (B := T2.setTop (mkF m 10 #[.val (.ref a0), .val (.int (6 : Int32))] [])) ?_ (fun tX kX => XS.ifNo X2.here hx rfl (hb hby d3_7) rfl ((if0 _ _).trans (feq hcs).1) kX)
  refine OGo.go (B := T2.setTop (mkF m 11 #[.val (.ref a0), .val (.int (6 : Int32))] [(.ref a0)])) ?_ (fun tX kX => XS.aloadN X2.here hx rfl (hb hby d3_10) rfl rfl kX)
  refine OGo.go (B := T2.setTop (mkF m 12 #[.val (.ref a0), .val (.int (6 : Int32))] [(.int (6 : Int32)), (.ref a0)])) ?_ (fun tX kX => XS.iloadN X2.here hx rfl (hb hby d3_11) rfl kX)
  obtain ⟨T3, h3, k3, X3, e3, E3, A3, EA3, st3⟩ := newPE X2 hx hZ (hw _ (List.mem_of_getElem? (i := 0) rfl)) e2 (g := (mkF m 12 #[.val (.ref a0), .val (.int (6 : Int32))] [(.int (6 : Int32)), (.ref a0)])) rfl (hb hby d3_12) rfl (by decide) (cap := 6) (by decide) (by decide) (by decide) (by decide) (ad := "[B") (by decide)
  obtain ⟨b3, g3⟩ : ∃ z, z = h0.size := ⟨_, rfl⟩
  rw [← g3] at A3 EA3 st3
  have ne_a0_b3 : a0 ≠ b3 := Nat.ne_of_lt (Nat.lt_of_lt_of_le E_a0.lt (Nat.le_of_eq g3.symm))
  have E_a0 := E_a0.ext E3
  have F_value_a0 := F_value_a0.ext E3
  have F_coder_a0 := F_coder_a0.ext E3
  have F_count_a0 := F_count_a0.ext E3
  have S_COMPACT_STRINGS := S_COMPACT_STRINGS.ext E3
  have g_b3 : n0 ≤ b3 := Nat.le_trans Z0 (Nat.le_of_eq g3.symm)
  have sz_b3 : h0.size ≤ b3 := Nat.le_trans K0.1 (Nat.le_of_eq g3.symm)
  have zn3 : n0 ≤ h3.size := Nat.le_trans Z0 E3.1
  have K3 := K0.ext E3
  have E_b3 := EA3
  have V_b3 : Arv Z h3 b3 k3 .byte (6 : Int32) [(.int (0 : Int32)), (.int (0 : Int32)), (.int (0 : Int32)), (.int (0 : Int32)), (.int (0 : Int32)), (.int (0 : Int32))] (.int (0 : Int32)) := (Arv.new A3 (by decide)).pad (pad_rep [] (.int (0 : Int32)) 6)
  refine OGo.go (B := T3.setTop (mkF m 14 #[.val (.ref a0), .val (.int (6 : Int32))] [(.ref b3), (.ref a0)])) ?_ st3
  obtain ⟨T4, h4, X4, e4, W4, st4⟩ := putF X3 hx hZ hown (host := "") (Or.inl (hw _ (List.mem_of_getElem? (i := 22) rfl))) Via.refl e3 F_value_a0 E_a0 (Or.inl (hw _ (List.mem_of_getElem? (i := 23) rfl))) (hw _ (List.mem_of_getElem? (i := 6) rfl)) (ty := (.array .byte)) (by decide) rfl rfl (g := (mkF m 14 #[.val (.ref a0), .val (.int (6 : Int32))] [(.ref b3), (.ref a0)])) rfl rfl (hb hby d3_14)
  have E_a0 := E_a0.wr W4
  have F_value_a0 := F_value_a0.same W4
  have F_coder_a0 := F_coder_a0.other W4 (Or.inr (slot_ne (Or.inl (hw _ (List.mem_of_getElem? (i := 25) rfl))) (Or.inl (hw _ (List.mem_of_getElem? (i := 23) rfl))) (by decide) (t := .byte) (t' := (.array .byte)) (by decide) (by decide)))
  have F_count_a0 := F_count_a0.other W4 (Or.inr (slot_ne (Or.inl (hw _ (List.mem_of_getElem? (i := 56) rfl))) (Or.inl (hw _ (List.mem_of_getElem? (i := 23) rfl))) (by decide) (t := .int) (t' := (.array .byte)) (by decide) (by decide)))
  have S_COMPACT_STRINGS := S_COMPACT_STRINGS.wr W4
  have E_b3 := E_b3.wr W4
  have V_b3 := V_b3.other W4 (Ne.symm ne_a0_b3)
  have K4 := K3.wr W4 (Or.inl (List.mem_of_getElem? (i := 0) rfl))
  have zn4 : n0 ≤ h4.size := Nat.le_trans zn3 (Keep.of_wr W4).1
  have N4 := Fr.snoc X4 N0 ga
  refine OGo.go (B := T4.setTop (mkF m 17 #[.val (.ref a0), .val (.int (6 : Int32))] [])) ?_ st4
  refine OGo.go (B := T4.setTop (mkF m 18 #[.val (.ref a0), .val (.int (6 : Int32))] [(.ref a0)])) ?_ (fun tX kX => XS.aloadN X4.here hx rfl (hb hby d3_17) rfl rfl kX)
  refine OGo.go (B := T4.setTop (mkF m 19 #[.val (.ref a0), .val (.int (6 : Int32))] [(.int (0 : Int32)), (.ref a0)])) ?_ (fun tX kX => XS.iconst X4.here hx rfl (hb hby d3_18) kX)
  obtain ⟨T5, h5, X5, e5, W5, st5⟩ := putF X4 hx hZ hown (host := "") (Or.inl (hw _ (List.mem_of_getElem? (i := 24) rfl))) Via.refl e4 F_coder_a0 E_a0 (Or.inl (hw _ (List.mem_of_getElem? (i := 25) rfl))) (hw _ (List.mem_of_getElem? (i := 6) rfl)) (ty := .byte) (by decide) rfl rfl (g := (mkF m 19 #[.val (.ref a0), .val (.int (6 : Int32))] [(.int (0 : Int32)), (.ref a0)])) rfl rfl (hb hby d3_19)
  have E_a0 := E_a0.wr W5
  have F_value_a0 := F_value_a0.other W5 (Or.inr (slot_ne (Or.inl (hw _ (List.mem_of_getElem? (i := 23) rfl))) (Or.inl (hw _ (List.mem_of_getElem? (i := 25) rfl))) (by decide) (t := (.array .byte)) (t' := .byte) (by decide) (by decide)))
  have F_coder_a0 := F_coder_a0.same W5
  have F_count_a0 := F_count_a0.other W5 (Or.inr (slot_ne (Or.inl (hw _ (List.mem_of_getElem? (i := 56) rfl))) (Or.inl (hw _ (List.mem_of_getElem? (i := 25) rfl))) (by decide) (t := .int) (t' := .byte) (by decide) (by decide)))
  have S_COMPACT_STRINGS := S_COMPACT_STRINGS.wr W5
  have E_b3 := E_b3.wr W5
  have V_b3 := V_b3.other W5 (Ne.symm ne_a0_b3)
  have K5 := K4.wr W5 (Or.inl (List.mem_of_getElem? (i := 0) rfl))
  have zn5 : n0 ≤ h5.size := Nat.le_trans zn4 (Keep.of_wr W5).1
  have N5 := Fr.snoc X5 N4 ga
  refine OGo.go (B := T5.setTop (mkF m 22 #[.val (.ref a0), .val (.int (6 : Int32))] [])) ?_ st5
  refine OGo.go (B := T5.setTop (mkF m 38 #[.val (.ref a0), .val (.int (6 : Int32))] [])) ?_ (fun tX kX => XS.goto X5.here hx rfl (pc0 := 22) (pc' := 38) rfl (hb hby d3_22) (by decide) (by decide) kX)
  refine OGo.ret X5 (v := none) (fun _ => rfl) (BodyLoose.notSynchronized Bd) (fun fs hr => X5.returnOut hx Bd.returns (hb hby d3_38) hr) (Q := Q3n6 Z a0 u1 u2 cs h0 n0) ?_ (by decide) (by decide)
  show Q3n6 Z a0 u1 u2 cs h0 n0 _ T5.heap _
  rw [e5]
  exact ⟨b3, k3, rfl, N5, K5, sz_b3, E_a0, F_value_a0, F_coder_a0, F_count_a0, E_b3, V_b3⟩
def Q2n6 (Z : State) (a0 : Addr) (u1 : Value) (u2 : Value) (cs : Int32) (h0 : Heap) (n0 : Nat) (v : Option Value) (h : Heap) (L : List Loc) : Prop := ∃ (vb : Addr) (kb : ClassId), v = none ∧ Fr n0 L ∧ Keep h0 h [a0] ∧ h0.size ≤ vb ∧ Exa Z h a0 "java/lang/StringBuilder" ∧ Fld Z h a0 "java/lang/AbstractStringBuilder" "value" "[B" (.ref vb) ∧ Fld Z h a0 "java/lang/AbstractStringBuilder" "coder" "B" (.int (0 : Int32)) ∧ Fld Z h a0 "java/lang/AbstractStringBuilder" "count" "I" (.int (0 : Int32)) ∧ Exa Z h vb "[B" ∧ Arv Z h vb kb .byte (6 : Int32) [(.int (0 : Int32)), (.int (0 : Int32)), (.int (0 : Int32)), (.int (0 : Int32)), (.int (0 : Int32)), (.int (0 : Int32))] (.int (0 : Int32))
def P2n6 (Z : State) (a0 : Addr) (u1 : Value) (u2 : Value) (cs : Int32) (h0 : Heap) (n0 : Nat) (s : State) (o : Outcome) (U' : State) : Prop := ∃ v L, o = .returned v ∧ Q2n6 Z a0 u1 u2 cs h0 n0 v U'.heap L ∧ FrameEnd s o U' L ({ frames := 2, cells := 1, slots := 6, locals := 25 } : Room).cells ({ frames := 2, cells := 1, slots := 6, locals := 25 } : Room).slots
set_option maxRecDepth 65536 in
set_option maxHeartbeats 40000000 in
theorem rm2n6 (l : Launch) (Z : State) (aV : Array Value) (hw : ∀ d ∈ tables_1, d.before aV Z = true) (ws : List Jvm.Cond) (a0 : Addr) (u1 : Value) (u2 : Value) (cs : Int32) (h0 : Heap) (n0 : Nat) (Z0 : n0 ≤ h0.size) (E_a0 : Exa Z h0 a0 "java/lang/StringBuilder") (F_value_a0 : Fld Z h0 a0 "java/lang/AbstractStringBuilder" "value" "[B" u1) (F_coder_a0 : Fld Z h0 a0 "java/lang/AbstractStringBuilder" "coder" "B" u2) (F_count_a0 : Fld Z h0 a0 "java/lang/AbstractStringBuilder" "count" "I" (.int (0 : Int32))) (S_COMPACT_STRINGS : Sta Z h0 "java/lang/String" "COMPACT_STRINGS" "Z" (.int cs)) (ga : n0 ≤ a0) (hcs : ¬ cs = 0) :
    MetFree l (⟨"java/lang/StringBuilder", "<init>", "(I)V"⟩ : MethodName) (head1 (Jvm.Cond.code (⟨"java/lang/StringBuilder", "<init>", "(I)V"⟩ : MethodName) jdk_67_method_2_code 2 none :: ws) ({ frames := 2, cells := 1, slots := 6, locals := 25 } : Room)) (fun a U => a = #[(.ref a0), (.int (6 : Int32))] ∧ Z.Warmed39 U.vm ∧ U.heap = h0) (fun _ _ _ _ _ => True) (fun _ U o U' => ∃ v L, o = .returned v ∧ Q2n6 Z a0 u1 u2 cs h0 n0 v U'.heap L ∧ FrameEnd U o U' L ({ frames := 2, cells := 1, slots := 6, locals := 25 } : Room).cells ({ frames := 2, cells := 1, slots := 6, locals := 25 } : Room).slots) := by
  refine MetFree.of_bodySF (plainFor_of_name pn_java_lang_StringBuilder) hisR ?_
  intro p e s m args below meth c s₁ Bd hml0 hP hK
  obtain ⟨rfl, hZ, hh⟩ := hP
  have hx := Bd.exec
  have hby := Bd.bytes
  have hml : c.maxLocals = 2 := hml0
  have hown : s.vm.findClass "java/lang/StringBuilder" = some m.cls := findClass_of_methodNamed Bd.named
  have hnm := (name_of_methodNamed Bd.named Bd.method).1
  have X0 : Stand p l e ({ frames := 2, cells := 1, slots := 6, locals := 25 } : Room) s m #[(.ref a0), (.int (6 : Int32))] below meth c s₁ [] 0 0 := Stand.of_body Bd
  have e0 : s₁.heap = h0 := by rw [← hh, Bd.state]; rfl
  have efx : entryFrame m #[(.ref a0), (.int (6 : Int32))] 2 = mkF m 0 #[.val (.ref a0), .val (.int (6 : Int32))] [] := by first | (simp [entryFrame, mkF, argsToLocals, Value.category]; done) | rfl
  have N0 := Fr.nil n0
  have K0 : Keep h0 h0 [a0] := Keep.refl h0 _
  refine OGo.start (g' := mkF m 0 #[.val (.ref a0), .val (.int (6 : Int32))] []) (efx) ?_
  show OGo p.tables e below (P2n6 Z a0 u1 u2 cs h0 n0 s) (s₁.setTop (mkF m 0 #[.val (.ref a0), .val (.int (6 : Int32))] []))
  refine OGo.go (B := s₁.setTop (mkF m 1 #[.val (.ref a0), .val (.int (6 : Int32))] [(.ref a0)])) ?_ (fun tX kX => XS.aloadN X0.here hx rfl (hb hby d2_0) rfl rfl kX)
  refine OGo.go (B := s₁.setTop (mkF m 2 #[.val (.ref a0), .val (.int (6 : Int32))] [(.int (6 : Int32)), (.ref a0)])) ?_ (fun tX kX => XS.iloadN X0.here hx rfl (hb hby d2_1) rfl kX)
  obtain ⟨_, _, ⟨T1, L1, k1, n1⟩, -, X1, ⟨Lc1, hQ1, l1, y1, z1⟩, st1⟩ := X0.specialBack hx (y := (⟨"java/lang/AbstractStringBuilder", "<init>", "(I)V"⟩ : MethodName)) rfl hown (mvT hZ (hw _ (List.mem_of_getElem? (i := 11) rfl))) (mvT hZ (hw _ (List.mem_of_getElem? (i := 12) rfl))) (mvT hZ (hw _ (List.mem_of_getElem? (i := 16) rfl))) (by decide) (backOf (W := 0) (rm3n6 l Z aV hw [] a0 u1 u2 cs h0 n0 Z0 E_a0 F_value_a0 F_coder_a0 F_count_a0 S_COMPACT_STRINGS ga hcs) hZ (hw _ (List.mem_of_getElem? (i := 16) rfl)) (hw _ (List.mem_of_getElem? (i := 15) rfl)) (by decide) (by decide)) (g := (mkF m 2 #[.val (.ref a0), .val (.int (6 : Int32))] [(.int (6 : Int32)), (.ref a0)])) rfl (by rw [hml]; rfl) (Steps.refl _) (a := a0) (argsL := [(.int (6 : Int32))]) (rest := []) (lenOf pd__I_V rfl) rfl (by show 2 * 0 + _ ≤ _; exact Nat.le_of_eq rfl) (hb hby d2_2) (fun _ _ => ⟨rfl, e0, (by decide : 0 + 1 ≤ _), (by decide : 0 + 6 ≤ _)⟩)
  dsimp only [Pt.U, Pt.locs, Pt.cells, Pt.slots] at X1 l1 y1 z1 st1 hQ1
  subst l1 y1 z1
  obtain ⟨vb_1, kb_1, rfl, N1q, Kq1, sz1_vb, E_a0_p, F_value_a0_p, F_coder_a0_p, F_count_a0_p, E_vb_1_p, V_vb_1_p⟩ := hQ1
  have N1 := Fr.app N0 N1q
  have ne_a0_vb_1 : a0 ≠ vb_1 := Nat.ne_of_lt (Nat.lt_of_lt_of_le E_a0.lt sz1_vb)
  have S_COMPACT_STRINGS := Sta.keepE S_COMPACT_STRINGS Kq1 (staS E_a0.cell (fun x hx' => nomatch hx'))
  have E_a0 := E_a0.keep Kq1
  have g_vb_1 : n0 ≤ vb_1 := Nat.le_trans Z0 sz1_vb
  have sz_vb_1 : h0.size ≤ vb_1 := Nat.le_trans K0.1 sz1_vb
  have K1 := K0.trans Kq1 (allS (P := fun x => x ∈ [a0] ∨ h0.size ≤ x) (Or.inl (List.mem_of_getElem? (i := 0) rfl)) all0)
  have zn1 : n0 ≤ T1.heap.size := Nat.le_trans Z0 Kq1.1
  have E_a0 := E_a0_p
  have F_value_a0 := F_value_a0_p
  have F_coder_a0 := F_coder_a0_p
  have F_count_a0 := F_count_a0_p
  have E_vb_1 := E_vb_1_p
  have V_vb_1 := V_vb_1_p
  refine OGo.go (B := T1.setTop (mkF m 5 #[.val (.ref a0), .val (.int (6 : Int32))] [])) ?_ (fun tX kX => st1.trans kX)
  refine OGo.ret X1 (v := none) (fun _ => rfl) (BodyLoose.notSynchronized Bd) (fun fs hr => X1.returnOut hx Bd.returns (hb hby d2_5) hr) (Q := Q2n6 Z a0 u1 u2 cs h0 n0) ?_ (by decide) (by decide)
  show Q2n6 Z a0 u1 u2 cs h0 n0 _ T1.heap _
  exact ⟨vb_1, kb_1, rfl, N1, K1, sz_vb_1, E_a0, F_value_a0, F_coder_a0, F_count_a0, E_vb_1, V_vb_1⟩
def Q3n9 (Z : State) (a0 : Addr) (u1 : Value) (u2 : Value) (cs : Int32) (h0 : Heap) (n0 : Nat) (v : Option Value) (h : Heap) (L : List Loc) : Prop := ∃ (vb : Addr) (kb : ClassId), v = none ∧ Fr n0 L ∧ Keep h0 h [a0] ∧ h0.size ≤ vb ∧ Exa Z h a0 "java/lang/StringBuilder" ∧ Fld Z h a0 "java/lang/AbstractStringBuilder" "value" "[B" (.ref vb) ∧ Fld Z h a0 "java/lang/AbstractStringBuilder" "coder" "B" (.int (0 : Int32)) ∧ Fld Z h a0 "java/lang/AbstractStringBuilder" "count" "I" (.int (0 : Int32)) ∧ Exa Z h vb "[B" ∧ Arv Z h vb kb .byte (9 : Int32) [(.int (0 : Int32)), (.int (0 : Int32)), (.int (0 : Int32)), (.int (0 : Int32)), (.int (0 : Int32)), (.int (0 : Int32)), (.int (0 : Int32)), (.int (0 : Int32)), (.int (0 : Int32))] (.int (0 : Int32))
def P3n9 (Z : State) (a0 : Addr) (u1 : Value) (u2 : Value) (cs : Int32) (h0 : Heap) (n0 : Nat) (s : State) (o : Outcome) (U' : State) : Prop := ∃ v L, o = .returned v ∧ Q3n9 Z a0 u1 u2 cs h0 n0 v U'.heap L ∧ FrameEnd s o U' L ({ frames := 1, cells := 1, slots := 9, locals := 12 } : Room).cells ({ frames := 1, cells := 1, slots := 9, locals := 12 } : Room).slots
set_option maxRecDepth 65536 in
set_option maxHeartbeats 40000000 in
theorem rm3n9 (l : Launch) (Z : State) (aV : Array Value) (hw : ∀ d ∈ tables_1, d.before aV Z = true) (ws : List Jvm.Cond) (a0 : Addr) (u1 : Value) (u2 : Value) (cs : Int32) (h0 : Heap) (n0 : Nat) (Z0 : n0 ≤ h0.size) (E_a0 : Exa Z h0 a0 "java/lang/StringBuilder") (F_value_a0 : Fld Z h0 a0 "java/lang/AbstractStringBuilder" "value" "[B" u1) (F_coder_a0 : Fld Z h0 a0 "java/lang/AbstractStringBuilder" "coder" "B" u2) (F_count_a0 : Fld Z h0 a0 "java/lang/AbstractStringBuilder" "count" "I" (.int (0 : Int32))) (S_COMPACT_STRINGS : Sta Z h0 "java/lang/String" "COMPACT_STRINGS" "Z" (.int cs)) (ga : n0 ≤ a0) (hcs : ¬ cs = 0) :
    MetFree l (⟨"java/lang/AbstractStringBuilder", "<init>", "(I)V"⟩ : MethodName) (head1 (Jvm.Cond.code (⟨"java/lang/AbstractStringBuilder", "<init>", "(I)V"⟩ : MethodName) jdk_68_method_2_code 2 none :: ws) ({ frames := 1, cells := 1, slots := 9, locals := 12 } : Room)) (fun a U => a = #[(.ref a0), (.int (9 : Int32))] ∧ Z.Warmed39 U.vm ∧ U.heap = h0) (fun _ _ _ _ _ => True) (fun _ U o U' => ∃ v L, o = .returned v ∧ Q3n9 Z a0 u1 u2 cs h0 n0 v U'.heap L ∧ FrameEnd U o U' L ({ frames := 1, cells := 1, slots := 9, locals := 12 } : Room).cells ({ frames := 1, cells := 1, slots := 9, locals := 12 } : Room).slots) := by
  refine MetFree.of_bodySF (plainFor_of_name pn_java_lang_AbstractStringBuilder) hisR ?_
  intro p e s m args below meth c s₁ Bd hml0 hP hK
  obtain ⟨rfl, hZ, hh⟩ := hP
  have hx := Bd.exec
  have hby := Bd.bytes
  have hml : c.maxLocals = 2 := hml0
  have hown : s.vm.findClass "java/lang/AbstractStringBuilder" = some m.cls := findClass_of_methodNamed Bd.named
  have hnm := (name_of_methodNamed Bd.named Bd.method).1
  have X0 : Stand p l e ({ frames := 1, cells := 1, slots := 9, locals := 12 } : Room) s m #[(.ref a0), (.int (9 : Int32))] below meth c s₁ [] 0 0 := Stand.of_body Bd
  have e0 : s₁.heap = h0 := by rw [← hh, Bd.state]; rfl
  have efx : entryFrame m #[(.ref a0), (.int (9 : Int32))] 2 = mkF m 0 #[.val (.ref a0), .val (.int (9 : Int32))] [] := by first | (simp [entryFrame, mkF, argsToLocals, Value.category]; done) | rfl
  have N0 := Fr.nil n0
  have K0 : Keep h0 h0 [a0] := Keep.refl h0 _
  refine OGo.start (g' := mkF m 0 #[.val (.ref a0), .val (.int (9 : Int32))] []) (efx) ?_
  show OGo p.tables e below (P3n9 Z a0 u1 u2 cs h0 n0 s) (s₁.setTop (mkF m 0 #[.val (.ref a0), .val (.int (9 : Int32))] []))
  refine OGo.go (B := s₁.setTop (mkF m 1 #[.val (.ref a0), .val (.int (9 : Int32))] [(.ref a0)])) ?_ (fun tX kX => XS.aloadN X0.here hx rfl (hb hby d3_0) rfl rfl kX)
  obtain ⟨T1, X1, e1, st1⟩ := initO X0 hx hZ hown (hw _ (List.mem_of_getElem? (i := 17) rfl)) (hw _ (List.mem_of_getElem? (i := 18) rfl)) (hw _ (List.mem_of_getElem? (i := 19) rfl)) e0 (g := (mkF m 1 #[.val (.ref a0), .val (.int (9 : Int32))] [(.ref a0)])) rfl (by rw [hml]; rfl) rfl (hb hby d3_1) (by decide) (W := 0) (by show 2 * 0 + _ ≤ _; exact Nat.le_of_eq rfl) (by decide)
  refine OGo.go (B := T1.setTop (mkF m 4 #[.val (.ref a0), .val (.int (9 : Int32))] [])) ?_ st1
  obtain ⟨T2, X2, e2, st2⟩ := getS2 X1 hx hZ hown (host := "") (Or.inl (hw _ (List.mem_of_getElem? (i := 20) rfl))) Via.refl e1 S_COMPACT_STRINGS (g := (mkF m 4 #[.val (.ref a0), .val (.int (9 : Int32))] [])) rfl (hb hby d3_4)
  refine OGo.go (B := T2.setTop (mkF m 7 #[.val (.ref a0), .val (.int (9 : Int32))] [(.int cs)])) ?_ st2
  refine OGo.go (B := T2.setTop (mkF m 10 #[.val (.ref a0), .val (.int (9 : Int32))] [])) ?_ (fun tX kX => XS.ifNo X2.here hx rfl (hb hby d3_7) rfl ((if0 _ _).trans (feq hcs).1) kX)
  refine OGo.go (B := T2.setTop (mkF m 11 #[.val (.ref a0), .val (.int (9 : Int32))] [(.ref a0)])) ?_ (fun tX kX => XS.aloadN X2.here hx rfl (hb hby d3_10) rfl rfl kX)
  refine OGo.go (B := T2.setTop (mkF m 12 #[.val (.ref a0), .val (.int (9 : Int32))] [(.int (9 : Int32)), (.ref a0)])) ?_ (fun tX kX => XS.iloadN X2.here hx rfl (hb hby d3_11) rfl kX)
  obtain ⟨T3, h3, k3, X3, e3, E3, A3, EA3, st3⟩ := newPE X2 hx hZ (hw _ (List.mem_of_getElem? (i := 0) rfl)) e2 (g := (mkF m 12 #[.val (.ref a0), .val (.int (9 : Int32))] [(.int (9 : Int32)), (.ref a0)])) rfl (hb hby d3_12) rfl (by decide) (cap := 9) (by decide) (by decide) (by decide) (by decide) (ad := "[B") (by decide)
  obtain ⟨b3, g3⟩ : ∃ z, z = h0.size := ⟨_, rfl⟩
  rw [← g3] at A3 EA3 st3
  have ne_a0_b3 : a0 ≠ b3 := Nat.ne_of_lt (Nat.lt_of_lt_of_le E_a0.lt (Nat.le_of_eq g3.symm))
  have E_a0 := E_a0.ext E3
  have F_value_a0 := F_value_a0.ext E3
  have F_coder_a0 := F_coder_a0.ext E3
  have F_count_a0 := F_count_a0.ext E3
  have S_COMPACT_STRINGS := S_COMPACT_STRINGS.ext E3
  have g_b3 : n0 ≤ b3 := Nat.le_trans Z0 (Nat.le_of_eq g3.symm)
  have sz_b3 : h0.size ≤ b3 := Nat.le_trans K0.1 (Nat.le_of_eq g3.symm)
  have zn3 : n0 ≤ h3.size := Nat.le_trans Z0 E3.1
  have K3 := K0.ext E3
  have E_b3 := EA3
  have V_b3 : Arv Z h3 b3 k3 .byte (9 : Int32) [(.int (0 : Int32)), (.int (0 : Int32)), (.int (0 : Int32)), (.int (0 : Int32)), (.int (0 : Int32)), (.int (0 : Int32)), (.int (0 : Int32)), (.int (0 : Int32)), (.int (0 : Int32))] (.int (0 : Int32)) := (Arv.new A3 (by decide)).pad (pad_rep [] (.int (0 : Int32)) 9)
  refine OGo.go (B := T3.setTop (mkF m 14 #[.val (.ref a0), .val (.int (9 : Int32))] [(.ref b3), (.ref a0)])) ?_ st3
  obtain ⟨T4, h4, X4, e4, W4, st4⟩ := putF X3 hx hZ hown (host := "") (Or.inl (hw _ (List.mem_of_getElem? (i := 22) rfl))) Via.refl e3 F_value_a0 E_a0 (Or.inl (hw _ (List.mem_of_getElem? (i := 23) rfl))) (hw _ (List.mem_of_getElem? (i := 6) rfl)) (ty := (.array .byte)) (by decide) rfl rfl (g := (mkF m 14 #[.val (.ref a0), .val (.int (9 : Int32))] [(.ref b3), (.ref a0)])) rfl rfl (hb hby d3_14)
  have E_a0 := E_a0.wr W4
  have F_value_a0 := F_value_a0.same W4
  have F_coder_a0 := F_coder_a0.other W4 (Or.inr (slot_ne (Or.inl (hw _ (List.mem_of_getElem? (i := 25) rfl))) (Or.inl (hw _ (List.mem_of_getElem? (i := 23) rfl))) (by decide) (t := .byte) (t' := (.array .byte)) (by decide) (by decide)))
  have F_count_a0 := F_count_a0.other W4 (Or.inr (slot_ne (Or.inl (hw _ (List.mem_of_getElem? (i := 56) rfl))) (Or.inl (hw _ (List.mem_of_getElem? (i := 23) rfl))) (by decide) (t := .int) (t' := (.array .byte)) (by decide) (by decide)))
  have S_COMPACT_STRINGS := S_COMPACT_STRINGS.wr W4
  have E_b3 := E_b3.wr W4
  have V_b3 := V_b3.other W4 (Ne.symm ne_a0_b3)
  have K4 := K3.wr W4 (Or.inl (List.mem_of_getElem? (i := 0) rfl))
  have zn4 : n0 ≤ h4.size := Nat.le_trans zn3 (Keep.of_wr W4).1
  have N4 := Fr.snoc X4 N0 ga
  refine OGo.go (B := T4.setTop (mkF m 17 #[.val (.ref a0), .val (.int (9 : Int32))] [])) ?_ st4
  refine OGo.go (B := T4.setTop (mkF m 18 #[.val (.ref a0), .val (.int (9 : Int32))] [(.ref a0)])) ?_ (fun tX kX => XS.aloadN X4.here hx rfl (hb hby d3_17) rfl rfl kX)
  refine OGo.go (B := T4.setTop (mkF m 19 #[.val (.ref a0), .val (.int (9 : Int32))] [(.int (0 : Int32)), (.ref a0)])) ?_ (fun tX kX => XS.iconst X4.here hx rfl (hb hby d3_18) kX)
  obtain ⟨T5, h5, X5, e5, W5, st5⟩ := putF X4 hx hZ hown (host := "") (Or.inl (hw _ (List.mem_of_getElem? (i := 24) rfl))) Via.refl e4 F_coder_a0 E_a0 (Or.inl (hw _ (List.mem_of_getElem? (i := 25) rfl))) (hw _ (List.mem_of_getElem? (i := 6) rfl)) (ty := .byte) (by decide) rfl rfl (g := (mkF m 19 #[.val (.ref a0), .val (.int (9 : Int32))] [(.int (0 : Int32)), (.ref a0)])) rfl rfl (hb hby d3_19)
  have E_a0 := E_a0.wr W5
  have F_value_a0 := F_value_a0.other W5 (Or.inr (slot_ne (Or.inl (hw _ (List.mem_of_getElem? (i := 23) rfl))) (Or.inl (hw _ (List.mem_of_getElem? (i := 25) rfl))) (by decide) (t := (.array .byte)) (t' := .byte) (by decide) (by decide)))
  have F_coder_a0 := F_coder_a0.same W5
  have F_count_a0 := F_count_a0.other W5 (Or.inr (slot_ne (Or.inl (hw _ (List.mem_of_getElem? (i := 56) rfl))) (Or.inl (hw _ (List.mem_of_getElem? (i := 25) rfl))) (by decide) (t := .int) (t' := .byte) (by decide) (by decide)))
  have S_COMPACT_STRINGS := S_COMPACT_STRINGS.wr W5
  have E_b3 := E_b3.wr W5
  have V_b3 := V_b3.other W5 (Ne.symm ne_a0_b3)
  have K5 := K4.wr W5 (Or.inl (List.mem_of_getElem? (i := 0) rfl))
  have zn5 : n0 ≤ h5.size := Nat.le_trans zn4 (Keep.of_wr W5).1
  have N5 := Fr.snoc X5 N4 ga
  refine OGo.go (B := T5.setTop (mkF m 22 #[.val (.ref a0), .val (.int (9 : Int32))] [])) ?_ st5
  refine OGo.go (B := T5.setTop (mkF m 38 #[.val (.ref a0), .val (.int (9 : Int32))] [])) ?_ (fun tX kX => XS.goto X5.here hx rfl (pc0 := 22) (pc' := 38) rfl (hb hby d3_22) (by decide) (by decide) kX)
  refine OGo.ret X5 (v := none) (fun _ => rfl) (BodyLoose.notSynchronized Bd) (fun fs hr => X5.returnOut hx Bd.returns (hb hby d3_38) hr) (Q := Q3n9 Z a0 u1 u2 cs h0 n0) ?_ (by decide) (by decide)
  show Q3n9 Z a0 u1 u2 cs h0 n0 _ T5.heap _
  rw [e5]
  exact ⟨b3, k3, rfl, N5, K5, sz_b3, E_a0, F_value_a0, F_coder_a0, F_count_a0, E_b3, V_b3⟩
def Q2n9 (Z : State) (a0 : Addr) (u1 : Value) (u2 : Value) (cs : Int32) (h0 : Heap) (n0 : Nat) (v : Option Value) (h : Heap) (L : List Loc) : Prop := ∃ (vb : Addr) (kb : ClassId), v = none ∧ Fr n0 L ∧ Keep h0 h [a0] ∧ h0.size ≤ vb ∧ Exa Z h a0 "java/lang/StringBuilder" ∧ Fld Z h a0 "java/lang/AbstractStringBuilder" "value" "[B" (.ref vb) ∧ Fld Z h a0 "java/lang/AbstractStringBuilder" "coder" "B" (.int (0 : Int32)) ∧ Fld Z h a0 "java/lang/AbstractStringBuilder" "count" "I" (.int (0 : Int32)) ∧ Exa Z h vb "[B" ∧ Arv Z h vb kb .byte (9 : Int32) [(.int (0 : Int32)), (.int (0 : Int32)), (.int (0 : Int32)), (.int (0 : Int32)), (.int (0 : Int32)), (.int (0 : Int32)), (.int (0 : Int32)), (.int (0 : Int32)), (.int (0 : Int32))] (.int (0 : Int32))
def P2n9 (Z : State) (a0 : Addr) (u1 : Value) (u2 : Value) (cs : Int32) (h0 : Heap) (n0 : Nat) (s : State) (o : Outcome) (U' : State) : Prop := ∃ v L, o = .returned v ∧ Q2n9 Z a0 u1 u2 cs h0 n0 v U'.heap L ∧ FrameEnd s o U' L ({ frames := 2, cells := 1, slots := 9, locals := 25 } : Room).cells ({ frames := 2, cells := 1, slots := 9, locals := 25 } : Room).slots
set_option maxRecDepth 65536 in
set_option maxHeartbeats 40000000 in
theorem rm2n9 (l : Launch) (Z : State) (aV : Array Value) (hw : ∀ d ∈ tables_1, d.before aV Z = true) (ws : List Jvm.Cond) (a0 : Addr) (u1 : Value) (u2 : Value) (cs : Int32) (h0 : Heap) (n0 : Nat) (Z0 : n0 ≤ h0.size) (E_a0 : Exa Z h0 a0 "java/lang/StringBuilder") (F_value_a0 : Fld Z h0 a0 "java/lang/AbstractStringBuilder" "value" "[B" u1) (F_coder_a0 : Fld Z h0 a0 "java/lang/AbstractStringBuilder" "coder" "B" u2) (F_count_a0 : Fld Z h0 a0 "java/lang/AbstractStringBuilder" "count" "I" (.int (0 : Int32))) (S_COMPACT_STRINGS : Sta Z h0 "java/lang/String" "COMPACT_STRINGS" "Z" (.int cs)) (ga : n0 ≤ a0) (hcs : ¬ cs = 0) :
    MetFree l (⟨"java/lang/StringBuilder", "<init>", "(I)V"⟩ : MethodName) (head1 (Jvm.Cond.code (⟨"java/lang/StringBuilder", "<init>", "(I)V"⟩ : MethodName) jdk_67_method_2_code 2 none :: ws) ({ frames := 2, cells := 1, slots := 9, locals := 25 } : Room)) (fun a U => a = #[(.ref a0), (.int (9 : Int32))] ∧ Z.Warmed39 U.vm ∧ U.heap = h0) (fun _ _ _ _ _ => True) (fun _ U o U' => ∃ v L, o = .returned v ∧ Q2n9 Z a0 u1 u2 cs h0 n0 v U'.heap L ∧ FrameEnd U o U' L ({ frames := 2, cells := 1, slots := 9, locals := 25 } : Room).cells ({ frames := 2, cells := 1, slots := 9, locals := 25 } : Room).slots) := by
  refine MetFree.of_bodySF (plainFor_of_name pn_java_lang_StringBuilder) hisR ?_
  intro p e s m args below meth c s₁ Bd hml0 hP hK
  obtain ⟨rfl, hZ, hh⟩ := hP
  have hx := Bd.exec
  have hby := Bd.bytes
  have hml : c.maxLocals = 2 := hml0
  have hown : s.vm.findClass "java/lang/StringBuilder" = some m.cls := findClass_of_methodNamed Bd.named
  have hnm := (name_of_methodNamed Bd.named Bd.method).1
  have X0 : Stand p l e ({ frames := 2, cells := 1, slots := 9, locals := 25 } : Room) s m #[(.ref a0), (.int (9 : Int32))] below meth c s₁ [] 0 0 := Stand.of_body Bd
  have e0 : s₁.heap = h0 := by rw [← hh, Bd.state]; rfl
  have efx : entryFrame m #[(.ref a0), (.int (9 : Int32))] 2 = mkF m 0 #[.val (.ref a0), .val (.int (9 : Int32))] [] := by first | (simp [entryFrame, mkF, argsToLocals, Value.category]; done) | rfl
  have N0 := Fr.nil n0
  have K0 : Keep h0 h0 [a0] := Keep.refl h0 _
  refine OGo.start (g' := mkF m 0 #[.val (.ref a0), .val (.int (9 : Int32))] []) (efx) ?_
  show OGo p.tables e below (P2n9 Z a0 u1 u2 cs h0 n0 s) (s₁.setTop (mkF m 0 #[.val (.ref a0), .val (.int (9 : Int32))] []))
  refine OGo.go (B := s₁.setTop (mkF m 1 #[.val (.ref a0), .val (.int (9 : Int32))] [(.ref a0)])) ?_ (fun tX kX => XS.aloadN X0.here hx rfl (hb hby d2_0) rfl rfl kX)
  refine OGo.go (B := s₁.setTop (mkF m 2 #[.val (.ref a0), .val (.int (9 : Int32))] [(.int (9 : Int32)), (.ref a0)])) ?_ (fun tX kX => XS.iloadN X0.here hx rfl (hb hby d2_1) rfl kX)
  obtain ⟨_, _, ⟨T1, L1, k1, n1⟩, -, X1, ⟨Lc1, hQ1, l1, y1, z1⟩, st1⟩ := X0.specialBack hx (y := (⟨"java/lang/AbstractStringBuilder", "<init>", "(I)V"⟩ : MethodName)) rfl hown (mvT hZ (hw _ (List.mem_of_getElem? (i := 11) rfl))) (mvT hZ (hw _ (List.mem_of_getElem? (i := 12) rfl))) (mvT hZ (hw _ (List.mem_of_getElem? (i := 16) rfl))) (by decide) (backOf (W := 0) (rm3n9 l Z aV hw [] a0 u1 u2 cs h0 n0 Z0 E_a0 F_value_a0 F_coder_a0 F_count_a0 S_COMPACT_STRINGS ga hcs) hZ (hw _ (List.mem_of_getElem? (i := 16) rfl)) (hw _ (List.mem_of_getElem? (i := 15) rfl)) (by decide) (by decide)) (g := (mkF m 2 #[.val (.ref a0), .val (.int (9 : Int32))] [(.int (9 : Int32)), (.ref a0)])) rfl (by rw [hml]; rfl) (Steps.refl _) (a := a0) (argsL := [(.int (9 : Int32))]) (rest := []) (lenOf pd__I_V rfl) rfl (by show 2 * 0 + _ ≤ _; exact Nat.le_of_eq rfl) (hb hby d2_2) (fun _ _ => ⟨rfl, e0, (by decide : 0 + 1 ≤ _), (by decide : 0 + 9 ≤ _)⟩)
  dsimp only [Pt.U, Pt.locs, Pt.cells, Pt.slots] at X1 l1 y1 z1 st1 hQ1
  subst l1 y1 z1
  obtain ⟨vb_1, kb_1, rfl, N1q, Kq1, sz1_vb, E_a0_p, F_value_a0_p, F_coder_a0_p, F_count_a0_p, E_vb_1_p, V_vb_1_p⟩ := hQ1
  have N1 := Fr.app N0 N1q
  have ne_a0_vb_1 : a0 ≠ vb_1 := Nat.ne_of_lt (Nat.lt_of_lt_of_le E_a0.lt sz1_vb)
  have S_COMPACT_STRINGS := Sta.keepE S_COMPACT_STRINGS Kq1 (staS E_a0.cell (fun x hx' => nomatch hx'))
  have E_a0 := E_a0.keep Kq1
  have g_vb_1 : n0 ≤ vb_1 := Nat.le_trans Z0 sz1_vb
  have sz_vb_1 : h0.size ≤ vb_1 := Nat.le_trans K0.1 sz1_vb
  have K1 := K0.trans Kq1 (allS (P := fun x => x ∈ [a0] ∨ h0.size ≤ x) (Or.inl (List.mem_of_getElem? (i := 0) rfl)) all0)
  have zn1 : n0 ≤ T1.heap.size := Nat.le_trans Z0 Kq1.1
  have E_a0 := E_a0_p
  have F_value_a0 := F_value_a0_p
  have F_coder_a0 := F_coder_a0_p
  have F_count_a0 := F_count_a0_p
  have E_vb_1 := E_vb_1_p
  have V_vb_1 := V_vb_1_p
  refine OGo.go (B := T1.setTop (mkF m 5 #[.val (.ref a0), .val (.int (9 : Int32))] [])) ?_ (fun tX kX => st1.trans kX)
  refine OGo.ret X1 (v := none) (fun _ => rfl) (BodyLoose.notSynchronized Bd) (fun fs hr => X1.returnOut hx Bd.returns (hb hby d2_5) hr) (Q := Q2n9 Z a0 u1 u2 cs h0 n0) ?_ (by decide) (by decide)
  show Q2n9 Z a0 u1 u2 cs h0 n0 _ T1.heap _
  exact ⟨vb_1, kb_1, rfl, N1, K1, sz_vb_1, E_a0, F_value_a0, F_coder_a0, F_count_a0, E_vb_1, V_vb_1⟩
theorem d10_0 : decode jdk_68_method_6_code 0 = .ok (.aload_n 0, 1) := by decide +kernel
theorem d10_1 : decode jdk_68_method_6_code 1 = .ok (.getfield 79, 3) := by decide +kernel
theorem d10_4 : decode jdk_68_method_6_code 4 = .ok (.ireturn, 1) := by decide +kernel
def Q10 (Z : State) (a0 : Addr) (cn : Int32) (h0 : Heap) (n0 : Nat) (v : Option Value) (h : Heap) (L : List Loc) : Prop := v = some (.int cn) ∧ Fr n0 L ∧ h = h0
def P10 (Z : State) (a0 : Addr) (cn : Int32) (h0 : Heap) (n0 : Nat) (s : State) (o : Outcome) (U' : State) : Prop := ∃ v L, o = .returned v ∧ Q10 Z a0 cn h0 n0 v U'.heap L ∧ FrameEnd s o U' L ({ frames := 0, cells := 0, slots := 0, locals := 0 } : Room).cells ({ frames := 0, cells := 0, slots := 0, locals := 0 } : Room).slots
set_option maxRecDepth 65536 in
set_option maxHeartbeats 40000000 in
theorem rm10 (l : Launch) (Z : State) (aV : Array Value) (hw : ∀ d ∈ tables_1, d.before aV Z = true) (ws : List Jvm.Cond) (a0 : Addr) (cn : Int32) (h0 : Heap) (n0 : Nat) (Z0 : n0 ≤ h0.size) (F_count_a0 : Fld Z h0 a0 "java/lang/AbstractStringBuilder" "count" "I" (.int cn)) :
    MetFree l (⟨"java/lang/AbstractStringBuilder", "length", "()I"⟩ : MethodName) (head1 (Jvm.Cond.code (⟨"java/lang/AbstractStringBuilder", "length", "()I"⟩ : MethodName) jdk_68_method_6_code 1 (some .int) :: ws) ({ frames := 0, cells := 0, slots := 0, locals := 0 } : Room)) (fun a U => a = #[(.ref a0)] ∧ Z.Warmed39 U.vm ∧ U.heap = h0) (fun _ _ _ _ _ => True) (fun _ U o U' => ∃ v L, o = .returned v ∧ Q10 Z a0 cn h0 n0 v U'.heap L ∧ FrameEnd U o U' L ({ frames := 0, cells := 0, slots := 0, locals := 0 } : Room).cells ({ frames := 0, cells := 0, slots := 0, locals := 0 } : Room).slots) := by
  refine MetFree.of_bodySF (plainFor_of_name pn_java_lang_AbstractStringBuilder) hisR ?_
  intro p e s m args below meth c s₁ Bd hml0 hP hK
  obtain ⟨rfl, hZ, hh⟩ := hP
  have hx := Bd.exec
  have hby := Bd.bytes
  have hml : c.maxLocals = 1 := hml0
  have hown : s.vm.findClass "java/lang/AbstractStringBuilder" = some m.cls := findClass_of_methodNamed Bd.named
  have hnm := (name_of_methodNamed Bd.named Bd.method).1
  have X0 : Stand p l e ({ frames := 0, cells := 0, slots := 0, locals := 0 } : Room) s m #[(.ref a0)] below meth c s₁ [] 0 0 := Stand.of_body Bd
  have e0 : s₁.heap = h0 := by rw [← hh, Bd.state]; rfl
  have efx : entryFrame m #[(.ref a0)] 1 = mkF m 0 #[.val (.ref a0)] [] := by first | (simp [entryFrame, mkF, argsToLocals, Value.category]; done) | rfl
  have N0 := Fr.nil n0
  have K0 : Keep h0 h0 [] := Keep.refl h0 _
  refine OGo.start (g' := mkF m 0 #[.val (.ref a0)] []) (efx) ?_
  show OGo p.tables e below (P10 Z a0 cn h0 n0 s) (s₁.setTop (mkF m 0 #[.val (.ref a0)] []))
  refine OGo.go (B := s₁.setTop (mkF m 1 #[.val (.ref a0)] [(.ref a0)])) ?_ (fun tX kX => XS.aloadN X0.here hx rfl (hb hby d10_0) rfl rfl kX)
  obtain ⟨T1, X1, e1, st1⟩ := getF X0 hx hZ hown (host := "") (Or.inl (hw _ (List.mem_of_getElem? (i := 55) rfl))) Via.refl e0 F_count_a0 (g := (mkF m 1 #[.val (.ref a0)] [(.ref a0)])) rfl rfl (hb hby d10_1)
  refine OGo.go (B := T1.setTop (mkF m 4 #[.val (.ref a0)] [(.int cn)])) ?_ st1
  refine OGo.ret X1 (v := (some (.int cn))) (fun h => by rw [Bd.returns] at h; cases h) (BodyLoose.notSynchronized Bd) (fun fs hr => retOut X1 hx Bd.returns rfl (Or.inl ⟨rfl, Or.inl rfl, _, rfl⟩) (hb hby d10_4) hr) (Q := Q10 Z a0 cn h0 n0) ?_ (by decide) (by decide)
  show Q10 Z a0 cn h0 n0 _ T1.heap _
  rw [e1]
  exact ⟨rfl, N0, rfl⟩
theorem d9_0 : decode jdk_67_method_93_code 0 = .ok (.aload_n 0, 1) := by decide +kernel
theorem d9_1 : decode jdk_67_method_93_code 1 = .ok (.invokespecial 343, 3) := by decide +kernel
theorem pd___I : parseMethodDescriptor "()I" = some ⟨[], some .int⟩ := by decide +kernel
theorem d9_4 : decode jdk_67_method_93_code 4 = .ok (.ireturn, 1) := by decide +kernel
def Q9 (Z : State) (a0 : Addr) (cn : Int32) (h0 : Heap) (n0 : Nat) (v : Option Value) (h : Heap) (L : List Loc) : Prop := v = some (.int cn) ∧ Fr n0 L ∧ h = h0
def P9 (Z : State) (a0 : Addr) (cn : Int32) (h0 : Heap) (n0 : Nat) (s : State) (o : Outcome) (U' : State) : Prop := ∃ v L, o = .returned v ∧ Q9 Z a0 cn h0 n0 v U'.heap L ∧ FrameEnd s o U' L ({ frames := 1, cells := 0, slots := 0, locals := 12 } : Room).cells ({ frames := 1, cells := 0, slots := 0, locals := 12 } : Room).slots
set_option maxRecDepth 65536 in
set_option maxHeartbeats 40000000 in
theorem rm9 (l : Launch) (Z : State) (aV : Array Value) (hw : ∀ d ∈ tables_1, d.before aV Z = true) (ws : List Jvm.Cond) (a0 : Addr) (cn : Int32) (h0 : Heap) (n0 : Nat) (Z0 : n0 ≤ h0.size) (E_a0 : Exa Z h0 a0 "java/lang/StringBuilder") (F_count_a0 : Fld Z h0 a0 "java/lang/AbstractStringBuilder" "count" "I" (.int cn)) :
    MetFree l (⟨"java/lang/StringBuilder", "length", "()I"⟩ : MethodName) (head1 (Jvm.Cond.code (⟨"java/lang/StringBuilder", "length", "()I"⟩ : MethodName) jdk_67_method_93_code 1 (some .int) :: ws) ({ frames := 1, cells := 0, slots := 0, locals := 12 } : Room)) (fun a U => a = #[(.ref a0)] ∧ Z.Warmed39 U.vm ∧ U.heap = h0) (fun _ _ _ _ _ => True) (fun _ U o U' => ∃ v L, o = .returned v ∧ Q9 Z a0 cn h0 n0 v U'.heap L ∧ FrameEnd U o U' L ({ frames := 1, cells := 0, slots := 0, locals := 12 } : Room).cells ({ frames := 1, cells := 0, slots := 0, locals := 12 } : Room).slots) := by
  refine MetFree.of_bodySF (plainFor_of_name pn_java_lang_StringBuilder) hisR ?_
  intro p e s m args below meth c s₁ Bd hml0 hP hK
  obtain ⟨rfl, hZ, hh⟩ := hP
  have hx := Bd.exec
  have hby := Bd.bytes
  have hml : c.maxLocals = 1 := hml0
  have hown : s.vm.findClass "java/lang/StringBuilder" = some m.cls := findClass_of_methodNamed Bd.named
  have hnm := (name_of_methodNamed Bd.named Bd.method).1
  have X0 : Stand p l e ({ frames := 1, cells := 0, slots := 0, locals := 12 } : Room) s m #[(.ref a0)] below meth c s₁ [] 0 0 := Stand.of_body Bd
  have e0 : s₁.heap = h0 := by rw [← hh, Bd.state]; rfl
  have efx : entryFrame m #[(.ref a0)] 1 = mkF m 0 #[.val (.ref a0)] [] := by first | (simp [entryFrame, mkF, argsToLocals, Value.category]; done) | rfl
  have N0 := Fr.nil n0
  have K0 : Keep h0 h0 [] := Keep.refl h0 _
  refine OGo.start (g' := mkF m 0 #[.val (.ref a0)] []) (efx) ?_
  show OGo p.tables e below (P9 Z a0 cn h0 n0 s) (s₁.setTop (mkF m 0 #[.val (.ref a0)] []))
  refine OGo.go (B := s₁.setTop (mkF m 1 #[.val (.ref a0)] [(.ref a0)])) ?_ (fun tX kX => XS.aloadN X0.here hx rfl (hb hby d9_0) rfl rfl kX)
  obtain ⟨_, _, ⟨T1, L1, k1, n1⟩, -, X1, ⟨Lc1, hQ1, l1, y1, z1⟩, st1⟩ := superBack X0 hx hZ (y := (⟨"java/lang/AbstractStringBuilder", "length", "()I"⟩ : MethodName)) hown (hw _ (List.mem_of_getElem? (i := 52) rfl)) (own_same (y := (⟨"java/lang/AbstractStringBuilder", "length", "()I"⟩ : MethodName)) (by decide) (hw _ (List.mem_of_getElem? (i := 47) rfl)) (own_nf (args := aV) (hw _ (List.mem_of_getElem? (i := 44) rfl)) rfl)) (hw _ (List.mem_of_getElem? (i := 48) rfl)) (hw _ (List.mem_of_getElem? (i := 53) rfl)) (by decide) (backOf (W := 0) (rm10 l Z aV hw [] a0 cn h0 n0 Z0 F_count_a0) hZ (hw _ (List.mem_of_getElem? (i := 54) rfl)) (hw _ (List.mem_of_getElem? (i := 15) rfl)) (by decide) (by decide)) e0 (Ins.self E_a0) (g := (mkF m 1 #[.val (.ref a0)] [(.ref a0)])) rfl (by rw [hml]; rfl) (hw _ (List.mem_of_getElem? (i := 54) rfl)) (argsL := []) (rest := []) (lenOf pd___I rfl) rfl (by show 2 * 0 + _ ≤ _; exact Nat.le_of_eq rfl) (hb hby d9_1) (fun _ _ => ⟨rfl, e0, (by decide : 0 + 0 ≤ _), (by decide : 0 + 0 ≤ _)⟩)
  dsimp only [Pt.U, Pt.locs, Pt.cells, Pt.slots] at X1 l1 y1 z1 st1 hQ1
  subst l1 y1 z1
  obtain ⟨rfl, N1q, e1⟩ := hQ1
  have N1 := Fr.app N0 N1q
  refine OGo.go (B := T1.setTop (mkF m 4 #[.val (.ref a0)] [(.int cn)])) ?_ (fun tX kX => st1.trans kX)
  refine OGo.ret X1 (v := (some (.int cn))) (fun h => by rw [Bd.returns] at h; cases h) (BodyLoose.notSynchronized Bd) (fun fs hr => retOut X1 hx Bd.returns rfl (Or.inl ⟨rfl, Or.inl rfl, _, rfl⟩) (hb hby d9_4) hr) (Q := Q9 Z a0 cn h0 n0) ?_ (by decide) (by decide)
  show Q9 Z a0 cn h0 n0 _ T1.heap _
  rw [e1]
  exact ⟨rfl, N1, rfl⟩
theorem d8_0 : decode jdk_68_method_64_code 0 = .ok (.aload_n 0, 1) := by decide +kernel
theorem d8_1 : decode jdk_68_method_64_code 1 = .ok (.getfield 15, 3) := by decide +kernel
theorem d8_4 : decode jdk_68_method_64_code 4 = .ok (.areturn, 1) := by decide +kernel
def Q8 (Z : State) (a0 : Addr) (vb : Addr) (h0 : Heap) (n0 : Nat) (v : Option Value) (h : Heap) (L : List Loc) : Prop := v = some (.ref vb) ∧ Fr n0 L ∧ h = h0
def P8 (Z : State) (a0 : Addr) (vb : Addr) (h0 : Heap) (n0 : Nat) (s : State) (o : Outcome) (U' : State) : Prop := ∃ v L, o = .returned v ∧ Q8 Z a0 vb h0 n0 v U'.heap L ∧ FrameEnd s o U' L ({ frames := 0, cells := 0, slots := 0, locals := 0 } : Room).cells ({ frames := 0, cells := 0, slots := 0, locals := 0 } : Room).slots
set_option maxRecDepth 65536 in
set_option maxHeartbeats 40000000 in
theorem rm8 (l : Launch) (Z : State) (aV : Array Value) (hw : ∀ d ∈ tables_1, d.before aV Z = true) (ws : List Jvm.Cond) (a0 : Addr) (vb : Addr) (h0 : Heap) (n0 : Nat) (Z0 : n0 ≤ h0.size) (F_value_a0 : Fld Z h0 a0 "java/lang/AbstractStringBuilder" "value" "[B" (.ref vb)) :
    MetFree l (⟨"java/lang/AbstractStringBuilder", "getValue", "()[B"⟩ : MethodName) (head1 (Jvm.Cond.code (⟨"java/lang/AbstractStringBuilder", "getValue", "()[B"⟩ : MethodName) jdk_68_method_64_code 1 (some (.array .byte)) :: ws) ({ frames := 0, cells := 0, slots := 0, locals := 0 } : Room)) (fun a U => a = #[(.ref a0)] ∧ Z.Warmed39 U.vm ∧ U.heap = h0) (fun _ _ _ _ _ => True) (fun _ U o U' => ∃ v L, o = .returned v ∧ Q8 Z a0 vb h0 n0 v U'.heap L ∧ FrameEnd U o U' L ({ frames := 0, cells := 0, slots := 0, locals := 0 } : Room).cells ({ frames := 0, cells := 0, slots := 0, locals := 0 } : Room).slots) := by
  refine MetFree.of_bodySF (plainFor_of_name pn_java_lang_AbstractStringBuilder) hisR ?_
  intro p e s m args below meth c s₁ Bd hml0 hP hK
  obtain ⟨rfl, hZ, hh⟩ := hP
  have hx := Bd.exec
  have hby := Bd.bytes
  have hml : c.maxLocals = 1 := hml0
  have hown : s.vm.findClass "java/lang/AbstractStringBuilder" = some m.cls := findClass_of_methodNamed Bd.named
  have hnm := (name_of_methodNamed Bd.named Bd.method).1
  have X0 : Stand p l e ({ frames := 0, cells := 0, slots := 0, locals := 0 } : Room) s m #[(.ref a0)] below meth c s₁ [] 0 0 := Stand.of_body Bd
  have e0 : s₁.heap = h0 := by rw [← hh, Bd.state]; rfl
  have efx : entryFrame m #[(.ref a0)] 1 = mkF m 0 #[.val (.ref a0)] [] := by first | (simp [entryFrame, mkF, argsToLocals, Value.category]; done) | rfl
  have N0 := Fr.nil n0
  have K0 : Keep h0 h0 [] := Keep.refl h0 _
  refine OGo.start (g' := mkF m 0 #[.val (.ref a0)] []) (efx) ?_
  show OGo p.tables e below (P8 Z a0 vb h0 n0 s) (s₁.setTop (mkF m 0 #[.val (.ref a0)] []))
  refine OGo.go (B := s₁.setTop (mkF m 1 #[.val (.ref a0)] [(.ref a0)])) ?_ (fun tX kX => XS.aloadN X0.here hx rfl (hb hby d8_0) rfl rfl kX)
  obtain ⟨T1, X1, e1, st1⟩ := getF X0 hx hZ hown (host := "") (Or.inl (hw _ (List.mem_of_getElem? (i := 22) rfl))) Via.refl e0 F_value_a0 (g := (mkF m 1 #[.val (.ref a0)] [(.ref a0)])) rfl rfl (hb hby d8_1)
  refine OGo.go (B := T1.setTop (mkF m 4 #[.val (.ref a0)] [(.ref vb)])) ?_ st1
  refine OGo.ret X1 (v := (some (.ref vb))) (fun h => by rw [Bd.returns] at h; cases h) (BodyLoose.notSynchronized Bd) (fun fs hr => retOut X1 hx Bd.returns rfl (Or.inr (Or.inr (Or.inr (Or.inr ⟨rfl, rfl, rfl⟩)))) (hb hby d8_4) hr) (Q := Q8 Z a0 vb h0 n0) ?_ (by decide) (by decide)
  show Q8 Z a0 vb h0 n0 _ T1.heap _
  rw [e1]
  exact ⟨rfl, N0, rfl⟩
theorem d11_0 : decode jdk_68_method_68_code 0 = .ok (.getstatic 18, 3) := by decide +kernel
theorem d11_3 : decode jdk_68_method_68_code 3 = .ok (.ifCond .eq 14, 3) := by decide +kernel
theorem d11_6 : decode jdk_68_method_68_code 6 = .ok (.aload_n 0, 1) := by decide +kernel
theorem d11_7 : decode jdk_68_method_68_code 7 = .ok (.getfield 22, 3) := by decide +kernel
theorem d11_10 : decode jdk_68_method_68_code 10 = .ok (.ifCond .ne 7, 3) := by decide +kernel
theorem d11_13 : decode jdk_68_method_68_code 13 = .ok (.iconst 1, 1) := by decide +kernel
theorem d11_14 : decode jdk_68_method_68_code 14 = .ok (.goto 4, 3) := by decide +kernel
theorem d11_18 : decode jdk_68_method_68_code 18 = .ok (.ireturn, 1) := by decide +kernel
def Q11 (Z : State) (a0 : Addr) (cs : Int32) (h0 : Heap) (n0 : Nat) (v : Option Value) (h : Heap) (L : List Loc) : Prop := v = some (.int (1 : Int32)) ∧ Fr n0 L ∧ h = h0
def P11 (Z : State) (a0 : Addr) (cs : Int32) (h0 : Heap) (n0 : Nat) (s : State) (o : Outcome) (U' : State) : Prop := ∃ v L, o = .returned v ∧ Q11 Z a0 cs h0 n0 v U'.heap L ∧ FrameEnd s o U' L ({ frames := 0, cells := 0, slots := 0, locals := 0 } : Room).cells ({ frames := 0, cells := 0, slots := 0, locals := 0 } : Room).slots
set_option maxRecDepth 65536 in
set_option maxHeartbeats 40000000 in
theorem rm11 (l : Launch) (Z : State) (aV : Array Value) (hw : ∀ d ∈ tables_1, d.before aV Z = true) (ws : List Jvm.Cond) (a0 : Addr) (cs : Int32) (h0 : Heap) (n0 : Nat) (Z0 : n0 ≤ h0.size) (F_coder_a0 : Fld Z h0 a0 "java/lang/AbstractStringBuilder" "coder" "B" (.int (0 : Int32))) (S_COMPACT_STRINGS : Sta Z h0 "java/lang/String" "COMPACT_STRINGS" "Z" (.int cs)) (hcs : ¬ cs = 0) :
    MetFree l (⟨"java/lang/AbstractStringBuilder", "isLatin1", "()Z"⟩ : MethodName) (head1 (Jvm.Cond.code (⟨"java/lang/AbstractStringBuilder", "isLatin1", "()Z"⟩ : MethodName) jdk_68_method_68_code 1 (some .boolean) :: ws) ({ frames := 0, cells := 0, slots := 0, locals := 0 } : Room)) (fun a U => a = #[(.ref a0)] ∧ Z.Warmed39 U.vm ∧ U.heap = h0) (fun _ _ _ _ _ => True) (fun _ U o U' => ∃ v L, o = .returned v ∧ Q11 Z a0 cs h0 n0 v U'.heap L ∧ FrameEnd U o U' L ({ frames := 0, cells := 0, slots := 0, locals := 0 } : Room).cells ({ frames := 0, cells := 0, slots := 0, locals := 0 } : Room).slots) := by
  refine MetFree.of_bodySF (plainFor_of_name pn_java_lang_AbstractStringBuilder) hisR ?_
  intro p e s m args below meth c s₁ Bd hml0 hP hK
  obtain ⟨rfl, hZ, hh⟩ := hP
  have hx := Bd.exec
  have hby := Bd.bytes
  have hml : c.maxLocals = 1 := hml0
  have hown : s.vm.findClass "java/lang/AbstractStringBuilder" = some m.cls := findClass_of_methodNamed Bd.named
  have hnm := (name_of_methodNamed Bd.named Bd.method).1
  have X0 : Stand p l e ({ frames := 0, cells := 0, slots := 0, locals := 0 } : Room) s m #[(.ref a0)] below meth c s₁ [] 0 0 := Stand.of_body Bd
  have e0 : s₁.heap = h0 := by rw [← hh, Bd.state]; rfl
  have efx : entryFrame m #[(.ref a0)] 1 = mkF m 0 #[.val (.ref a0)] [] := by first | (simp [entryFrame, mkF, argsToLocals, Value.category]; done) | rfl
  have N0 := Fr.nil n0
  have K0 : Keep h0 h0 [] := Keep.refl h0 _
  refine OGo.start (g' := mkF m 0 #[.val (.ref a0)] []) (efx) ?_
  show OGo p.tables e below (P11 Z a0 cs h0 n0 s) (s₁.setTop (mkF m 0 #[.val (.ref a0)] []))
  obtain ⟨T1, X1, e1, st1⟩ := getS2 X0 hx hZ hown (host := "") (Or.inl (hw _ (List.mem_of_getElem? (i := 20) rfl))) Via.refl e0 S_COMPACT_STRINGS (g := (mkF m 0 #[.val (.ref a0)] [])) rfl (hb hby d11_0)
  refine OGo.go (B := T1.setTop (mkF m 3 #[.val (.ref a0)] [(.int cs)])) ?_ st1
  refine OGo.go (B := T1.setTop (mkF m 6 #[.val (.ref a0)] [])) ?_ (fun tX kX => XS.ifNo X1.here hx rfl (hb hby d11_3) rfl ((if0 _ _).trans (feq hcs).1) kX)
  refine OGo.go (B := T1.setTop (mkF m 7 #[.val (.ref a0)] [(.ref a0)])) ?_ (fun tX kX => XS.aloadN X1.here hx rfl (hb hby d11_6) rfl rfl kX)
  obtain ⟨T2, X2, e2, st2⟩ := getF X1 hx hZ hown (host := "") (Or.inl (hw _ (List.mem_of_getElem? (i := 24) rfl))) Via.refl e1 F_coder_a0 (g := (mkF m 7 #[.val (.ref a0)] [(.ref a0)])) rfl rfl (hb hby d11_7)
  refine OGo.go (B := T2.setTop (mkF m 10 #[.val (.ref a0)] [(.int (0 : Int32))])) ?_ st2
  refine OGo.go (B := T2.setTop (mkF m 13 #[.val (.ref a0)] [])) ?_ (fun tX kX => XS.ifNo X2.here hx rfl (hb hby d11_10) rfl ((if0 _ _).trans (teq (by decide)).2) kX)
  refine OGo.go (B := T2.setTop (mkF m 14 #[.val (.ref a0)] [(.int (1 : Int32))])) ?_ (fun tX kX => XS.iconst X2.here hx rfl (hb hby d11_13) kX)
  refine OGo.go (B := T2.setTop (mkF m 18 #[.val (.ref a0)] [(.int (1 : Int32))])) ?_ (fun tX kX => XS.goto X2.here hx rfl (pc0 := 14) (pc' := 18) rfl (hb hby d11_14) (by decide) (by decide) kX)
  refine OGo.ret X2 (v := (some (.int (1 : Int32)))) (fun h => by rw [Bd.returns] at h; cases h) (BodyLoose.notSynchronized Bd) (fun fs hr => retN X2 hx (t := .boolean) (z := (1 : Int32)) Bd.returns (by simp) (hb hby d11_18) hr) (Q := Q11 Z a0 cs h0 n0) ?_ (by decide) (by decide)
  show Q11 Z a0 cs h0 n0 _ T2.heap _
  rw [e2]
  exact ⟨rfl, N0, rfl⟩
theorem d18_0 : decode jdk_43_method_3_code 0 = .ok (.iload_n 0, 1) := by decide +kernel
theorem d18_1 : decode jdk_43_method_3_code 1 = .ok (.sipush 255, 3) := by decide +kernel
theorem d18_4 : decode jdk_43_method_3_code 4 = .ok (.if_icmp .gt 7, 3) := by decide +kernel
theorem d18_7 : decode jdk_43_method_3_code 7 = .ok (.iconst 1, 1) := by decide +kernel
theorem d18_8 : decode jdk_43_method_3_code 8 = .ok (.goto 4, 3) := by decide +kernel
theorem d18_12 : decode jdk_43_method_3_code 12 = .ok (.ireturn, 1) := by decide +kernel
theorem pn_java_lang_StringLatin1 : plainName "java/lang/StringLatin1" = true := by first | (simp [plainName, overriddenIn]; done) | decide +kernel
def Q18 (Z : State) (p0 : Int32) (h0 : Heap) (n0 : Nat) (v : Option Value) (h : Heap) (L : List Loc) : Prop := v = some (.int (1 : Int32)) ∧ Fr n0 L ∧ h = h0
def P18 (Z : State) (p0 : Int32) (h0 : Heap) (n0 : Nat) (s : State) (o : Outcome) (U' : State) : Prop := ∃ v L, o = .returned v ∧ Q18 Z p0 h0 n0 v U'.heap L ∧ FrameEnd s o U' L ({ frames := 0, cells := 0, slots := 0, locals := 0 } : Room).cells ({ frames := 0, cells := 0, slots := 0, locals := 0 } : Room).slots
set_option maxRecDepth 65536 in
set_option maxHeartbeats 40000000 in
theorem rm18 (l : Launch) (Z : State) (aV : Array Value) (hw : ∀ d ∈ tables_1, d.before aV Z = true) (ws : List Jvm.Cond) (p0 : Int32) (h0 : Heap) (n0 : Nat) (Z0 : n0 ≤ h0.size) (hc : ¬ (255 : Int32) < p0) :
    MetFree l (⟨"java/lang/StringLatin1", "canEncode", "(C)Z"⟩ : MethodName) (head1 (Jvm.Cond.code (⟨"java/lang/StringLatin1", "canEncode", "(C)Z"⟩ : MethodName) jdk_43_method_3_code 1 (some .boolean) :: ws) ({ frames := 0, cells := 0, slots := 0, locals := 0 } : Room)) (fun a U => a = #[(.int p0)] ∧ Z.Warmed39 U.vm ∧ U.heap = h0) (fun _ _ _ _ _ => True) (fun _ U o U' => ∃ v L, o = .returned v ∧ Q18 Z p0 h0 n0 v U'.heap L ∧ FrameEnd U o U' L ({ frames := 0, cells := 0, slots := 0, locals := 0 } : Room).cells ({ frames := 0, cells := 0, slots := 0, locals := 0 } : Room).slots) := by
  refine MetFree.of_bodySF (plainFor_of_name pn_java_lang_StringLatin1) hisR ?_
  intro p e s m args below meth c s₁ Bd hml0 hP hK
  obtain ⟨rfl, hZ, hh⟩ := hP
  have hx := Bd.exec
  have hby := Bd.bytes
  have hml : c.maxLocals = 1 := hml0
  have hown : s.vm.findClass "java/lang/StringLatin1" = some m.cls := findClass_of_methodNamed Bd.named
  have hnm := (name_of_methodNamed Bd.named Bd.method).1
  have X0 : Stand p l e ({ frames := 0, cells := 0, slots := 0, locals := 0 } : Room) s m #[(.int p0)] below meth c s₁ [] 0 0 := Stand.of_body Bd
  have e0 : s₁.heap = h0 := by rw [← hh, Bd.state]; rfl
  have efx : entryFrame m #[(.int p0)] 1 = mkF m 0 #[.val (.int p0)] [] := by first | (simp [entryFrame, mkF, argsToLocals, Value.category]; done) | rfl
  have N0 := Fr.nil n0
  have K0 : Keep h0 h0 [] := Keep.refl h0 _
  refine OGo.start (g' := mkF m 0 #[.val (.int p0)] []) (efx) ?_
  show OGo p.tables e below (P18 Z p0 h0 n0 s) (s₁.setTop (mkF m 0 #[.val (.int p0)] []))
  refine OGo.go (B := s₁.setTop (mkF m 1 #[.val (.int p0)] [(.int p0)])) ?_ (fun tX kX => XS.iloadN X0.here hx rfl (hb hby d18_0) rfl kX)
  refine OGo.go (B := s₁.setTop (mkF m 4 #[.val (.int p0)] [(.int (255 : Int32)), (.int p0)])) ?_ (fun tX kX => XS.sipush X0.here hx rfl (hb hby d18_1) kX)
  refine OGo.go (B := s₁.setTop (mkF m 7 #[.val (.int p0)] [])) ?_ (fun tX kX => XS.icmpNo X0.here hx rfl (hb hby d18_4) rfl (flt hc).2.2.1 kX)
  refine OGo.go (B := s₁.setTop (mkF m 8 #[.val (.int p0)] [(.int (1 : Int32))])) ?_ (fun tX kX => XS.iconst X0.here hx rfl (hb hby d18_7) kX)
  refine OGo.go (B := s₁.setTop (mkF m 12 #[.val (.int p0)] [(.int (1 : Int32))])) ?_ (fun tX kX => XS.goto X0.here hx rfl (pc0 := 8) (pc' := 12) rfl (hb hby d18_8) (by decide) (by decide) kX)
  refine OGo.ret X0 (v := (some (.int (1 : Int32)))) (fun h => by rw [Bd.returns] at h; cases h) (BodyLoose.notSynchronized Bd) (fun fs hr => retN X0 hx (t := .boolean) (z := (1 : Int32)) Bd.returns (by simp) (hb hby d18_12) hr) (Q := Q18 Z p0 h0 n0) ?_ (by decide) (by decide)
  show Q18 Z p0 h0 n0 _ s₁.heap _
  rw [e0]
  exact ⟨rfl, N0, rfl⟩
theorem d17_0 : decode jdk_68_method_9_code 0 = .ok (.aload_n 0, 1) := by decide +kernel
theorem d17_1 : decode jdk_68_method_9_code 1 = .ok (.getfield 15, 3) := by decide +kernel
theorem d17_4 : decode jdk_68_method_9_code 4 = .ok (.arraylength, 1) := by decide +kernel
theorem d17_5 : decode jdk_68_method_9_code 5 = .ok (.aload_n 0, 1) := by decide +kernel
theorem d17_6 : decode jdk_68_method_9_code 6 = .ok (.getfield 22, 3) := by decide +kernel
theorem d17_9 : decode jdk_68_method_9_code 9 = .ok (.ishr, 1) := by decide +kernel
theorem d17_10 : decode jdk_68_method_9_code 10 = .ok (.istore_n 2, 1) := by decide +kernel
theorem d17_11 : decode jdk_68_method_9_code 11 = .ok (.iload_n 1, 1) := by decide +kernel
theorem d17_12 : decode jdk_68_method_9_code 12 = .ok (.iload_n 2, 1) := by decide +kernel
theorem d17_13 : decode jdk_68_method_9_code 13 = .ok (.isub, 1) := by decide +kernel
theorem d17_14 : decode jdk_68_method_9_code 14 = .ok (.ifCond .le 24, 3) := by decide +kernel
theorem d17_38 : decode jdk_68_method_9_code 38 = .ok (.return_, 1) := by decide +kernel
def Q17 (Z : State) (a0 : Addr) (p1 : Int32) (vb : Addr) (kb : ClassId) (n : Int32) (vs : List Value) (h0 : Heap) (n0 : Nat) (v : Option Value) (h : Heap) (L : List Loc) : Prop := v = none ∧ Fr n0 L ∧ h = h0
def P17 (Z : State) (a0 : Addr) (p1 : Int32) (vb : Addr) (kb : ClassId) (n : Int32) (vs : List Value) (h0 : Heap) (n0 : Nat) (s : State) (o : Outcome) (U' : State) : Prop := ∃ v L, o = .returned v ∧ Q17 Z a0 p1 vb kb n vs h0 n0 v U'.heap L ∧ FrameEnd s o U' L ({ frames := 0, cells := 0, slots := 0, locals := 0 } : Room).cells ({ frames := 0, cells := 0, slots := 0, locals := 0 } : Room).slots
set_option maxRecDepth 65536 in
set_option maxHeartbeats 40000000 in
theorem rm17 (l : Launch) (Z : State) (aV : Array Value) (hw : ∀ d ∈ tables_1, d.before aV Z = true) (ws : List Jvm.Cond) (a0 : Addr) (p1 : Int32) (vb : Addr) (kb : ClassId) (n : Int32) (vs : List Value) (h0 : Heap) (n0 : Nat) (Z0 : n0 ≤ h0.size) (F_value_a0 : Fld Z h0 a0 "java/lang/AbstractStringBuilder" "value" "[B" (.ref vb)) (F_coder_a0 : Fld Z h0 a0 "java/lang/AbstractStringBuilder" "coder" "B" (.int (0 : Int32))) (V_vb : Arv Z h0 vb kb .byte n vs (.int (0 : Int32))) (hle : ¬ (0 : Int32) < (p1 - (n >>> ((0 : Int32) &&& 31)))) :
    MetFree l (⟨"java/lang/AbstractStringBuilder", "ensureCapacityInternal", "(I)V"⟩ : MethodName) (head1 (Jvm.Cond.code (⟨"java/lang/AbstractStringBuilder", "ensureCapacityInternal", "(I)V"⟩ : MethodName) jdk_68_method_9_code 3 none :: ws) ({ frames := 0, cells := 0, slots := 0, locals := 0 } : Room)) (fun a U => a = #[(.ref a0), (.int p1)] ∧ Z.Warmed39 U.vm ∧ U.heap = h0) (fun _ _ _ _ _ => True) (fun _ U o U' => ∃ v L, o = .returned v ∧ Q17 Z a0 p1 vb kb n vs h0 n0 v U'.heap L ∧ FrameEnd U o U' L ({ frames := 0, cells := 0, slots := 0, locals := 0 } : Room).cells ({ frames := 0, cells := 0, slots := 0, locals := 0 } : Room).slots) := by
  refine MetFree.of_bodySF (plainFor_of_name pn_java_lang_AbstractStringBuilder) hisR ?_
  intro p e s m args below meth c s₁ Bd hml0 hP hK
  obtain ⟨rfl, hZ, hh⟩ := hP
  have hx := Bd.exec
  have hby := Bd.bytes
  have hml : c.maxLocals = 3 := hml0
  have hown : s.vm.findClass "java/lang/AbstractStringBuilder" = some m.cls := findClass_of_methodNamed Bd.named
  have hnm := (name_of_methodNamed Bd.named Bd.method).1
  have X0 : Stand p l e ({ frames := 0, cells := 0, slots := 0, locals := 0 } : Room) s m #[(.ref a0), (.int p1)] below meth c s₁ [] 0 0 := Stand.of_body Bd
  have e0 : s₁.heap = h0 := by rw [← hh, Bd.state]; rfl
  have efx : entryFrame m #[(.ref a0), (.int p1)] 3 = mkF m 0 #[.val (.ref a0), .val (.int p1), .unset] [] := by first | (simp [entryFrame, mkF, argsToLocals, Value.category]; done) | rfl
  have N0 := Fr.nil n0
  have K0 : Keep h0 h0 [] := Keep.refl h0 _
  refine OGo.start (g' := mkF m 0 #[.val (.ref a0), .val (.int p1), .unset] []) (efx) ?_
  show OGo p.tables e below (P17 Z a0 p1 vb kb n vs h0 n0 s) (s₁.setTop (mkF m 0 #[.val (.ref a0), .val (.int p1), .unset] []))
  refine OGo.go (B := s₁.setTop (mkF m 1 #[.val (.ref a0), .val (.int p1), .unset] [(.ref a0)])) ?_ (fun tX kX => XS.aloadN X0.here hx rfl (hb hby d17_0) rfl rfl kX)
  obtain ⟨T1, X1, e1, st1⟩ := getF X0 hx hZ hown (host := "") (Or.inl (hw _ (List.mem_of_getElem? (i := 22) rfl))) Via.refl e0 F_value_a0 (g := (mkF m 1 #[.val (.ref a0), .val (.int p1), .unset] [(.ref a0)])) rfl rfl (hb hby d17_1)
  refine OGo.go (B := T1.setTop (mkF m 4 #[.val (.ref a0), .val (.int p1), .unset] [(.ref vb)])) ?_ st1
  obtain ⟨cl2, Ar2, qa2, S2, N2', H2, G2⟩ := id V_vb
  refine OGo.go (B := T1.setTop (mkF m 5 #[.val (.ref a0), .val (.int p1), .unset] [(.int n)])) ?_ (fun tX kX => X1.arraylength hx (by rw [e1]; exact Ar2.1) (State.isArrayOf_alike hZ.alike Ar2.2.1) (g := (mkF m 4 #[.val (.ref a0), .val (.int p1), .unset] [(.ref vb)])) rfl rfl (hb hby d17_4) _ (by rw [len_of S2 N2']; exact kX))
  refine OGo.go (B := T1.setTop (mkF m 6 #[.val (.ref a0), .val (.int p1), .unset] [(.ref a0), (.int n)])) ?_ (fun tX kX => XS.aloadN X1.here hx rfl (hb hby d17_5) rfl rfl kX)
  obtain ⟨T3, X3, e3, st3⟩ := getF X1 hx hZ hown (host := "") (Or.inl (hw _ (List.mem_of_getElem? (i := 24) rfl))) Via.refl e1 F_coder_a0 (g := (mkF m 6 #[.val (.ref a0), .val (.int p1), .unset] [(.ref a0), (.int n)])) rfl rfl (hb hby d17_6)
  refine OGo.go (B := T3.setTop (mkF m 9 #[.val (.ref a0), .val (.int p1), .unset] [(.int (0 : Int32)), (.int n)])) ?_ st3
  refine OGo.go (B := T3.setTop (mkF m 10 #[.val (.ref a0), .val (.int p1), .unset] [(.int (n >>> ((0 : Int32) &&& 31)))])) ?_ (fun tX kX => XS.ishr X3.here hx rfl (hb hby d17_9) rfl kX)
  refine OGo.go (B := T3.setTop (mkF m 11 #[.val (.ref a0), .val (.int p1), .val (.int (n >>> ((0 : Int32) &&& 31)))] [])) ?_ (fun tX kX => XS.istoreN X3.here hx rfl (hb hby d17_10) rfl (l' := #[.val (.ref a0), .val (.int p1), .val (.int (n >>> ((0 : Int32) &&& 31)))]) rfl kX)
  refine OGo.go (B := T3.setTop (mkF m 12 #[.val (.ref a0), .val (.int p1), .val (.int (n >>> ((0 : Int32) &&& 31)))] [(.int p1)])) ?_ (fun tX kX => XS.iloadN X3.here hx rfl (hb hby d17_11) rfl kX)
  refine OGo.go (B := T3.setTop (mkF m 13 #[.val (.ref a0), .val (.int p1), .val (.int (n >>> ((0 : Int32) &&& 31)))] [(.int (n >>> ((0 : Int32) &&& 31))), (.int p1)])) ?_ (fun tX kX => XS.iloadN X3.here hx rfl (hb hby d17_12) rfl kX)
  refine OGo.go (B := T3.setTop (mkF m 14 #[.val (.ref a0), .val (.int p1), .val (.int (n >>> ((0 : Int32) &&& 31)))] [(.int (p1 - (n >>> ((0 : Int32) &&& 31))))])) ?_ (fun tX kX => XS.isub X3.here hx rfl (hb hby d17_13) rfl kX)
  refine OGo.go (B := T3.setTop (mkF m 38 #[.val (.ref a0), .val (.int p1), .val (.int (n >>> ((0 : Int32) &&& 31)))] [])) ?_ (fun tX kX => XS.ifYes X3.here hx rfl (pc0 := 14) (pc' := 38) rfl (hb hby d17_14) rfl ((if0 _ _).trans (flt hle).2.2.2) (by decide) (by decide) kX)
  refine OGo.ret X3 (v := none) (fun _ => rfl) (BodyLoose.notSynchronized Bd) (fun fs hr => X3.returnOut hx Bd.returns (hb hby d17_38) hr) (Q := Q17 Z a0 p1 vb kb n vs h0 n0) ?_ (by decide) (by decide)
  show Q17 Z a0 p1 vb kb n vs h0 n0 _ T3.heap _
  rw [e3]
  exact ⟨rfl, N0, rfl⟩
theorem d16_0 : decode jdk_68_method_31_code 0 = .ok (.aload_n 0, 1) := by decide +kernel
theorem d16_1 : decode jdk_68_method_31_code 1 = .ok (.aload_n 0, 1) := by decide +kernel
theorem d16_2 : decode jdk_68_method_31_code 2 = .ok (.getfield 79, 3) := by decide +kernel
theorem d16_5 : decode jdk_68_method_31_code 5 = .ok (.iconst 1, 1) := by decide +kernel
theorem d16_6 : decode jdk_68_method_31_code 6 = .ok (.iadd, 1) := by decide +kernel
theorem d16_7 : decode jdk_68_method_31_code 7 = .ok (.invokevirtual 100, 3) := by decide +kernel
theorem d16_10 : decode jdk_68_method_31_code 10 = .ok (.aload_n 0, 1) := by decide +kernel
theorem d16_11 : decode jdk_68_method_31_code 11 = .ok (.invokevirtual 83, 3) := by decide +kernel
theorem pd___Z : parseMethodDescriptor "()Z" = some ⟨[], some .boolean⟩ := by decide +kernel
theorem d16_14 : decode jdk_68_method_31_code 14 = .ok (.ifCond .eq 31, 3) := by decide +kernel
theorem d16_17 : decode jdk_68_method_31_code 17 = .ok (.iload_n 1, 1) := by decide +kernel
theorem d16_18 : decode jdk_68_method_31_code 18 = .ok (.invokestatic 191, 3) := by decide +kernel
theorem pd__C_Z : parseMethodDescriptor "(C)Z" = some ⟨[.char], some .boolean⟩ := by decide +kernel
theorem d16_21 : decode jdk_68_method_31_code 21 = .ok (.ifCond .eq 24, 3) := by decide +kernel
theorem d16_24 : decode jdk_68_method_31_code 24 = .ok (.aload_n 0, 1) := by decide +kernel
theorem d16_25 : decode jdk_68_method_31_code 25 = .ok (.getfield 15, 3) := by decide +kernel
theorem d16_28 : decode jdk_68_method_31_code 28 = .ok (.aload_n 0, 1) := by decide +kernel
theorem d16_29 : decode jdk_68_method_31_code 29 = .ok (.dup, 1) := by decide +kernel
theorem d16_30 : decode jdk_68_method_31_code 30 = .ok (.getfield 79, 3) := by decide +kernel
theorem d16_33 : decode jdk_68_method_31_code 33 = .ok (.dup_x1, 1) := by decide +kernel
theorem d16_34 : decode jdk_68_method_31_code 34 = .ok (.iconst 1, 1) := by decide +kernel
theorem d16_35 : decode jdk_68_method_31_code 35 = .ok (.iadd, 1) := by decide +kernel
theorem d16_36 : decode jdk_68_method_31_code 36 = .ok (.putfield 79, 3) := by decide +kernel
theorem d16_39 : decode jdk_68_method_31_code 39 = .ok (.iload_n 1, 1) := by decide +kernel
theorem d16_40 : decode jdk_68_method_31_code 40 = .ok (.i2b, 1) := by decide +kernel
theorem d16_41 : decode jdk_68_method_31_code 41 = .ok (.bastore, 1) := by decide +kernel
theorem d16_42 : decode jdk_68_method_31_code 42 = .ok (.goto 33, 3) := by decide +kernel
theorem d16_75 : decode jdk_68_method_31_code 75 = .ok (.aload_n 0, 1) := by decide +kernel
theorem d16_76 : decode jdk_68_method_31_code 76 = .ok (.areturn, 1) := by decide +kernel
def Q16 (Z : State) (a0 : Addr) (p1 : Int32) (vb : Addr) (kb : ClassId) (n : Int32) (vs : List Value) (cn : Int32) (i : Nat) (cs : Int32) (h0 : Heap) (n0 : Nat) (v : Option Value) (h : Heap) (L : List Loc) : Prop := v = some (.ref a0) ∧ Fr n0 L ∧ Keep h0 h [a0, vb] ∧ Exa Z h a0 "java/lang/StringBuilder" ∧ Fld Z h a0 "java/lang/AbstractStringBuilder" "value" "[B" (.ref vb) ∧ Fld Z h a0 "java/lang/AbstractStringBuilder" "coder" "B" (.int (0 : Int32)) ∧ Fld Z h a0 "java/lang/AbstractStringBuilder" "count" "I" (.int (cn + (1 : Int32))) ∧ Exa Z h vb "[B" ∧ Arv Z h vb kb .byte n (vs.set i (.int ((p1.toInt8.toInt32).toInt8.toInt32))) (.int (0 : Int32))
def P16 (Z : State) (a0 : Addr) (p1 : Int32) (vb : Addr) (kb : ClassId) (n : Int32) (vs : List Value) (cn : Int32) (i : Nat) (cs : Int32) (h0 : Heap) (n0 : Nat) (s : State) (o : Outcome) (U' : State) : Prop := ∃ v L, o = .returned v ∧ Q16 Z a0 p1 vb kb n vs cn i cs h0 n0 v U'.heap L ∧ FrameEnd s o U' L ({ frames := 1, cells := 0, slots := 0, locals := 14 } : Room).cells ({ frames := 1, cells := 0, slots := 0, locals := 14 } : Room).slots
set_option maxRecDepth 65536 in
set_option maxHeartbeats 40000000 in
theorem rm16 (l : Launch) (Z : State) (aV : Array Value) (hw : ∀ d ∈ tables_1, d.before aV Z = true) (ws : List Jvm.Cond) (a0 : Addr) (p1 : Int32) (vb : Addr) (kb : ClassId) (n : Int32) (vs : List Value) (cn : Int32) (i : Nat) (cs : Int32) (h0 : Heap) (n0 : Nat) (Z0 : n0 ≤ h0.size) (E_a0 : Exa Z h0 a0 "java/lang/StringBuilder") (F_value_a0 : Fld Z h0 a0 "java/lang/AbstractStringBuilder" "value" "[B" (.ref vb)) (F_coder_a0 : Fld Z h0 a0 "java/lang/AbstractStringBuilder" "coder" "B" (.int (0 : Int32))) (F_count_a0 : Fld Z h0 a0 "java/lang/AbstractStringBuilder" "count" "I" (.int cn)) (E_vb : Exa Z h0 vb "[B") (V_vb : Arv Z h0 vb kb .byte n vs (.int (0 : Int32))) (S_COMPACT_STRINGS : Sta Z h0 "java/lang/String" "COMPACT_STRINGS" "Z" (.int cs)) (ga : n0 ≤ a0) (gv : n0 ≤ vb) (nab : a0 ≠ vb) (hcs : ¬ cs = 0) (hc : ¬ (255 : Int32) < p1) (hle : ¬ (0 : Int32) < ((cn + (1 : Int32)) - (n >>> ((0 : Int32) &&& 31)))) (hin : ¬ cn < 0 ∧ cn < n) (hi : cn.toNatClampNeg = i) (hvl : i < vs.length) :
    MetFree l (⟨"java/lang/AbstractStringBuilder", "append", "(C)Ljava/lang/AbstractStringBuilder;"⟩ : MethodName) (head1 (Jvm.Cond.code (⟨"java/lang/AbstractStringBuilder", "append", "(C)Ljava/lang/AbstractStringBuilder;"⟩ : MethodName) jdk_68_method_31_code 2 (some (.object "java/lang/AbstractStringBuilder")) :: ws) ({ frames := 1, cells := 0, slots := 0, locals := 14 } : Room)) (fun a U => a = #[(.ref a0), (.int p1)] ∧ Z.Warmed39 U.vm ∧ U.heap = h0) (fun _ _ _ _ _ => True) (fun _ U o U' => ∃ v L, o = .returned v ∧ Q16 Z a0 p1 vb kb n vs cn i cs h0 n0 v U'.heap L ∧ FrameEnd U o U' L ({ frames := 1, cells := 0, slots := 0, locals := 14 } : Room).cells ({ frames := 1, cells := 0, slots := 0, locals := 14 } : Room).slots) := by
  refine MetFree.of_bodySF (plainFor_of_name pn_java_lang_AbstractStringBuilder) hisR ?_
  intro p e s m args below meth c s₁ Bd hml0 hP hK
  obtain ⟨rfl, hZ, hh⟩ := hP
  have hx := Bd.exec
  have hby := Bd.bytes
  have hml : c.maxLocals = 2 := hml0
  have hown : s.vm.findClass "java/lang/AbstractStringBuilder" = some m.cls := findClass_of_methodNamed Bd.named
  have hnm := (name_of_methodNamed Bd.named Bd.method).1
  have X0 : Stand p l e ({ frames := 1, cells := 0, slots := 0, locals := 14 } : Room) s m #[(.ref a0), (.int p1)] below meth c s₁ [] 0 0 := Stand.of_body Bd
  have e0 : s₁.heap = h0 := by rw [← hh, Bd.state]; rfl
  have efx : entryFrame m #[(.ref a0), (.int p1)] 2 = mkF m 0 #[.val (.ref a0), .val (.int p1)] [] := by first | (simp [entryFrame, mkF, argsToLocals, Value.category]; done) | rfl
  have N0 := Fr.nil n0
  have K0 : Keep h0 h0 [a0, vb] := Keep.refl h0 _
  refine OGo.start (g' := mkF m 0 #[.val (.ref a0), .val (.int p1)] []) (efx) ?_
  show OGo p.tables e below (P16 Z a0 p1 vb kb n vs cn i cs h0 n0 s) (s₁.setTop (mkF m 0 #[.val (.ref a0), .val (.int p1)] []))
  refine OGo.go (B := s₁.setTop (mkF m 1 #[.val (.ref a0), .val (.int p1)] [(.ref a0)])) ?_ (fun tX kX => XS.aloadN X0.here hx rfl (hb hby d16_0) rfl rfl kX)
  refine OGo.go (B := s₁.setTop (mkF m 2 #[.val (.ref a0), .val (.int p1)] [(.ref a0), (.ref a0)])) ?_ (fun tX kX => XS.aloadN X0.here hx rfl (hb hby d16_1) rfl rfl kX)
  obtain ⟨T1, X1, e1, st1⟩ := getF X0 hx hZ hown (host := "") (Or.inl (hw _ (List.mem_of_getElem? (i := 55) rfl))) Via.refl e0 F_count_a0 (g := (mkF m 2 #[.val (.ref a0), .val (.int p1)] [(.ref a0), (.ref a0)])) rfl rfl (hb hby d16_2)
  refine OGo.go (B := T1.setTop (mkF m 5 #[.val (.ref a0), .val (.int p1)] [(.int cn), (.ref a0)])) ?_ st1
  refine OGo.go (B := T1.setTop (mkF m 6 #[.val (.ref a0), .val (.int p1)] [(.int (1 : Int32)), (.int cn), (.ref a0)])) ?_ (fun tX kX => XS.iconst X1.here hx rfl (hb hby d16_5) kX)
  refine OGo.go (B := T1.setTop (mkF m 7 #[.val (.ref a0), .val (.int p1)] [(.int (cn + (1 : Int32))), (.ref a0)])) ?_ (fun tX kX => XS.iadd X1.here hx rfl (hb hby d16_6) rfl kX)
  obtain ⟨cq2, kq2, q2a, q2b, q2c⟩ := isOf hZ e1 E_a0
  obtain ⟨_, _, ⟨T2, L2, k2, n2⟩, -, X2, ⟨Lc2, hQ2, l2, y2, z2⟩, st2⟩ := X1.virtualBack hx (y := (⟨"java/lang/AbstractStringBuilder", "ensureCapacityInternal", "(I)V"⟩ : MethodName)) (z := (⟨"java/lang/AbstractStringBuilder", "ensureCapacityInternal", "(I)V"⟩ : MethodName)) hown (mvT hZ (hw _ (List.mem_of_getElem? (i := 104) rfl))) (own_decl (mvT (args := #[]) hZ (hw _ (List.mem_of_getElem? (i := 105) rfl))) (mvT (args := #[]) hZ (hw _ (List.mem_of_getElem? (i := 108) rfl)))) (notFace_of_selects (args := #[]) (mvT hZ (hw _ (List.mem_of_getElem? (i := 107) rfl)))) (mvT hZ (hw _ (List.mem_of_getElem? (i := 107) rfl))) (mvT hZ (hw _ (List.mem_of_getElem? (i := 105) rfl))) (by decide) (backOf (W := 0) (rm17 l Z aV hw [] a0 (cn + (1 : Int32)) vb kb n vs h0 n0 Z0 F_value_a0 F_coder_a0 V_vb hle) hZ (hw _ (List.mem_of_getElem? (i := 108) rfl)) (hw _ (List.mem_of_getElem? (i := 15) rfl)) (by decide) (by decide)) q2a q2c (g := (mkF m 7 #[.val (.ref a0), .val (.int p1)] [(.int (cn + (1 : Int32))), (.ref a0)])) rfl (by rw [hml]; rfl) (Steps.refl _) (argsL := [(.int (cn + (1 : Int32)))]) (rest := []) (lenOf pd__I_V rfl) rfl (by show 2 * 0 + _ ≤ _; exact Nat.le_of_eq rfl) (hb hby d16_7) (fun _ _ => ⟨rfl, e1, (by decide : 0 + 0 ≤ _), (by decide : 0 + 0 ≤ _)⟩)
  dsimp only [Pt.U, Pt.locs, Pt.cells, Pt.slots] at X2 l2 y2 z2 st2 hQ2
  subst l2 y2 z2
  obtain ⟨rfl, N2q, e2⟩ := hQ2
  have N2 := Fr.app N0 N2q
  refine OGo.go (B := T2.setTop (mkF m 10 #[.val (.ref a0), .val (.int p1)] [])) ?_ (fun tX kX => st2.trans kX)
  refine OGo.go (B := T2.setTop (mkF m 11 #[.val (.ref a0), .val (.int p1)] [(.ref a0)])) ?_ (fun tX kX => XS.aloadN X2.here hx rfl (hb hby d16_10) rfl rfl kX)
  obtain ⟨cq3, kq3, q3a, q3b, q3c⟩ := isOf hZ e2 E_a0
  obtain ⟨_, _, ⟨T3, L3, k3, n3⟩, -, X3, ⟨Lc3, hQ3, l3, y3, z3⟩, st3⟩ := X2.virtualBack hx (y := (⟨"java/lang/AbstractStringBuilder", "isLatin1", "()Z"⟩ : MethodName)) (z := (⟨"java/lang/AbstractStringBuilder", "isLatin1", "()Z"⟩ : MethodName)) hown (mvT hZ (hw _ (List.mem_of_getElem? (i := 109) rfl))) (mvT hZ (hw _ (List.mem_of_getElem? (i := 58) rfl))) (notFace_of_selects (args := #[]) (mvT hZ (hw _ (List.mem_of_getElem? (i := 60) rfl)))) (mvT hZ (hw _ (List.mem_of_getElem? (i := 60) rfl))) (mvT hZ (hw _ (List.mem_of_getElem? (i := 59) rfl))) (by decide) (backOf (W := 0) (rm11 l Z aV hw [] a0 cs h0 n0 Z0 F_coder_a0 S_COMPACT_STRINGS hcs) hZ (hw _ (List.mem_of_getElem? (i := 61) rfl)) (hw _ (List.mem_of_getElem? (i := 15) rfl)) (by decide) (by decide)) q3a q3c (g := (mkF m 11 #[.val (.ref a0), .val (.int p1)] [(.ref a0)])) rfl (by rw [hml]; rfl) (Steps.refl _) (argsL := []) (rest := []) (lenOf pd___Z rfl) rfl (by show 2 * 0 + _ ≤ _; exact Nat.le_of_eq rfl) (hb hby d16_11) (fun _ _ => ⟨rfl, e2, (by decide : 0 + 0 ≤ _), (by decide : 0 + 0 ≤ _)⟩)
  dsimp only [Pt.U, Pt.locs, Pt.cells, Pt.slots] at X3 l3 y3 z3 st3 hQ3
  subst l3 y3 z3
  obtain ⟨rfl, N3q, e3⟩ := hQ3
  have N3 := Fr.app N2 N3q
  refine OGo.go (B := T3.setTop (mkF m 14 #[.val (.ref a0), .val (.int p1)] [(.int (1 : Int32))])) ?_ (fun tX kX => st3.trans kX)
  refine OGo.go (B := T3.setTop (mkF m 17 #[.val (.ref a0), .val (.int p1)] [])) ?_ (fun tX kX => XS.ifNo X3.here hx rfl (hb hby d16_14) rfl ((if0 _ _).trans (feq (by decide)).1) kX)
  refine OGo.go (B := T3.setTop (mkF m 18 #[.val (.ref a0), .val (.int p1)] [(.int p1)])) ?_ (fun tX kX => XS.iloadN X3.here hx rfl (hb hby d16_17) rfl kX)
  obtain ⟨_, _, ⟨T4, L4, k4, n4⟩, -, X4, ⟨Lc4, hQ4, l4, y4, z4⟩, st4⟩ := Jvm.LawKit.callS X3 hx (y := (⟨"java/lang/StringLatin1", "canEncode", "(C)Z"⟩ : MethodName)) hown (mvT hZ (hw _ (List.mem_of_getElem? (i := 110) rfl))) (mvT hZ (hw _ (List.mem_of_getElem? (i := 111) rfl))) (mvT hZ (hw _ (List.mem_of_getElem? (i := 112) rfl))) (mvT hZ (hw _ (List.mem_of_getElem? (i := 113) rfl))) (by decide) (backOf (W := 0) (rm18 l Z aV hw [] p1 h0 n0 Z0 hc) hZ (hw _ (List.mem_of_getElem? (i := 113) rfl)) (hw _ (List.mem_of_getElem? (i := 112) rfl)) (by decide) (by decide)) (g := (mkF m 18 #[.val (.ref a0), .val (.int p1)] [(.int p1)])) rfl (by rw [hml]; rfl) (argsL := [(.int p1)]) (rest := []) (lenOf pd__C_Z rfl) rfl (by show 2 * 0 + _ ≤ _; exact Nat.le_of_eq rfl) (hb hby d16_18) (fun _ _ => ⟨rfl, e3, (by decide : 0 + 0 ≤ _), (by decide : 0 + 0 ≤ _)⟩)
  dsimp only [Pt.U, Pt.locs, Pt.cells, Pt.slots] at X4 l4 y4 z4 st4 hQ4
  subst l4 y4 z4
  obtain ⟨rfl, N4q, e4⟩ := hQ4
  have N4 := Fr.app N3 N4q
  refine OGo.go (B := T4.setTop (mkF m 21 #[.val (.ref a0), .val (.int p1)] [(.int (1 : Int32))])) ?_ st4
  refine OGo.go (B := T4.setTop (mkF m 24 #[.val (.ref a0), .val (.int p1)] [])) ?_ (fun tX kX => XS.ifNo X4.here hx rfl (hb hby d16_21) rfl ((if0 _ _).trans (feq (by decide)).1) kX)
  refine OGo.go (B := T4.setTop (mkF m 25 #[.val (.ref a0), .val (.int p1)] [(.ref a0)])) ?_ (fun tX kX => XS.aloadN X4.here hx rfl (hb hby d16_24) rfl rfl kX)
  obtain ⟨T5, X5, e5, st5⟩ := getF X4 hx hZ hown (host := "") (Or.inl (hw _ (List.mem_of_getElem? (i := 22) rfl))) Via.refl e4 F_value_a0 (g := (mkF m 25 #[.val (.ref a0), .val (.int p1)] [(.ref a0)])) rfl rfl (hb hby d16_25)
  refine OGo.go (B := T5.setTop (mkF m 28 #[.val (.ref a0), .val (.int p1)] [(.ref vb)])) ?_ st5
  refine OGo.go (B := T5.setTop (mkF m 29 #[.val (.ref a0), .val (.int p1)] [(.ref a0), (.ref vb)])) ?_ (fun tX kX => XS.aloadN X5.here hx rfl (hb hby d16_28) rfl rfl kX)
  refine OGo.go (B := T5.setTop (mkF m 30 #[.val (.ref a0), .val (.int p1)] [(.ref a0), (.ref a0), (.ref vb)])) ?_ (fun tX kX => XS.dup X5.here hx rfl (hb hby d16_29) rfl rfl kX)
  obtain ⟨T6, X6, e6, st6⟩ := getF X5 hx hZ hown (host := "") (Or.inl (hw _ (List.mem_of_getElem? (i := 55) rfl))) Via.refl e5 F_count_a0 (g := (mkF m 30 #[.val (.ref a0), .val (.int p1)] [(.ref a0), (.ref a0), (.ref vb)])) rfl rfl (hb hby d16_30)
  refine OGo.go (B := T6.setTop (mkF m 33 #[.val (.ref a0), .val (.int p1)] [(.int cn), (.ref a0), (.ref vb)])) ?_ st6
  refine OGo.go (B := T6.setTop (mkF m 34 #[.val (.ref a0), .val (.int p1)] [(.int cn), (.ref a0), (.int cn), (.ref vb)])) ?_ (fun tX kX => XS.dupX1 X6.here hx rfl (hb hby d16_33) rfl rfl rfl kX)
  refine OGo.go (B := T6.setTop (mkF m 35 #[.val (.ref a0), .val (.int p1)] [(.int (1 : Int32)), (.int cn), (.ref a0), (.int cn), (.ref vb)])) ?_ (fun tX kX => XS.iconst X6.here hx rfl (hb hby d16_34) kX)
  refine OGo.go (B := T6.setTop (mkF m 36 #[.val (.ref a0), .val (.int p1)] [(.int (cn + (1 : Int32))), (.ref a0), (.int cn), (.ref vb)])) ?_ (fun tX kX => XS.iadd X6.here hx rfl (hb hby d16_35) rfl kX)
  obtain ⟨T7, h7, X7, e7, W7, st7⟩ := putF X6 hx hZ hown (host := "") (Or.inl (hw _ (List.mem_of_getElem? (i := 55) rfl))) Via.refl e6 F_count_a0 E_a0 (Or.inl (hw _ (List.mem_of_getElem? (i := 56) rfl))) (hw _ (List.mem_of_getElem? (i := 6) rfl)) (ty := .int) (by decide) rfl rfl (g := (mkF m 36 #[.val (.ref a0), .val (.int p1)] [(.int (cn + (1 : Int32))), (.ref a0), (.int cn), (.ref vb)])) rfl rfl (hb hby d16_36)
  have E_a0 := E_a0.wr W7
  have F_value_a0 := F_value_a0.other W7 (Or.inr (slot_ne (Or.inl (hw _ (List.mem_of_getElem? (i := 23) rfl))) (Or.inl (hw _ (List.mem_of_getElem? (i := 56) rfl))) (by decide) (t := (.array .byte)) (t' := .int) (by decide) (by decide)))
  have F_coder_a0 := F_coder_a0.other W7 (Or.inr (slot_ne (Or.inl (hw _ (List.mem_of_getElem? (i := 25) rfl))) (Or.inl (hw _ (List.mem_of_getElem? (i := 56) rfl))) (by decide) (t := .byte) (t' := .int) (by decide) (by decide)))
  have F_count_a0 := F_count_a0.same W7
  have E_vb := E_vb.wr W7
  have V_vb := V_vb.other W7 (Ne.symm nab)
  have S_COMPACT_STRINGS := S_COMPACT_STRINGS.wr W7
  have K7 := K0.wr W7 (Or.inl (List.mem_of_getElem? (i := 0) rfl))
  have zn7 : n0 ≤ h7.size := Nat.le_trans Z0 (Keep.of_wr W7).1
  have N7 := Fr.snoc X7 N4 ga
  refine OGo.go (B := T7.setTop (mkF m 39 #[.val (.ref a0), .val (.int p1)] [(.int cn), (.ref vb)])) ?_ st7
  refine OGo.go (B := T7.setTop (mkF m 40 #[.val (.ref a0), .val (.int p1)] [(.int p1), (.int cn), (.ref vb)])) ?_ (fun tX kX => XS.iloadN X7.here hx rfl (hb hby d16_39) rfl kX)
  refine OGo.go (B := T7.setTop (mkF m 41 #[.val (.ref a0), .val (.int p1)] [(.int (p1.toInt8.toInt32)), (.int cn), (.ref vb)])) ?_ (fun tX kX => XS.i2b X7.here hx rfl (hb hby d16_40) rfl kX)
  obtain ⟨cl8, Ar8, qa8, S8, N8', H8, G8⟩ := id V_vb
  have hin8 := inb_of (j := cn) S8 hin
  obtain ⟨T8, h8, X8, e8, W8, st8⟩ := stB X7 hx hZ e7 Ar8 (j := cn) hin8 (g := (mkF m 41 #[.val (.ref a0), .val (.int p1)] [(.int (p1.toInt8.toInt32)), (.int cn), (.ref vb)])) rfl rfl (hb hby d16_41)
  have V_vb_8 := Arv.set Ar8 qa8 S8 N8' H8 G8 (fits_nar_byte _) W8 i hi hvl
  have E_a0 := E_a0.wr W8
  have F_value_a0 := F_value_a0.other W8 (Or.inl nab)
  have F_coder_a0 := F_coder_a0.other W8 (Or.inl nab)
  have F_count_a0 := F_count_a0.other W8 (Or.inl nab)
  have E_vb := E_vb.wr W8
  have S_COMPACT_STRINGS := S_COMPACT_STRINGS.wr W8
  have K8 := K7.wr W8 (Or.inl (List.mem_of_getElem? (i := 1) rfl))
  have zn8 : n0 ≤ h8.size := Nat.le_trans zn7 (Keep.of_wr W8).1
  have N8 := Fr.snoc X8 N7 gv
  have V_vb : Arv Z h8 vb kb .byte n (vs.set i (.int ((p1.toInt8.toInt32).toInt8.toInt32))) (.int (0 : Int32)) := V_vb_8
  refine OGo.go (B := T8.setTop (mkF m 42 #[.val (.ref a0), .val (.int p1)] [])) ?_ st8
  refine OGo.go (B := T8.setTop (mkF m 75 #[.val (.ref a0), .val (.int p1)] [])) ?_ (fun tX kX => XS.goto X8.here hx rfl (pc0 := 42) (pc' := 75) rfl (hb hby d16_42) (by decide) (by decide) kX)
  refine OGo.go (B := T8.setTop (mkF m 76 #[.val (.ref a0), .val (.int p1)] [(.ref a0)])) ?_ (fun tX kX => XS.aloadN X8.here hx rfl (hb hby d16_75) rfl rfl kX)
  refine OGo.ret X8 (v := (some (.ref a0))) (fun h => by rw [Bd.returns] at h; cases h) (BodyLoose.notSynchronized Bd) (fun fs hr => retOut X8 hx Bd.returns rfl (Or.inr (Or.inr (Or.inr (Or.inr ⟨rfl, rfl, rfl⟩)))) (hb hby d16_76) hr) (Q := Q16 Z a0 p1 vb kb n vs cn i cs h0 n0) ?_ (by decide) (by decide)
  show Q16 Z a0 p1 vb kb n vs cn i cs h0 n0 _ T8.heap _
  rw [e8]
  exact ⟨rfl, N8, K8, E_a0, F_value_a0, F_coder_a0, F_count_a0, E_vb, V_vb⟩
theorem d15_0 : decode jdk_67_method_14_code 0 = .ok (.aload_n 0, 1) := by decide +kernel
theorem d15_1 : decode jdk_67_method_14_code 1 = .ok (.iload_n 1, 1) := by decide +kernel
theorem d15_2 : decode jdk_67_method_14_code 2 = .ok (.invokespecial 50, 3) := by decide +kernel
theorem pd__C_Ljava_lang_AbstractStringBuilder_ : parseMethodDescriptor "(C)Ljava/lang/AbstractStringBuilder;" = some ⟨[.char], some (.object "java/lang/AbstractStringBuilder")⟩ := by decide +kernel
theorem d15_5 : decode jdk_67_method_14_code 5 = .ok (.pop, 1) := by decide +kernel
theorem d15_6 : decode jdk_67_method_14_code 6 = .ok (.aload_n 0, 1) := by decide +kernel
theorem d15_7 : decode jdk_67_method_14_code 7 = .ok (.areturn, 1) := by decide +kernel
def Q15 (Z : State) (a0 : Addr) (p1 : Int32) (vb : Addr) (kb : ClassId) (n : Int32) (vs : List Value) (cn : Int32) (i : Nat) (cs : Int32) (h0 : Heap) (n0 : Nat) (v : Option Value) (h : Heap) (L : List Loc) : Prop := v = some (.ref a0) ∧ Fr n0 L ∧ Keep h0 h [a0, vb] ∧ Exa Z h a0 "java/lang/StringBuilder" ∧ Fld Z h a0 "java/lang/AbstractStringBuilder" "value" "[B" (.ref vb) ∧ Fld Z h a0 "java/lang/AbstractStringBuilder" "coder" "B" (.int (0 : Int32)) ∧ Fld Z h a0 "java/lang/AbstractStringBuilder" "count" "I" (.int (cn + (1 : Int32))) ∧ Exa Z h vb "[B" ∧ Arv Z h vb kb .byte n (vs.set i (.int ((p1.toInt8.toInt32).toInt8.toInt32))) (.int (0 : Int32))
def P15 (Z : State) (a0 : Addr) (p1 : Int32) (vb : Addr) (kb : ClassId) (n : Int32) (vs : List Value) (cn : Int32) (i : Nat) (cs : Int32) (h0 : Heap) (n0 : Nat) (s : State) (o : Outcome) (U' : State) : Prop := ∃ v L, o = .returned v ∧ Q15 Z a0 p1 vb kb n vs cn i cs h0 n0 v U'.heap L ∧ FrameEnd s o U' L ({ frames := 2, cells := 0, slots := 0, locals := 27 } : Room).cells ({ frames := 2, cells := 0, slots := 0, locals := 27 } : Room).slots
set_option maxRecDepth 65536 in
set_option maxHeartbeats 40000000 in
theorem rm15 (l : Launch) (Z : State) (aV : Array Value) (hw : ∀ d ∈ tables_1, d.before aV Z = true) (ws : List Jvm.Cond) (a0 : Addr) (p1 : Int32) (vb : Addr) (kb : ClassId) (n : Int32) (vs : List Value) (cn : Int32) (i : Nat) (cs : Int32) (h0 : Heap) (n0 : Nat) (Z0 : n0 ≤ h0.size) (E_a0 : Exa Z h0 a0 "java/lang/StringBuilder") (F_value_a0 : Fld Z h0 a0 "java/lang/AbstractStringBuilder" "value" "[B" (.ref vb)) (F_coder_a0 : Fld Z h0 a0 "java/lang/AbstractStringBuilder" "coder" "B" (.int (0 : Int32))) (F_count_a0 : Fld Z h0 a0 "java/lang/AbstractStringBuilder" "count" "I" (.int cn)) (E_vb : Exa Z h0 vb "[B") (V_vb : Arv Z h0 vb kb .byte n vs (.int (0 : Int32))) (S_COMPACT_STRINGS : Sta Z h0 "java/lang/String" "COMPACT_STRINGS" "Z" (.int cs)) (ga : n0 ≤ a0) (gv : n0 ≤ vb) (nab : a0 ≠ vb) (hcs : ¬ cs = 0) (hc : ¬ (255 : Int32) < p1) (hle : ¬ (0 : Int32) < ((cn + (1 : Int32)) - (n >>> ((0 : Int32) &&& 31)))) (hin : ¬ cn < 0 ∧ cn < n) (hi : cn.toNatClampNeg = i) (hvl : i < vs.length) :
    MetFree l (⟨"java/lang/StringBuilder", "append", "(C)Ljava/lang/StringBuilder;"⟩ : MethodName) (head1 (Jvm.Cond.code (⟨"java/lang/StringBuilder", "append", "(C)Ljava/lang/StringBuilder;"⟩ : MethodName) jdk_67_method_14_code 2 (some (.object "java/lang/StringBuilder")) :: ws) ({ frames := 2, cells := 0, slots := 0, locals := 27 } : Room)) (fun a U => a = #[(.ref a0), (.int p1)] ∧ Z.Warmed39 U.vm ∧ U.heap = h0) (fun _ _ _ _ _ => True) (fun _ U o U' => ∃ v L, o = .returned v ∧ Q15 Z a0 p1 vb kb n vs cn i cs h0 n0 v U'.heap L ∧ FrameEnd U o U' L ({ frames := 2, cells := 0, slots := 0, locals := 27 } : Room).cells ({ frames := 2, cells := 0, slots := 0, locals := 27 } : Room).slots) := by
  refine MetFree.of_bodySF (plainFor_of_name pn_java_lang_StringBuilder) hisR ?_
  intro p e s m args below meth c s₁ Bd hml0 hP hK
  obtain ⟨rfl, hZ, hh⟩ := hP
  have hx := Bd.exec
  have hby := Bd.bytes
  have hml : c.maxLocals = 2 := hml0
  have hown : s.vm.findClass "java/lang/StringBuilder" = some m.cls := findClass_of_methodNamed Bd.named
  have hnm := (name_of_methodNamed Bd.named Bd.method).1
  have X0 : Stand p l e ({ frames := 2, cells := 0, slots := 0, locals := 27 } : Room) s m #[(.ref a0), (.int p1)] below meth c s₁ [] 0 0 := Stand.of_body Bd
  have e0 : s₁.heap = h0 := by rw [← hh, Bd.state]; rfl
  have efx : entryFrame m #[(.ref a0), (.int p1)] 2 = mkF m 0 #[.val (.ref a0), .val (.int p1)] [] := by first | (simp [entryFrame, mkF, argsToLocals, Value.category]; done) | rfl
  have N0 := Fr.nil n0
  have K0 : Keep h0 h0 [a0, vb] := Keep.refl h0 _
  refine OGo.start (g' := mkF m 0 #[.val (.ref a0), .val (.int p1)] []) (efx) ?_
  show OGo p.tables e below (P15 Z a0 p1 vb kb n vs cn i cs h0 n0 s) (s₁.setTop (mkF m 0 #[.val (.ref a0), .val (.int p1)] []))
  refine OGo.go (B := s₁.setTop (mkF m 1 #[.val (.ref a0), .val (.int p1)] [(.ref a0)])) ?_ (fun tX kX => XS.aloadN X0.here hx rfl (hb hby d15_0) rfl rfl kX)
  refine OGo.go (B := s₁.setTop (mkF m 2 #[.val (.ref a0), .val (.int p1)] [(.int p1), (.ref a0)])) ?_ (fun tX kX => XS.iloadN X0.here hx rfl (hb hby d15_1) rfl kX)
  obtain ⟨_, _, ⟨T1, L1, k1, n1⟩, -, X1, ⟨Lc1, hQ1, l1, y1, z1⟩, st1⟩ := superBack X0 hx hZ (y := (⟨"java/lang/AbstractStringBuilder", "append", "(C)Ljava/lang/AbstractStringBuilder;"⟩ : MethodName)) hown (hw _ (List.mem_of_getElem? (i := 100) rfl)) (own_same (y := (⟨"java/lang/AbstractStringBuilder", "append", "(C)Ljava/lang/AbstractStringBuilder;"⟩ : MethodName)) (by decide) (hw _ (List.mem_of_getElem? (i := 102) rfl)) (own_nf (args := aV) (hw _ (List.mem_of_getElem? (i := 44) rfl)) rfl)) (hw _ (List.mem_of_getElem? (i := 101) rfl)) (hw _ (List.mem_of_getElem? (i := 53) rfl)) (by decide) (backOf (W := 0) (rm16 l Z aV hw [] a0 p1 vb kb n vs cn i cs h0 n0 Z0 E_a0 F_value_a0 F_coder_a0 F_count_a0 E_vb V_vb S_COMPACT_STRINGS ga gv nab hcs hc hle hin hi hvl) hZ (hw _ (List.mem_of_getElem? (i := 103) rfl)) (hw _ (List.mem_of_getElem? (i := 15) rfl)) (by decide) (by decide)) e0 (Ins.self E_a0) (g := (mkF m 2 #[.val (.ref a0), .val (.int p1)] [(.int p1), (.ref a0)])) rfl (by rw [hml]; rfl) (hw _ (List.mem_of_getElem? (i := 103) rfl)) (argsL := [(.int p1)]) (rest := []) (lenOf pd__C_Ljava_lang_AbstractStringBuilder_ rfl) rfl (by show 2 * 0 + _ ≤ _; exact Nat.le_of_eq rfl) (hb hby d15_2) (fun _ _ => ⟨rfl, e0, (by decide : 0 + 0 ≤ _), (by decide : 0 + 0 ≤ _)⟩)
  dsimp only [Pt.U, Pt.locs, Pt.cells, Pt.slots] at X1 l1 y1 z1 st1 hQ1
  subst l1 y1 z1
  obtain ⟨rfl, N1q, Kq1, E_a0_p, F_value_a0_p, F_coder_a0_p, F_count_a0_p, E_vb_p, V_vb_p⟩ := hQ1
  have N1 := Fr.app N0 N1q
  have S_COMPACT_STRINGS := Sta.keepE S_COMPACT_STRINGS Kq1 (staS E_a0.cell (staS E_vb.cell (fun x hx' => nomatch hx')))
  have E_a0 := E_a0.keep Kq1
  have E_vb := E_vb.keep Kq1
  have K1 := K0.trans Kq1 (allS (P := fun x => x ∈ [a0, vb] ∨ h0.size ≤ x) (Or.inl (List.mem_of_getElem? (i := 0) rfl)) (allS (P := fun x => x ∈ [a0, vb] ∨ h0.size ≤ x) (Or.inl (List.mem_of_getElem? (i := 1) rfl)) all0))
  have zn1 : n0 ≤ T1.heap.size := Nat.le_trans Z0 Kq1.1
  have E_a0 := E_a0_p
  have F_value_a0 := F_value_a0_p
  have F_coder_a0 := F_coder_a0_p
  have F_count_a0 := F_count_a0_p
  have E_vb := E_vb_p
  have V_vb := V_vb_p
  refine OGo.go (B := T1.setTop (mkF m 5 #[.val (.ref a0), .val (.int p1)] [(.ref a0)])) ?_ (fun tX kX => st1.trans kX)
  refine OGo.go (B := T1.setTop (mkF m 6 #[.val (.ref a0), .val (.int p1)] [])) ?_ (fun tX kX => XS.pop X1.here hx rfl (hb hby d15_5) rfl rfl kX)
  refine OGo.go (B := T1.setTop (mkF m 7 #[.val (.ref a0), .val (.int p1)] [(.ref a0)])) ?_ (fun tX kX => XS.aloadN X1.here hx rfl (hb hby d15_6) rfl rfl kX)
  refine OGo.ret X1 (v := (some (.ref a0))) (fun h => by rw [Bd.returns] at h; cases h) (BodyLoose.notSynchronized Bd) (fun fs hr => retOut X1 hx Bd.returns rfl (Or.inr (Or.inr (Or.inr (Or.inr ⟨rfl, rfl, rfl⟩)))) (hb hby d15_7) hr) (Q := Q15 Z a0 p1 vb kb n vs cn i cs h0 n0) ?_ (by decide) (by decide)
  show Q15 Z a0 p1 vb kb n vs cn i cs h0 n0 _ T1.heap _
  exact ⟨rfl, N1, K1, E_a0, F_value_a0, F_coder_a0, F_count_a0, E_vb, V_vb⟩
theorem d20_0 : decode jdk_65_method_131_code 0 = .ok (.iload_n 1, 1) := by decide +kernel
theorem d20_1 : decode jdk_65_method_131_code 1 = .ok (.iload_n 0, 1) := by decide +kernel
theorem d20_2 : decode jdk_65_method_131_code 2 = .ok (.if_icmp .ge 35, 3) := by decide +kernel
theorem d20_37 : decode jdk_65_method_131_code 37 = .ok (.return_, 1) := by decide +kernel
theorem pn_java_util_Arrays : plainName "java/util/Arrays" = true := by first | (simp [plainName, overriddenIn]; done) | decide +kernel
def Q20 (Z : State) (p0 : Int32) (p1 : Int32) (h0 : Heap) (n0 : Nat) (v : Option Value) (h : Heap) (L : List Loc) : Prop := v = none ∧ Fr n0 L ∧ h = h0
def P20 (Z : State) (p0 : Int32) (p1 : Int32) (h0 : Heap) (n0 : Nat) (s : State) (o : Outcome) (U' : State) : Prop := ∃ v L, o = .returned v ∧ Q20 Z p0 p1 h0 n0 v U'.heap L ∧ FrameEnd s o U' L ({ frames := 0, cells := 0, slots := 0, locals := 0 } : Room).cells ({ frames := 0, cells := 0, slots := 0, locals := 0 } : Room).slots
set_option maxRecDepth 65536 in
set_option maxHeartbeats 40000000 in
theorem rm20 (l : Launch) (Z : State) (aV : Array Value) (hw : ∀ d ∈ tables_1, d.before aV Z = true) (ws : List Jvm.Cond) (p0 : Int32) (p1 : Int32) (h0 : Heap) (n0 : Nat) (Z0 : n0 ≤ h0.size) (hl : ¬ p1 < p0) :
    MetFree l (⟨"java/util/Arrays", "checkLength", "(II)V"⟩ : MethodName) (head1 (Jvm.Cond.code (⟨"java/util/Arrays", "checkLength", "(II)V"⟩ : MethodName) jdk_65_method_131_code 2 none :: ws) ({ frames := 0, cells := 0, slots := 0, locals := 0 } : Room)) (fun a U => a = #[(.int p0), (.int p1)] ∧ Z.Warmed39 U.vm ∧ U.heap = h0) (fun _ _ _ _ _ => True) (fun _ U o U' => ∃ v L, o = .returned v ∧ Q20 Z p0 p1 h0 n0 v U'.heap L ∧ FrameEnd U o U' L ({ frames := 0, cells := 0, slots := 0, locals := 0 } : Room).cells ({ frames := 0, cells := 0, slots := 0, locals := 0 } : Room).slots) := by
  refine MetFree.of_bodySF (plainFor_of_name pn_java_util_Arrays) hisR ?_
  intro p e s m args below meth c s₁ Bd hml0 hP hK
  obtain ⟨rfl, hZ, hh⟩ := hP
  have hx := Bd.exec
  have hby := Bd.bytes
  have hml : c.maxLocals = 2 := hml0
  have hown : s.vm.findClass "java/util/Arrays" = some m.cls := findClass_of_methodNamed Bd.named
  have hnm := (name_of_methodNamed Bd.named Bd.method).1
  have X0 : Stand p l e ({ frames := 0, cells := 0, slots := 0, locals := 0 } : Room) s m #[(.int p0), (.int p1)] below meth c s₁ [] 0 0 := Stand.of_body Bd
  have e0 : s₁.heap = h0 := by rw [← hh, Bd.state]; rfl
  have efx : entryFrame m #[(.int p0), (.int p1)] 2 = mkF m 0 #[.val (.int p0), .val (.int p1)] [] := by first | (simp [entryFrame, mkF, argsToLocals, Value.category]; done) | rfl
  have N0 := Fr.nil n0
  have K0 : Keep h0 h0 [] := Keep.refl h0 _
  refine OGo.start (g' := mkF m 0 #[.val (.int p0), .val (.int p1)] []) (efx) ?_
  show OGo p.tables e below (P20 Z p0 p1 h0 n0 s) (s₁.setTop (mkF m 0 #[.val (.int p0), .val (.int p1)] []))
  refine OGo.go (B := s₁.setTop (mkF m 1 #[.val (.int p0), .val (.int p1)] [(.int p1)])) ?_ (fun tX kX => XS.iloadN X0.here hx rfl (hb hby d20_0) rfl kX)
  refine OGo.go (B := s₁.setTop (mkF m 2 #[.val (.int p0), .val (.int p1)] [(.int p0), (.int p1)])) ?_ (fun tX kX => XS.iloadN X0.here hx rfl (hb hby d20_1) rfl kX)
  refine OGo.go (B := s₁.setTop (mkF m 37 #[.val (.int p0), .val (.int p1)] [])) ?_ (fun tX kX => XS.icmpYes X0.here hx rfl (pc0 := 2) (pc' := 37) rfl (hb hby d20_2) rfl (flt hl).2.1 (by decide) (by decide) kX)
  refine OGo.ret X0 (v := none) (fun _ => rfl) (BodyLoose.notSynchronized Bd) (fun fs hr => X0.returnOut hx Bd.returns (hb hby d20_37) hr) (Q := Q20 Z p0 p1 h0 n0) ?_ (by decide) (by decide)
  show Q20 Z p0 p1 h0 n0 _ s₁.heap _
  rw [e0]
  exact ⟨rfl, N0, rfl⟩
theorem d21_0 : decode jdk_29_method_69_code 0 = .ok (.iload_n 0, 1) := by decide +kernel
theorem d21_1 : decode jdk_29_method_69_code 1 = .ok (.iload_n 1, 1) := by decide +kernel
theorem d21_2 : decode jdk_29_method_69_code 2 = .ok (.if_icmp .gt 7, 3) := by decide +kernel
theorem d21_9 : decode jdk_29_method_69_code 9 = .ok (.iload_n 1, 1) := by decide +kernel
theorem d21_10 : decode jdk_29_method_69_code 10 = .ok (.ireturn, 1) := by decide +kernel
def Q21g (Z : State) (p0 : Int32) (p1 : Int32) (h0 : Heap) (n0 : Nat) (v : Option Value) (h : Heap) (L : List Loc) : Prop := v = some (.int p1) ∧ Fr n0 L ∧ h = h0
def P21g (Z : State) (p0 : Int32) (p1 : Int32) (h0 : Heap) (n0 : Nat) (s : State) (o : Outcome) (U' : State) : Prop := ∃ v L, o = .returned v ∧ Q21g Z p0 p1 h0 n0 v U'.heap L ∧ FrameEnd s o U' L ({ frames := 0, cells := 0, slots := 0, locals := 0 } : Room).cells ({ frames := 0, cells := 0, slots := 0, locals := 0 } : Room).slots
set_option maxRecDepth 65536 in
set_option maxHeartbeats 40000000 in
theorem rm21g (l : Launch) (Z : State) (aV : Array Value) (hw : ∀ d ∈ tables_1, d.before aV Z = true) (ws : List Jvm.Cond) (p0 : Int32) (p1 : Int32) (h0 : Heap) (n0 : Nat) (Z0 : n0 ≤ h0.size) (hm : p1 < p0) :
    MetFree l (⟨"java/lang/Math", "min", "(II)I"⟩ : MethodName) (head1 (Jvm.Cond.code (⟨"java/lang/Math", "min", "(II)I"⟩ : MethodName) jdk_29_method_69_code 2 (some .int) :: ws) ({ frames := 0, cells := 0, slots := 0, locals := 0 } : Room)) (fun a U => a = #[(.int p0), (.int p1)] ∧ Z.Warmed39 U.vm ∧ U.heap = h0) (fun _ _ _ _ _ => True) (fun _ U o U' => ∃ v L, o = .returned v ∧ Q21g Z p0 p1 h0 n0 v U'.heap L ∧ FrameEnd U o U' L ({ frames := 0, cells := 0, slots := 0, locals := 0 } : Room).cells ({ frames := 0, cells := 0, slots := 0, locals := 0 } : Room).slots) := by
  refine MetFree.of_bodySF (Jvm.Free.JP.mathPlain rfl (by decide +kernel)) hisR ?_
  intro p e s m args below meth c s₁ Bd hml0 hP hK
  obtain ⟨rfl, hZ, hh⟩ := hP
  have hx := Bd.exec
  have hby := Bd.bytes
  have hml : c.maxLocals = 2 := hml0
  have hown : s.vm.findClass "java/lang/Math" = some m.cls := findClass_of_methodNamed Bd.named
  have hnm := (name_of_methodNamed Bd.named Bd.method).1
  have X0 : Stand p l e ({ frames := 0, cells := 0, slots := 0, locals := 0 } : Room) s m #[(.int p0), (.int p1)] below meth c s₁ [] 0 0 := Stand.of_body Bd
  have e0 : s₁.heap = h0 := by rw [← hh, Bd.state]; rfl
  have efx : entryFrame m #[(.int p0), (.int p1)] 2 = mkF m 0 #[.val (.int p0), .val (.int p1)] [] := by first | (simp [entryFrame, mkF, argsToLocals, Value.category]; done) | rfl
  have N0 := Fr.nil n0
  have K0 : Keep h0 h0 [] := Keep.refl h0 _
  refine OGo.start (g' := mkF m 0 #[.val (.int p0), .val (.int p1)] []) (efx) ?_
  show OGo p.tables e below (P21g Z p0 p1 h0 n0 s) (s₁.setTop (mkF m 0 #[.val (.int p0), .val (.int p1)] []))
  refine OGo.go (B := s₁.setTop (mkF m 1 #[.val (.int p0), .val (.int p1)] [(.int p0)])) ?_ (fun tX kX => XS.iloadN X0.here hx rfl (hb hby d21_0) rfl kX)
  refine OGo.go (B := s₁.setTop (mkF m 2 #[.val (.int p0), .val (.int p1)] [(.int p1), (.int p0)])) ?_ (fun tX kX => XS.iloadN X0.here hx rfl (hb hby d21_1) rfl kX)
  refine OGo.go (B := s₁.setTop (mkF m 9 #[.val (.int p0), .val (.int p1)] [])) ?_ (fun tX kX => XS.icmpYes X0.here hx rfl (pc0 := 2) (pc' := 9) rfl (hb hby d21_2) rfl (tlt hm).2.2.1 (by decide) (by decide) kX)
  refine OGo.go (B := s₁.setTop (mkF m 10 #[.val (.int p0), .val (.int p1)] [(.int p1)])) ?_ (fun tX kX => XS.iloadN X0.here hx rfl (hb hby d21_9) rfl kX)
  refine OGo.ret X0 (v := (some (.int p1))) (fun h => by rw [Bd.returns] at h; cases h) (BodyLoose.notSynchronized Bd) (fun fs hr => retOut X0 hx Bd.returns rfl (Or.inl ⟨rfl, Or.inl rfl, _, rfl⟩) (hb hby d21_10) hr) (Q := Q21g Z p0 p1 h0 n0) ?_ (by decide) (by decide)
  show Q21g Z p0 p1 h0 n0 _ s₁.heap _
  rw [e0]
  exact ⟨rfl, N0, rfl⟩
theorem d12_0 : decode jdk_65_method_132_code 0 = .ok (.iload_n 1, 1) := by decide +kernel
theorem d12_1 : decode jdk_65_method_132_code 1 = .ok (.ifCond .ne 9, 3) := by decide +kernel
theorem d12_4 : decode jdk_65_method_132_code 4 = .ok (.iload_n 2, 1) := by decide +kernel
theorem d12_5 : decode jdk_65_method_132_code 5 = .ok (.aload_n 0, 1) := by decide +kernel
theorem d12_6 : decode jdk_65_method_132_code 6 = .ok (.arraylength, 1) := by decide +kernel
theorem d12_7 : decode jdk_65_method_132_code 7 = .ok (.if_icmp .eq 10, 3) := by decide +kernel
theorem d12_17 : decode jdk_65_method_132_code 17 = .ok (.aload_n 0, 1) := by decide +kernel
theorem d12_18 : decode jdk_65_method_132_code 18 = .ok (.invokevirtual 310, 3) := by decide +kernel
theorem d12_21 : decode jdk_65_method_132_code 21 = .ok (.checkcast 311, 3) := by decide +kernel
theorem d12_24 : decode jdk_65_method_132_code 24 = .ok (.areturn, 1) := by decide +kernel
def Q12c0 (Z : State) (vb : Addr) (kb : ClassId) (h0 : Heap) (n0 : Nat) (v : Option Value) (h : Heap) (L : List Loc) : Prop := ∃ (nb : Addr) (kn : ClassId), v = some (.ref nb) ∧ Fr n0 L ∧ Keep h0 h [] ∧ h0.size ≤ nb ∧ Exa Z h nb "[B" ∧ Arv Z h nb kn .byte (0 : Int32) [] (.int (0 : Int32))
def P12c0 (Z : State) (vb : Addr) (kb : ClassId) (h0 : Heap) (n0 : Nat) (s : State) (o : Outcome) (U' : State) : Prop := ∃ v L, o = .returned v ∧ Q12c0 Z vb kb h0 n0 v U'.heap L ∧ FrameEnd s o U' L ({ frames := 1, cells := 1, slots := 0, locals := 14 } : Room).cells ({ frames := 1, cells := 1, slots := 0, locals := 14 } : Room).slots
set_option maxRecDepth 65536 in
set_option maxHeartbeats 40000000 in
theorem rm12c0 (l : Launch) (Z : State) (aV : Array Value) (hw : ∀ d ∈ tables_1, d.before aV Z = true) (ws : List Jvm.Cond) (vb : Addr) (kb : ClassId) (h0 : Heap) (n0 : Nat) (Z0 : n0 ≤ h0.size) (E_vb : Exa Z h0 vb "[B") (V_vb : Arv Z h0 vb kb .byte (0 : Int32) [] (.int (0 : Int32))) :
    MetFree l (⟨"java/util/Arrays", "copyOfRange", "([BII)[B"⟩ : MethodName) (head1 (Jvm.Cond.code (⟨"java/util/Arrays", "copyOfRange", "([BII)[B"⟩ : MethodName) jdk_65_method_132_code 3 (some (.array .byte)) :: ws) ({ frames := 1, cells := 1, slots := 0, locals := 14 } : Room)) (fun a U => a = #[(.ref vb), (.int (0 : Int32)), (.int (0 : Int32))] ∧ Z.Warmed39 U.vm ∧ U.heap = h0) (fun _ _ _ _ _ => True) (fun _ U o U' => ∃ v L, o = .returned v ∧ Q12c0 Z vb kb h0 n0 v U'.heap L ∧ FrameEnd U o U' L ({ frames := 1, cells := 1, slots := 0, locals := 14 } : Room).cells ({ frames := 1, cells := 1, slots := 0, locals := 14 } : Room).slots) := by
  refine MetFree.of_bodySF (plainFor_of_name pn_java_util_Arrays) hisR ?_
  intro p e s m args below meth c s₁ Bd hml0 hP hK
  obtain ⟨rfl, hZ, hh⟩ := hP
  have hx := Bd.exec
  have hby := Bd.bytes
  have hml : c.maxLocals = 3 := hml0
  have hown : s.vm.findClass "java/util/Arrays" = some m.cls := findClass_of_methodNamed Bd.named
  have hnm := (name_of_methodNamed Bd.named Bd.method).1
  have X0 : Stand p l e ({ frames := 1, cells := 1, slots := 0, locals := 14 } : Room) s m #[(.ref vb), (.int (0 : Int32)), (.int (0 : Int32))] below meth c s₁ [] 0 0 := Stand.of_body Bd
  have e0 : s₁.heap = h0 := by rw [← hh, Bd.state]; rfl
  have efx : entryFrame m #[(.ref vb), (.int (0 : Int32)), (.int (0 : Int32))] 3 = mkF m 0 #[.val (.ref vb), .val (.int (0 : Int32)), .val (.int (0 : Int32))] [] := by first | (simp [entryFrame, mkF, argsToLocals, Value.category]; done) | rfl
  have N0 := Fr.nil n0
  have K0 : Keep h0 h0 [] := Keep.refl h0 _
  refine OGo.start (g' := mkF m 0 #[.val (.ref vb), .val (.int (0 : Int32)), .val (.int (0 : Int32))] []) (efx) ?_
  show OGo p.tables e below (P12c0 Z vb kb h0 n0 s) (s₁.setTop (mkF m 0 #[.val (.ref vb), .val (.int (0 : Int32)), .val (.int (0 : Int32))] []))
  refine OGo.go (B := s₁.setTop (mkF m 1 #[.val (.ref vb), .val (.int (0 : Int32)), .val (.int (0 : Int32))] [(.int (0 : Int32))])) ?_ (fun tX kX => XS.iloadN X0.here hx rfl (hb hby d12_0) rfl kX)
  refine OGo.go (B := s₁.setTop (mkF m 4 #[.val (.ref vb), .val (.int (0 : Int32)), .val (.int (0 : Int32))] [])) ?_ (fun tX kX => XS.ifNo X0.here hx rfl (hb hby d12_1) rfl ((if0 _ _).trans (teq (by decide)).2) kX)
  refine OGo.go (B := s₁.setTop (mkF m 5 #[.val (.ref vb), .val (.int (0 : Int32)), .val (.int (0 : Int32))] [(.int (0 : Int32))])) ?_ (fun tX kX => XS.iloadN X0.here hx rfl (hb hby d12_4) rfl kX)
  refine OGo.go (B := s₁.setTop (mkF m 6 #[.val (.ref vb), .val (.int (0 : Int32)), .val (.int (0 : Int32))] [(.ref vb), (.int (0 : Int32))])) ?_ (fun tX kX => XS.aloadN X0.here hx rfl (hb hby d12_5) rfl rfl kX)
  obtain ⟨cl1, Ar1, qa1, S1, N1', H1, G1⟩ := id V_vb
  refine OGo.go (B := s₁.setTop (mkF m 7 #[.val (.ref vb), .val (.int (0 : Int32)), .val (.int (0 : Int32))] [(.int (0 : Int32)), (.int (0 : Int32))])) ?_ (fun tX kX => X0.arraylength hx (by rw [e0]; exact Ar1.1) (State.isArrayOf_alike hZ.alike Ar1.2.1) (g := (mkF m 6 #[.val (.ref vb), .val (.int (0 : Int32)), .val (.int (0 : Int32))] [(.ref vb), (.int (0 : Int32))])) rfl rfl (hb hby d12_6) _ (by rw [len_of S1 N1']; exact kX))
  refine OGo.go (B := s₁.setTop (mkF m 17 #[.val (.ref vb), .val (.int (0 : Int32)), .val (.int (0 : Int32))] [])) ?_ (fun tX kX => XS.icmpYes X0.here hx rfl (pc0 := 7) (pc' := 17) rfl (hb hby d12_7) rfl (teq (by decide)).1 (by decide) (by decide) kX)
  refine OGo.go (B := s₁.setTop (mkF m 18 #[.val (.ref vb), .val (.int (0 : Int32)), .val (.int (0 : Int32))] [(.ref vb)])) ?_ (fun tX kX => XS.aloadN X0.here hx rfl (hb hby d12_17) rfl rfl kX)
  obtain ⟨T2, h2, X2, e2, E2, A2, EA2, st2⟩ := cloneH X0 hx hZ hown (hw _ (List.mem_of_getElem? (i := 68) rfl)) (hw _ (List.mem_of_getElem? (i := 69) rfl)) (hw _ (List.mem_of_getElem? (i := 73) rfl)) (hw _ (List.mem_of_getElem? (i := 71) rfl)) (hw _ (List.mem_of_getElem? (i := 72) rfl)) (hw _ (List.mem_of_getElem? (i := 74) rfl)) e0 V_vb.arh E_vb (g := (mkF m 18 #[.val (.ref vb), .val (.int (0 : Int32)), .val (.int (0 : Int32))] [(.ref vb)])) rfl (by rw [hml]; rfl) rfl (hb hby d12_18) (by decide) (W := 0) (cap := 0) (by show 2 * 0 + _ ≤ _; exact Nat.le_of_eq rfl) (by decide) (by decide) (by decide) (by decide)
  obtain ⟨b2, g2⟩ : ∃ z, z = h0.size := ⟨_, rfl⟩
  rw [← g2] at A2 EA2 st2
  have ne_vb_b2 : vb ≠ b2 := Nat.ne_of_lt (Nat.lt_of_lt_of_le E_vb.lt (Nat.le_of_eq g2.symm))
  have E_vb := E_vb.ext E2
  have V_vb := V_vb.ext E2
  have g_b2 : n0 ≤ b2 := Nat.le_trans Z0 (Nat.le_of_eq g2.symm)
  have sz_b2 : h0.size ≤ b2 := Nat.le_trans K0.1 (Nat.le_of_eq g2.symm)
  have zn2 : n0 ≤ h2.size := Nat.le_trans Z0 E2.1
  have K2 := K0.ext E2
  have E_b2 := EA2
  have V_b2 : Arv Z h2 b2 kb .byte (0 : Int32) [] (.int (0 : Int32)) := A2
  refine OGo.go (B := T2.setTop (mkF m 21 #[.val (.ref vb), .val (.int (0 : Int32)), .val (.int (0 : Int32))] [(.ref b2)])) ?_ st2
  obtain ⟨T3, X3, e3, st3⟩ := castY X2 hx hZ hown (hw _ (List.mem_of_getElem? (i := 75) rfl)) e2 (Ins.self E_b2) (g := (mkF m 21 #[.val (.ref vb), .val (.int (0 : Int32)), .val (.int (0 : Int32))] [(.ref b2)])) rfl rfl (hb hby d12_21)
  refine OGo.go (B := T3.setTop (mkF m 24 #[.val (.ref vb), .val (.int (0 : Int32)), .val (.int (0 : Int32))] [(.ref b2)])) ?_ st3
  refine OGo.ret X3 (v := (some (.ref b2))) (fun h => by rw [Bd.returns] at h; cases h) (BodyLoose.notSynchronized Bd) (fun fs hr => retOut X3 hx Bd.returns rfl (Or.inr (Or.inr (Or.inr (Or.inr ⟨rfl, rfl, rfl⟩)))) (hb hby d12_24) hr) (Q := Q12c0 Z vb kb h0 n0) ?_ (by decide) (by decide)
  show Q12c0 Z vb kb h0 n0 _ T3.heap _
  rw [e3]
  exact ⟨b2, kb, rfl, N0, K2, sz_b2, E_b2, V_b2⟩
theorem d7_0 : decode jdk_42_method_150_code 0 = .ok (.aload_n 0, 1) := by decide +kernel
theorem d7_1 : decode jdk_42_method_150_code 1 = .ok (.invokespecial 1, 3) := by decide +kernel
theorem d7_4 : decode jdk_42_method_150_code 4 = .ok (.aload_n 1, 1) := by decide +kernel
theorem d7_5 : decode jdk_42_method_150_code 5 = .ok (.invokevirtual 552, 3) := by decide +kernel
theorem pd____B : parseMethodDescriptor "()[B" = some ⟨[], some (.array .byte)⟩ := by decide +kernel
theorem d7_8 : decode jdk_42_method_150_code 8 = .ok (.astore_n 3, 1) := by decide +kernel
theorem d7_9 : decode jdk_42_method_150_code 9 = .ok (.aload_n 1, 1) := by decide +kernel
theorem d7_10 : decode jdk_42_method_150_code 10 = .ok (.invokevirtual 549, 3) := by decide +kernel
theorem d7_13 : decode jdk_42_method_150_code 13 = .ok (.istore 4, 2) := by decide +kernel
theorem d7_15 : decode jdk_42_method_150_code 15 = .ok (.aload_n 1, 1) := by decide +kernel
theorem d7_16 : decode jdk_42_method_150_code 16 = .ok (.invokevirtual 1047, 3) := by decide +kernel
theorem d7_19 : decode jdk_42_method_150_code 19 = .ok (.ifCond .eq 22, 3) := by decide +kernel
theorem d7_22 : decode jdk_42_method_150_code 22 = .ok (.aload_n 0, 1) := by decide +kernel
theorem d7_23 : decode jdk_42_method_150_code 23 = .ok (.iconst 0, 1) := by decide +kernel
theorem d7_24 : decode jdk_42_method_150_code 24 = .ok (.putfield 15, 3) := by decide +kernel
theorem d7_27 : decode jdk_42_method_150_code 27 = .ok (.aload_n 0, 1) := by decide +kernel
theorem d7_28 : decode jdk_42_method_150_code 28 = .ok (.aload_n 3, 1) := by decide +kernel
theorem d7_29 : decode jdk_42_method_150_code 29 = .ok (.iconst 0, 1) := by decide +kernel
theorem d7_30 : decode jdk_42_method_150_code 30 = .ok (.iload 4, 2) := by decide +kernel
theorem d7_32 : decode jdk_42_method_150_code 32 = .ok (.invokestatic 54, 3) := by decide +kernel
theorem pd___BII__B : parseMethodDescriptor "([BII)[B" = some ⟨[(.array .byte), .int, .int], some (.array .byte)⟩ := by decide +kernel
theorem d7_35 : decode jdk_42_method_150_code 35 = .ok (.putfield 9, 3) := by decide +kernel
theorem d7_38 : decode jdk_42_method_150_code 38 = .ok (.goto 59, 3) := by decide +kernel
theorem d7_97 : decode jdk_42_method_150_code 97 = .ok (.return_, 1) := by decide +kernel
theorem pn_java_lang_String : plainName "java/lang/String" = true := by first | (simp [plainName, overriddenIn]; done) | decide +kernel
def Q7c0 (Z : State) (a0 : Addr) (a1 : Addr) (u1 : Value) (u2 : Value) (vb : Addr) (kb : ClassId) (cs : Int32) (h0 : Heap) (n0 : Nat) (v : Option Value) (h : Heap) (L : List Loc) : Prop := ∃ (nb : Addr) (kn : ClassId), v = none ∧ Fr n0 L ∧ Keep h0 h [a0] ∧ h0.size ≤ nb ∧ Exa Z h a0 "java/lang/String" ∧ Fld Z h a0 "java/lang/String" "value" "[B" (.ref nb) ∧ Fld Z h a0 "java/lang/String" "coder" "B" (.int (0 : Int32)) ∧ Exa Z h nb "[B" ∧ Arv Z h nb kn .byte (0 : Int32) [] (.int (0 : Int32))
def P7c0 (Z : State) (a0 : Addr) (a1 : Addr) (u1 : Value) (u2 : Value) (vb : Addr) (kb : ClassId) (cs : Int32) (h0 : Heap) (n0 : Nat) (s : State) (o : Outcome) (U' : State) : Prop := ∃ v L, o = .returned v ∧ Q7c0 Z a0 a1 u1 u2 vb kb cs h0 n0 v U'.heap L ∧ FrameEnd s o U' L ({ frames := 2, cells := 1, slots := 0, locals := 29 } : Room).cells ({ frames := 2, cells := 1, slots := 0, locals := 29 } : Room).slots
set_option maxRecDepth 65536 in
set_option maxHeartbeats 40000000 in
theorem rm7c0 (l : Launch) (Z : State) (aV : Array Value) (hw : ∀ d ∈ tables_1, d.before aV Z = true) (ws : List Jvm.Cond) (a0 : Addr) (a1 : Addr) (u1 : Value) (u2 : Value) (vb : Addr) (kb : ClassId) (cs : Int32) (h0 : Heap) (n0 : Nat) (Z0 : n0 ≤ h0.size) (E_a0 : Exa Z h0 a0 "java/lang/String") (F_value_a0 : Fld Z h0 a0 "java/lang/String" "value" "[B" u1) (F_coder_a0 : Fld Z h0 a0 "java/lang/String" "coder" "B" u2) (E_a1 : Exa Z h0 a1 "java/lang/StringBuilder") (F_value_a1 : Fld Z h0 a1 "java/lang/AbstractStringBuilder" "value" "[B" (.ref vb)) (F_coder_a1 : Fld Z h0 a1 "java/lang/AbstractStringBuilder" "coder" "B" (.int (0 : Int32))) (F_count_a1 : Fld Z h0 a1 "java/lang/AbstractStringBuilder" "count" "I" (.int (0 : Int32))) (E_vb : Exa Z h0 vb "[B") (V_vb : Arv Z h0 vb kb .byte (0 : Int32) [] (.int (0 : Int32))) (S_COMPACT_STRINGS : Sta Z h0 "java/lang/String" "COMPACT_STRINGS" "Z" (.int cs)) (ga : n0 ≤ a0) (n01 : a1 ≠ a0) (n0v : vb ≠ a0) (hcs : ¬ cs = 0) :
    MetFree l (⟨"java/lang/String", "<init>", "(Ljava/lang/AbstractStringBuilder;Ljava/lang/Void;)V"⟩ : MethodName) (head1 (Jvm.Cond.code (⟨"java/lang/String", "<init>", "(Ljava/lang/AbstractStringBuilder;Ljava/lang/Void;)V"⟩ : MethodName) jdk_42_method_150_code 5 none :: ws) ({ frames := 2, cells := 1, slots := 0, locals := 29 } : Room)) (fun a U => a = #[(.ref a0), (.ref a1), .null] ∧ Z.Warmed39 U.vm ∧ U.heap = h0) (fun _ _ _ _ _ => True) (fun _ U o U' => ∃ v L, o = .returned v ∧ Q7c0 Z a0 a1 u1 u2 vb kb cs h0 n0 v U'.heap L ∧ FrameEnd U o U' L ({ frames := 2, cells := 1, slots := 0, locals := 29 } : Room).cells ({ frames := 2, cells := 1, slots := 0, locals := 29 } : Room).slots) := by
  refine MetFree.of_bodySF (plainFor_of_name pn_java_lang_String) hisR ?_
  intro p e s m args below meth c s₁ Bd hml0 hP hK
  obtain ⟨rfl, hZ, hh⟩ := hP
  have hx := Bd.exec
  have hby := Bd.bytes
  have hml : c.maxLocals = 5 := hml0
  have hown : s.vm.findClass "java/lang/String" = some m.cls := findClass_of_methodNamed Bd.named
  have hnm := (name_of_methodNamed Bd.named Bd.method).1
  have X0 : Stand p l e ({ frames := 2, cells := 1, slots := 0, locals := 29 } : Room) s m #[(.ref a0), (.ref a1), .null] below meth c s₁ [] 0 0 := Stand.of_body Bd
  have e0 : s₁.heap = h0 := by rw [← hh, Bd.state]; rfl
  have efx : entryFrame m #[(.ref a0), (.ref a1), .null] 5 = mkF m 0 #[.val (.ref a0), .val (.ref a1), .val .null, .unset, .unset] [] := by first | (simp [entryFrame, mkF, argsToLocals, Value.category]; done) | rfl
  have N0 := Fr.nil n0
  have K0 : Keep h0 h0 [a0] := Keep.refl h0 _
  refine OGo.start (g' := mkF m 0 #[.val (.ref a0), .val (.ref a1), .val .null, .unset, .unset] []) (efx) ?_
  show OGo p.tables e below (P7c0 Z a0 a1 u1 u2 vb kb cs h0 n0 s) (s₁.setTop (mkF m 0 #[.val (.ref a0), .val (.ref a1), .val .null, .unset, .unset] []))
  refine OGo.go (B := s₁.setTop (mkF m 1 #[.val (.ref a0), .val (.ref a1), .val .null, .unset, .unset] [(.ref a0)])) ?_ (fun tX kX => XS.aloadN X0.here hx rfl (hb hby d7_0) rfl rfl kX)
  obtain ⟨T1, X1, e1, st1⟩ := initO X0 hx hZ hown (hw _ (List.mem_of_getElem? (i := 40) rfl)) (hw _ (List.mem_of_getElem? (i := 18) rfl)) (hw _ (List.mem_of_getElem? (i := 19) rfl)) e0 (g := (mkF m 1 #[.val (.ref a0), .val (.ref a1), .val .null, .unset, .unset] [(.ref a0)])) rfl (by rw [hml]; rfl) rfl (hb hby d7_1) (by decide) (W := 0) (by show 2 * 0 + _ ≤ _; exact Nat.le_of_eq rfl) (by decide)
  refine OGo.go (B := T1.setTop (mkF m 4 #[.val (.ref a0), .val (.ref a1), .val .null, .unset, .unset] [])) ?_ st1
  refine OGo.go (B := T1.setTop (mkF m 5 #[.val (.ref a0), .val (.ref a1), .val .null, .unset, .unset] [(.ref a1)])) ?_ (fun tX kX => XS.aloadN X1.here hx rfl (hb hby d7_4) rfl rfl kX)
  obtain ⟨cq2, kq2, q2a, q2b, q2c⟩ := isOf hZ e1 E_a1
  obtain ⟨_, _, ⟨T2, L2, k2, n2⟩, -, X2, ⟨Lc2, hQ2, l2, y2, z2⟩, st2⟩ := X1.virtualBack hx (y := (⟨"java/lang/AbstractStringBuilder", "getValue", "()[B"⟩ : MethodName)) (z := (⟨"java/lang/AbstractStringBuilder", "getValue", "()[B"⟩ : MethodName)) hown (mvT hZ (hw _ (List.mem_of_getElem? (i := 41) rfl))) (mvT hZ (hw _ (List.mem_of_getElem? (i := 42) rfl))) (notFace_of_selects (args := #[]) (mvT hZ (hw _ (List.mem_of_getElem? (i := 44) rfl)))) (mvT hZ (hw _ (List.mem_of_getElem? (i := 44) rfl))) (mvT hZ (hw _ (List.mem_of_getElem? (i := 43) rfl))) (by decide) (backOf (W := 0) (rm8 l Z aV hw [] a1 vb h0 n0 Z0 F_value_a1) hZ (hw _ (List.mem_of_getElem? (i := 45) rfl)) (hw _ (List.mem_of_getElem? (i := 15) rfl)) (by decide) (by decide)) q2a q2c (g := (mkF m 5 #[.val (.ref a0), .val (.ref a1), .val .null, .unset, .unset] [(.ref a1)])) rfl (by rw [hml]; rfl) (Steps.refl _) (argsL := []) (rest := []) (lenOf pd____B rfl) rfl (by show 2 * 0 + _ ≤ _; exact Nat.le_of_eq rfl) (hb hby d7_5) (fun _ _ => ⟨rfl, e1, (by decide : 0 + 0 ≤ _), (by decide : 0 + 0 ≤ _)⟩)
  dsimp only [Pt.U, Pt.locs, Pt.cells, Pt.slots] at X2 l2 y2 z2 st2 hQ2
  subst l2 y2 z2
  obtain ⟨rfl, N2q, e2⟩ := hQ2
  have N2 := Fr.app N0 N2q
  refine OGo.go (B := T2.setTop (mkF m 8 #[.val (.ref a0), .val (.ref a1), .val .null, .unset, .unset] [(.ref vb)])) ?_ (fun tX kX => st2.trans kX)
  refine OGo.go (B := T2.setTop (mkF m 9 #[.val (.ref a0), .val (.ref a1), .val .null, .val (.ref vb), .unset] [])) ?_ (fun tX kX => XS.astoreN X2.here hx rfl (hb hby d7_8) rfl rfl (l' := #[.val (.ref a0), .val (.ref a1), .val .null, .val (.ref vb), .unset]) rfl kX)
  refine OGo.go (B := T2.setTop (mkF m 10 #[.val (.ref a0), .val (.ref a1), .val .null, .val (.ref vb), .unset] [(.ref a1)])) ?_ (fun tX kX => XS.aloadN X2.here hx rfl (hb hby d7_9) rfl rfl kX)
  obtain ⟨cq3, kq3, q3a, q3b, q3c⟩ := isOf hZ e2 E_a1
  obtain ⟨_, _, ⟨T3, L3, k3, n3⟩, -, X3, ⟨Lc3, hQ3, l3, y3, z3⟩, st3⟩ := X2.virtualBack hx (y := (⟨"java/lang/AbstractStringBuilder", "length", "()I"⟩ : MethodName)) (z := (⟨"java/lang/StringBuilder", "length", "()I"⟩ : MethodName)) hown (mvT hZ (hw _ (List.mem_of_getElem? (i := 46) rfl))) (mvT hZ (hw _ (List.mem_of_getElem? (i := 47) rfl))) (own_nf (args := #[]) (mvT hZ (hw _ (List.mem_of_getElem? (i := 44) rfl))) rfl) (mvT hZ (hw _ (List.mem_of_getElem? (i := 49) rfl))) (mvT hZ (hw _ (List.mem_of_getElem? (i := 50) rfl))) (by decide) (backOf (W := 0) (rm9 l Z aV hw [] a1 (0 : Int32) h0 n0 Z0 E_a1 F_count_a1) hZ (hw _ (List.mem_of_getElem? (i := 51) rfl)) (hw _ (List.mem_of_getElem? (i := 7) rfl)) (by decide) (by decide)) q3a q3c (g := (mkF m 10 #[.val (.ref a0), .val (.ref a1), .val .null, .val (.ref vb), .unset] [(.ref a1)])) rfl (by rw [hml]; rfl) (Steps.refl _) (argsL := []) (rest := []) (lenOf pd___I rfl) rfl (by show 2 * 0 + _ ≤ _; exact Nat.le_of_eq rfl) (hb hby d7_10) (fun _ _ => ⟨rfl, e2, (by decide : 0 + 0 ≤ _), (by decide : 0 + 0 ≤ _)⟩)
  dsimp only [Pt.U, Pt.locs, Pt.cells, Pt.slots] at X3 l3 y3 z3 st3 hQ3
  subst l3 y3 z3
  obtain ⟨rfl, N3q, e3⟩ := hQ3
  have N3 := Fr.app N2 N3q
  refine OGo.go (B := T3.setTop (mkF m 13 #[.val (.ref a0), .val (.ref a1), .val .null, .val (.ref vb), .unset] [(.int (0 : Int32))])) ?_ (fun tX kX => st3.trans kX)
  refine OGo.go (B := T3.setTop (mkF m 15 #[.val (.ref a0), .val (.ref a1), .val .null, .val (.ref vb), .val (.int (0 : Int32))] [])) ?_ (fun tX kX => XS.istore X3.here hx rfl (hb hby d7_13) rfl (l' := #[.val (.ref a0), .val (.ref a1), .val .null, .val (.ref vb), .val (.int (0 : Int32))]) rfl kX)
  refine OGo.go (B := T3.setTop (mkF m 16 #[.val (.ref a0), .val (.ref a1), .val .null, .val (.ref vb), .val (.int (0 : Int32))] [(.ref a1)])) ?_ (fun tX kX => XS.aloadN X3.here hx rfl (hb hby d7_15) rfl rfl kX)
  obtain ⟨cq4, kq4, q4a, q4b, q4c⟩ := isOf hZ e3 E_a1
  obtain ⟨_, _, ⟨T4, L4, k4, n4⟩, -, X4, ⟨Lc4, hQ4, l4, y4, z4⟩, st4⟩ := X3.virtualBack hx (y := (⟨"java/lang/AbstractStringBuilder", "isLatin1", "()Z"⟩ : MethodName)) (z := (⟨"java/lang/AbstractStringBuilder", "isLatin1", "()Z"⟩ : MethodName)) hown (mvT hZ (hw _ (List.mem_of_getElem? (i := 57) rfl))) (mvT hZ (hw _ (List.mem_of_getElem? (i := 58) rfl))) (notFace_of_selects (args := #[]) (mvT hZ (hw _ (List.mem_of_getElem? (i := 60) rfl)))) (mvT hZ (hw _ (List.mem_of_getElem? (i := 60) rfl))) (mvT hZ (hw _ (List.mem_of_getElem? (i := 59) rfl))) (by decide) (backOf (W := 0) (rm11 l Z aV hw [] a1 cs h0 n0 Z0 F_coder_a1 S_COMPACT_STRINGS hcs) hZ (hw _ (List.mem_of_getElem? (i := 61) rfl)) (hw _ (List.mem_of_getElem? (i := 15) rfl)) (by decide) (by decide)) q4a q4c (g := (mkF m 16 #[.val (.ref a0), .val (.ref a1), .val .null, .val (.ref vb), .val (.int (0 : Int32))] [(.ref a1)])) rfl (by rw [hml]; rfl) (Steps.refl _) (argsL := []) (rest := []) (lenOf pd___Z rfl) rfl (by show 2 * 0 + _ ≤ _; exact Nat.le_of_eq rfl) (hb hby d7_16) (fun _ _ => ⟨rfl, e3, (by decide : 0 + 0 ≤ _), (by decide : 0 + 0 ≤ _)⟩)
  dsimp only [Pt.U, Pt.locs, Pt.cells, Pt.slots] at X4 l4 y4 z4 st4 hQ4
  subst l4 y4 z4
  obtain ⟨rfl, N4q, e4⟩ := hQ4
  have N4 := Fr.app N3 N4q
  refine OGo.go (B := T4.setTop (mkF m 19 #[.val (.ref a0), .val (.ref a1), .val .null, .val (.ref vb), .val (.int (0 : Int32))] [(.int (1 : Int32))])) ?_ (fun tX kX => st4.trans kX)
  refine OGo.go (B := T4.setTop (mkF m 22 #[.val (.ref a0), .val (.ref a1), .val .null, .val (.ref vb), .val (.int (0 : Int32))] [])) ?_ (fun tX kX => XS.ifNo X4.here hx rfl (hb hby d7_19) rfl ((if0 _ _).trans (feq (by decide)).1) kX)
  refine OGo.go (B := T4.setTop (mkF m 23 #[.val (.ref a0), .val (.ref a1), .val .null, .val (.ref vb), .val (.int (0 : Int32))] [(.ref a0)])) ?_ (fun tX kX => XS.aloadN X4.here hx rfl (hb hby d7_22) rfl rfl kX)
  refine OGo.go (B := T4.setTop (mkF m 24 #[.val (.ref a0), .val (.ref a1), .val .null, .val (.ref vb), .val (.int (0 : Int32))] [(.int (0 : Int32)), (.ref a0)])) ?_ (fun tX kX => XS.iconst X4.here hx rfl (hb hby d7_23) kX)
  obtain ⟨T5, h5, X5, e5, W5, st5⟩ := putF X4 hx hZ hown (host := "") (Or.inl (hw _ (List.mem_of_getElem? (i := 62) rfl))) Via.refl e4 F_coder_a0 E_a0 (Or.inr ⟨(hw _ (List.mem_of_getElem? (i := 63) rfl)), rfl, hnm⟩) (hw _ (List.mem_of_getElem? (i := 32) rfl)) (ty := .byte) (by decide) rfl rfl (g := (mkF m 24 #[.val (.ref a0), .val (.ref a1), .val .null, .val (.ref vb), .val (.int (0 : Int32))] [(.int (0 : Int32)), (.ref a0)])) rfl rfl (hb hby d7_24)
  have E_a0 := E_a0.wr W5
  have F_value_a0 := F_value_a0.other W5 (Or.inr (slot_ne (Or.inr (hw _ (List.mem_of_getElem? (i := 78) rfl))) (Or.inr (hw _ (List.mem_of_getElem? (i := 63) rfl))) (by decide) (t := (.array .byte)) (t' := .byte) (by decide) (by decide)))
  have F_coder_a0 := F_coder_a0.same W5
  have E_a1 := E_a1.wr W5
  have F_value_a1 := F_value_a1.other W5 (Or.inl n01)
  have F_coder_a1 := F_coder_a1.other W5 (Or.inl n01)
  have F_count_a1 := F_count_a1.other W5 (Or.inl n01)
  have E_vb := E_vb.wr W5
  have V_vb := V_vb.other W5 n0v
  have S_COMPACT_STRINGS := S_COMPACT_STRINGS.wr W5
  have K5 := K0.wr W5 (Or.inl (List.mem_of_getElem? (i := 0) rfl))
  have zn5 : n0 ≤ h5.size := Nat.le_trans Z0 (Keep.of_wr W5).1
  have N5 := Fr.snoc X5 N4 ga
  refine OGo.go (B := T5.setTop (mkF m 27 #[.val (.ref a0), .val (.ref a1), .val .null, .val (.ref vb), .val (.int (0 : Int32))] [])) ?_ st5
  refine OGo.go (B := T5.setTop (mkF m 28 #[.val (.ref a0), .val (.ref a1), .val .null, .val (.ref vb), .val (.int (0 : Int32))] [(.ref a0)])) ?_ (fun tX kX => XS.aloadN X5.here hx rfl (hb hby d7_27) rfl rfl kX)
  refine OGo.go (B := T5.setTop (mkF m 29 #[.val (.ref a0), .val (.ref a1), .val .null, .val (.ref vb), .val (.int (0 : Int32))] [(.ref vb), (.ref a0)])) ?_ (fun tX kX => XS.aloadN X5.here hx rfl (hb hby d7_28) rfl rfl kX)
  refine OGo.go (B := T5.setTop (mkF m 30 #[.val (.ref a0), .val (.ref a1), .val .null, .val (.ref vb), .val (.int (0 : Int32))] [(.int (0 : Int32)), (.ref vb), (.ref a0)])) ?_ (fun tX kX => XS.iconst X5.here hx rfl (hb hby d7_29) kX)
  refine OGo.go (B := T5.setTop (mkF m 32 #[.val (.ref a0), .val (.ref a1), .val .null, .val (.ref vb), .val (.int (0 : Int32))] [(.int (0 : Int32)), (.int (0 : Int32)), (.ref vb), (.ref a0)])) ?_ (fun tX kX => XS.iload X5.here hx rfl (hb hby d7_30) rfl kX)
  obtain ⟨_, _, ⟨T6, L6, k6, n6⟩, -, X6, ⟨Lc6, hQ6, l6, y6, z6⟩, st6⟩ := Jvm.LawKit.callS X5 hx (y := (⟨"java/util/Arrays", "copyOfRange", "([BII)[B"⟩ : MethodName)) hown (mvT hZ (hw _ (List.mem_of_getElem? (i := 64) rfl))) (mvT hZ (hw _ (List.mem_of_getElem? (i := 65) rfl))) (mvT hZ (hw _ (List.mem_of_getElem? (i := 66) rfl))) (mvT hZ (hw _ (List.mem_of_getElem? (i := 67) rfl))) (by decide) (backOf (W := 1) (rm12c0 l Z aV hw [] vb kb h5 n0 zn5 E_vb V_vb) hZ (hw _ (List.mem_of_getElem? (i := 67) rfl)) (hw _ (List.mem_of_getElem? (i := 66) rfl)) (by decide) (by decide)) (g := (mkF m 32 #[.val (.ref a0), .val (.ref a1), .val .null, .val (.ref vb), .val (.int (0 : Int32))] [(.int (0 : Int32)), (.int (0 : Int32)), (.ref vb), (.ref a0)])) rfl (by rw [hml]; rfl) (argsL := [(.ref vb), (.int (0 : Int32)), (.int (0 : Int32))]) (rest := [(.ref a0)]) (lenOf pd___BII__B rfl) rfl (by show 2 * 0 + _ ≤ _; exact Nat.le_of_eq rfl) (hb hby d7_32) (fun _ _ => ⟨rfl, e5, (by decide : 0 + 1 ≤ _), (by decide : 0 + 0 ≤ _)⟩)
  dsimp only [Pt.U, Pt.locs, Pt.cells, Pt.slots] at X6 l6 y6 z6 st6 hQ6
  subst l6 y6 z6
  obtain ⟨nb_6, kn_6, rfl, N6q, Kq6, sz6_nb, E_nb_6_p, V_nb_6_p⟩ := hQ6
  have N6 := Fr.app N5 N6q
  have ne_a0_nb_6 : a0 ≠ nb_6 := Nat.ne_of_lt (Nat.lt_of_lt_of_le E_a0.lt sz6_nb)
  have ne_a1_nb_6 : a1 ≠ nb_6 := Nat.ne_of_lt (Nat.lt_of_lt_of_le E_a1.lt sz6_nb)
  have ne_vb_nb_6 : vb ≠ nb_6 := Nat.ne_of_lt (Nat.lt_of_lt_of_le E_vb.lt sz6_nb)
  have S_COMPACT_STRINGS := Sta.keep0 S_COMPACT_STRINGS Kq6
  have E_a0 := E_a0.keep Kq6
  have F_value_a0 := F_value_a0.keep Kq6 nin0
  have F_coder_a0 := F_coder_a0.keep Kq6 nin0
  have E_a1 := E_a1.keep Kq6
  have F_value_a1 := F_value_a1.keep Kq6 nin0
  have F_coder_a1 := F_coder_a1.keep Kq6 nin0
  have F_count_a1 := F_count_a1.keep Kq6 nin0
  have E_vb := E_vb.keep Kq6
  have V_vb := V_vb.keep Kq6 nin0
  have g_nb_6 : n0 ≤ nb_6 := Nat.le_trans zn5 sz6_nb
  have sz_nb_6 : h0.size ≤ nb_6 := Nat.le_trans K5.1 sz6_nb
  have K6 := K5.trans Kq6 all0
  have zn6 : n0 ≤ T6.heap.size := Nat.le_trans zn5 Kq6.1
  have E_nb_6 := E_nb_6_p
  have V_nb_6 := V_nb_6_p
  refine OGo.go (B := T6.setTop (mkF m 35 #[.val (.ref a0), .val (.ref a1), .val .null, .val (.ref vb), .val (.int (0 : Int32))] [(.ref nb_6), (.ref a0)])) ?_ st6
  obtain ⟨T7, h7, X7, e7, W7, st7⟩ := putF X6 hx hZ hown (host := "") (Or.inl (hw _ (List.mem_of_getElem? (i := 77) rfl))) Via.refl rfl F_value_a0 E_a0 (Or.inr ⟨(hw _ (List.mem_of_getElem? (i := 78) rfl)), rfl, hnm⟩) (hw _ (List.mem_of_getElem? (i := 32) rfl)) (ty := (.array .byte)) (by decide) rfl rfl (g := (mkF m 35 #[.val (.ref a0), .val (.ref a1), .val .null, .val (.ref vb), .val (.int (0 : Int32))] [(.ref nb_6), (.ref a0)])) rfl rfl (hb hby d7_35)
  have E_a0 := E_a0.wr W7
  have F_value_a0 := F_value_a0.same W7
  have F_coder_a0 := F_coder_a0.other W7 (Or.inr (slot_ne (Or.inr (hw _ (List.mem_of_getElem? (i := 63) rfl))) (Or.inr (hw _ (List.mem_of_getElem? (i := 78) rfl))) (by decide) (t := .byte) (t' := (.array .byte)) (by decide) (by decide)))
  have E_a1 := E_a1.wr W7
  have F_value_a1 := F_value_a1.other W7 (Or.inl n01)
  have F_coder_a1 := F_coder_a1.other W7 (Or.inl n01)
  have F_count_a1 := F_count_a1.other W7 (Or.inl n01)
  have E_vb := E_vb.wr W7
  have V_vb := V_vb.other W7 n0v
  have S_COMPACT_STRINGS := S_COMPACT_STRINGS.wr W7
  have E_nb_6 := E_nb_6.wr W7
  have V_nb_6 := V_nb_6.other W7 (Ne.symm ne_a0_nb_6)
  have K7 := K6.wr W7 (Or.inl (List.mem_of_getElem? (i := 0) rfl))
  have zn7 : n0 ≤ h7.size := Nat.le_trans zn6 (Keep.of_wr W7).1
  have N7 := Fr.snoc X7 N6 ga
  refine OGo.go (B := T7.setTop (mkF m 38 #[.val (.ref a0), .val (.ref a1), .val .null, .val (.ref vb), .val (.int (0 : Int32))] [])) ?_ st7
  refine OGo.go (B := T7.setTop (mkF m 97 #[.val (.ref a0), .val (.ref a1), .val .null, .val (.ref vb), .val (.int (0 : Int32))] [])) ?_ (fun tX kX => XS.goto X7.here hx rfl (pc0 := 38) (pc' := 97) rfl (hb hby d7_38) (by decide) (by decide) kX)
  refine OGo.ret X7 (v := none) (fun _ => rfl) (BodyLoose.notSynchronized Bd) (fun fs hr => X7.returnOut hx Bd.returns (hb hby d7_97) hr) (Q := Q7c0 Z a0 a1 u1 u2 vb kb cs h0 n0) ?_ (by decide) (by decide)
  show Q7c0 Z a0 a1 u1 u2 vb kb cs h0 n0 _ T7.heap _
  rw [e7]
  exact ⟨nb_6, kn_6, rfl, N7, K7, sz_nb_6, E_a0, F_value_a0, F_coder_a0, E_nb_6, V_nb_6⟩
theorem d6_0 : decode jdk_42_method_53_code 0 = .ok (.aload_n 0, 1) := by decide +kernel
theorem d6_1 : decode jdk_42_method_53_code 1 = .ok (.aload_n 1, 1) := by decide +kernel
theorem d6_2 : decode jdk_42_method_53_code 2 = .ok (.aconst_null, 1) := by decide +kernel
theorem d6_3 : decode jdk_42_method_53_code 3 = .ok (.invokespecial 489, 3) := by decide +kernel
theorem pd__Ljava_lang_AbstractStringBuilder_Ljava_lang_Void__V : parseMethodDescriptor "(Ljava/lang/AbstractStringBuilder;Ljava/lang/Void;)V" = some ⟨[(.object "java/lang/AbstractStringBuilder"), (.object "java/lang/Void")], none⟩ := by decide +kernel
theorem d6_6 : decode jdk_42_method_53_code 6 = .ok (.return_, 1) := by decide +kernel
def Q6c0 (Z : State) (a0 : Addr) (a1 : Addr) (u1 : Value) (u2 : Value) (vb : Addr) (kb : ClassId) (cs : Int32) (h0 : Heap) (n0 : Nat) (v : Option Value) (h : Heap) (L : List Loc) : Prop := ∃ (nb : Addr) (kn : ClassId), v = none ∧ Fr n0 L ∧ Keep h0 h [a0] ∧ h0.size ≤ nb ∧ Exa Z h a0 "java/lang/String" ∧ Fld Z h a0 "java/lang/String" "value" "[B" (.ref nb) ∧ Fld Z h a0 "java/lang/String" "coder" "B" (.int (0 : Int32)) ∧ Exa Z h nb "[B" ∧ Arv Z h nb kn .byte (0 : Int32) [] (.int (0 : Int32))
def P6c0 (Z : State) (a0 : Addr) (a1 : Addr) (u1 : Value) (u2 : Value) (vb : Addr) (kb : ClassId) (cs : Int32) (h0 : Heap) (n0 : Nat) (s : State) (o : Outcome) (U' : State) : Prop := ∃ v L, o = .returned v ∧ Q6c0 Z a0 a1 u1 u2 vb kb cs h0 n0 v U'.heap L ∧ FrameEnd s o U' L ({ frames := 3, cells := 1, slots := 0, locals := 45 } : Room).cells ({ frames := 3, cells := 1, slots := 0, locals := 45 } : Room).slots
set_option maxRecDepth 65536 in
set_option maxHeartbeats 40000000 in
theorem rm6c0 (l : Launch) (Z : State) (aV : Array Value) (hw : ∀ d ∈ tables_1, d.before aV Z = true) (ws : List Jvm.Cond) (a0 : Addr) (a1 : Addr) (u1 : Value) (u2 : Value) (vb : Addr) (kb : ClassId) (cs : Int32) (h0 : Heap) (n0 : Nat) (Z0 : n0 ≤ h0.size) (E_a0 : Exa Z h0 a0 "java/lang/String") (F_value_a0 : Fld Z h0 a0 "java/lang/String" "value" "[B" u1) (F_coder_a0 : Fld Z h0 a0 "java/lang/String" "coder" "B" u2) (E_a1 : Exa Z h0 a1 "java/lang/StringBuilder") (F_value_a1 : Fld Z h0 a1 "java/lang/AbstractStringBuilder" "value" "[B" (.ref vb)) (F_coder_a1 : Fld Z h0 a1 "java/lang/AbstractStringBuilder" "coder" "B" (.int (0 : Int32))) (F_count_a1 : Fld Z h0 a1 "java/lang/AbstractStringBuilder" "count" "I" (.int (0 : Int32))) (E_vb : Exa Z h0 vb "[B") (V_vb : Arv Z h0 vb kb .byte (0 : Int32) [] (.int (0 : Int32))) (S_COMPACT_STRINGS : Sta Z h0 "java/lang/String" "COMPACT_STRINGS" "Z" (.int cs)) (ga : n0 ≤ a0) (n01 : a1 ≠ a0) (n0v : vb ≠ a0) (hcs : ¬ cs = 0) :
    MetFree l (⟨"java/lang/String", "<init>", "(Ljava/lang/StringBuilder;)V"⟩ : MethodName) (head1 (Jvm.Cond.code (⟨"java/lang/String", "<init>", "(Ljava/lang/StringBuilder;)V"⟩ : MethodName) jdk_42_method_53_code 2 none :: ws) ({ frames := 3, cells := 1, slots := 0, locals := 45 } : Room)) (fun a U => a = #[(.ref a0), (.ref a1)] ∧ Z.Warmed39 U.vm ∧ U.heap = h0) (fun _ _ _ _ _ => True) (fun _ U o U' => ∃ v L, o = .returned v ∧ Q6c0 Z a0 a1 u1 u2 vb kb cs h0 n0 v U'.heap L ∧ FrameEnd U o U' L ({ frames := 3, cells := 1, slots := 0, locals := 45 } : Room).cells ({ frames := 3, cells := 1, slots := 0, locals := 45 } : Room).slots) := by
  refine MetFree.of_bodySF (plainFor_of_name pn_java_lang_String) hisR ?_
  intro p e s m args below meth c s₁ Bd hml0 hP hK
  obtain ⟨rfl, hZ, hh⟩ := hP
  have hx := Bd.exec
  have hby := Bd.bytes
  have hml : c.maxLocals = 2 := hml0
  have hown : s.vm.findClass "java/lang/String" = some m.cls := findClass_of_methodNamed Bd.named
  have hnm := (name_of_methodNamed Bd.named Bd.method).1
  have X0 : Stand p l e ({ frames := 3, cells := 1, slots := 0, locals := 45 } : Room) s m #[(.ref a0), (.ref a1)] below meth c s₁ [] 0 0 := Stand.of_body Bd
  have e0 : s₁.heap = h0 := by rw [← hh, Bd.state]; rfl
  have efx : entryFrame m #[(.ref a0), (.ref a1)] 2 = mkF m 0 #[.val (.ref a0), .val (.ref a1)] [] := by first | (simp [entryFrame, mkF, argsToLocals, Value.category]; done) | rfl
  have N0 := Fr.nil n0
  have K0 : Keep h0 h0 [a0] := Keep.refl h0 _
  refine OGo.start (g' := mkF m 0 #[.val (.ref a0), .val (.ref a1)] []) (efx) ?_
  show OGo p.tables e below (P6c0 Z a0 a1 u1 u2 vb kb cs h0 n0 s) (s₁.setTop (mkF m 0 #[.val (.ref a0), .val (.ref a1)] []))
  refine OGo.go (B := s₁.setTop (mkF m 1 #[.val (.ref a0), .val (.ref a1)] [(.ref a0)])) ?_ (fun tX kX => XS.aloadN X0.here hx rfl (hb hby d6_0) rfl rfl kX)
  refine OGo.go (B := s₁.setTop (mkF m 2 #[.val (.ref a0), .val (.ref a1)] [(.ref a1), (.ref a0)])) ?_ (fun tX kX => XS.aloadN X0.here hx rfl (hb hby d6_1) rfl rfl kX)
  refine OGo.go (B := s₁.setTop (mkF m 3 #[.val (.ref a0), .val (.ref a1)] [.null, (.ref a1), (.ref a0)])) ?_ (fun tX kX => XS.aconstNull X0.here hx rfl (hb hby d6_2) kX)
  obtain ⟨_, _, ⟨T1, L1, k1, n1⟩, -, X1, ⟨Lc1, hQ1, l1, y1, z1⟩, st1⟩ := X0.specialBack hx (y := (⟨"java/lang/String", "<init>", "(Ljava/lang/AbstractStringBuilder;Ljava/lang/Void;)V"⟩ : MethodName)) rfl hown (mvT hZ (hw _ (List.mem_of_getElem? (i := 37) rfl))) (mvT hZ (hw _ (List.mem_of_getElem? (i := 38) rfl))) (mvT hZ (hw _ (List.mem_of_getElem? (i := 39) rfl))) (by decide) (backOf (W := 0) (rm7c0 l Z aV hw [] a0 a1 u1 u2 vb kb cs h0 n0 Z0 E_a0 F_value_a0 F_coder_a0 E_a1 F_value_a1 F_coder_a1 F_count_a1 E_vb V_vb S_COMPACT_STRINGS ga n01 n0v hcs) hZ (hw _ (List.mem_of_getElem? (i := 39) rfl)) (hw _ (List.mem_of_getElem? (i := 21) rfl)) (by decide) (by decide)) (g := (mkF m 3 #[.val (.ref a0), .val (.ref a1)] [.null, (.ref a1), (.ref a0)])) rfl (by rw [hml]; rfl) (Steps.refl _) (a := a0) (argsL := [(.ref a1), .null]) (rest := []) (lenOf pd__Ljava_lang_AbstractStringBuilder_Ljava_lang_Void__V rfl) rfl (by show 2 * 0 + _ ≤ _; exact Nat.le_of_eq rfl) (hb hby d6_3) (fun _ _ => ⟨rfl, e0, (by decide : 0 + 1 ≤ _), (by decide : 0 + 0 ≤ _)⟩)
  dsimp only [Pt.U, Pt.locs, Pt.cells, Pt.slots] at X1 l1 y1 z1 st1 hQ1
  subst l1 y1 z1
  obtain ⟨nb_1, kn_1, rfl, N1q, Kq1, sz1_nb, E_a0_p, F_value_a0_p, F_coder_a0_p, E_nb_1_p, V_nb_1_p⟩ := hQ1
  have N1 := Fr.app N0 N1q
  have ne_a0_nb_1 : a0 ≠ nb_1 := Nat.ne_of_lt (Nat.lt_of_lt_of_le E_a0.lt sz1_nb)
  have ne_a1_nb_1 : a1 ≠ nb_1 := Nat.ne_of_lt (Nat.lt_of_lt_of_le E_a1.lt sz1_nb)
  have ne_vb_nb_1 : vb ≠ nb_1 := Nat.ne_of_lt (Nat.lt_of_lt_of_le E_vb.lt sz1_nb)
  have S_COMPACT_STRINGS := Sta.keepE S_COMPACT_STRINGS Kq1 (staS E_a0.cell (fun x hx' => nomatch hx'))
  have E_a0 := E_a0.keep Kq1
  have E_a1 := E_a1.keep Kq1
  have F_value_a1 := F_value_a1.keep Kq1 (ninS n01 nin0)
  have F_coder_a1 := F_coder_a1.keep Kq1 (ninS n01 nin0)
  have F_count_a1 := F_count_a1.keep Kq1 (ninS n01 nin0)
  have E_vb := E_vb.keep Kq1
  have V_vb := V_vb.keep Kq1 (ninS n0v nin0)
  have g_nb_1 : n0 ≤ nb_1 := Nat.le_trans Z0 sz1_nb
  have sz_nb_1 : h0.size ≤ nb_1 := Nat.le_trans K0.1 sz1_nb
  have K1 := K0.trans Kq1 (allS (P := fun x => x ∈ [a0] ∨ h0.size ≤ x) (Or.inl (List.mem_of_getElem? (i := 0) rfl)) all0)
  have zn1 : n0 ≤ T1.heap.size := Nat.le_trans Z0 Kq1.1
  have E_a0 := E_a0_p
  have F_value_a0 := F_value_a0_p
  have F_coder_a0 := F_coder_a0_p
  have E_nb_1 := E_nb_1_p
  have V_nb_1 := V_nb_1_p
  refine OGo.go (B := T1.setTop (mkF m 6 #[.val (.ref a0), .val (.ref a1)] [])) ?_ (fun tX kX => st1.trans kX)
  refine OGo.ret X1 (v := none) (fun _ => rfl) (BodyLoose.notSynchronized Bd) (fun fs hr => X1.returnOut hx Bd.returns (hb hby d6_6) hr) (Q := Q6c0 Z a0 a1 u1 u2 vb kb cs h0 n0) ?_ (by decide) (by decide)
  show Q6c0 Z a0 a1 u1 u2 vb kb cs h0 n0 _ T1.heap _
  exact ⟨nb_1, kn_1, rfl, N1, K1, sz_nb_1, E_a0, F_value_a0, F_coder_a0, E_nb_1, V_nb_1⟩
theorem d5_0 : decode jdk_67_method_42_code 0 = .ok (.new 18, 3) := by decide +kernel
theorem d5_3 : decode jdk_67_method_42_code 3 = .ok (.dup, 1) := by decide +kernel
theorem d5_4 : decode jdk_67_method_42_code 4 = .ok (.aload_n 0, 1) := by decide +kernel
theorem d5_5 : decode jdk_67_method_42_code 5 = .ok (.invokespecial 137, 3) := by decide +kernel
theorem pd__Ljava_lang_StringBuilder__V : parseMethodDescriptor "(Ljava/lang/StringBuilder;)V" = some ⟨[(.object "java/lang/StringBuilder")], none⟩ := by decide +kernel
theorem d5_8 : decode jdk_67_method_42_code 8 = .ok (.areturn, 1) := by decide +kernel
def Q5c0 (Z : State) (a0 : Addr) (vb : Addr) (kb : ClassId) (cs : Int32) (h0 : Heap) (n0 : Nat) (v : Option Value) (h : Heap) (L : List Loc) : Prop := ∃ (sr : Addr) (nb : Addr) (kn : ClassId), v = some (.ref sr) ∧ Fr n0 L ∧ Keep h0 h [] ∧ h0.size ≤ sr ∧ h0.size ≤ nb ∧ Exa Z h sr "java/lang/String" ∧ Fld Z h sr "java/lang/String" "value" "[B" (.ref nb) ∧ Fld Z h sr "java/lang/String" "coder" "B" (.int (0 : Int32)) ∧ Exa Z h nb "[B" ∧ Arv Z h nb kn .byte (0 : Int32) [] (.int (0 : Int32))
def P5c0 (Z : State) (a0 : Addr) (vb : Addr) (kb : ClassId) (cs : Int32) (h0 : Heap) (n0 : Nat) (s : State) (o : Outcome) (U' : State) : Prop := ∃ v L, o = .returned v ∧ Q5c0 Z a0 vb kb cs h0 n0 v U'.heap L ∧ FrameEnd s o U' L ({ frames := 4, cells := 2, slots := 4, locals := 59 } : Room).cells ({ frames := 4, cells := 2, slots := 4, locals := 59 } : Room).slots
set_option maxRecDepth 65536 in
set_option maxHeartbeats 40000000 in
theorem rm5c0 (l : Launch) (Z : State) (aV : Array Value) (hw : ∀ d ∈ tables_1, d.before aV Z = true) (ws : List Jvm.Cond) (a0 : Addr) (vb : Addr) (kb : ClassId) (cs : Int32) (h0 : Heap) (n0 : Nat) (Z0 : n0 ≤ h0.size) (E_a0 : Exa Z h0 a0 "java/lang/StringBuilder") (F_value_a0 : Fld Z h0 a0 "java/lang/AbstractStringBuilder" "value" "[B" (.ref vb)) (F_coder_a0 : Fld Z h0 a0 "java/lang/AbstractStringBuilder" "coder" "B" (.int (0 : Int32))) (F_count_a0 : Fld Z h0 a0 "java/lang/AbstractStringBuilder" "count" "I" (.int (0 : Int32))) (E_vb : Exa Z h0 vb "[B") (V_vb : Arv Z h0 vb kb .byte (0 : Int32) [] (.int (0 : Int32))) (S_COMPACT_STRINGS : Sta Z h0 "java/lang/String" "COMPACT_STRINGS" "Z" (.int cs)) (hcs : ¬ cs = 0) :
    MetFree l (⟨"java/lang/StringBuilder", "toString", "()Ljava/lang/String;"⟩ : MethodName) (head1 (Jvm.Cond.code (⟨"java/lang/StringBuilder", "toString", "()Ljava/lang/String;"⟩ : MethodName) jdk_67_method_42_code 1 (some (.object "java/lang/String")) :: ws) ({ frames := 4, cells := 2, slots := 4, locals := 59 } : Room)) (fun a U => a = #[(.ref a0)] ∧ Z.Warmed39 U.vm ∧ U.heap = h0) (fun _ _ _ _ _ => True) (fun _ U o U' => ∃ v L, o = .returned v ∧ Q5c0 Z a0 vb kb cs h0 n0 v U'.heap L ∧ FrameEnd U o U' L ({ frames := 4, cells := 2, slots := 4, locals := 59 } : Room).cells ({ frames := 4, cells := 2, slots := 4, locals := 59 } : Room).slots) := by
  refine MetFree.of_bodySF (plainFor_of_name pn_java_lang_StringBuilder) hisR ?_
  intro p e s m args below meth c s₁ Bd hml0 hP hK
  obtain ⟨rfl, hZ, hh⟩ := hP
  have hx := Bd.exec
  have hby := Bd.bytes
  have hml : c.maxLocals = 1 := hml0
  have hown : s.vm.findClass "java/lang/StringBuilder" = some m.cls := findClass_of_methodNamed Bd.named
  have hnm := (name_of_methodNamed Bd.named Bd.method).1
  have X0 : Stand p l e ({ frames := 4, cells := 2, slots := 4, locals := 59 } : Room) s m #[(.ref a0)] below meth c s₁ [] 0 0 := Stand.of_body Bd
  have e0 : s₁.heap = h0 := by rw [← hh, Bd.state]; rfl
  have efx : entryFrame m #[(.ref a0)] 1 = mkF m 0 #[.val (.ref a0)] [] := by first | (simp [entryFrame, mkF, argsToLocals, Value.category]; done) | rfl
  have N0 := Fr.nil n0
  have K0 : Keep h0 h0 [] := Keep.refl h0 _
  refine OGo.start (g' := mkF m 0 #[.val (.ref a0)] []) (efx) ?_
  show OGo p.tables e below (P5c0 Z a0 vb kb cs h0 n0 s) (s₁.setTop (mkF m 0 #[.val (.ref a0)] []))
  obtain ⟨T1, h1, X1, e1, E1, A1, D1, C1, st1⟩ := newO X0 hx hZ hown (hw _ (List.mem_of_getElem? (i := 31) rfl)) (hw _ (List.mem_of_getElem? (i := 32) rfl)) (hw _ (List.mem_of_getElem? (i := 21) rfl)) e0 (g := (mkF m 0 #[.val (.ref a0)] [])) rfl (hb hby d5_0) (by decide) (by decide)
  obtain ⟨b1, g1⟩ : ∃ z, z = h0.size := ⟨_, rfl⟩
  rw [← g1] at A1 D1 st1 C1
  have ne_a0_b1 : a0 ≠ b1 := Nat.ne_of_lt (Nat.lt_of_lt_of_le E_a0.lt (Nat.le_of_eq g1.symm))
  have ne_vb_b1 : vb ≠ b1 := Nat.ne_of_lt (Nat.lt_of_lt_of_le E_vb.lt (Nat.le_of_eq g1.symm))
  have E_a0 := E_a0.ext E1
  have F_value_a0 := F_value_a0.ext E1
  have F_coder_a0 := F_coder_a0.ext E1
  have F_count_a0 := F_count_a0.ext E1
  have E_vb := E_vb.ext E1
  have V_vb := V_vb.ext E1
  have S_COMPACT_STRINGS := S_COMPACT_STRINGS.ext E1
  have g_b1 : n0 ≤ b1 := Nat.le_trans Z0 (Nat.le_of_eq g1.symm)
  have sz_b1 : h0.size ≤ b1 := Nat.le_trans K0.1 (Nat.le_of_eq g1.symm)
  have zn1 : n0 ≤ h1.size := Nat.le_trans Z0 E1.1
  have K1 := K0.ext E1
  have E_b1 := A1
  have F_coder_b1 : Fld Z h1 b1 "java/lang/String" "coder" "B" (.int (0 : Int32)) := D1 (Or.inr (hw _ (List.mem_of_getElem? (i := 63) rfl))) (ty := .byte) (by decide)
  have F_value_b1 : Fld Z h1 b1 "java/lang/String" "value" "[B" .null := D1 (Or.inr (hw _ (List.mem_of_getElem? (i := 78) rfl))) (ty := (.array .byte)) (by decide)
  refine OGo.go (B := T1.setTop (mkF m 3 #[.val (.ref a0)] [(.ref b1)])) ?_ st1
  refine OGo.go (B := T1.setTop (mkF m 4 #[.val (.ref a0)] [(.ref b1), (.ref b1)])) ?_ (fun tX kX => XS.dup X1.here hx rfl (hb hby d5_3) rfl rfl kX)
  refine OGo.go (B := T1.setTop (mkF m 5 #[.val (.ref a0)] [(.ref a0), (.ref b1), (.ref b1)])) ?_ (fun tX kX => XS.aloadN X1.here hx rfl (hb hby d5_4) rfl rfl kX)
  obtain ⟨_, _, ⟨T2, L2, k2, n2⟩, -, X2, ⟨Lc2, hQ2, l2, y2, z2⟩, st2⟩ := X1.specialBack hx (y := (⟨"java/lang/String", "<init>", "(Ljava/lang/StringBuilder;)V"⟩ : MethodName)) rfl hown (mvT hZ (hw _ (List.mem_of_getElem? (i := 33) rfl))) (mvT hZ (hw _ (List.mem_of_getElem? (i := 34) rfl))) (mvT hZ (hw _ (List.mem_of_getElem? (i := 36) rfl))) (by decide) (backOf (W := 1) (rm6c0 l Z aV hw [] b1 a0 .null (.int (0 : Int32)) vb kb cs h1 n0 zn1 E_b1 F_value_b1 F_coder_b1 E_a0 F_value_a0 F_coder_a0 F_count_a0 E_vb V_vb S_COMPACT_STRINGS g_b1 ne_a0_b1 ne_vb_b1 hcs) hZ (hw _ (List.mem_of_getElem? (i := 36) rfl)) (hw _ (List.mem_of_getElem? (i := 21) rfl)) (by decide) (by decide)) (g := (mkF m 5 #[.val (.ref a0)] [(.ref a0), (.ref b1), (.ref b1)])) rfl (by rw [hml]; rfl) (Steps.refl _) (a := b1) (argsL := [(.ref a0)]) (rest := [(.ref b1)]) (lenOf pd__Ljava_lang_StringBuilder__V rfl) rfl (by show 2 * 0 + _ ≤ _; exact Nat.le_of_eq rfl) (hb hby d5_5) (fun _ _ => ⟨rfl, e1, (by decide : 1 + 1 ≤ _), (by decide : 4 + 0 ≤ _)⟩)
  dsimp only [Pt.U, Pt.locs, Pt.cells, Pt.slots] at X2 l2 y2 z2 st2 hQ2
  subst l2 y2 z2
  obtain ⟨nb_2, kn_2, rfl, N2q, Kq2, sz2_nb, E_b1_p, F_value_b1_p, F_coder_b1_p, E_nb_2_p, V_nb_2_p⟩ := hQ2
  have N2 := Fr.app N0 N2q
  have ne_a0_nb_2 : a0 ≠ nb_2 := Nat.ne_of_lt (Nat.lt_of_lt_of_le E_a0.lt sz2_nb)
  have ne_vb_nb_2 : vb ≠ nb_2 := Nat.ne_of_lt (Nat.lt_of_lt_of_le E_vb.lt sz2_nb)
  have ne_b1_nb_2 : b1 ≠ nb_2 := Nat.ne_of_lt (Nat.lt_of_lt_of_le E_b1.lt sz2_nb)
  have S_COMPACT_STRINGS := Sta.keepE S_COMPACT_STRINGS Kq2 (staS E_b1.cell (fun x hx' => nomatch hx'))
  have E_a0 := E_a0.keep Kq2
  have F_value_a0 := F_value_a0.keep Kq2 (ninS ne_a0_b1 nin0)
  have F_coder_a0 := F_coder_a0.keep Kq2 (ninS ne_a0_b1 nin0)
  have F_count_a0 := F_count_a0.keep Kq2 (ninS ne_a0_b1 nin0)
  have E_vb := E_vb.keep Kq2
  have V_vb := V_vb.keep Kq2 (ninS ne_vb_b1 nin0)
  have E_b1 := E_b1.keep Kq2
  have g_nb_2 : n0 ≤ nb_2 := Nat.le_trans zn1 sz2_nb
  have sz_nb_2 : h0.size ≤ nb_2 := Nat.le_trans K1.1 sz2_nb
  have K2 := K1.trans Kq2 (allS (P := fun x => x ∈ ([] : List Addr) ∨ h0.size ≤ x) (Or.inr sz_b1) all0)
  have zn2 : n0 ≤ T2.heap.size := Nat.le_trans zn1 Kq2.1
  have E_b1 := E_b1_p
  have F_value_b1 := F_value_b1_p
  have F_coder_b1 := F_coder_b1_p
  have E_nb_2 := E_nb_2_p
  have V_nb_2 := V_nb_2_p
  refine OGo.go (B := T2.setTop (mkF m 8 #[.val (.ref a0)] [(.ref b1)])) ?_ (fun tX kX => st2.trans kX)
  refine OGo.ret X2 (v := (some (.ref b1))) (fun h => by rw [Bd.returns] at h; cases h) (BodyLoose.notSynchronized Bd) (fun fs hr => retOut X2 hx Bd.returns rfl (Or.inr (Or.inr (Or.inr (Or.inr ⟨rfl, rfl, rfl⟩)))) (hb hby d5_8) hr) (Q := Q5c0 Z a0 vb kb cs h0 n0) ?_ (by decide) (by decide)
  show Q5c0 Z a0 vb kb cs h0 n0 _ T2.heap _
  exact ⟨b1, nb_2, kn_2, rfl, N2, K2, sz_b1, sz_nb_2, E_b1, F_value_b1, F_coder_b1, E_nb_2, V_nb_2⟩
theorem d19_0 : decode jdk_65_method_133_code 0 = .ok (.iload_n 1, 1) := by decide +kernel
theorem d19_1 : decode jdk_65_method_133_code 1 = .ok (.iload_n 2, 1) := by decide +kernel
theorem d19_2 : decode jdk_65_method_133_code 2 = .ok (.invokestatic 343, 3) := by decide +kernel
theorem pd__II_V : parseMethodDescriptor "(II)V" = some ⟨[.int, .int], none⟩ := by decide +kernel
theorem d19_5 : decode jdk_65_method_133_code 5 = .ok (.iload_n 2, 1) := by decide +kernel
theorem d19_6 : decode jdk_65_method_133_code 6 = .ok (.iload_n 1, 1) := by decide +kernel
theorem d19_7 : decode jdk_65_method_133_code 7 = .ok (.isub, 1) := by decide +kernel
theorem d19_8 : decode jdk_65_method_133_code 8 = .ok (.istore_n 3, 1) := by decide +kernel
theorem d19_9 : decode jdk_65_method_133_code 9 = .ok (.iload_n 3, 1) := by decide +kernel
theorem d19_10 : decode jdk_65_method_133_code 10 = .ok (.newarray .byte, 2) := by decide +kernel
theorem d19_12 : decode jdk_65_method_133_code 12 = .ok (.astore 4, 2) := by decide +kernel
theorem d19_14 : decode jdk_65_method_133_code 14 = .ok (.aload_n 0, 1) := by decide +kernel
theorem d19_15 : decode jdk_65_method_133_code 15 = .ok (.iload_n 1, 1) := by decide +kernel
theorem d19_16 : decode jdk_65_method_133_code 16 = .ok (.aload 4, 2) := by decide +kernel
theorem d19_18 : decode jdk_65_method_133_code 18 = .ok (.iconst 0, 1) := by decide +kernel
theorem d19_19 : decode jdk_65_method_133_code 19 = .ok (.aload_n 0, 1) := by decide +kernel
theorem d19_20 : decode jdk_65_method_133_code 20 = .ok (.arraylength, 1) := by decide +kernel
theorem d19_21 : decode jdk_65_method_133_code 21 = .ok (.iload_n 1, 1) := by decide +kernel
theorem d19_22 : decode jdk_65_method_133_code 22 = .ok (.isub, 1) := by decide +kernel
theorem d19_23 : decode jdk_65_method_133_code 23 = .ok (.iload_n 3, 1) := by decide +kernel
theorem d19_24 : decode jdk_65_method_133_code 24 = .ok (.invokestatic 304, 3) := by decide +kernel
theorem pd__II_I : parseMethodDescriptor "(II)I" = some ⟨[.int, .int], some .int⟩ := by decide +kernel
theorem d19_27 : decode jdk_65_method_133_code 27 = .ok (.invokestatic 150, 3) := by decide +kernel
theorem d19_30 : decode jdk_65_method_133_code 30 = .ok (.aload 4, 2) := by decide +kernel
theorem d19_32 : decode jdk_65_method_133_code 32 = .ok (.areturn, 1) := by decide +kernel
def Q19c1 (Z : State) (vb : Addr) (kb : ClassId) (ch0 : Int32) (ch1 : Int32) (h0 : Heap) (n0 : Nat) (v : Option Value) (h : Heap) (L : List Loc) : Prop := ∃ (nb : Addr) (kn : ClassId), v = some (.ref nb) ∧ Fr n0 L ∧ Keep h0 h [] ∧ h0.size ≤ nb ∧ Exa Z h nb "[B" ∧ Arv Z h nb kn .byte (2 : Int32) [(.int ch0), (.int ch1)] (.int (0 : Int32))
def P19c1 (Z : State) (vb : Addr) (kb : ClassId) (ch0 : Int32) (ch1 : Int32) (h0 : Heap) (n0 : Nat) (s : State) (o : Outcome) (U' : State) : Prop := ∃ v L, o = .returned v ∧ Q19c1 Z vb kb ch0 ch1 h0 n0 v U'.heap L ∧ FrameEnd s o U' L ({ frames := 1, cells := 1, slots := 2, locals := 26 } : Room).cells ({ frames := 1, cells := 1, slots := 2, locals := 26 } : Room).slots
set_option maxRecDepth 65536 in
set_option maxHeartbeats 40000000 in
theorem rm19c1 (l : Launch) (Z : State) (aV : Array Value) (hw : ∀ d ∈ tables_1, d.before aV Z = true) (ws : List Jvm.Cond) (vb : Addr) (kb : ClassId) (ch0 : Int32) (ch1 : Int32) (h0 : Heap) (n0 : Nat) (Z0 : n0 ≤ h0.size) (E_vb : Exa Z h0 vb "[B") (V_vb : Arv Z h0 vb kb .byte (3 : Int32) [(.int ch0), (.int ch1), (.int (0 : Int32))] (.int (0 : Int32))) :
    MetFree l (⟨"java/util/Arrays", "copyOfRangeByte", "([BII)[B"⟩ : MethodName) (head1 (Jvm.Cond.code (⟨"java/util/Arrays", "copyOfRangeByte", "([BII)[B"⟩ : MethodName) jdk_65_method_133_code 5 (some (.array .byte)) :: ws) ({ frames := 1, cells := 1, slots := 2, locals := 26 } : Room)) (fun a U => a = #[(.ref vb), (.int (0 : Int32)), (.int (2 : Int32))] ∧ Z.Warmed39 U.vm ∧ U.heap = h0) (fun _ _ _ _ _ => True) (fun _ U o U' => ∃ v L, o = .returned v ∧ Q19c1 Z vb kb ch0 ch1 h0 n0 v U'.heap L ∧ FrameEnd U o U' L ({ frames := 1, cells := 1, slots := 2, locals := 26 } : Room).cells ({ frames := 1, cells := 1, slots := 2, locals := 26 } : Room).slots) := by
  refine MetFree.of_bodySF (plainFor_of_name pn_java_util_Arrays) hisR ?_
  intro p e s m args below meth c s₁ Bd hml0 hP hK
  obtain ⟨rfl, hZ, hh⟩ := hP
  have hx := Bd.exec
  have hby := Bd.bytes
  have hml : c.maxLocals = 5 := hml0
  have hown : s.vm.findClass "java/util/Arrays" = some m.cls := findClass_of_methodNamed Bd.named
  have hnm := (name_of_methodNamed Bd.named Bd.method).1
  have X0 : Stand p l e ({ frames := 1, cells := 1, slots := 2, locals := 26 } : Room) s m #[(.ref vb), (.int (0 : Int32)), (.int (2 : Int32))] below meth c s₁ [] 0 0 := Stand.of_body Bd
  have e0 : s₁.heap = h0 := by rw [← hh, Bd.state]; rfl
  have efx : entryFrame m #[(.ref vb), (.int (0 : Int32)), (.int (2 : Int32))] 5 = mkF m 0 #[.val (.ref vb), .val (.int (0 : Int32)), .val (.int (2 : Int32)), .unset, .unset] [] := by first | (simp [entryFrame, mkF, argsToLocals, Value.category]; done) | rfl
  have N0 := Fr.nil n0
  have K0 : Keep h0 h0 [] := Keep.refl h0 _
  refine OGo.start (g' := mkF m 0 #[.val (.ref vb), .val (.int (0 : Int32)), .val (.int (2 : Int32)), .unset, .unset] []) (efx) ?_
  show OGo p.tables e below (P19c1 Z vb kb ch0 ch1 h0 n0 s) (s₁.setTop (mkF m 0 #[.val (.ref vb), .val (.int (0 : Int32)), .val (.int (2 : Int32)), .unset, .unset] []))
  refine OGo.go (B := s₁.setTop (mkF m 1 #[.val (.ref vb), .val (.int (0 : Int32)), .val (.int (2 : Int32)), .unset, .unset] [(.int (0 : Int32))])) ?_ (fun tX kX => XS.iloadN X0.here hx rfl (hb hby d19_0) rfl kX)
  refine OGo.go (B := s₁.setTop (mkF m 2 #[.val (.ref vb), .val (.int (0 : Int32)), .val (.int (2 : Int32)), .unset, .unset] [(.int (2 : Int32)), (.int (0 : Int32))])) ?_ (fun tX kX => XS.iloadN X0.here hx rfl (hb hby d19_1) rfl kX)
  obtain ⟨_, _, ⟨T1, L1, k1, n1⟩, -, X1, ⟨Lc1, hQ1, l1, y1, z1⟩, st1⟩ := Jvm.LawKit.callS X0 hx (y := (⟨"java/util/Arrays", "checkLength", "(II)V"⟩ : MethodName)) hown (mvT hZ (hw _ (List.mem_of_getElem? (i := 117) rfl))) (mvT hZ (hw _ (List.mem_of_getElem? (i := 118) rfl))) (mvT hZ (hw _ (List.mem_of_getElem? (i := 66) rfl))) (mvT hZ (hw _ (List.mem_of_getElem? (i := 119) rfl))) (by decide) (backOf (W := 0) (rm20 l Z aV hw [] (0 : Int32) (2 : Int32) h0 n0 Z0 (by decide)) hZ (hw _ (List.mem_of_getElem? (i := 119) rfl)) (hw _ (List.mem_of_getElem? (i := 66) rfl)) (by decide) (by decide)) (g := (mkF m 2 #[.val (.ref vb), .val (.int (0 : Int32)), .val (.int (2 : Int32)), .unset, .unset] [(.int (2 : Int32)), (.int (0 : Int32))])) rfl (by rw [hml]; rfl) (argsL := [(.int (0 : Int32)), (.int (2 : Int32))]) (rest := []) (lenOf pd__II_V rfl) rfl (by show 2 * 0 + _ ≤ _; exact Nat.le_of_eq rfl) (hb hby d19_2) (fun _ _ => ⟨rfl, e0, (by decide : 0 + 0 ≤ _), (by decide : 0 + 0 ≤ _)⟩)
  dsimp only [Pt.U, Pt.locs, Pt.cells, Pt.slots] at X1 l1 y1 z1 st1 hQ1
  subst l1 y1 z1
  obtain ⟨rfl, N1q, e1⟩ := hQ1
  have N1 := Fr.app N0 N1q
  refine OGo.go (B := T1.setTop (mkF m 5 #[.val (.ref vb), .val (.int (0 : Int32)), .val (.int (2 : Int32)), .unset, .unset] [])) ?_ st1
  refine OGo.go (B := T1.setTop (mkF m 6 #[.val (.ref vb), .val (.int (0 : Int32)), .val (.int (2 : Int32)), .unset, .unset] [(.int (2 : Int32))])) ?_ (fun tX kX => XS.iloadN X1.here hx rfl (hb hby d19_5) rfl kX)
  refine OGo.go (B := T1.setTop (mkF m 7 #[.val (.ref vb), .val (.int (0 : Int32)), .val (.int (2 : Int32)), .unset, .unset] [(.int (0 : Int32)), (.int (2 : Int32))])) ?_ (fun tX kX => XS.iloadN X1.here hx rfl (hb hby d19_6) rfl kX)
  refine OGo.go (B := T1.setTop (mkF m 8 #[.val (.ref vb), .val (.int (0 : Int32)), .val (.int (2 : Int32)), .unset, .unset] [(.int (2 : Int32))])) ?_ (fun tX kX => XS.isub X1.here hx rfl (hb hby d19_7) rfl kX)
  refine OGo.go (B := T1.setTop (mkF m 9 #[.val (.ref vb), .val (.int (0 : Int32)), .val (.int (2 : Int32)), .val (.int (2 : Int32)), .unset] [])) ?_ (fun tX kX => XS.istoreN X1.here hx rfl (hb hby d19_8) rfl (l' := #[.val (.ref vb), .val (.int (0 : Int32)), .val (.int (2 : Int32)), .val (.int (2 : Int32)), .unset]) rfl kX)
  refine OGo.go (B := T1.setTop (mkF m 10 #[.val (.ref vb), .val (.int (0 : Int32)), .val (.int (2 : Int32)), .val (.int (2 : Int32)), .unset] [(.int (2 : Int32))])) ?_ (fun tX kX => XS.iloadN X1.here hx rfl (hb hby d19_9) rfl kX)
  obtain ⟨T2, h2, k2, X2, e2, E2, A2, EA2, st2⟩ := newPE X1 hx hZ (hw _ (List.mem_of_getElem? (i := 0) rfl)) e1 (g := (mkF m 10 #[.val (.ref vb), .val (.int (0 : Int32)), .val (.int (2 : Int32)), .val (.int (2 : Int32)), .unset] [(.int (2 : Int32))])) rfl (hb hby d19_10) rfl (by decide) (cap := 2) (by decide) (by decide) (by decide) (by decide) (ad := "[B") (by decide)
  obtain ⟨b2, g2⟩ : ∃ z, z = h0.size := ⟨_, rfl⟩
  rw [← g2] at A2 EA2 st2
  have ne_vb_b2 : vb ≠ b2 := Nat.ne_of_lt (Nat.lt_of_lt_of_le E_vb.lt (Nat.le_of_eq g2.symm))
  have E_vb := E_vb.ext E2
  have V_vb := V_vb.ext E2
  have g_b2 : n0 ≤ b2 := Nat.le_trans Z0 (Nat.le_of_eq g2.symm)
  have sz_b2 : h0.size ≤ b2 := Nat.le_trans K0.1 (Nat.le_of_eq g2.symm)
  have zn2 : n0 ≤ h2.size := Nat.le_trans Z0 E2.1
  have K2 := K0.ext E2
  have E_b2 := EA2
  have V_b2 : Arv Z h2 b2 k2 .byte (2 : Int32) [(.int (0 : Int32)), (.int (0 : Int32))] (.int (0 : Int32)) := (Arv.new A2 (by decide)).pad (pad_rep [] (.int (0 : Int32)) 2)
  refine OGo.go (B := T2.setTop (mkF m 12 #[.val (.ref vb), .val (.int (0 : Int32)), .val (.int (2 : Int32)), .val (.int (2 : Int32)), .unset] [(.ref b2)])) ?_ st2
  refine OGo.go (B := T2.setTop (mkF m 14 #[.val (.ref vb), .val (.int (0 : Int32)), .val (.int (2 : Int32)), .val (.int (2 : Int32)), .val (.ref b2)] [])) ?_ (fun tX kX => XS.astore X2.here hx rfl (hb hby d19_12) rfl rfl (l' := #[.val (.ref vb), .val (.int (0 : Int32)), .val (.int (2 : Int32)), .val (.int (2 : Int32)), .val (.ref b2)]) rfl kX)
  refine OGo.go (B := T2.setTop (mkF m 15 #[.val (.ref vb), .val (.int (0 : Int32)), .val (.int (2 : Int32)), .val (.int (2 : Int32)), .val (.ref b2)] [(.ref vb)])) ?_ (fun tX kX => XS.aloadN X2.here hx rfl (hb hby d19_14) rfl rfl kX)
  refine OGo.go (B := T2.setTop (mkF m 16 #[.val (.ref vb), .val (.int (0 : Int32)), .val (.int (2 : Int32)), .val (.int (2 : Int32)), .val (.ref b2)] [(.int (0 : Int32)), (.ref vb)])) ?_ (fun tX kX => XS.iloadN X2.here hx rfl (hb hby d19_15) rfl kX)
  refine OGo.go (B := T2.setTop (mkF m 18 #[.val (.ref vb), .val (.int (0 : Int32)), .val (.int (2 : Int32)), .val (.int (2 : Int32)), .val (.ref b2)] [(.ref b2), (.int (0 : Int32)), (.ref vb)])) ?_ (fun tX kX => XS.aload X2.here hx rfl (hb hby d19_16) rfl rfl kX)
  refine OGo.go (B := T2.setTop (mkF m 19 #[.val (.ref vb), .val (.int (0 : Int32)), .val (.int (2 : Int32)), .val (.int (2 : Int32)), .val (.ref b2)] [(.int (0 : Int32)), (.ref b2), (.int (0 : Int32)), (.ref vb)])) ?_ (fun tX kX => XS.iconst X2.here hx rfl (hb hby d19_18) kX)
  refine OGo.go (B := T2.setTop (mkF m 20 #[.val (.ref vb), .val (.int (0 : Int32)), .val (.int (2 : Int32)), .val (.int (2 : Int32)), .val (.ref b2)] [(.ref vb), (.int (0 : Int32)), (.ref b2), (.int (0 : Int32)), (.ref vb)])) ?_ (fun tX kX => XS.aloadN X2.here hx rfl (hb hby d19_19) rfl rfl kX)
  obtain ⟨cl3, Ar3, qa3, S3, N3', H3, G3⟩ := id V_vb
  refine OGo.go (B := T2.setTop (mkF m 21 #[.val (.ref vb), .val (.int (0 : Int32)), .val (.int (2 : Int32)), .val (.int (2 : Int32)), .val (.ref b2)] [(.int (3 : Int32)), (.int (0 : Int32)), (.ref b2), (.int (0 : Int32)), (.ref vb)])) ?_ (fun tX kX => X2.arraylength hx (by rw [e2]; exact Ar3.1) (State.isArrayOf_alike hZ.alike Ar3.2.1) (g := (mkF m 20 #[.val (.ref vb), .val (.int (0 : Int32)), .val (.int (2 : Int32)), .val (.int (2 : Int32)), .val (.ref b2)] [(.ref vb), (.int (0 : Int32)), (.ref b2), (.int (0 : Int32)), (.ref vb)])) rfl rfl (hb hby d19_20) _ (by rw [len_of S3 N3']; exact kX))
  refine OGo.go (B := T2.setTop (mkF m 22 #[.val (.ref vb), .val (.int (0 : Int32)), .val (.int (2 : Int32)), .val (.int (2 : Int32)), .val (.ref b2)] [(.int (0 : Int32)), (.int (3 : Int32)), (.int (0 : Int32)), (.ref b2), (.int (0 : Int32)), (.ref vb)])) ?_ (fun tX kX => XS.iloadN X2.here hx rfl (hb hby d19_21) rfl kX)
  refine OGo.go (B := T2.setTop (mkF m 23 #[.val (.ref vb), .val (.int (0 : Int32)), .val (.int (2 : Int32)), .val (.int (2 : Int32)), .val (.ref b2)] [(.int (3 : Int32)), (.int (0 : Int32)), (.ref b2), (.int (0 : Int32)), (.ref vb)])) ?_ (fun tX kX => XS.isub X2.here hx rfl (hb hby d19_22) rfl kX)
  refine OGo.go (B := T2.setTop (mkF m 24 #[.val (.ref vb), .val (.int (0 : Int32)), .val (.int (2 : Int32)), .val (.int (2 : Int32)), .val (.ref b2)] [(.int (2 : Int32)), (.int (3 : Int32)), (.int (0 : Int32)), (.ref b2), (.int (0 : Int32)), (.ref vb)])) ?_ (fun tX kX => XS.iloadN X2.here hx rfl (hb hby d19_23) rfl kX)
  obtain ⟨_, _, ⟨T4, L4, k4, n4⟩, -, X4, ⟨Lc4, hQ4, l4, y4, z4⟩, st4⟩ := Jvm.LawKit.callS X2 hx (y := (⟨"java/lang/Math", "min", "(II)I"⟩ : MethodName)) hown (mvT hZ (hw _ (List.mem_of_getElem? (i := 120) rfl))) (mvT hZ (hw _ (List.mem_of_getElem? (i := 121) rfl))) (mvT hZ (hw _ (List.mem_of_getElem? (i := 122) rfl))) (mvT hZ (hw _ (List.mem_of_getElem? (i := 123) rfl))) (by decide) (backOf (W := 4) (rm21g l Z aV hw [] (3 : Int32) (2 : Int32) h2 n0 zn2 (by decide)) hZ (hw _ (List.mem_of_getElem? (i := 123) rfl)) (hw _ (List.mem_of_getElem? (i := 122) rfl)) (by decide) (by decide)) (g := (mkF m 24 #[.val (.ref vb), .val (.int (0 : Int32)), .val (.int (2 : Int32)), .val (.int (2 : Int32)), .val (.ref b2)] [(.int (2 : Int32)), (.int (3 : Int32)), (.int (0 : Int32)), (.ref b2), (.int (0 : Int32)), (.ref vb)])) rfl (by rw [hml]; rfl) (argsL := [(.int (3 : Int32)), (.int (2 : Int32))]) (rest := [(.int (0 : Int32)), (.ref b2), (.int (0 : Int32)), (.ref vb)]) (lenOf pd__II_I rfl) rfl (by show 2 * 0 + _ ≤ _; exact Nat.le_of_eq rfl) (hb hby d19_24) (fun _ _ => ⟨rfl, e2, (by decide : 1 + 0 ≤ _), (by decide : 2 + 0 ≤ _)⟩)
  dsimp only [Pt.U, Pt.locs, Pt.cells, Pt.slots] at X4 l4 y4 z4 st4 hQ4
  subst l4 y4 z4
  obtain ⟨rfl, N4q, e4⟩ := hQ4
  have N4 := Fr.app N1 N4q
  refine OGo.go (B := T4.setTop (mkF m 27 #[.val (.ref vb), .val (.int (0 : Int32)), .val (.int (2 : Int32)), .val (.int (2 : Int32)), .val (.ref b2)] [(.int (2 : Int32)), (.int (0 : Int32)), (.ref b2), (.int (0 : Int32)), (.ref vb)])) ?_ st4
  obtain ⟨T5, h5, L5, X5, e5, N5, Kq5, V5, st5⟩ := cpA X4 hx hZ hown (hw _ (List.mem_of_getElem? (i := 124) rfl)) (hw _ (List.mem_of_getElem? (i := 127) rfl)) (hw _ (List.mem_of_getElem? (i := 125) rfl)) (hw _ (List.mem_of_getElem? (i := 126) rfl)) e4 (sp := (0 : Int32)) (dp := (0 : Int32)) (nn := (2 : Int32)) (us := [(.int ch0), (.int ch1)]) V_vb V_b2 (Or.inl ⟨rfl, rfl⟩) (by decide) (by decide) (by decide) (by decide) (by decide) rfl (Nat.le_of_ble_eq_true rfl) N4 g_b2 (g := (mkF m 27 #[.val (.ref vb), .val (.int (0 : Int32)), .val (.int (2 : Int32)), .val (.int (2 : Int32)), .val (.ref b2)] [(.int (2 : Int32)), (.int (0 : Int32)), (.ref b2), (.int (0 : Int32)), (.ref vb)])) rfl (by rw [hml]; rfl) rfl (hb hby d19_27) (by decide) (W := 0) (by show 2 * 0 + _ ≤ _; exact Nat.le_of_eq rfl) (by decide)
  have E_vb := E_vb.keep Kq5
  have V_vb := V_vb.keep Kq5 (ninS ne_vb_b2 nin0)
  have E_b2 := E_b2.keep Kq5
  have K5 := K2.trans Kq5 (allS (P := fun x => x ∈ ([] : List Addr) ∨ h0.size ≤ x) (Or.inr sz_b2) all0)
  have zn5 : n0 ≤ h5.size := Nat.le_trans zn2 Kq5.1
  have V_b2 : Arv Z h5 b2 k2 .byte (2 : Int32) [(.int ch0), (.int ch1)] (.int (0 : Int32)) := V5
  refine OGo.go (B := T5.setTop (mkF m 30 #[.val (.ref vb), .val (.int (0 : Int32)), .val (.int (2 : Int32)), .val (.int (2 : Int32)), .val (.ref b2)] [])) ?_ st5
  refine OGo.go (B := T5.setTop (mkF m 32 #[.val (.ref vb), .val (.int (0 : Int32)), .val (.int (2 : Int32)), .val (.int (2 : Int32)), .val (.ref b2)] [(.ref b2)])) ?_ (fun tX kX => XS.aload X5.here hx rfl (hb hby d19_30) rfl rfl kX)
  refine OGo.ret X5 (v := (some (.ref b2))) (fun h => by rw [Bd.returns] at h; cases h) (BodyLoose.notSynchronized Bd) (fun fs hr => retOut X5 hx Bd.returns rfl (Or.inr (Or.inr (Or.inr (Or.inr ⟨rfl, rfl, rfl⟩)))) (hb hby d19_32) hr) (Q := Q19c1 Z vb kb ch0 ch1 h0 n0) ?_ (by decide) (by decide)
  show Q19c1 Z vb kb ch0 ch1 h0 n0 _ T5.heap _
  rw [e5]
  exact ⟨b2, k2, rfl, N5, K5, sz_b2, E_b2, V_b2⟩
theorem d12_10 : decode jdk_65_method_132_code 10 = .ok (.aload_n 0, 1) := by decide +kernel
theorem d12_11 : decode jdk_65_method_132_code 11 = .ok (.iload_n 1, 1) := by decide +kernel
theorem d12_12 : decode jdk_65_method_132_code 12 = .ok (.iload_n 2, 1) := by decide +kernel
theorem d12_13 : decode jdk_65_method_132_code 13 = .ok (.invokestatic 339, 3) := by decide +kernel
theorem d12_16 : decode jdk_65_method_132_code 16 = .ok (.areturn, 1) := by decide +kernel
def Q12c1 (Z : State) (vb : Addr) (kb : ClassId) (ch0 : Int32) (ch1 : Int32) (h0 : Heap) (n0 : Nat) (v : Option Value) (h : Heap) (L : List Loc) : Prop := ∃ (nb : Addr) (kn : ClassId), v = some (.ref nb) ∧ Fr n0 L ∧ Keep h0 h [] ∧ h0.size ≤ nb ∧ Exa Z h nb "[B" ∧ Arv Z h nb kn .byte (2 : Int32) [(.int ch0), (.int ch1)] (.int (0 : Int32))
def P12c1 (Z : State) (vb : Addr) (kb : ClassId) (ch0 : Int32) (ch1 : Int32) (h0 : Heap) (n0 : Nat) (s : State) (o : Outcome) (U' : State) : Prop := ∃ v L, o = .returned v ∧ Q12c1 Z vb kb ch0 ch1 h0 n0 v U'.heap L ∧ FrameEnd s o U' L ({ frames := 2, cells := 1, slots := 2, locals := 42 } : Room).cells ({ frames := 2, cells := 1, slots := 2, locals := 42 } : Room).slots
set_option maxRecDepth 65536 in
set_option maxHeartbeats 40000000 in
theorem rm12c1 (l : Launch) (Z : State) (aV : Array Value) (hw : ∀ d ∈ tables_1, d.before aV Z = true) (ws : List Jvm.Cond) (vb : Addr) (kb : ClassId) (ch0 : Int32) (ch1 : Int32) (h0 : Heap) (n0 : Nat) (Z0 : n0 ≤ h0.size) (E_vb : Exa Z h0 vb "[B") (V_vb : Arv Z h0 vb kb .byte (3 : Int32) [(.int ch0), (.int ch1), (.int (0 : Int32))] (.int (0 : Int32))) :
    MetFree l (⟨"java/util/Arrays", "copyOfRange", "([BII)[B"⟩ : MethodName) (head1 (Jvm.Cond.code (⟨"java/util/Arrays", "copyOfRange", "([BII)[B"⟩ : MethodName) jdk_65_method_132_code 3 (some (.array .byte)) :: ws) ({ frames := 2, cells := 1, slots := 2, locals := 42 } : Room)) (fun a U => a = #[(.ref vb), (.int (0 : Int32)), (.int (2 : Int32))] ∧ Z.Warmed39 U.vm ∧ U.heap = h0) (fun _ _ _ _ _ => True) (fun _ U o U' => ∃ v L, o = .returned v ∧ Q12c1 Z vb kb ch0 ch1 h0 n0 v U'.heap L ∧ FrameEnd U o U' L ({ frames := 2, cells := 1, slots := 2, locals := 42 } : Room).cells ({ frames := 2, cells := 1, slots := 2, locals := 42 } : Room).slots) := by
  refine MetFree.of_bodySF (plainFor_of_name pn_java_util_Arrays) hisR ?_
  intro p e s m args below meth c s₁ Bd hml0 hP hK
  obtain ⟨rfl, hZ, hh⟩ := hP
  have hx := Bd.exec
  have hby := Bd.bytes
  have hml : c.maxLocals = 3 := hml0
  have hown : s.vm.findClass "java/util/Arrays" = some m.cls := findClass_of_methodNamed Bd.named
  have hnm := (name_of_methodNamed Bd.named Bd.method).1
  have X0 : Stand p l e ({ frames := 2, cells := 1, slots := 2, locals := 42 } : Room) s m #[(.ref vb), (.int (0 : Int32)), (.int (2 : Int32))] below meth c s₁ [] 0 0 := Stand.of_body Bd
  have e0 : s₁.heap = h0 := by rw [← hh, Bd.state]; rfl
  have efx : entryFrame m #[(.ref vb), (.int (0 : Int32)), (.int (2 : Int32))] 3 = mkF m 0 #[.val (.ref vb), .val (.int (0 : Int32)), .val (.int (2 : Int32))] [] := by first | (simp [entryFrame, mkF, argsToLocals, Value.category]; done) | rfl
  have N0 := Fr.nil n0
  have K0 : Keep h0 h0 [] := Keep.refl h0 _
  refine OGo.start (g' := mkF m 0 #[.val (.ref vb), .val (.int (0 : Int32)), .val (.int (2 : Int32))] []) (efx) ?_
  show OGo p.tables e below (P12c1 Z vb kb ch0 ch1 h0 n0 s) (s₁.setTop (mkF m 0 #[.val (.ref vb), .val (.int (0 : Int32)), .val (.int (2 : Int32))] []))
  refine OGo.go (B := s₁.setTop (mkF m 1 #[.val (.ref vb), .val (.int (0 : Int32)), .val (.int (2 : Int32))] [(.int (0 : Int32))])) ?_ (fun tX kX => XS.iloadN X0.here hx rfl (hb hby d12_0) rfl kX)
  refine OGo.go (B := s₁.setTop (mkF m 4 #[.val (.ref vb), .val (.int (0 : Int32)), .val (.int (2 : Int32))] [])) ?_ (fun tX kX => XS.ifNo X0.here hx rfl (hb hby d12_1) rfl ((if0 _ _).trans (teq (by decide)).2) kX)
  refine OGo.go (B := s₁.setTop (mkF m 5 #[.val (.ref vb), .val (.int (0 : Int32)), .val (.int (2 : Int32))] [(.int (2 : Int32))])) ?_ (fun tX kX => XS.iloadN X0.here hx rfl (hb hby d12_4) rfl kX)
  refine OGo.go (B := s₁.setTop (mkF m 6 #[.val (.ref vb), .val (.int (0 : Int32)), .val (.int (2 : Int32))] [(.ref vb), (.int (2 : Int32))])) ?_ (fun tX kX => XS.aloadN X0.here hx rfl (hb hby d12_5) rfl rfl kX)
  obtain ⟨cl1, Ar1, qa1, S1, N1', H1, G1⟩ := id V_vb
  refine OGo.go (B := s₁.setTop (mkF m 7 #[.val (.ref vb), .val (.int (0 : Int32)), .val (.int (2 : Int32))] [(.int (3 : Int32)), (.int (2 : Int32))])) ?_ (fun tX kX => X0.arraylength hx (by rw [e0]; exact Ar1.1) (State.isArrayOf_alike hZ.alike Ar1.2.1) (g := (mkF m 6 #[.val (.ref vb), .val (.int (0 : Int32)), .val (.int (2 : Int32))] [(.ref vb), (.int (2 : Int32))])) rfl rfl (hb hby d12_6) _ (by rw [len_of S1 N1']; exact kX))
  refine OGo.go (B := s₁.setTop (mkF m 10 #[.val (.ref vb), .val (.int (0 : Int32)), .val (.int (2 : Int32))] [])) ?_ (fun tX kX => XS.icmpNo X0.here hx rfl (hb hby d12_7) rfl (feq (by decide)).1 kX)
  refine OGo.go (B := s₁.setTop (mkF m 11 #[.val (.ref vb), .val (.int (0 : Int32)), .val (.int (2 : Int32))] [(.ref vb)])) ?_ (fun tX kX => XS.aloadN X0.here hx rfl (hb hby d12_10) rfl rfl kX)
  refine OGo.go (B := s₁.setTop (mkF m 12 #[.val (.ref vb), .val (.int (0 : Int32)), .val (.int (2 : Int32))] [(.int (0 : Int32)), (.ref vb)])) ?_ (fun tX kX => XS.iloadN X0.here hx rfl (hb hby d12_11) rfl kX)
  refine OGo.go (B := s₁.setTop (mkF m 13 #[.val (.ref vb), .val (.int (0 : Int32)), .val (.int (2 : Int32))] [(.int (2 : Int32)), (.int (0 : Int32)), (.ref vb)])) ?_ (fun tX kX => XS.iloadN X0.here hx rfl (hb hby d12_12) rfl kX)
  obtain ⟨_, _, ⟨T2, L2, k2, n2⟩, -, X2, ⟨Lc2, hQ2, l2, y2, z2⟩, st2⟩ := Jvm.LawKit.callS X0 hx (y := (⟨"java/util/Arrays", "copyOfRangeByte", "([BII)[B"⟩ : MethodName)) hown (mvT hZ (hw _ (List.mem_of_getElem? (i := 114) rfl))) (mvT hZ (hw _ (List.mem_of_getElem? (i := 115) rfl))) (mvT hZ (hw _ (List.mem_of_getElem? (i := 66) rfl))) (mvT hZ (hw _ (List.mem_of_getElem? (i := 116) rfl))) (by decide) (backOf (W := 0) (rm19c1 l Z aV hw [] vb kb ch0 ch1 h0 n0 Z0 E_vb V_vb) hZ (hw _ (List.mem_of_getElem? (i := 116) rfl)) (hw _ (List.mem_of_getElem? (i := 66) rfl)) (by decide) (by decide)) (g := (mkF m 13 #[.val (.ref vb), .val (.int (0 : Int32)), .val (.int (2 : Int32))] [(.int (2 : Int32)), (.int (0 : Int32)), (.ref vb)])) rfl (by rw [hml]; rfl) (argsL := [(.ref vb), (.int (0 : Int32)), (.int (2 : Int32))]) (rest := []) (lenOf pd___BII__B rfl) rfl (by show 2 * 0 + _ ≤ _; exact Nat.le_of_eq rfl) (hb hby d12_13) (fun _ _ => ⟨rfl, e0, (by decide : 0 + 1 ≤ _), (by decide : 0 + 2 ≤ _)⟩)
  dsimp only [Pt.U, Pt.locs, Pt.cells, Pt.slots] at X2 l2 y2 z2 st2 hQ2
  subst l2 y2 z2
  obtain ⟨nb_2, kn_2, rfl, N2q, Kq2, sz2_nb, E_nb_2_p, V_nb_2_p⟩ := hQ2
  have N2 := Fr.app N0 N2q
  have ne_vb_nb_2 : vb ≠ nb_2 := Nat.ne_of_lt (Nat.lt_of_lt_of_le E_vb.lt sz2_nb)
  have E_vb := E_vb.keep Kq2
  have V_vb := V_vb.keep Kq2 nin0
  have g_nb_2 : n0 ≤ nb_2 := Nat.le_trans Z0 sz2_nb
  have sz_nb_2 : h0.size ≤ nb_2 := Nat.le_trans K0.1 sz2_nb
  have K2 := K0.trans Kq2 all0
  have zn2 : n0 ≤ T2.heap.size := Nat.le_trans Z0 Kq2.1
  have E_nb_2 := E_nb_2_p
  have V_nb_2 := V_nb_2_p
  refine OGo.go (B := T2.setTop (mkF m 16 #[.val (.ref vb), .val (.int (0 : Int32)), .val (.int (2 : Int32))] [(.ref nb_2)])) ?_ st2
  refine OGo.ret X2 (v := (some (.ref nb_2))) (fun h => by rw [Bd.returns] at h; cases h) (BodyLoose.notSynchronized Bd) (fun fs hr => retOut X2 hx Bd.returns rfl (Or.inr (Or.inr (Or.inr (Or.inr ⟨rfl, rfl, rfl⟩)))) (hb hby d12_16) hr) (Q := Q12c1 Z vb kb ch0 ch1 h0 n0) ?_ (by decide) (by decide)
  show Q12c1 Z vb kb ch0 ch1 h0 n0 _ T2.heap _
  exact ⟨nb_2, kn_2, rfl, N2, K2, sz_nb_2, E_nb_2, V_nb_2⟩
def Q7c1 (Z : State) (a0 : Addr) (a1 : Addr) (u1 : Value) (u2 : Value) (vb : Addr) (kb : ClassId) (cs : Int32) (ch0 : Int32) (ch1 : Int32) (h0 : Heap) (n0 : Nat) (v : Option Value) (h : Heap) (L : List Loc) : Prop := ∃ (nb : Addr) (kn : ClassId), v = none ∧ Fr n0 L ∧ Keep h0 h [a0] ∧ h0.size ≤ nb ∧ Exa Z h a0 "java/lang/String" ∧ Fld Z h a0 "java/lang/String" "value" "[B" (.ref nb) ∧ Fld Z h a0 "java/lang/String" "coder" "B" (.int (0 : Int32)) ∧ Exa Z h nb "[B" ∧ Arv Z h nb kn .byte (2 : Int32) [(.int ch0), (.int ch1)] (.int (0 : Int32))
def P7c1 (Z : State) (a0 : Addr) (a1 : Addr) (u1 : Value) (u2 : Value) (vb : Addr) (kb : ClassId) (cs : Int32) (ch0 : Int32) (ch1 : Int32) (h0 : Heap) (n0 : Nat) (s : State) (o : Outcome) (U' : State) : Prop := ∃ v L, o = .returned v ∧ Q7c1 Z a0 a1 u1 u2 vb kb cs ch0 ch1 h0 n0 v U'.heap L ∧ FrameEnd s o U' L ({ frames := 3, cells := 1, slots := 2, locals := 57 } : Room).cells ({ frames := 3, cells := 1, slots := 2, locals := 57 } : Room).slots
set_option maxRecDepth 65536 in
set_option maxHeartbeats 40000000 in
theorem rm7c1 (l : Launch) (Z : State) (aV : Array Value) (hw : ∀ d ∈ tables_1, d.before aV Z = true) (ws : List Jvm.Cond) (a0 : Addr) (a1 : Addr) (u1 : Value) (u2 : Value) (vb : Addr) (kb : ClassId) (cs : Int32) (ch0 : Int32) (ch1 : Int32) (h0 : Heap) (n0 : Nat) (Z0 : n0 ≤ h0.size) (E_a0 : Exa Z h0 a0 "java/lang/String") (F_value_a0 : Fld Z h0 a0 "java/lang/String" "value" "[B" u1) (F_coder_a0 : Fld Z h0 a0 "java/lang/String" "coder" "B" u2) (E_a1 : Exa Z h0 a1 "java/lang/StringBuilder") (F_value_a1 : Fld Z h0 a1 "java/lang/AbstractStringBuilder" "value" "[B" (.ref vb)) (F_coder_a1 : Fld Z h0 a1 "java/lang/AbstractStringBuilder" "coder" "B" (.int (0 : Int32))) (F_count_a1 : Fld Z h0 a1 "java/lang/AbstractStringBuilder" "count" "I" (.int (2 : Int32))) (E_vb : Exa Z h0 vb "[B") (V_vb : Arv Z h0 vb kb .byte (3 : Int32) [(.int ch0), (.int ch1), (.int (0 : Int32))] (.int (0 : Int32))) (S_COMPACT_STRINGS : Sta Z h0 "java/lang/String" "COMPACT_STRINGS" "Z" (.int cs)) (ga : n0 ≤ a0) (n01 : a1 ≠ a0) (n0v : vb ≠ a0) (hcs : ¬ cs = 0) :
    MetFree l (⟨"java/lang/String", "<init>", "(Ljava/lang/AbstractStringBuilder;Ljava/lang/Void;)V"⟩ : MethodName) (head1 (Jvm.Cond.code (⟨"java/lang/String", "<init>", "(Ljava/lang/AbstractStringBuilder;Ljava/lang/Void;)V"⟩ : MethodName) jdk_42_method_150_code 5 none :: ws) ({ frames := 3, cells := 1, slots := 2, locals := 57 } : Room)) (fun a U => a = #[(.ref a0), (.ref a1), .null] ∧ Z.Warmed39 U.vm ∧ U.heap = h0) (fun _ _ _ _ _ => True) (fun _ U o U' => ∃ v L, o = .returned v ∧ Q7c1 Z a0 a1 u1 u2 vb kb cs ch0 ch1 h0 n0 v U'.heap L ∧ FrameEnd U o U' L ({ frames := 3, cells := 1, slots := 2, locals := 57 } : Room).cells ({ frames := 3, cells := 1, slots := 2, locals := 57 } : Room).slots) := by
  refine MetFree.of_bodySF (plainFor_of_name pn_java_lang_String) hisR ?_
  intro p e s m args below meth c s₁ Bd hml0 hP hK
  obtain ⟨rfl, hZ, hh⟩ := hP
  have hx := Bd.exec
  have hby := Bd.bytes
  have hml : c.maxLocals = 5 := hml0
  have hown : s.vm.findClass "java/lang/String" = some m.cls := findClass_of_methodNamed Bd.named
  have hnm := (name_of_methodNamed Bd.named Bd.method).1
  have X0 : Stand p l e ({ frames := 3, cells := 1, slots := 2, locals := 57 } : Room) s m #[(.ref a0), (.ref a1), .null] below meth c s₁ [] 0 0 := Stand.of_body Bd
  have e0 : s₁.heap = h0 := by rw [← hh, Bd.state]; rfl
  have efx : entryFrame m #[(.ref a0), (.ref a1), .null] 5 = mkF m 0 #[.val (.ref a0), .val (.ref a1), .val .null, .unset, .unset] [] := by first | (simp [entryFrame, mkF, argsToLocals, Value.category]; done) | rfl
  have N0 := Fr.nil n0
  have K0 : Keep h0 h0 [a0] := Keep.refl h0 _
  refine OGo.start (g' := mkF m 0 #[.val (.ref a0), .val (.ref a1), .val .null, .unset, .unset] []) (efx) ?_
  show OGo p.tables e below (P7c1 Z a0 a1 u1 u2 vb kb cs ch0 ch1 h0 n0 s) (s₁.setTop (mkF m 0 #[.val (.ref a0), .val (.ref a1), .val .null, .unset, .unset] []))
  refine OGo.go (B := s₁.setTop (mkF m 1 #[.val (.ref a0), .val (.ref a1), .val .null, .unset, .unset] [(.ref a0)])) ?_ (fun tX kX => XS.aloadN X0.here hx rfl (hb hby d7_0) rfl rfl kX)
  obtain ⟨T1, X1, e1, st1⟩ := initO X0 hx hZ hown (hw _ (List.mem_of_getElem? (i := 40) rfl)) (hw _ (List.mem_of_getElem? (i := 18) rfl)) (hw _ (List.mem_of_getElem? (i := 19) rfl)) e0 (g := (mkF m 1 #[.val (.ref a0), .val (.ref a1), .val .null, .unset, .unset] [(.ref a0)])) rfl (by rw [hml]; rfl) rfl (hb hby d7_1) (by decide) (W := 0) (by show 2 * 0 + _ ≤ _; exact Nat.le_of_eq rfl) (by decide)
  refine OGo.go (B := T1.setTop (mkF m 4 #[.val (.ref a0), .val (.ref a1), .val .null, .unset, .unset] [])) ?_ st1
  refine OGo.go (B := T1.setTop (mkF m 5 #[.val (.ref a0), .val (.ref a1), .val .null, .unset, .unset] [(.ref a1)])) ?_ (fun tX kX => XS.aloadN X1.here hx rfl (hb hby d7_4) rfl rfl kX)
  obtain ⟨cq2, kq2, q2a, q2b, q2c⟩ := isOf hZ e1 E_a1
  obtain ⟨_, _, ⟨T2, L2, k2, n2⟩, -, X2, ⟨Lc2, hQ2, l2, y2, z2⟩, st2⟩ := X1.virtualBack hx (y := (⟨"java/lang/AbstractStringBuilder", "getValue", "()[B"⟩ : MethodName)) (z := (⟨"java/lang/AbstractStringBuilder", "getValue", "()[B"⟩ : MethodName)) hown (mvT hZ (hw _ (List.mem_of_getElem? (i := 41) rfl))) (mvT hZ (hw _ (List.mem_of_getElem? (i := 42) rfl))) (notFace_of_selects (args := #[]) (mvT hZ (hw _ (List.mem_of_getElem? (i := 44) rfl)))) (mvT hZ (hw _ (List.mem_of_getElem? (i := 44) rfl))) (mvT hZ (hw _ (List.mem_of_getElem? (i := 43) rfl))) (by decide) (backOf (W := 0) (rm8 l Z aV hw [] a1 vb h0 n0 Z0 F_value_a1) hZ (hw _ (List.mem_of_getElem? (i := 45) rfl)) (hw _ (List.mem_of_getElem? (i := 15) rfl)) (by decide) (by decide)) q2a q2c (g := (mkF m 5 #[.val (.ref a0), .val (.ref a1), .val .null, .unset, .unset] [(.ref a1)])) rfl (by rw [hml]; rfl) (Steps.refl _) (argsL := []) (rest := []) (lenOf pd____B rfl) rfl (by show 2 * 0 + _ ≤ _; exact Nat.le_of_eq rfl) (hb hby d7_5) (fun _ _ => ⟨rfl, e1, (by decide : 0 + 0 ≤ _), (by decide : 0 + 0 ≤ _)⟩)
  dsimp only [Pt.U, Pt.locs, Pt.cells, Pt.slots] at X2 l2 y2 z2 st2 hQ2
  subst l2 y2 z2
  obtain ⟨rfl, N2q, e2⟩ := hQ2
  have N2 := Fr.app N0 N2q
  refine OGo.go (B := T2.setTop (mkF m 8 #[.val (.ref a0), .val (.ref a1), .val .null, .unset, .unset] [(.ref vb)])) ?_ (fun tX kX => st2.trans kX)
  refine OGo.go (B := T2.setTop (mkF m 9 #[.val (.ref a0), .val (.ref a1), .val .null, .val (.ref vb), .unset] [])) ?_ (fun tX kX => XS.astoreN X2.here hx rfl (hb hby d7_8) rfl rfl (l' := #[.val (.ref a0), .val (.ref a1), .val .null, .val (.ref vb), .unset]) rfl kX)
  refine OGo.go (B := T2.setTop (mkF m 10 #[.val (.ref a0), .val (.ref a1), .val .null, .val (.ref vb), .unset] [(.ref a1)])) ?_ (fun tX kX => XS.aloadN X2.here hx rfl (hb hby d7_9) rfl rfl kX)
  obtain ⟨cq3, kq3, q3a, q3b, q3c⟩ := isOf hZ e2 E_a1
  obtain ⟨_, _, ⟨T3, L3, k3, n3⟩, -, X3, ⟨Lc3, hQ3, l3, y3, z3⟩, st3⟩ := X2.virtualBack hx (y := (⟨"java/lang/AbstractStringBuilder", "length", "()I"⟩ : MethodName)) (z := (⟨"java/lang/StringBuilder", "length", "()I"⟩ : MethodName)) hown (mvT hZ (hw _ (List.mem_of_getElem? (i := 46) rfl))) (mvT hZ (hw _ (List.mem_of_getElem? (i := 47) rfl))) (own_nf (args := #[]) (mvT hZ (hw _ (List.mem_of_getElem? (i := 44) rfl))) rfl) (mvT hZ (hw _ (List.mem_of_getElem? (i := 49) rfl))) (mvT hZ (hw _ (List.mem_of_getElem? (i := 50) rfl))) (by decide) (backOf (W := 0) (rm9 l Z aV hw [] a1 (2 : Int32) h0 n0 Z0 E_a1 F_count_a1) hZ (hw _ (List.mem_of_getElem? (i := 51) rfl)) (hw _ (List.mem_of_getElem? (i := 7) rfl)) (by decide) (by decide)) q3a q3c (g := (mkF m 10 #[.val (.ref a0), .val (.ref a1), .val .null, .val (.ref vb), .unset] [(.ref a1)])) rfl (by rw [hml]; rfl) (Steps.refl _) (argsL := []) (rest := []) (lenOf pd___I rfl) rfl (by show 2 * 0 + _ ≤ _; exact Nat.le_of_eq rfl) (hb hby d7_10) (fun _ _ => ⟨rfl, e2, (by decide : 0 + 0 ≤ _), (by decide : 0 + 0 ≤ _)⟩)
  dsimp only [Pt.U, Pt.locs, Pt.cells, Pt.slots] at X3 l3 y3 z3 st3 hQ3
  subst l3 y3 z3
  obtain ⟨rfl, N3q, e3⟩ := hQ3
  have N3 := Fr.app N2 N3q
  refine OGo.go (B := T3.setTop (mkF m 13 #[.val (.ref a0), .val (.ref a1), .val .null, .val (.ref vb), .unset] [(.int (2 : Int32))])) ?_ (fun tX kX => st3.trans kX)
  refine OGo.go (B := T3.setTop (mkF m 15 #[.val (.ref a0), .val (.ref a1), .val .null, .val (.ref vb), .val (.int (2 : Int32))] [])) ?_ (fun tX kX => XS.istore X3.here hx rfl (hb hby d7_13) rfl (l' := #[.val (.ref a0), .val (.ref a1), .val .null, .val (.ref vb), .val (.int (2 : Int32))]) rfl kX)
  refine OGo.go (B := T3.setTop (mkF m 16 #[.val (.ref a0), .val (.ref a1), .val .null, .val (.ref vb), .val (.int (2 : Int32))] [(.ref a1)])) ?_ (fun tX kX => XS.aloadN X3.here hx rfl (hb hby d7_15) rfl rfl kX)
  obtain ⟨cq4, kq4, q4a, q4b, q4c⟩ := isOf hZ e3 E_a1
  obtain ⟨_, _, ⟨T4, L4, k4, n4⟩, -, X4, ⟨Lc4, hQ4, l4, y4, z4⟩, st4⟩ := X3.virtualBack hx (y := (⟨"java/lang/AbstractStringBuilder", "isLatin1", "()Z"⟩ : MethodName)) (z := (⟨"java/lang/AbstractStringBuilder", "isLatin1", "()Z"⟩ : MethodName)) hown (mvT hZ (hw _ (List.mem_of_getElem? (i := 57) rfl))) (mvT hZ (hw _ (List.mem_of_getElem? (i := 58) rfl))) (notFace_of_selects (args := #[]) (mvT hZ (hw _ (List.mem_of_getElem? (i := 60) rfl)))) (mvT hZ (hw _ (List.mem_of_getElem? (i := 60) rfl))) (mvT hZ (hw _ (List.mem_of_getElem? (i := 59) rfl))) (by decide) (backOf (W := 0) (rm11 l Z aV hw [] a1 cs h0 n0 Z0 F_coder_a1 S_COMPACT_STRINGS hcs) hZ (hw _ (List.mem_of_getElem? (i := 61) rfl)) (hw _ (List.mem_of_getElem? (i := 15) rfl)) (by decide) (by decide)) q4a q4c (g := (mkF m 16 #[.val (.ref a0), .val (.ref a1), .val .null, .val (.ref vb), .val (.int (2 : Int32))] [(.ref a1)])) rfl (by rw [hml]; rfl) (Steps.refl _) (argsL := []) (rest := []) (lenOf pd___Z rfl) rfl (by show 2 * 0 + _ ≤ _; exact Nat.le_of_eq rfl) (hb hby d7_16) (fun _ _ => ⟨rfl, e3, (by decide : 0 + 0 ≤ _), (by decide : 0 + 0 ≤ _)⟩)
  dsimp only [Pt.U, Pt.locs, Pt.cells, Pt.slots] at X4 l4 y4 z4 st4 hQ4
  subst l4 y4 z4
  obtain ⟨rfl, N4q, e4⟩ := hQ4
  have N4 := Fr.app N3 N4q
  refine OGo.go (B := T4.setTop (mkF m 19 #[.val (.ref a0), .val (.ref a1), .val .null, .val (.ref vb), .val (.int (2 : Int32))] [(.int (1 : Int32))])) ?_ (fun tX kX => st4.trans kX)
  refine OGo.go (B := T4.setTop (mkF m 22 #[.val (.ref a0), .val (.ref a1), .val .null, .val (.ref vb), .val (.int (2 : Int32))] [])) ?_ (fun tX kX => XS.ifNo X4.here hx rfl (hb hby d7_19) rfl ((if0 _ _).trans (feq (by decide)).1) kX)
  refine OGo.go (B := T4.setTop (mkF m 23 #[.val (.ref a0), .val (.ref a1), .val .null, .val (.ref vb), .val (.int (2 : Int32))] [(.ref a0)])) ?_ (fun tX kX => XS.aloadN X4.here hx rfl (hb hby d7_22) rfl rfl kX)
  refine OGo.go (B := T4.setTop (mkF m 24 #[.val (.ref a0), .val (.ref a1), .val .null, .val (.ref vb), .val (.int (2 : Int32))] [(.int (0 : Int32)), (.ref a0)])) ?_ (fun tX kX => XS.iconst X4.here hx rfl (hb hby d7_23) kX)
  obtain ⟨T5, h5, X5, e5, W5, st5⟩ := putF X4 hx hZ hown (host := "") (Or.inl (hw _ (List.mem_of_getElem? (i := 62) rfl))) Via.refl e4 F_coder_a0 E_a0 (Or.inr ⟨(hw _ (List.mem_of_getElem? (i := 63) rfl)), rfl, hnm⟩) (hw _ (List.mem_of_getElem? (i := 32) rfl)) (ty := .byte) (by decide) rfl rfl (g := (mkF m 24 #[.val (.ref a0), .val (.ref a1), .val .null, .val (.ref vb), .val (.int (2 : Int32))] [(.int (0 : Int32)), (.ref a0)])) rfl rfl (hb hby d7_24)
  have E_a0 := E_a0.wr W5
  have F_value_a0 := F_value_a0.other W5 (Or.inr (slot_ne (Or.inr (hw _ (List.mem_of_getElem? (i := 78) rfl))) (Or.inr (hw _ (List.mem_of_getElem? (i := 63) rfl))) (by decide) (t := (.array .byte)) (t' := .byte) (by decide) (by decide)))
  have F_coder_a0 := F_coder_a0.same W5
  have E_a1 := E_a1.wr W5
  have F_value_a1 := F_value_a1.other W5 (Or.inl n01)
  have F_coder_a1 := F_coder_a1.other W5 (Or.inl n01)
  have F_count_a1 := F_count_a1.other W5 (Or.inl n01)
  have E_vb := E_vb.wr W5
  have V_vb := V_vb.other W5 n0v
  have S_COMPACT_STRINGS := S_COMPACT_STRINGS.wr W5
  have K5 := K0.wr W5 (Or.inl (List.mem_of_getElem? (i := 0) rfl))
  have zn5 : n0 ≤ h5.size := Nat.le_trans Z0 (Keep.of_wr W5).1
  have N5 := Fr.snoc X5 N4 ga
  refine OGo.go (B := T5.setTop (mkF m 27 #[.val (.ref a0), .val (.ref a1), .val .null, .val (.ref vb), .val (.int (2 : Int32))] [])) ?_ st5
  refine OGo.go (B := T5.setTop (mkF m 28 #[.val (.ref a0), .val (.ref a1), .val .null, .val (.ref vb), .val (.int (2 : Int32))] [(.ref a0)])) ?_ (fun tX kX => XS.aloadN X5.here hx rfl (hb hby d7_27) rfl rfl kX)
  refine OGo.go (B := T5.setTop (mkF m 29 #[.val (.ref a0), .val (.ref a1), .val .null, .val (.ref vb), .val (.int (2 : Int32))] [(.ref vb), (.ref a0)])) ?_ (fun tX kX => XS.aloadN X5.here hx rfl (hb hby d7_28) rfl rfl kX)
  refine OGo.go (B := T5.setTop (mkF m 30 #[.val (.ref a0), .val (.ref a1), .val .null, .val (.ref vb), .val (.int (2 : Int32))] [(.int (0 : Int32)), (.ref vb), (.ref a0)])) ?_ (fun tX kX => XS.iconst X5.here hx rfl (hb hby d7_29) kX)
  refine OGo.go (B := T5.setTop (mkF m 32 #[.val (.ref a0), .val (.ref a1), .val .null, .val (.ref vb), .val (.int (2 : Int32))] [(.int (2 : Int32)), (.int (0 : Int32)), (.ref vb), (.ref a0)])) ?_ (fun tX kX => XS.iload X5.here hx rfl (hb hby d7_30) rfl kX)
  obtain ⟨_, _, ⟨T6, L6, k6, n6⟩, -, X6, ⟨Lc6, hQ6, l6, y6, z6⟩, st6⟩ := Jvm.LawKit.callS X5 hx (y := (⟨"java/util/Arrays", "copyOfRange", "([BII)[B"⟩ : MethodName)) hown (mvT hZ (hw _ (List.mem_of_getElem? (i := 64) rfl))) (mvT hZ (hw _ (List.mem_of_getElem? (i := 65) rfl))) (mvT hZ (hw _ (List.mem_of_getElem? (i := 66) rfl))) (mvT hZ (hw _ (List.mem_of_getElem? (i := 67) rfl))) (by decide) (backOf (W := 1) (rm12c1 l Z aV hw [] vb kb ch0 ch1 h5 n0 zn5 E_vb V_vb) hZ (hw _ (List.mem_of_getElem? (i := 67) rfl)) (hw _ (List.mem_of_getElem? (i := 66) rfl)) (by decide) (by decide)) (g := (mkF m 32 #[.val (.ref a0), .val (.ref a1), .val .null, .val (.ref vb), .val (.int (2 : Int32))] [(.int (2 : Int32)), (.int (0 : Int32)), (.ref vb), (.ref a0)])) rfl (by rw [hml]; rfl) (argsL := [(.ref vb), (.int (0 : Int32)), (.int (2 : Int32))]) (rest := [(.ref a0)]) (lenOf pd___BII__B rfl) rfl (by show 2 * 0 + _ ≤ _; exact Nat.le_of_eq rfl) (hb hby d7_32) (fun _ _ => ⟨rfl, e5, (by decide : 0 + 1 ≤ _), (by decide : 0 + 2 ≤ _)⟩)
  dsimp only [Pt.U, Pt.locs, Pt.cells, Pt.slots] at X6 l6 y6 z6 st6 hQ6
  subst l6 y6 z6
  obtain ⟨nb_6, kn_6, rfl, N6q, Kq6, sz6_nb, E_nb_6_p, V_nb_6_p⟩ := hQ6
  have N6 := Fr.app N5 N6q
  have ne_a0_nb_6 : a0 ≠ nb_6 := Nat.ne_of_lt (Nat.lt_of_lt_of_le E_a0.lt sz6_nb)
  have ne_a1_nb_6 : a1 ≠ nb_6 := Nat.ne_of_lt (Nat.lt_of_lt_of_le E_a1.lt sz6_nb)
  have ne_vb_nb_6 : vb ≠ nb_6 := Nat.ne_of_lt (Nat.lt_of_lt_of_le E_vb.lt sz6_nb)
  have S_COMPACT_STRINGS := Sta.keep0 S_COMPACT_STRINGS Kq6
  have E_a0 := E_a0.keep Kq6
  have F_value_a0 := F_value_a0.keep Kq6 nin0
  have F_coder_a0 := F_coder_a0.keep Kq6 nin0
  have E_a1 := E_a1.keep Kq6
  have F_value_a1 := F_value_a1.keep Kq6 nin0
  have F_coder_a1 := F_coder_a1.keep Kq6 nin0
  have F_count_a1 := F_count_a1.keep Kq6 nin0
  have E_vb := E_vb.keep Kq6
  have V_vb := V_vb.keep Kq6 nin0
  have g_nb_6 : n0 ≤ nb_6 := Nat.le_trans zn5 sz6_nb
  have sz_nb_6 : h0.size ≤ nb_6 := Nat.le_trans K5.1 sz6_nb
  have K6 := K5.trans Kq6 all0
  have zn6 : n0 ≤ T6.heap.size := Nat.le_trans zn5 Kq6.1
  have E_nb_6 := E_nb_6_p
  have V_nb_6 := V_nb_6_p
  refine OGo.go (B := T6.setTop (mkF m 35 #[.val (.ref a0), .val (.ref a1), .val .null, .val (.ref vb), .val (.int (2 : Int32))] [(.ref nb_6), (.ref a0)])) ?_ st6
  obtain ⟨T7, h7, X7, e7, W7, st7⟩ := putF X6 hx hZ hown (host := "") (Or.inl (hw _ (List.mem_of_getElem? (i := 77) rfl))) Via.refl rfl F_value_a0 E_a0 (Or.inr ⟨(hw _ (List.mem_of_getElem? (i := 78) rfl)), rfl, hnm⟩) (hw _ (List.mem_of_getElem? (i := 32) rfl)) (ty := (.array .byte)) (by decide) rfl rfl (g := (mkF m 35 #[.val (.ref a0), .val (.ref a1), .val .null, .val (.ref vb), .val (.int (2 : Int32))] [(.ref nb_6), (.ref a0)])) rfl rfl (hb hby d7_35)
  have E_a0 := E_a0.wr W7
  have F_value_a0 := F_value_a0.same W7
  have F_coder_a0 := F_coder_a0.other W7 (Or.inr (slot_ne (Or.inr (hw _ (List.mem_of_getElem? (i := 63) rfl))) (Or.inr (hw _ (List.mem_of_getElem? (i := 78) rfl))) (by decide) (t := .byte) (t' := (.array .byte)) (by decide) (by decide)))
  have E_a1 := E_a1.wr W7
  have F_value_a1 := F_value_a1.other W7 (Or.inl n01)
  have F_coder_a1 := F_coder_a1.other W7 (Or.inl n01)
  have F_count_a1 := F_count_a1.other W7 (Or.inl n01)
  have E_vb := E_vb.wr W7
  have V_vb := V_vb.other W7 n0v
  have S_COMPACT_STRINGS := S_COMPACT_STRINGS.wr W7
  have E_nb_6 := E_nb_6.wr W7
  have V_nb_6 := V_nb_6.other W7 (Ne.symm ne_a0_nb_6)
  have K7 := K6.wr W7 (Or.inl (List.mem_of_getElem? (i := 0) rfl))
  have zn7 : n0 ≤ h7.size := Nat.le_trans zn6 (Keep.of_wr W7).1
  have N7 := Fr.snoc X7 N6 ga
  refine OGo.go (B := T7.setTop (mkF m 38 #[.val (.ref a0), .val (.ref a1), .val .null, .val (.ref vb), .val (.int (2 : Int32))] [])) ?_ st7
  refine OGo.go (B := T7.setTop (mkF m 97 #[.val (.ref a0), .val (.ref a1), .val .null, .val (.ref vb), .val (.int (2 : Int32))] [])) ?_ (fun tX kX => XS.goto X7.here hx rfl (pc0 := 38) (pc' := 97) rfl (hb hby d7_38) (by decide) (by decide) kX)
  refine OGo.ret X7 (v := none) (fun _ => rfl) (BodyLoose.notSynchronized Bd) (fun fs hr => X7.returnOut hx Bd.returns (hb hby d7_97) hr) (Q := Q7c1 Z a0 a1 u1 u2 vb kb cs ch0 ch1 h0 n0) ?_ (by decide) (by decide)
  show Q7c1 Z a0 a1 u1 u2 vb kb cs ch0 ch1 h0 n0 _ T7.heap _
  rw [e7]
  exact ⟨nb_6, kn_6, rfl, N7, K7, sz_nb_6, E_a0, F_value_a0, F_coder_a0, E_nb_6, V_nb_6⟩
def Q6c1 (Z : State) (a0 : Addr) (a1 : Addr) (u1 : Value) (u2 : Value) (vb : Addr) (kb : ClassId) (cs : Int32) (ch0 : Int32) (ch1 : Int32) (h0 : Heap) (n0 : Nat) (v : Option Value) (h : Heap) (L : List Loc) : Prop := ∃ (nb : Addr) (kn : ClassId), v = none ∧ Fr n0 L ∧ Keep h0 h [a0] ∧ h0.size ≤ nb ∧ Exa Z h a0 "java/lang/String" ∧ Fld Z h a0 "java/lang/String" "value" "[B" (.ref nb) ∧ Fld Z h a0 "java/lang/String" "coder" "B" (.int (0 : Int32)) ∧ Exa Z h nb "[B" ∧ Arv Z h nb kn .byte (2 : Int32) [(.int ch0), (.int ch1)] (.int (0 : Int32))
def P6c1 (Z : State) (a0 : Addr) (a1 : Addr) (u1 : Value) (u2 : Value) (vb : Addr) (kb : ClassId) (cs : Int32) (ch0 : Int32) (ch1 : Int32) (h0 : Heap) (n0 : Nat) (s : State) (o : Outcome) (U' : State) : Prop := ∃ v L, o = .returned v ∧ Q6c1 Z a0 a1 u1 u2 vb kb cs ch0 ch1 h0 n0 v U'.heap L ∧ FrameEnd s o U' L ({ frames := 4, cells := 1, slots := 2, locals := 73 } : Room).cells ({ frames := 4, cells := 1, slots := 2, locals := 73 } : Room).slots
set_option maxRecDepth 65536 in
set_option maxHeartbeats 40000000 in
theorem rm6c1 (l : Launch) (Z : State) (aV : Array Value) (hw : ∀ d ∈ tables_1, d.before aV Z = true) (ws : List Jvm.Cond) (a0 : Addr) (a1 : Addr) (u1 : Value) (u2 : Value) (vb : Addr) (kb : ClassId) (cs : Int32) (ch0 : Int32) (ch1 : Int32) (h0 : Heap) (n0 : Nat) (Z0 : n0 ≤ h0.size) (E_a0 : Exa Z h0 a0 "java/lang/String") (F_value_a0 : Fld Z h0 a0 "java/lang/String" "value" "[B" u1) (F_coder_a0 : Fld Z h0 a0 "java/lang/String" "coder" "B" u2) (E_a1 : Exa Z h0 a1 "java/lang/StringBuilder") (F_value_a1 : Fld Z h0 a1 "java/lang/AbstractStringBuilder" "value" "[B" (.ref vb)) (F_coder_a1 : Fld Z h0 a1 "java/lang/AbstractStringBuilder" "coder" "B" (.int (0 : Int32))) (F_count_a1 : Fld Z h0 a1 "java/lang/AbstractStringBuilder" "count" "I" (.int (2 : Int32))) (E_vb : Exa Z h0 vb "[B") (V_vb : Arv Z h0 vb kb .byte (3 : Int32) [(.int ch0), (.int ch1), (.int (0 : Int32))] (.int (0 : Int32))) (S_COMPACT_STRINGS : Sta Z h0 "java/lang/String" "COMPACT_STRINGS" "Z" (.int cs)) (ga : n0 ≤ a0) (n01 : a1 ≠ a0) (n0v : vb ≠ a0) (hcs : ¬ cs = 0) :
    MetFree l (⟨"java/lang/String", "<init>", "(Ljava/lang/StringBuilder;)V"⟩ : MethodName) (head1 (Jvm.Cond.code (⟨"java/lang/String", "<init>", "(Ljava/lang/StringBuilder;)V"⟩ : MethodName) jdk_42_method_53_code 2 none :: ws) ({ frames := 4, cells := 1, slots := 2, locals := 73 } : Room)) (fun a U => a = #[(.ref a0), (.ref a1)] ∧ Z.Warmed39 U.vm ∧ U.heap = h0) (fun _ _ _ _ _ => True) (fun _ U o U' => ∃ v L, o = .returned v ∧ Q6c1 Z a0 a1 u1 u2 vb kb cs ch0 ch1 h0 n0 v U'.heap L ∧ FrameEnd U o U' L ({ frames := 4, cells := 1, slots := 2, locals := 73 } : Room).cells ({ frames := 4, cells := 1, slots := 2, locals := 73 } : Room).slots) := by
  refine MetFree.of_bodySF (plainFor_of_name pn_java_lang_String) hisR ?_
  intro p e s m args below meth c s₁ Bd hml0 hP hK
  obtain ⟨rfl, hZ, hh⟩ := hP
  have hx := Bd.exec
  have hby := Bd.bytes
  have hml : c.maxLocals = 2 := hml0
  have hown : s.vm.findClass "java/lang/String" = some m.cls := findClass_of_methodNamed Bd.named
  have hnm := (name_of_methodNamed Bd.named Bd.method).1
  have X0 : Stand p l e ({ frames := 4, cells := 1, slots := 2, locals := 73 } : Room) s m #[(.ref a0), (.ref a1)] below meth c s₁ [] 0 0 := Stand.of_body Bd
  have e0 : s₁.heap = h0 := by rw [← hh, Bd.state]; rfl
  have efx : entryFrame m #[(.ref a0), (.ref a1)] 2 = mkF m 0 #[.val (.ref a0), .val (.ref a1)] [] := by first | (simp [entryFrame, mkF, argsToLocals, Value.category]; done) | rfl
  have N0 := Fr.nil n0
  have K0 : Keep h0 h0 [a0] := Keep.refl h0 _
  refine OGo.start (g' := mkF m 0 #[.val (.ref a0), .val (.ref a1)] []) (efx) ?_
  show OGo p.tables e below (P6c1 Z a0 a1 u1 u2 vb kb cs ch0 ch1 h0 n0 s) (s₁.setTop (mkF m 0 #[.val (.ref a0), .val (.ref a1)] []))
  refine OGo.go (B := s₁.setTop (mkF m 1 #[.val (.ref a0), .val (.ref a1)] [(.ref a0)])) ?_ (fun tX kX => XS.aloadN X0.here hx rfl (hb hby d6_0) rfl rfl kX)
  refine OGo.go (B := s₁.setTop (mkF m 2 #[.val (.ref a0), .val (.ref a1)] [(.ref a1), (.ref a0)])) ?_ (fun tX kX => XS.aloadN X0.here hx rfl (hb hby d6_1) rfl rfl kX)
  refine OGo.go (B := s₁.setTop (mkF m 3 #[.val (.ref a0), .val (.ref a1)] [.null, (.ref a1), (.ref a0)])) ?_ (fun tX kX => XS.aconstNull X0.here hx rfl (hb hby d6_2) kX)
  obtain ⟨_, _, ⟨T1, L1, k1, n1⟩, -, X1, ⟨Lc1, hQ1, l1, y1, z1⟩, st1⟩ := X0.specialBack hx (y := (⟨"java/lang/String", "<init>", "(Ljava/lang/AbstractStringBuilder;Ljava/lang/Void;)V"⟩ : MethodName)) rfl hown (mvT hZ (hw _ (List.mem_of_getElem? (i := 37) rfl))) (mvT hZ (hw _ (List.mem_of_getElem? (i := 38) rfl))) (mvT hZ (hw _ (List.mem_of_getElem? (i := 39) rfl))) (by decide) (backOf (W := 0) (rm7c1 l Z aV hw [] a0 a1 u1 u2 vb kb cs ch0 ch1 h0 n0 Z0 E_a0 F_value_a0 F_coder_a0 E_a1 F_value_a1 F_coder_a1 F_count_a1 E_vb V_vb S_COMPACT_STRINGS ga n01 n0v hcs) hZ (hw _ (List.mem_of_getElem? (i := 39) rfl)) (hw _ (List.mem_of_getElem? (i := 21) rfl)) (by decide) (by decide)) (g := (mkF m 3 #[.val (.ref a0), .val (.ref a1)] [.null, (.ref a1), (.ref a0)])) rfl (by rw [hml]; rfl) (Steps.refl _) (a := a0) (argsL := [(.ref a1), .null]) (rest := []) (lenOf pd__Ljava_lang_AbstractStringBuilder_Ljava_lang_Void__V rfl) rfl (by show 2 * 0 + _ ≤ _; exact Nat.le_of_eq rfl) (hb hby d6_3) (fun _ _ => ⟨rfl, e0, (by decide : 0 + 1 ≤ _), (by decide : 0 + 2 ≤ _)⟩)
  dsimp only [Pt.U, Pt.locs, Pt.cells, Pt.slots] at X1 l1 y1 z1 st1 hQ1
  subst l1 y1 z1
  obtain ⟨nb_1, kn_1, rfl, N1q, Kq1, sz1_nb, E_a0_p, F_value_a0_p, F_coder_a0_p, E_nb_1_p, V_nb_1_p⟩ := hQ1
  have N1 := Fr.app N0 N1q
  have ne_a0_nb_1 : a0 ≠ nb_1 := Nat.ne_of_lt (Nat.lt_of_lt_of_le E_a0.lt sz1_nb)
  have ne_a1_nb_1 : a1 ≠ nb_1 := Nat.ne_of_lt (Nat.lt_of_lt_of_le E_a1.lt sz1_nb)
  have ne_vb_nb_1 : vb ≠ nb_1 := Nat.ne_of_lt (Nat.lt_of_lt_of_le E_vb.lt sz1_nb)
  have S_COMPACT_STRINGS := Sta.keepE S_COMPACT_STRINGS Kq1 (staS E_a0.cell (fun x hx' => nomatch hx'))
  have E_a0 := E_a0.keep Kq1
  have E_a1 := E_a1.keep Kq1
  have F_value_a1 := F_value_a1.keep Kq1 (ninS n01 nin0)
  have F_coder_a1 := F_coder_a1.keep Kq1 (ninS n01 nin0)
  have F_count_a1 := F_count_a1.keep Kq1 (ninS n01 nin0)
  have E_vb := E_vb.keep Kq1
  have V_vb := V_vb.keep Kq1 (ninS n0v nin0)
  have g_nb_1 : n0 ≤ nb_1 := Nat.le_trans Z0 sz1_nb
  have sz_nb_1 : h0.size ≤ nb_1 := Nat.le_trans K0.1 sz1_nb
  have K1 := K0.trans Kq1 (allS (P := fun x => x ∈ [a0] ∨ h0.size ≤ x) (Or.inl (List.mem_of_getElem? (i := 0) rfl)) all0)
  have zn1 : n0 ≤ T1.heap.size := Nat.le_trans Z0 Kq1.1
  have E_a0 := E_a0_p
  have F_value_a0 := F_value_a0_p
  have F_coder_a0 := F_coder_a0_p
  have E_nb_1 := E_nb_1_p
  have V_nb_1 := V_nb_1_p
  refine OGo.go (B := T1.setTop (mkF m 6 #[.val (.ref a0), .val (.ref a1)] [])) ?_ (fun tX kX => st1.trans kX)
  refine OGo.ret X1 (v := none) (fun _ => rfl) (BodyLoose.notSynchronized Bd) (fun fs hr => X1.returnOut hx Bd.returns (hb hby d6_6) hr) (Q := Q6c1 Z a0 a1 u1 u2 vb kb cs ch0 ch1 h0 n0) ?_ (by decide) (by decide)
  show Q6c1 Z a0 a1 u1 u2 vb kb cs ch0 ch1 h0 n0 _ T1.heap _
  exact ⟨nb_1, kn_1, rfl, N1, K1, sz_nb_1, E_a0, F_value_a0, F_coder_a0, E_nb_1, V_nb_1⟩
def Q5c1 (Z : State) (a0 : Addr) (vb : Addr) (kb : ClassId) (cs : Int32) (ch0 : Int32) (ch1 : Int32) (h0 : Heap) (n0 : Nat) (v : Option Value) (h : Heap) (L : List Loc) : Prop := ∃ (sr : Addr) (nb : Addr) (kn : ClassId), v = some (.ref sr) ∧ Fr n0 L ∧ Keep h0 h [] ∧ h0.size ≤ sr ∧ h0.size ≤ nb ∧ Exa Z h sr "java/lang/String" ∧ Fld Z h sr "java/lang/String" "value" "[B" (.ref nb) ∧ Fld Z h sr "java/lang/String" "coder" "B" (.int (0 : Int32)) ∧ Exa Z h nb "[B" ∧ Arv Z h nb kn .byte (2 : Int32) [(.int ch0), (.int ch1)] (.int (0 : Int32))
def P5c1 (Z : State) (a0 : Addr) (vb : Addr) (kb : ClassId) (cs : Int32) (ch0 : Int32) (ch1 : Int32) (h0 : Heap) (n0 : Nat) (s : State) (o : Outcome) (U' : State) : Prop := ∃ v L, o = .returned v ∧ Q5c1 Z a0 vb kb cs ch0 ch1 h0 n0 v U'.heap L ∧ FrameEnd s o U' L ({ frames := 5, cells := 2, slots := 6, locals := 87 } : Room).cells ({ frames := 5, cells := 2, slots := 6, locals := 87 } : Room).slots
set_option maxRecDepth 65536 in
set_option maxHeartbeats 40000000 in
theorem rm5c1 (l : Launch) (Z : State) (aV : Array Value) (hw : ∀ d ∈ tables_1, d.before aV Z = true) (ws : List Jvm.Cond) (a0 : Addr) (vb : Addr) (kb : ClassId) (cs : Int32) (ch0 : Int32) (ch1 : Int32) (h0 : Heap) (n0 : Nat) (Z0 : n0 ≤ h0.size) (E_a0 : Exa Z h0 a0 "java/lang/StringBuilder") (F_value_a0 : Fld Z h0 a0 "java/lang/AbstractStringBuilder" "value" "[B" (.ref vb)) (F_coder_a0 : Fld Z h0 a0 "java/lang/AbstractStringBuilder" "coder" "B" (.int (0 : Int32))) (F_count_a0 : Fld Z h0 a0 "java/lang/AbstractStringBuilder" "count" "I" (.int (2 : Int32))) (E_vb : Exa Z h0 vb "[B") (V_vb : Arv Z h0 vb kb .byte (3 : Int32) [(.int ch0), (.int ch1), (.int (0 : Int32))] (.int (0 : Int32))) (S_COMPACT_STRINGS : Sta Z h0 "java/lang/String" "COMPACT_STRINGS" "Z" (.int cs)) (hcs : ¬ cs = 0) :
    MetFree l (⟨"java/lang/StringBuilder", "toString", "()Ljava/lang/String;"⟩ : MethodName) (head1 (Jvm.Cond.code (⟨"java/lang/StringBuilder", "toString", "()Ljava/lang/String;"⟩ : MethodName) jdk_67_method_42_code 1 (some (.object "java/lang/String")) :: ws) ({ frames := 5, cells := 2, slots := 6, locals := 87 } : Room)) (fun a U => a = #[(.ref a0)] ∧ Z.Warmed39 U.vm ∧ U.heap = h0) (fun _ _ _ _ _ => True) (fun _ U o U' => ∃ v L, o = .returned v ∧ Q5c1 Z a0 vb kb cs ch0 ch1 h0 n0 v U'.heap L ∧ FrameEnd U o U' L ({ frames := 5, cells := 2, slots := 6, locals := 87 } : Room).cells ({ frames := 5, cells := 2, slots := 6, locals := 87 } : Room).slots) := by
  refine MetFree.of_bodySF (plainFor_of_name pn_java_lang_StringBuilder) hisR ?_
  intro p e s m args below meth c s₁ Bd hml0 hP hK
  obtain ⟨rfl, hZ, hh⟩ := hP
  have hx := Bd.exec
  have hby := Bd.bytes
  have hml : c.maxLocals = 1 := hml0
  have hown : s.vm.findClass "java/lang/StringBuilder" = some m.cls := findClass_of_methodNamed Bd.named
  have hnm := (name_of_methodNamed Bd.named Bd.method).1
  have X0 : Stand p l e ({ frames := 5, cells := 2, slots := 6, locals := 87 } : Room) s m #[(.ref a0)] below meth c s₁ [] 0 0 := Stand.of_body Bd
  have e0 : s₁.heap = h0 := by rw [← hh, Bd.state]; rfl
  have efx : entryFrame m #[(.ref a0)] 1 = mkF m 0 #[.val (.ref a0)] [] := by first | (simp [entryFrame, mkF, argsToLocals, Value.category]; done) | rfl
  have N0 := Fr.nil n0
  have K0 : Keep h0 h0 [] := Keep.refl h0 _
  refine OGo.start (g' := mkF m 0 #[.val (.ref a0)] []) (efx) ?_
  show OGo p.tables e below (P5c1 Z a0 vb kb cs ch0 ch1 h0 n0 s) (s₁.setTop (mkF m 0 #[.val (.ref a0)] []))
  obtain ⟨T1, h1, X1, e1, E1, A1, D1, C1, st1⟩ := newO X0 hx hZ hown (hw _ (List.mem_of_getElem? (i := 31) rfl)) (hw _ (List.mem_of_getElem? (i := 32) rfl)) (hw _ (List.mem_of_getElem? (i := 21) rfl)) e0 (g := (mkF m 0 #[.val (.ref a0)] [])) rfl (hb hby d5_0) (by decide) (by decide)
  obtain ⟨b1, g1⟩ : ∃ z, z = h0.size := ⟨_, rfl⟩
  rw [← g1] at A1 D1 st1 C1
  have ne_a0_b1 : a0 ≠ b1 := Nat.ne_of_lt (Nat.lt_of_lt_of_le E_a0.lt (Nat.le_of_eq g1.symm))
  have ne_vb_b1 : vb ≠ b1 := Nat.ne_of_lt (Nat.lt_of_lt_of_le E_vb.lt (Nat.le_of_eq g1.symm))
  have E_a0 := E_a0.ext E1
  have F_value_a0 := F_value_a0.ext E1
  have F_coder_a0 := F_coder_a0.ext E1
  have F_count_a0 := F_count_a0.ext E1
  have E_vb := E_vb.ext E1
  have V_vb := V_vb.ext E1
  have S_COMPACT_STRINGS := S_COMPACT_STRINGS.ext E1
  have g_b1 : n0 ≤ b1 := Nat.le_trans Z0 (Nat.le_of_eq g1.symm)
  have sz_b1 : h0.size ≤ b1 := Nat.le_trans K0.1 (Nat.le_of_eq g1.symm)
  have zn1 : n0 ≤ h1.size := Nat.le_trans Z0 E1.1
  have K1 := K0.ext E1
  have E_b1 := A1
  have F_coder_b1 : Fld Z h1 b1 "java/lang/String" "coder" "B" (.int (0 : Int32)) := D1 (Or.inr (hw _ (List.mem_of_getElem? (i := 63) rfl))) (ty := .byte) (by decide)
  have F_value_b1 : Fld Z h1 b1 "java/lang/String" "value" "[B" .null := D1 (Or.inr (hw _ (List.mem_of_getElem? (i := 78) rfl))) (ty := (.array .byte)) (by decide)
  refine OGo.go (B := T1.setTop (mkF m 3 #[.val (.ref a0)] [(.ref b1)])) ?_ st1
  refine OGo.go (B := T1.setTop (mkF m 4 #[.val (.ref a0)] [(.ref b1), (.ref b1)])) ?_ (fun tX kX => XS.dup X1.here hx rfl (hb hby d5_3) rfl rfl kX)
  refine OGo.go (B := T1.setTop (mkF m 5 #[.val (.ref a0)] [(.ref a0), (.ref b1), (.ref b1)])) ?_ (fun tX kX => XS.aloadN X1.here hx rfl (hb hby d5_4) rfl rfl kX)
  obtain ⟨_, _, ⟨T2, L2, k2, n2⟩, -, X2, ⟨Lc2, hQ2, l2, y2, z2⟩, st2⟩ := X1.specialBack hx (y := (⟨"java/lang/String", "<init>", "(Ljava/lang/StringBuilder;)V"⟩ : MethodName)) rfl hown (mvT hZ (hw _ (List.mem_of_getElem? (i := 33) rfl))) (mvT hZ (hw _ (List.mem_of_getElem? (i := 34) rfl))) (mvT hZ (hw _ (List.mem_of_getElem? (i := 36) rfl))) (by decide) (backOf (W := 1) (rm6c1 l Z aV hw [] b1 a0 .null (.int (0 : Int32)) vb kb cs ch0 ch1 h1 n0 zn1 E_b1 F_value_b1 F_coder_b1 E_a0 F_value_a0 F_coder_a0 F_count_a0 E_vb V_vb S_COMPACT_STRINGS g_b1 ne_a0_b1 ne_vb_b1 hcs) hZ (hw _ (List.mem_of_getElem? (i := 36) rfl)) (hw _ (List.mem_of_getElem? (i := 21) rfl)) (by decide) (by decide)) (g := (mkF m 5 #[.val (.ref a0)] [(.ref a0), (.ref b1), (.ref b1)])) rfl (by rw [hml]; rfl) (Steps.refl _) (a := b1) (argsL := [(.ref a0)]) (rest := [(.ref b1)]) (lenOf pd__Ljava_lang_StringBuilder__V rfl) rfl (by show 2 * 0 + _ ≤ _; exact Nat.le_of_eq rfl) (hb hby d5_5) (fun _ _ => ⟨rfl, e1, (by decide : 1 + 1 ≤ _), (by decide : 4 + 2 ≤ _)⟩)
  dsimp only [Pt.U, Pt.locs, Pt.cells, Pt.slots] at X2 l2 y2 z2 st2 hQ2
  subst l2 y2 z2
  obtain ⟨nb_2, kn_2, rfl, N2q, Kq2, sz2_nb, E_b1_p, F_value_b1_p, F_coder_b1_p, E_nb_2_p, V_nb_2_p⟩ := hQ2
  have N2 := Fr.app N0 N2q
  have ne_a0_nb_2 : a0 ≠ nb_2 := Nat.ne_of_lt (Nat.lt_of_lt_of_le E_a0.lt sz2_nb)
  have ne_vb_nb_2 : vb ≠ nb_2 := Nat.ne_of_lt (Nat.lt_of_lt_of_le E_vb.lt sz2_nb)
  have ne_b1_nb_2 : b1 ≠ nb_2 := Nat.ne_of_lt (Nat.lt_of_lt_of_le E_b1.lt sz2_nb)
  have S_COMPACT_STRINGS := Sta.keepE S_COMPACT_STRINGS Kq2 (staS E_b1.cell (fun x hx' => nomatch hx'))
  have E_a0 := E_a0.keep Kq2
  have F_value_a0 := F_value_a0.keep Kq2 (ninS ne_a0_b1 nin0)
  have F_coder_a0 := F_coder_a0.keep Kq2 (ninS ne_a0_b1 nin0)
  have F_count_a0 := F_count_a0.keep Kq2 (ninS ne_a0_b1 nin0)
  have E_vb := E_vb.keep Kq2
  have V_vb := V_vb.keep Kq2 (ninS ne_vb_b1 nin0)
  have E_b1 := E_b1.keep Kq2
  have g_nb_2 : n0 ≤ nb_2 := Nat.le_trans zn1 sz2_nb
  have sz_nb_2 : h0.size ≤ nb_2 := Nat.le_trans K1.1 sz2_nb
  have K2 := K1.trans Kq2 (allS (P := fun x => x ∈ ([] : List Addr) ∨ h0.size ≤ x) (Or.inr sz_b1) all0)
  have zn2 : n0 ≤ T2.heap.size := Nat.le_trans zn1 Kq2.1
  have E_b1 := E_b1_p
  have F_value_b1 := F_value_b1_p
  have F_coder_b1 := F_coder_b1_p
  have E_nb_2 := E_nb_2_p
  have V_nb_2 := V_nb_2_p
  refine OGo.go (B := T2.setTop (mkF m 8 #[.val (.ref a0)] [(.ref b1)])) ?_ (fun tX kX => st2.trans kX)
  refine OGo.ret X2 (v := (some (.ref b1))) (fun h => by rw [Bd.returns] at h; cases h) (BodyLoose.notSynchronized Bd) (fun fs hr => retOut X2 hx Bd.returns rfl (Or.inr (Or.inr (Or.inr (Or.inr ⟨rfl, rfl, rfl⟩)))) (hb hby d5_8) hr) (Q := Q5c1 Z a0 vb kb cs ch0 ch1 h0 n0) ?_ (by decide) (by decide)
  show Q5c1 Z a0 vb kb cs ch0 ch1 h0 n0 _ T2.heap _
  exact ⟨b1, nb_2, kn_2, rfl, N2, K2, sz_b1, sz_nb_2, E_b1, F_value_b1, F_coder_b1, E_nb_2, V_nb_2⟩
def Q19c2 (Z : State) (vb : Addr) (kb : ClassId) (ch0 : Int32) (ch1 : Int32) (ch2 : Int32) (ch3 : Int32) (ch4 : Int32) (h0 : Heap) (n0 : Nat) (v : Option Value) (h : Heap) (L : List Loc) : Prop := ∃ (nb : Addr) (kn : ClassId), v = some (.ref nb) ∧ Fr n0 L ∧ Keep h0 h [] ∧ h0.size ≤ nb ∧ Exa Z h nb "[B" ∧ Arv Z h nb kn .byte (5 : Int32) [(.int ch0), (.int ch1), (.int ch2), (.int ch3), (.int ch4)] (.int (0 : Int32))
def P19c2 (Z : State) (vb : Addr) (kb : ClassId) (ch0 : Int32) (ch1 : Int32) (ch2 : Int32) (ch3 : Int32) (ch4 : Int32) (h0 : Heap) (n0 : Nat) (s : State) (o : Outcome) (U' : State) : Prop := ∃ v L, o = .returned v ∧ Q19c2 Z vb kb ch0 ch1 ch2 ch3 ch4 h0 n0 v U'.heap L ∧ FrameEnd s o U' L ({ frames := 1, cells := 1, slots := 5, locals := 26 } : Room).cells ({ frames := 1, cells := 1, slots := 5, locals := 26 } : Room).slots
set_option maxRecDepth 65536 in
set_option maxHeartbeats 40000000 in
theorem rm19c2 (l : Launch) (Z : State) (aV : Array Value) (hw : ∀ d ∈ tables_1, d.before aV Z = true) (ws : List Jvm.Cond) (vb : Addr) (kb : ClassId) (ch0 : Int32) (ch1 : Int32) (ch2 : Int32) (ch3 : Int32) (ch4 : Int32) (h0 : Heap) (n0 : Nat) (Z0 : n0 ≤ h0.size) (E_vb : Exa Z h0 vb "[B") (V_vb : Arv Z h0 vb kb .byte (6 : Int32) [(.int ch0), (.int ch1), (.int ch2), (.int ch3), (.int ch4), (.int (0 : Int32))] (.int (0 : Int32))) :
    MetFree l (⟨"java/util/Arrays", "copyOfRangeByte", "([BII)[B"⟩ : MethodName) (head1 (Jvm.Cond.code (⟨"java/util/Arrays", "copyOfRangeByte", "([BII)[B"⟩ : MethodName) jdk_65_method_133_code 5 (some (.array .byte)) :: ws) ({ frames := 1, cells := 1, slots := 5, locals := 26 } : Room)) (fun a U => a = #[(.ref vb), (.int (0 : Int32)), (.int (5 : Int32))] ∧ Z.Warmed39 U.vm ∧ U.heap = h0) (fun _ _ _ _ _ => True) (fun _ U o U' => ∃ v L, o = .returned v ∧ Q19c2 Z vb kb ch0 ch1 ch2 ch3 ch4 h0 n0 v U'.heap L ∧ FrameEnd U o U' L ({ frames := 1, cells := 1, slots := 5, locals := 26 } : Room).cells ({ frames := 1, cells := 1, slots := 5, locals := 26 } : Room).slots) := by
  refine MetFree.of_bodySF (plainFor_of_name pn_java_util_Arrays) hisR ?_
  intro p e s m args below meth c s₁ Bd hml0 hP hK
  obtain ⟨rfl, hZ, hh⟩ := hP
  have hx := Bd.exec
  have hby := Bd.bytes
  have hml : c.maxLocals = 5 := hml0
  have hown : s.vm.findClass "java/util/Arrays" = some m.cls := findClass_of_methodNamed Bd.named
  have hnm := (name_of_methodNamed Bd.named Bd.method).1
  have X0 : Stand p l e ({ frames := 1, cells := 1, slots := 5, locals := 26 } : Room) s m #[(.ref vb), (.int (0 : Int32)), (.int (5 : Int32))] below meth c s₁ [] 0 0 := Stand.of_body Bd
  have e0 : s₁.heap = h0 := by rw [← hh, Bd.state]; rfl
  have efx : entryFrame m #[(.ref vb), (.int (0 : Int32)), (.int (5 : Int32))] 5 = mkF m 0 #[.val (.ref vb), .val (.int (0 : Int32)), .val (.int (5 : Int32)), .unset, .unset] [] := by first | (simp [entryFrame, mkF, argsToLocals, Value.category]; done) | rfl
  have N0 := Fr.nil n0
  have K0 : Keep h0 h0 [] := Keep.refl h0 _
  refine OGo.start (g' := mkF m 0 #[.val (.ref vb), .val (.int (0 : Int32)), .val (.int (5 : Int32)), .unset, .unset] []) (efx) ?_
  show OGo p.tables e below (P19c2 Z vb kb ch0 ch1 ch2 ch3 ch4 h0 n0 s) (s₁.setTop (mkF m 0 #[.val (.ref vb), .val (.int (0 : Int32)), .val (.int (5 : Int32)), .unset, .unset] []))
  refine OGo.go (B := s₁.setTop (mkF m 1 #[.val (.ref vb), .val (.int (0 : Int32)), .val (.int (5 : Int32)), .unset, .unset] [(.int (0 : Int32))])) ?_ (fun tX kX => XS.iloadN X0.here hx rfl (hb hby d19_0) rfl kX)
  refine OGo.go (B := s₁.setTop (mkF m 2 #[.val (.ref vb), .val (.int (0 : Int32)), .val (.int (5 : Int32)), .unset, .unset] [(.int (5 : Int32)), (.int (0 : Int32))])) ?_ (fun tX kX => XS.iloadN X0.here hx rfl (hb hby d19_1) rfl kX)
  obtain ⟨_, _, ⟨T1, L1, k1, n1⟩, -, X1, ⟨Lc1, hQ1, l1, y1, z1⟩, st1⟩ := Jvm.LawKit.callS X0 hx (y := (⟨"java/util/Arrays", "checkLength", "(II)V"⟩ : MethodName)) hown (mvT hZ (hw _ (List.mem_of_getElem? (i := 117) rfl))) (mvT hZ (hw _ (List.mem_of_getElem? (i := 118) rfl))) (mvT hZ (hw _ (List.mem_of_getElem? (i := 66) rfl))) (mvT hZ (hw _ (List.mem_of_getElem? (i := 119) rfl))) (by decide) (backOf (W := 0) (rm20 l Z aV hw [] (0 : Int32) (5 : Int32) h0 n0 Z0 (by decide)) hZ (hw _ (List.mem_of_getElem? (i := 119) rfl)) (hw _ (List.mem_of_getElem? (i := 66) rfl)) (by decide) (by decide)) (g := (mkF m 2 #[.val (.ref vb), .val (.int (0 : Int32)), .val (.int (5 : Int32)), .unset, .unset] [(.int (5 : Int32)), (.int (0 : Int32))])) rfl (by rw [hml]; rfl) (argsL := [(.int (0 : Int32)), (.int (5 : Int32))]) (rest := []) (lenOf pd__II_V rfl) rfl (by show 2 * 0 + _ ≤ _; exact Nat.le_of_eq rfl) (hb hby d19_2) (fun _ _ => ⟨rfl, e0, (by decide : 0 + 0 ≤ _), (by decide : 0 + 0 ≤ _)⟩)
  dsimp only [Pt.U, Pt.locs, Pt.cells, Pt.slots] at X1 l1 y1 z1 st1 hQ1
  subst l1 y1 z1
  obtain ⟨rfl, N1q, e1⟩ := hQ1
  have N1 := Fr.app N0 N1q
  refine OGo.go (B := T1.setTop (mkF m 5 #[.val (.ref vb), .val (.int (0 : Int32)), .val (.int (5 : Int32)), .unset, .unset] [])) ?_ st1
  refine OGo.go (B := T1.setTop (mkF m 6 #[.val (.ref vb), .val (.int (0 : Int32)), .val (.int (5 : Int32)), .unset, .unset] [(.int (5 : Int32))])) ?_ (fun tX kX => XS.iloadN X1.here hx rfl (hb hby d19_5) rfl kX)
  refine OGo.go (B := T1.setTop (mkF m 7 #[.val (.ref vb), .val (.int (0 : Int32)), .val (.int (5 : Int32)), .unset, .unset] [(.int (0 : Int32)), (.int (5 : Int32))])) ?_ (fun tX kX => XS.iloadN X1.here hx rfl (hb hby d19_6) rfl kX)
  refine OGo.go (B := T1.setTop (mkF m 8 #[.val (.ref vb), .val (.int (0 : Int32)), .val (.int (5 : Int32)), .unset, .unset] [(.int (5 : Int32))])) ?_ (fun tX kX => XS.isub X1.here hx rfl (hb hby d19_7) rfl kX)
  refine OGo.go (B := T1.setTop (mkF m 9 #[.val (.ref vb), .val (.int (0 : Int32)), .val (.int (5 : Int32)), .val (.int (5 : Int32)), .unset] [])) ?_ (fun tX kX => XS.istoreN X1.here hx rfl (hb hby d19_8) rfl (l' := #[.val (.ref vb), .val (.int (0 : Int32)), .val (.int (5 : Int32)), .val (.int (5 : Int32)), .unset]) rfl kX)
  refine OGo.go (B := T1.setTop (mkF m 10 #[.val (.ref vb), .val (.int (0 : Int32)), .val (.int (5 : Int32)), .val (.int (5 : Int32)), .unset] [(.int (5 : Int32))])) ?_ (fun tX kX => XS.iloadN X1.here hx rfl (hb hby d19_9) rfl kX)
  obtain ⟨T2, h2, k2, X2, e2, E2, A2, EA2, st2⟩ := newPE X1 hx hZ (hw _ (List.mem_of_getElem? (i := 0) rfl)) e1 (g := (mkF m 10 #[.val (.ref vb), .val (.int (0 : Int32)), .val (.int (5 : Int32)), .val (.int (5 : Int32)), .unset] [(.int (5 : Int32))])) rfl (hb hby d19_10) rfl (by decide) (cap := 5) (by decide) (by decide) (by decide) (by decide) (ad := "[B") (by decide)
  obtain ⟨b2, g2⟩ : ∃ z, z = h0.size := ⟨_, rfl⟩
  rw [← g2] at A2 EA2 st2
  have ne_vb_b2 : vb ≠ b2 := Nat.ne_of_lt (Nat.lt_of_lt_of_le E_vb.lt (Nat.le_of_eq g2.symm))
  have E_vb := E_vb.ext E2
  have V_vb := V_vb.ext E2
  have g_b2 : n0 ≤ b2 := Nat.le_trans Z0 (Nat.le_of_eq g2.symm)
  have sz_b2 : h0.size ≤ b2 := Nat.le_trans K0.1 (Nat.le_of_eq g2.symm)
  have zn2 : n0 ≤ h2.size := Nat.le_trans Z0 E2.1
  have K2 := K0.ext E2
  have E_b2 := EA2
  have V_b2 : Arv Z h2 b2 k2 .byte (5 : Int32) [(.int (0 : Int32)), (.int (0 : Int32)), (.int (0 : Int32)), (.int (0 : Int32)), (.int (0 : Int32))] (.int (0 : Int32)) := (Arv.new A2 (by decide)).pad (pad_rep [] (.int (0 : Int32)) 5)
  refine OGo.go (B := T2.setTop (mkF m 12 #[.val (.ref vb), .val (.int (0 : Int32)), .val (.int (5 : Int32)), .val (.int (5 : Int32)), .unset] [(.ref b2)])) ?_ st2
  refine OGo.go (B := T2.setTop (mkF m 14 #[.val (.ref vb), .val (.int (0 : Int32)), .val (.int (5 : Int32)), .val (.int (5 : Int32)), .val (.ref b2)] [])) ?_ (fun tX kX => XS.astore X2.here hx rfl (hb hby d19_12) rfl rfl (l' := #[.val (.ref vb), .val (.int (0 : Int32)), .val (.int (5 : Int32)), .val (.int (5 : Int32)), .val (.ref b2)]) rfl kX)
  refine OGo.go (B := T2.setTop (mkF m 15 #[.val (.ref vb), .val (.int (0 : Int32)), .val (.int (5 : Int32)), .val (.int (5 : Int32)), .val (.ref b2)] [(.ref vb)])) ?_ (fun tX kX => XS.aloadN X2.here hx rfl (hb hby d19_14) rfl rfl kX)
  refine OGo.go (B := T2.setTop (mkF m 16 #[.val (.ref vb), .val (.int (0 : Int32)), .val (.int (5 : Int32)), .val (.int (5 : Int32)), .val (.ref b2)] [(.int (0 : Int32)), (.ref vb)])) ?_ (fun tX kX => XS.iloadN X2.here hx rfl (hb hby d19_15) rfl kX)
  refine OGo.go (B := T2.setTop (mkF m 18 #[.val (.ref vb), .val (.int (0 : Int32)), .val (.int (5 : Int32)), .val (.int (5 : Int32)), .val (.ref b2)] [(.ref b2), (.int (0 : Int32)), (.ref vb)])) ?_ (fun tX kX => XS.aload X2.here hx rfl (hb hby d19_16) rfl rfl kX)
  refine OGo.go (B := T2.setTop (mkF m 19 #[.val (.ref vb), .val (.int (0 : Int32)), .val (.int (5 : Int32)), .val (.int (5 : Int32)), .val (.ref b2)] [(.int (0 : Int32)), (.ref b2), (.int (0 : Int32)), (.ref vb)])) ?_ (fun tX kX => XS.iconst X2.here hx rfl (hb hby d19_18) kX)
  refine OGo.go (B := T2.setTop (mkF m 20 #[.val (.ref vb), .val (.int (0 : Int32)), .val (.int (5 : Int32)), .val (.int (5 : Int32)), .val (.ref b2)] [(.ref vb), (.int (0 : Int32)), (.ref b2), (.int (0 : Int32)), (.ref vb)])) ?_ (fun tX kX => XS.aloadN X2.here hx rfl (hb hby d19_19) rfl rfl kX)
  obtain ⟨cl3, Ar3, qa3, S3, N3', H3, G3⟩ := id V_vb
  refine OGo.go (B := T2.setTop (mkF m 21 #[.val (.ref vb), .val (.int (0 : Int32)), .val (.int (5 : Int32)), .val (.int (5 : Int32)), .val (.ref b2)] [(.int (6 : Int32)), (.int (0 : Int32)), (.ref b2), (.int (0 : Int32)), (.ref vb)])) ?_ (fun tX kX => X2.arraylength hx (by rw [e2]; exact Ar3.1) (State.isArrayOf_alike hZ.alike Ar3.2.1) (g := (mkF m 20 #[.val (.ref vb), .val (.int (0 : Int32)), .val (.int (5 : Int32)), .val (.int (5 : Int32)), .val (.ref b2)] [(.ref vb), (.int (0 : Int32)), (.ref b2), (.int (0 : Int32)), (.ref vb)])) rfl rfl (hb hby d19_20) _ (by rw [len_of S3 N3']; exact kX))
  refine OGo.go (B := T2.setTop (mkF m 22 #[.val (.ref vb), .val (.int (0 : Int32)), .val (.int (5 : Int32)), .val (.int (5 : Int32)), .val (.ref b2)] [(.int (0 : Int32)), (.int (6 : Int32)), (.int (0 : Int32)), (.ref b2), (.int (0 : Int32)), (.ref vb)])) ?_ (fun tX kX => XS.iloadN X2.here hx rfl (hb hby d19_21) rfl kX)
  refine OGo.go (B := T2.setTop (mkF m 23 #[.val (.ref vb), .val (.int (0 : Int32)), .val (.int (5 : Int32)), .val (.int (5 : Int32)), .val (.ref b2)] [(.int (6 : Int32)), (.int (0 : Int32)), (.ref b2), (.int (0 : Int32)), (.ref vb)])) ?_ (fun tX kX => XS.isub X2.here hx rfl (hb hby d19_22) rfl kX)
  refine OGo.go (B := T2.setTop (mkF m 24 #[.val (.ref vb), .val (.int (0 : Int32)), .val (.int (5 : Int32)), .val (.int (5 : Int32)), .val (.ref b2)] [(.int (5 : Int32)), (.int (6 : Int32)), (.int (0 : Int32)), (.ref b2), (.int (0 : Int32)), (.ref vb)])) ?_ (fun tX kX => XS.iloadN X2.here hx rfl (hb hby d19_23) rfl kX)
  obtain ⟨_, _, ⟨T4, L4, k4, n4⟩, -, X4, ⟨Lc4, hQ4, l4, y4, z4⟩, st4⟩ := Jvm.LawKit.callS X2 hx (y := (⟨"java/lang/Math", "min", "(II)I"⟩ : MethodName)) hown (mvT hZ (hw _ (List.mem_of_getElem? (i := 120) rfl))) (mvT hZ (hw _ (List.mem_of_getElem? (i := 121) rfl))) (mvT hZ (hw _ (List.mem_of_getElem? (i := 122) rfl))) (mvT hZ (hw _ (List.mem_of_getElem? (i := 123) rfl))) (by decide) (backOf (W := 4) (rm21g l Z aV hw [] (6 : Int32) (5 : Int32) h2 n0 zn2 (by decide)) hZ (hw _ (List.mem_of_getElem? (i := 123) rfl)) (hw _ (List.mem_of_getElem? (i := 122) rfl)) (by decide) (by decide)) (g := (mkF m 24 #[.val (.ref vb), .val (.int (0 : Int32)), .val (.int (5 : Int32)), .val (.int (5 : Int32)), .val (.ref b2)] [(.int (5 : Int32)), (.int (6 : Int32)), (.int (0 : Int32)), (.ref b2), (.int (0 : Int32)), (.ref vb)])) rfl (by rw [hml]; rfl) (argsL := [(.int (6 : Int32)), (.int (5 : Int32))]) (rest := [(.int (0 : Int32)), (.ref b2), (.int (0 : Int32)), (.ref vb)]) (lenOf pd__II_I rfl) rfl (by show 2 * 0 + _ ≤ _; exact Nat.le_of_eq rfl) (hb hby d19_24) (fun _ _ => ⟨rfl, e2, (by decide : 1 + 0 ≤ _), (by decide : 5 + 0 ≤ _)⟩)
  dsimp only [Pt.U, Pt.locs, Pt.cells, Pt.slots] at X4 l4 y4 z4 st4 hQ4
  subst l4 y4 z4
  obtain ⟨rfl, N4q, e4⟩ := hQ4
  have N4 := Fr.app N1 N4q
  refine OGo.go (B := T4.setTop (mkF m 27 #[.val (.ref vb), .val (.int (0 : Int32)), .val (.int (5 : Int32)), .val (.int (5 : Int32)), .val (.ref b2)] [(.int (5 : Int32)), (.int (0 : Int32)), (.ref b2), (.int (0 : Int32)), (.ref vb)])) ?_ st4
  obtain ⟨T5, h5, L5, X5, e5, N5, Kq5, V5, st5⟩ := cpA X4 hx hZ hown (hw _ (List.mem_of_getElem? (i := 124) rfl)) (hw _ (List.mem_of_getElem? (i := 127) rfl)) (hw _ (List.mem_of_getElem? (i := 125) rfl)) (hw _ (List.mem_of_getElem? (i := 126) rfl)) e4 (sp := (0 : Int32)) (dp := (0 : Int32)) (nn := (5 : Int32)) (us := [(.int ch0), (.int ch1), (.int ch2), (.int ch3), (.int ch4)]) V_vb V_b2 (Or.inl ⟨rfl, rfl⟩) (by decide) (by decide) (by decide) (by decide) (by decide) rfl (Nat.le_of_ble_eq_true rfl) N4 g_b2 (g := (mkF m 27 #[.val (.ref vb), .val (.int (0 : Int32)), .val (.int (5 : Int32)), .val (.int (5 : Int32)), .val (.ref b2)] [(.int (5 : Int32)), (.int (0 : Int32)), (.ref b2), (.int (0 : Int32)), (.ref vb)])) rfl (by rw [hml]; rfl) rfl (hb hby d19_27) (by decide) (W := 0) (by show 2 * 0 + _ ≤ _; exact Nat.le_of_eq rfl) (by decide)
  have E_vb := E_vb.keep Kq5
  have V_vb := V_vb.keep Kq5 (ninS ne_vb_b2 nin0)
  have E_b2 := E_b2.keep Kq5
  have K5 := K2.trans Kq5 (allS (P := fun x => x ∈ ([] : List Addr) ∨ h0.size ≤ x) (Or.inr sz_b2) all0)
  have zn5 : n0 ≤ h5.size := Nat.le_trans zn2 Kq5.1
  have V_b2 : Arv Z h5 b2 k2 .byte (5 : Int32) [(.int ch0), (.int ch1), (.int ch2), (.int ch3), (.int ch4)] (.int (0 : Int32)) := V5
  refine OGo.go (B := T5.setTop (mkF m 30 #[.val (.ref vb), .val (.int (0 : Int32)), .val (.int (5 : Int32)), .val (.int (5 : Int32)), .val (.ref b2)] [])) ?_ st5
  refine OGo.go (B := T5.setTop (mkF m 32 #[.val (.ref vb), .val (.int (0 : Int32)), .val (.int (5 : Int32)), .val (.int (5 : Int32)), .val (.ref b2)] [(.ref b2)])) ?_ (fun tX kX => XS.aload X5.here hx rfl (hb hby d19_30) rfl rfl kX)
  refine OGo.ret X5 (v := (some (.ref b2))) (fun h => by rw [Bd.returns] at h; cases h) (BodyLoose.notSynchronized Bd) (fun fs hr => retOut X5 hx Bd.returns rfl (Or.inr (Or.inr (Or.inr (Or.inr ⟨rfl, rfl, rfl⟩)))) (hb hby d19_32) hr) (Q := Q19c2 Z vb kb ch0 ch1 ch2 ch3 ch4 h0 n0) ?_ (by decide) (by decide)
  show Q19c2 Z vb kb ch0 ch1 ch2 ch3 ch4 h0 n0 _ T5.heap _
  rw [e5]
  exact ⟨b2, k2, rfl, N5, K5, sz_b2, E_b2, V_b2⟩
def Q12c2 (Z : State) (vb : Addr) (kb : ClassId) (ch0 : Int32) (ch1 : Int32) (ch2 : Int32) (ch3 : Int32) (ch4 : Int32) (h0 : Heap) (n0 : Nat) (v : Option Value) (h : Heap) (L : List Loc) : Prop := ∃ (nb : Addr) (kn : ClassId), v = some (.ref nb) ∧ Fr n0 L ∧ Keep h0 h [] ∧ h0.size ≤ nb ∧ Exa Z h nb "[B" ∧ Arv Z h nb kn .byte (5 : Int32) [(.int ch0), (.int ch1), (.int ch2), (.int ch3), (.int ch4)] (.int (0 : Int32))
def P12c2 (Z : State) (vb : Addr) (kb : ClassId) (ch0 : Int32) (ch1 : Int32) (ch2 : Int32) (ch3 : Int32) (ch4 : Int32) (h0 : Heap) (n0 : Nat) (s : State) (o : Outcome) (U' : State) : Prop := ∃ v L, o = .returned v ∧ Q12c2 Z vb kb ch0 ch1 ch2 ch3 ch4 h0 n0 v U'.heap L ∧ FrameEnd s o U' L ({ frames := 2, cells := 1, slots := 5, locals := 42 } : Room).cells ({ frames := 2, cells := 1, slots := 5, locals := 42 } : Room).slots
set_option maxRecDepth 65536 in
set_option maxHeartbeats 40000000 in
theorem rm12c2 (l : Launch) (Z : State) (aV : Array Value) (hw : ∀ d ∈ tables_1, d.before aV Z = true) (ws : List Jvm.Cond) (vb : Addr) (kb : ClassId) (ch0 : Int32) (ch1 : Int32) (ch2 : Int32) (ch3 : Int32) (ch4 : Int32) (h0 : Heap) (n0 : Nat) (Z0 : n0 ≤ h0.size) (E_vb : Exa Z h0 vb "[B") (V_vb : Arv Z h0 vb kb .byte (6 : Int32) [(.int ch0), (.int ch1), (.int ch2), (.int ch3), (.int ch4), (.int (0 : Int32))] (.int (0 : Int32))) :
    MetFree l (⟨"java/util/Arrays", "copyOfRange", "([BII)[B"⟩ : MethodName) (head1 (Jvm.Cond.code (⟨"java/util/Arrays", "copyOfRange", "([BII)[B"⟩ : MethodName) jdk_65_method_132_code 3 (some (.array .byte)) :: ws) ({ frames := 2, cells := 1, slots := 5, locals := 42 } : Room)) (fun a U => a = #[(.ref vb), (.int (0 : Int32)), (.int (5 : Int32))] ∧ Z.Warmed39 U.vm ∧ U.heap = h0) (fun _ _ _ _ _ => True) (fun _ U o U' => ∃ v L, o = .returned v ∧ Q12c2 Z vb kb ch0 ch1 ch2 ch3 ch4 h0 n0 v U'.heap L ∧ FrameEnd U o U' L ({ frames := 2, cells := 1, slots := 5, locals := 42 } : Room).cells ({ frames := 2, cells := 1, slots := 5, locals := 42 } : Room).slots) := by
  refine MetFree.of_bodySF (plainFor_of_name pn_java_util_Arrays) hisR ?_
  intro p e s m args below meth c s₁ Bd hml0 hP hK
  obtain ⟨rfl, hZ, hh⟩ := hP
  have hx := Bd.exec
  have hby := Bd.bytes
  have hml : c.maxLocals = 3 := hml0
  have hown : s.vm.findClass "java/util/Arrays" = some m.cls := findClass_of_methodNamed Bd.named
  have hnm := (name_of_methodNamed Bd.named Bd.method).1
  have X0 : Stand p l e ({ frames := 2, cells := 1, slots := 5, locals := 42 } : Room) s m #[(.ref vb), (.int (0 : Int32)), (.int (5 : Int32))] below meth c s₁ [] 0 0 := Stand.of_body Bd
  have e0 : s₁.heap = h0 := by rw [← hh, Bd.state]; rfl
  have efx : entryFrame m #[(.ref vb), (.int (0 : Int32)), (.int (5 : Int32))] 3 = mkF m 0 #[.val (.ref vb), .val (.int (0 : Int32)), .val (.int (5 : Int32))] [] := by first | (simp [entryFrame, mkF, argsToLocals, Value.category]; done) | rfl
  have N0 := Fr.nil n0
  have K0 : Keep h0 h0 [] := Keep.refl h0 _
  refine OGo.start (g' := mkF m 0 #[.val (.ref vb), .val (.int (0 : Int32)), .val (.int (5 : Int32))] []) (efx) ?_
  show OGo p.tables e below (P12c2 Z vb kb ch0 ch1 ch2 ch3 ch4 h0 n0 s) (s₁.setTop (mkF m 0 #[.val (.ref vb), .val (.int (0 : Int32)), .val (.int (5 : Int32))] []))
  refine OGo.go (B := s₁.setTop (mkF m 1 #[.val (.ref vb), .val (.int (0 : Int32)), .val (.int (5 : Int32))] [(.int (0 : Int32))])) ?_ (fun tX kX => XS.iloadN X0.here hx rfl (hb hby d12_0) rfl kX)
  refine OGo.go (B := s₁.setTop (mkF m 4 #[.val (.ref vb), .val (.int (0 : Int32)), .val (.int (5 : Int32))] [])) ?_ (fun tX kX => XS.ifNo X0.here hx rfl (hb hby d12_1) rfl ((if0 _ _).trans (teq (by decide)).2) kX)
  refine OGo.go (B := s₁.setTop (mkF m 5 #[.val (.ref vb), .val (.int (0 : Int32)), .val (.int (5 : Int32))] [(.int (5 : Int32))])) ?_ (fun tX kX => XS.iloadN X0.here hx rfl (hb hby d12_4) rfl kX)
  refine OGo.go (B := s₁.setTop (mkF m 6 #[.val (.ref vb), .val (.int (0 : Int32)), .val (.int (5 : Int32))] [(.ref vb), (.int (5 : Int32))])) ?_ (fun tX kX => XS.aloadN X0.here hx rfl (hb hby d12_5) rfl rfl kX)
  obtain ⟨cl1, Ar1, qa1, S1, N1', H1, G1⟩ := id V_vb
  refine OGo.go (B := s₁.setTop (mkF m 7 #[.val (.ref vb), .val (.int (0 : Int32)), .val (.int (5 : Int32))] [(.int (6 : Int32)), (.int (5 : Int32))])) ?_ (fun tX kX => X0.arraylength hx (by rw [e0]; exact Ar1.1) (State.isArrayOf_alike hZ.alike Ar1.2.1) (g := (mkF m 6 #[.val (.ref vb), .val (.int (0 : Int32)), .val (.int (5 : Int32))] [(.ref vb), (.int (5 : Int32))])) rfl rfl (hb hby d12_6) _ (by rw [len_of S1 N1']; exact kX))
  refine OGo.go (B := s₁.setTop (mkF m 10 #[.val (.ref vb), .val (.int (0 : Int32)), .val (.int (5 : Int32))] [])) ?_ (fun tX kX => XS.icmpNo X0.here hx rfl (hb hby d12_7) rfl (feq (by decide)).1 kX)
  refine OGo.go (B := s₁.setTop (mkF m 11 #[.val (.ref vb), .val (.int (0 : Int32)), .val (.int (5 : Int32))] [(.ref vb)])) ?_ (fun tX kX => XS.aloadN X0.here hx rfl (hb hby d12_10) rfl rfl kX)
  refine OGo.go (B := s₁.setTop (mkF m 12 #[.val (.ref vb), .val (.int (0 : Int32)), .val (.int (5 : Int32))] [(.int (0 : Int32)), (.ref vb)])) ?_ (fun tX kX => XS.iloadN X0.here hx rfl (hb hby d12_11) rfl kX)
  refine OGo.go (B := s₁.setTop (mkF m 13 #[.val (.ref vb), .val (.int (0 : Int32)), .val (.int (5 : Int32))] [(.int (5 : Int32)), (.int (0 : Int32)), (.ref vb)])) ?_ (fun tX kX => XS.iloadN X0.here hx rfl (hb hby d12_12) rfl kX)
  obtain ⟨_, _, ⟨T2, L2, k2, n2⟩, -, X2, ⟨Lc2, hQ2, l2, y2, z2⟩, st2⟩ := Jvm.LawKit.callS X0 hx (y := (⟨"java/util/Arrays", "copyOfRangeByte", "([BII)[B"⟩ : MethodName)) hown (mvT hZ (hw _ (List.mem_of_getElem? (i := 114) rfl))) (mvT hZ (hw _ (List.mem_of_getElem? (i := 115) rfl))) (mvT hZ (hw _ (List.mem_of_getElem? (i := 66) rfl))) (mvT hZ (hw _ (List.mem_of_getElem? (i := 116) rfl))) (by decide) (backOf (W := 0) (rm19c2 l Z aV hw [] vb kb ch0 ch1 ch2 ch3 ch4 h0 n0 Z0 E_vb V_vb) hZ (hw _ (List.mem_of_getElem? (i := 116) rfl)) (hw _ (List.mem_of_getElem? (i := 66) rfl)) (by decide) (by decide)) (g := (mkF m 13 #[.val (.ref vb), .val (.int (0 : Int32)), .val (.int (5 : Int32))] [(.int (5 : Int32)), (.int (0 : Int32)), (.ref vb)])) rfl (by rw [hml]; rfl) (argsL := [(.ref vb), (.int (0 : Int32)), (.int (5 : Int32))]) (rest := []) (lenOf pd___BII__B rfl) rfl (by show 2 * 0 + _ ≤ _; exact Nat.le_of_eq rfl) (hb hby d12_13) (fun _ _ => ⟨rfl, e0, (by decide : 0 + 1 ≤ _), (by decide : 0 + 5 ≤ _)⟩)
  dsimp only [Pt.U, Pt.locs, Pt.cells, Pt.slots] at X2 l2 y2 z2 st2 hQ2
  subst l2 y2 z2
  obtain ⟨nb_2, kn_2, rfl, N2q, Kq2, sz2_nb, E_nb_2_p, V_nb_2_p⟩ := hQ2
  have N2 := Fr.app N0 N2q
  have ne_vb_nb_2 : vb ≠ nb_2 := Nat.ne_of_lt (Nat.lt_of_lt_of_le E_vb.lt sz2_nb)
  have E_vb := E_vb.keep Kq2
  have V_vb := V_vb.keep Kq2 nin0
  have g_nb_2 : n0 ≤ nb_2 := Nat.le_trans Z0 sz2_nb
  have sz_nb_2 : h0.size ≤ nb_2 := Nat.le_trans K0.1 sz2_nb
  have K2 := K0.trans Kq2 all0
  have zn2 : n0 ≤ T2.heap.size := Nat.le_trans Z0 Kq2.1
  have E_nb_2 := E_nb_2_p
  have V_nb_2 := V_nb_2_p
  refine OGo.go (B := T2.setTop (mkF m 16 #[.val (.ref vb), .val (.int (0 : Int32)), .val (.int (5 : Int32))] [(.ref nb_2)])) ?_ st2
  refine OGo.ret X2 (v := (some (.ref nb_2))) (fun h => by rw [Bd.returns] at h; cases h) (BodyLoose.notSynchronized Bd) (fun fs hr => retOut X2 hx Bd.returns rfl (Or.inr (Or.inr (Or.inr (Or.inr ⟨rfl, rfl, rfl⟩)))) (hb hby d12_16) hr) (Q := Q12c2 Z vb kb ch0 ch1 ch2 ch3 ch4 h0 n0) ?_ (by decide) (by decide)
  show Q12c2 Z vb kb ch0 ch1 ch2 ch3 ch4 h0 n0 _ T2.heap _
  exact ⟨nb_2, kn_2, rfl, N2, K2, sz_nb_2, E_nb_2, V_nb_2⟩
def Q7c2 (Z : State) (a0 : Addr) (a1 : Addr) (u1 : Value) (u2 : Value) (vb : Addr) (kb : ClassId) (cs : Int32) (ch0 : Int32) (ch1 : Int32) (ch2 : Int32) (ch3 : Int32) (ch4 : Int32) (h0 : Heap) (n0 : Nat) (v : Option Value) (h : Heap) (L : List Loc) : Prop := ∃ (nb : Addr) (kn : ClassId), v = none ∧ Fr n0 L ∧ Keep h0 h [a0] ∧ h0.size ≤ nb ∧ Exa Z h a0 "java/lang/String" ∧ Fld Z h a0 "java/lang/String" "value" "[B" (.ref nb) ∧ Fld Z h a0 "java/lang/String" "coder" "B" (.int (0 : Int32)) ∧ Exa Z h nb "[B" ∧ Arv Z h nb kn .byte (5 : Int32) [(.int ch0), (.int ch1), (.int ch2), (.int ch3), (.int ch4)] (.int (0 : Int32))
def P7c2 (Z : State) (a0 : Addr) (a1 : Addr) (u1 : Value) (u2 : Value) (vb : Addr) (kb : ClassId) (cs : Int32) (ch0 : Int32) (ch1 : Int32) (ch2 : Int32) (ch3 : Int32) (ch4 : Int32) (h0 : Heap) (n0 : Nat) (s : State) (o : Outcome) (U' : State) : Prop := ∃ v L, o = .returned v ∧ Q7c2 Z a0 a1 u1 u2 vb kb cs ch0 ch1 ch2 ch3 ch4 h0 n0 v U'.heap L ∧ FrameEnd s o U' L ({ frames := 3, cells := 1, slots := 5, locals := 57 } : Room).cells ({ frames := 3, cells := 1, slots := 5, locals := 57 } : Room).slots
set_option maxRecDepth 65536 in
set_option maxHeartbeats 40000000 in
theorem rm7c2 (l : Launch) (Z : State) (aV : Array Value) (hw : ∀ d ∈ tables_1, d.before aV Z = true) (ws : List Jvm.Cond) (a0 : Addr) (a1 : Addr) (u1 : Value) (u2 : Value) (vb : Addr) (kb : ClassId) (cs : Int32) (ch0 : Int32) (ch1 : Int32) (ch2 : Int32) (ch3 : Int32) (ch4 : Int32) (h0 : Heap) (n0 : Nat) (Z0 : n0 ≤ h0.size) (E_a0 : Exa Z h0 a0 "java/lang/String") (F_value_a0 : Fld Z h0 a0 "java/lang/String" "value" "[B" u1) (F_coder_a0 : Fld Z h0 a0 "java/lang/String" "coder" "B" u2) (E_a1 : Exa Z h0 a1 "java/lang/StringBuilder") (F_value_a1 : Fld Z h0 a1 "java/lang/AbstractStringBuilder" "value" "[B" (.ref vb)) (F_coder_a1 : Fld Z h0 a1 "java/lang/AbstractStringBuilder" "coder" "B" (.int (0 : Int32))) (F_count_a1 : Fld Z h0 a1 "java/lang/AbstractStringBuilder" "count" "I" (.int (5 : Int32))) (E_vb : Exa Z h0 vb "[B") (V_vb : Arv Z h0 vb kb .byte (6 : Int32) [(.int ch0), (.int ch1), (.int ch2), (.int ch3), (.int ch4), (.int (0 : Int32))] (.int (0 : Int32))) (S_COMPACT_STRINGS : Sta Z h0 "java/lang/String" "COMPACT_STRINGS" "Z" (.int cs)) (ga : n0 ≤ a0) (n01 : a1 ≠ a0) (n0v : vb ≠ a0) (hcs : ¬ cs = 0) :
    MetFree l (⟨"java/lang/String", "<init>", "(Ljava/lang/AbstractStringBuilder;Ljava/lang/Void;)V"⟩ : MethodName) (head1 (Jvm.Cond.code (⟨"java/lang/String", "<init>", "(Ljava/lang/AbstractStringBuilder;Ljava/lang/Void;)V"⟩ : MethodName) jdk_42_method_150_code 5 none :: ws) ({ frames := 3, cells := 1, slots := 5, locals := 57 } : Room)) (fun a U => a = #[(.ref a0), (.ref a1), .null] ∧ Z.Warmed39 U.vm ∧ U.heap = h0) (fun _ _ _ _ _ => True) (fun _ U o U' => ∃ v L, o = .returned v ∧ Q7c2 Z a0 a1 u1 u2 vb kb cs ch0 ch1 ch2 ch3 ch4 h0 n0 v U'.heap L ∧ FrameEnd U o U' L ({ frames := 3, cells := 1, slots := 5, locals := 57 } : Room).cells ({ frames := 3, cells := 1, slots := 5, locals := 57 } : Room).slots) := by
  refine MetFree.of_bodySF (plainFor_of_name pn_java_lang_String) hisR ?_
  intro p e s m args below meth c s₁ Bd hml0 hP hK
  obtain ⟨rfl, hZ, hh⟩ := hP
  have hx := Bd.exec
  have hby := Bd.bytes
  have hml : c.maxLocals = 5 := hml0
  have hown : s.vm.findClass "java/lang/String" = some m.cls := findClass_of_methodNamed Bd.named
  have hnm := (name_of_methodNamed Bd.named Bd.method).1
  have X0 : Stand p l e ({ frames := 3, cells := 1, slots := 5, locals := 57 } : Room) s m #[(.ref a0), (.ref a1), .null] below meth c s₁ [] 0 0 := Stand.of_body Bd
  have e0 : s₁.heap = h0 := by rw [← hh, Bd.state]; rfl
  have efx : entryFrame m #[(.ref a0), (.ref a1), .null] 5 = mkF m 0 #[.val (.ref a0), .val (.ref a1), .val .null, .unset, .unset] [] := by first | (simp [entryFrame, mkF, argsToLocals, Value.category]; done) | rfl
  have N0 := Fr.nil n0
  have K0 : Keep h0 h0 [a0] := Keep.refl h0 _
  refine OGo.start (g' := mkF m 0 #[.val (.ref a0), .val (.ref a1), .val .null, .unset, .unset] []) (efx) ?_
  show OGo p.tables e below (P7c2 Z a0 a1 u1 u2 vb kb cs ch0 ch1 ch2 ch3 ch4 h0 n0 s) (s₁.setTop (mkF m 0 #[.val (.ref a0), .val (.ref a1), .val .null, .unset, .unset] []))
  refine OGo.go (B := s₁.setTop (mkF m 1 #[.val (.ref a0), .val (.ref a1), .val .null, .unset, .unset] [(.ref a0)])) ?_ (fun tX kX => XS.aloadN X0.here hx rfl (hb hby d7_0) rfl rfl kX)
  obtain ⟨T1, X1, e1, st1⟩ := initO X0 hx hZ hown (hw _ (List.mem_of_getElem? (i := 40) rfl)) (hw _ (List.mem_of_getElem? (i := 18) rfl)) (hw _ (List.mem_of_getElem? (i := 19) rfl)) e0 (g := (mkF m 1 #[.val (.ref a0), .val (.ref a1), .val .null, .unset, .unset] [(.ref a0)])) rfl (by rw [hml]; rfl) rfl (hb hby d7_1) (by decide) (W := 0) (by show 2 * 0 + _ ≤ _; exact Nat.le_of_eq rfl) (by decide)
  refine OGo.go (B := T1.setTop (mkF m 4 #[.val (.ref a0), .val (.ref a1), .val .null, .unset, .unset] [])) ?_ st1
  refine OGo.go (B := T1.setTop (mkF m 5 #[.val (.ref a0), .val (.ref a1), .val .null, .unset, .unset] [(.ref a1)])) ?_ (fun tX kX => XS.aloadN X1.here hx rfl (hb hby d7_4) rfl rfl kX)
  obtain ⟨cq2, kq2, q2a, q2b, q2c⟩ := isOf hZ e1 E_a1
  obtain ⟨_, _, ⟨T2, L2, k2, n2⟩, -, X2, ⟨Lc2, hQ2, l2, y2, z2⟩, st2⟩ := X1.virtualBack hx (y := (⟨"java/lang/AbstractStringBuilder", "getValue", "()[B"⟩ : MethodName)) (z := (⟨"java/lang/AbstractStringBuilder", "getValue", "()[B"⟩ : MethodName)) hown (mvT hZ (hw _ (List.mem_of_getElem? (i := 41) rfl))) (mvT hZ (hw _ (List.mem_of_getElem? (i := 42) rfl))) (notFace_of_selects (args := #[]) (mvT hZ (hw _ (List.mem_of_getElem? (i := 44) rfl)))) (mvT hZ (hw _ (List.mem_of_getElem? (i := 44) rfl))) (mvT hZ (hw _ (List.mem_of_getElem? (i := 43) rfl))) (by decide) (backOf (W := 0) (rm8 l Z aV hw [] a1 vb h0 n0 Z0 F_value_a1) hZ (hw _ (List.mem_of_getElem? (i := 45) rfl)) (hw _ (List.mem_of_getElem? (i := 15) rfl)) (by decide) (by decide)) q2a q2c (g := (mkF m 5 #[.val (.ref a0), .val (.ref a1), .val .null, .unset, .unset] [(.ref a1)])) rfl (by rw [hml]; rfl) (Steps.refl _) (argsL := []) (rest := []) (lenOf pd____B rfl) rfl (by show 2 * 0 + _ ≤ _; exact Nat.le_of_eq rfl) (hb hby d7_5) (fun _ _ => ⟨rfl, e1, (by decide : 0 + 0 ≤ _), (by decide : 0 + 0 ≤ _)⟩)
  dsimp only [Pt.U, Pt.locs, Pt.cells, Pt.slots] at X2 l2 y2 z2 st2 hQ2
  subst l2 y2 z2
  obtain ⟨rfl, N2q, e2⟩ := hQ2
  have N2 := Fr.app N0 N2q
  refine OGo.go (B := T2.setTop (mkF m 8 #[.val (.ref a0), .val (.ref a1), .val .null, .unset, .unset] [(.ref vb)])) ?_ (fun tX kX => st2.trans kX)
  refine OGo.go (B := T2.setTop (mkF m 9 #[.val (.ref a0), .val (.ref a1), .val .null, .val (.ref vb), .unset] [])) ?_ (fun tX kX => XS.astoreN X2.here hx rfl (hb hby d7_8) rfl rfl (l' := #[.val (.ref a0), .val (.ref a1), .val .null, .val (.ref vb), .unset]) rfl kX)
  refine OGo.go (B := T2.setTop (mkF m 10 #[.val (.ref a0), .val (.ref a1), .val .null, .val (.ref vb), .unset] [(.ref a1)])) ?_ (fun tX kX => XS.aloadN X2.here hx rfl (hb hby d7_9) rfl rfl kX)
  obtain ⟨cq3, kq3, q3a, q3b, q3c⟩ := isOf hZ e2 E_a1
  obtain ⟨_, _, ⟨T3, L3, k3, n3⟩, -, X3, ⟨Lc3, hQ3, l3, y3, z3⟩, st3⟩ := X2.virtualBack hx (y := (⟨"java/lang/AbstractStringBuilder", "length", "()I"⟩ : MethodName)) (z := (⟨"java/lang/StringBuilder", "length", "()I"⟩ : MethodName)) hown (mvT hZ (hw _ (List.mem_of_getElem? (i := 46) rfl))) (mvT hZ (hw _ (List.mem_of_getElem? (i := 47) rfl))) (own_nf (args := #[]) (mvT hZ (hw _ (List.mem_of_getElem? (i := 44) rfl))) rfl) (mvT hZ (hw _ (List.mem_of_getElem? (i := 49) rfl))) (mvT hZ (hw _ (List.mem_of_getElem? (i := 50) rfl))) (by decide) (backOf (W := 0) (rm9 l Z aV hw [] a1 (5 : Int32) h0 n0 Z0 E_a1 F_count_a1) hZ (hw _ (List.mem_of_getElem? (i := 51) rfl)) (hw _ (List.mem_of_getElem? (i := 7) rfl)) (by decide) (by decide)) q3a q3c (g := (mkF m 10 #[.val (.ref a0), .val (.ref a1), .val .null, .val (.ref vb), .unset] [(.ref a1)])) rfl (by rw [hml]; rfl) (Steps.refl _) (argsL := []) (rest := []) (lenOf pd___I rfl) rfl (by show 2 * 0 + _ ≤ _; exact Nat.le_of_eq rfl) (hb hby d7_10) (fun _ _ => ⟨rfl, e2, (by decide : 0 + 0 ≤ _), (by decide : 0 + 0 ≤ _)⟩)
  dsimp only [Pt.U, Pt.locs, Pt.cells, Pt.slots] at X3 l3 y3 z3 st3 hQ3
  subst l3 y3 z3
  obtain ⟨rfl, N3q, e3⟩ := hQ3
  have N3 := Fr.app N2 N3q
  refine OGo.go (B := T3.setTop (mkF m 13 #[.val (.ref a0), .val (.ref a1), .val .null, .val (.ref vb), .unset] [(.int (5 : Int32))])) ?_ (fun tX kX => st3.trans kX)
  refine OGo.go (B := T3.setTop (mkF m 15 #[.val (.ref a0), .val (.ref a1), .val .null, .val (.ref vb), .val (.int (5 : Int32))] [])) ?_ (fun tX kX => XS.istore X3.here hx rfl (hb hby d7_13) rfl (l' := #[.val (.ref a0), .val (.ref a1), .val .null, .val (.ref vb), .val (.int (5 : Int32))]) rfl kX)
  refine OGo.go (B := T3.setTop (mkF m 16 #[.val (.ref a0), .val (.ref a1), .val .null, .val (.ref vb), .val (.int (5 : Int32))] [(.ref a1)])) ?_ (fun tX kX => XS.aloadN X3.here hx rfl (hb hby d7_15) rfl rfl kX)
  obtain ⟨cq4, kq4, q4a, q4b, q4c⟩ := isOf hZ e3 E_a1
  obtain ⟨_, _, ⟨T4, L4, k4, n4⟩, -, X4, ⟨Lc4, hQ4, l4, y4, z4⟩, st4⟩ := X3.virtualBack hx (y := (⟨"java/lang/AbstractStringBuilder", "isLatin1", "()Z"⟩ : MethodName)) (z := (⟨"java/lang/AbstractStringBuilder", "isLatin1", "()Z"⟩ : MethodName)) hown (mvT hZ (hw _ (List.mem_of_getElem? (i := 57) rfl))) (mvT hZ (hw _ (List.mem_of_getElem? (i := 58) rfl))) (notFace_of_selects (args := #[]) (mvT hZ (hw _ (List.mem_of_getElem? (i := 60) rfl)))) (mvT hZ (hw _ (List.mem_of_getElem? (i := 60) rfl))) (mvT hZ (hw _ (List.mem_of_getElem? (i := 59) rfl))) (by decide) (backOf (W := 0) (rm11 l Z aV hw [] a1 cs h0 n0 Z0 F_coder_a1 S_COMPACT_STRINGS hcs) hZ (hw _ (List.mem_of_getElem? (i := 61) rfl)) (hw _ (List.mem_of_getElem? (i := 15) rfl)) (by decide) (by decide)) q4a q4c (g := (mkF m 16 #[.val (.ref a0), .val (.ref a1), .val .null, .val (.ref vb), .val (.int (5 : Int32))] [(.ref a1)])) rfl (by rw [hml]; rfl) (Steps.refl _) (argsL := []) (rest := []) (lenOf pd___Z rfl) rfl (by show 2 * 0 + _ ≤ _; exact Nat.le_of_eq rfl) (hb hby d7_16) (fun _ _ => ⟨rfl, e3, (by decide : 0 + 0 ≤ _), (by decide : 0 + 0 ≤ _)⟩)
  dsimp only [Pt.U, Pt.locs, Pt.cells, Pt.slots] at X4 l4 y4 z4 st4 hQ4
  subst l4 y4 z4
  obtain ⟨rfl, N4q, e4⟩ := hQ4
  have N4 := Fr.app N3 N4q
  refine OGo.go (B := T4.setTop (mkF m 19 #[.val (.ref a0), .val (.ref a1), .val .null, .val (.ref vb), .val (.int (5 : Int32))] [(.int (1 : Int32))])) ?_ (fun tX kX => st4.trans kX)
  refine OGo.go (B := T4.setTop (mkF m 22 #[.val (.ref a0), .val (.ref a1), .val .null, .val (.ref vb), .val (.int (5 : Int32))] [])) ?_ (fun tX kX => XS.ifNo X4.here hx rfl (hb hby d7_19) rfl ((if0 _ _).trans (feq (by decide)).1) kX)
  refine OGo.go (B := T4.setTop (mkF m 23 #[.val (.ref a0), .val (.ref a1), .val .null, .val (.ref vb), .val (.int (5 : Int32))] [(.ref a0)])) ?_ (fun tX kX => XS.aloadN X4.here hx rfl (hb hby d7_22) rfl rfl kX)
  refine OGo.go (B := T4.setTop (mkF m 24 #[.val (.ref a0), .val (.ref a1), .val .null, .val (.ref vb), .val (.int (5 : Int32))] [(.int (0 : Int32)), (.ref a0)])) ?_ (fun tX kX => XS.iconst X4.here hx rfl (hb hby d7_23) kX)
  obtain ⟨T5, h5, X5, e5, W5, st5⟩ := putF X4 hx hZ hown (host := "") (Or.inl (hw _ (List.mem_of_getElem? (i := 62) rfl))) Via.refl e4 F_coder_a0 E_a0 (Or.inr ⟨(hw _ (List.mem_of_getElem? (i := 63) rfl)), rfl, hnm⟩) (hw _ (List.mem_of_getElem? (i := 32) rfl)) (ty := .byte) (by decide) rfl rfl (g := (mkF m 24 #[.val (.ref a0), .val (.ref a1), .val .null, .val (.ref vb), .val (.int (5 : Int32))] [(.int (0 : Int32)), (.ref a0)])) rfl rfl (hb hby d7_24)
  have E_a0 := E_a0.wr W5
  have F_value_a0 := F_value_a0.other W5 (Or.inr (slot_ne (Or.inr (hw _ (List.mem_of_getElem? (i := 78) rfl))) (Or.inr (hw _ (List.mem_of_getElem? (i := 63) rfl))) (by decide) (t := (.array .byte)) (t' := .byte) (by decide) (by decide)))
  have F_coder_a0 := F_coder_a0.same W5
  have E_a1 := E_a1.wr W5
  have F_value_a1 := F_value_a1.other W5 (Or.inl n01)
  have F_coder_a1 := F_coder_a1.other W5 (Or.inl n01)
  have F_count_a1 := F_count_a1.other W5 (Or.inl n01)
  have E_vb := E_vb.wr W5
  have V_vb := V_vb.other W5 n0v
  have S_COMPACT_STRINGS := S_COMPACT_STRINGS.wr W5
  have K5 := K0.wr W5 (Or.inl (List.mem_of_getElem? (i := 0) rfl))
  have zn5 : n0 ≤ h5.size := Nat.le_trans Z0 (Keep.of_wr W5).1
  have N5 := Fr.snoc X5 N4 ga
  refine OGo.go (B := T5.setTop (mkF m 27 #[.val (.ref a0), .val (.ref a1), .val .null, .val (.ref vb), .val (.int (5 : Int32))] [])) ?_ st5
  refine OGo.go (B := T5.setTop (mkF m 28 #[.val (.ref a0), .val (.ref a1), .val .null, .val (.ref vb), .val (.int (5 : Int32))] [(.ref a0)])) ?_ (fun tX kX => XS.aloadN X5.here hx rfl (hb hby d7_27) rfl rfl kX)
  refine OGo.go (B := T5.setTop (mkF m 29 #[.val (.ref a0), .val (.ref a1), .val .null, .val (.ref vb), .val (.int (5 : Int32))] [(.ref vb), (.ref a0)])) ?_ (fun tX kX => XS.aloadN X5.here hx rfl (hb hby d7_28) rfl rfl kX)
  refine OGo.go (B := T5.setTop (mkF m 30 #[.val (.ref a0), .val (.ref a1), .val .null, .val (.ref vb), .val (.int (5 : Int32))] [(.int (0 : Int32)), (.ref vb), (.ref a0)])) ?_ (fun tX kX => XS.iconst X5.here hx rfl (hb hby d7_29) kX)
  refine OGo.go (B := T5.setTop (mkF m 32 #[.val (.ref a0), .val (.ref a1), .val .null, .val (.ref vb), .val (.int (5 : Int32))] [(.int (5 : Int32)), (.int (0 : Int32)), (.ref vb), (.ref a0)])) ?_ (fun tX kX => XS.iload X5.here hx rfl (hb hby d7_30) rfl kX)
  obtain ⟨_, _, ⟨T6, L6, k6, n6⟩, -, X6, ⟨Lc6, hQ6, l6, y6, z6⟩, st6⟩ := Jvm.LawKit.callS X5 hx (y := (⟨"java/util/Arrays", "copyOfRange", "([BII)[B"⟩ : MethodName)) hown (mvT hZ (hw _ (List.mem_of_getElem? (i := 64) rfl))) (mvT hZ (hw _ (List.mem_of_getElem? (i := 65) rfl))) (mvT hZ (hw _ (List.mem_of_getElem? (i := 66) rfl))) (mvT hZ (hw _ (List.mem_of_getElem? (i := 67) rfl))) (by decide) (backOf (W := 1) (rm12c2 l Z aV hw [] vb kb ch0 ch1 ch2 ch3 ch4 h5 n0 zn5 E_vb V_vb) hZ (hw _ (List.mem_of_getElem? (i := 67) rfl)) (hw _ (List.mem_of_getElem? (i := 66) rfl)) (by decide) (by decide)) (g := (mkF m 32 #[.val (.ref a0), .val (.ref a1), .val .null, .val (.ref vb), .val (.int (5 : Int32))] [(.int (5 : Int32)), (.int (0 : Int32)), (.ref vb), (.ref a0)])) rfl (by rw [hml]; rfl) (argsL := [(.ref vb), (.int (0 : Int32)), (.int (5 : Int32))]) (rest := [(.ref a0)]) (lenOf pd___BII__B rfl) rfl (by show 2 * 0 + _ ≤ _; exact Nat.le_of_eq rfl) (hb hby d7_32) (fun _ _ => ⟨rfl, e5, (by decide : 0 + 1 ≤ _), (by decide : 0 + 5 ≤ _)⟩)
  dsimp only [Pt.U, Pt.locs, Pt.cells, Pt.slots] at X6 l6 y6 z6 st6 hQ6
  subst l6 y6 z6
  obtain ⟨nb_6, kn_6, rfl, N6q, Kq6, sz6_nb, E_nb_6_p, V_nb_6_p⟩ := hQ6
  have N6 := Fr.app N5 N6q
  have ne_a0_nb_6 : a0 ≠ nb_6 := Nat.ne_of_lt (Nat.lt_of_lt_of_le E_a0.lt sz6_nb)
  have ne_a1_nb_6 : a1 ≠ nb_6 := Nat.ne_of_lt (Nat.lt_of_lt_of_le E_a1.lt sz6_nb)
  have ne_vb_nb_6 : vb ≠ nb_6 := Nat.ne_of_lt (Nat.lt_of_lt_of_le E_vb.lt sz6_nb)
  have S_COMPACT_STRINGS := Sta.keep0 S_COMPACT_STRINGS Kq6
  have E_a0 := E_a0.keep Kq6
  have F_value_a0 := F_value_a0.keep Kq6 nin0
  have F_coder_a0 := F_coder_a0.keep Kq6 nin0
  have E_a1 := E_a1.keep Kq6
  have F_value_a1 := F_value_a1.keep Kq6 nin0
  have F_coder_a1 := F_coder_a1.keep Kq6 nin0
  have F_count_a1 := F_count_a1.keep Kq6 nin0
  have E_vb := E_vb.keep Kq6
  have V_vb := V_vb.keep Kq6 nin0
  have g_nb_6 : n0 ≤ nb_6 := Nat.le_trans zn5 sz6_nb
  have sz_nb_6 : h0.size ≤ nb_6 := Nat.le_trans K5.1 sz6_nb
  have K6 := K5.trans Kq6 all0
  have zn6 : n0 ≤ T6.heap.size := Nat.le_trans zn5 Kq6.1
  have E_nb_6 := E_nb_6_p
  have V_nb_6 := V_nb_6_p
  refine OGo.go (B := T6.setTop (mkF m 35 #[.val (.ref a0), .val (.ref a1), .val .null, .val (.ref vb), .val (.int (5 : Int32))] [(.ref nb_6), (.ref a0)])) ?_ st6
  obtain ⟨T7, h7, X7, e7, W7, st7⟩ := putF X6 hx hZ hown (host := "") (Or.inl (hw _ (List.mem_of_getElem? (i := 77) rfl))) Via.refl rfl F_value_a0 E_a0 (Or.inr ⟨(hw _ (List.mem_of_getElem? (i := 78) rfl)), rfl, hnm⟩) (hw _ (List.mem_of_getElem? (i := 32) rfl)) (ty := (.array .byte)) (by decide) rfl rfl (g := (mkF m 35 #[.val (.ref a0), .val (.ref a1), .val .null, .val (.ref vb), .val (.int (5 : Int32))] [(.ref nb_6), (.ref a0)])) rfl rfl (hb hby d7_35)
  have E_a0 := E_a0.wr W7
  have F_value_a0 := F_value_a0.same W7
  have F_coder_a0 := F_coder_a0.other W7 (Or.inr (slot_ne (Or.inr (hw _ (List.mem_of_getElem? (i := 63) rfl))) (Or.inr (hw _ (List.mem_of_getElem? (i := 78) rfl))) (by decide) (t := .byte) (t' := (.array .byte)) (by decide) (by decide)))
  have E_a1 := E_a1.wr W7
  have F_value_a1 := F_value_a1.other W7 (Or.inl n01)
  have F_coder_a1 := F_coder_a1.other W7 (Or.inl n01)
  have F_count_a1 := F_count_a1.other W7 (Or.inl n01)
  have E_vb := E_vb.wr W7
  have V_vb := V_vb.other W7 n0v
  have S_COMPACT_STRINGS := S_COMPACT_STRINGS.wr W7
  have E_nb_6 := E_nb_6.wr W7
  have V_nb_6 := V_nb_6.other W7 (Ne.symm ne_a0_nb_6)
  have K7 := K6.wr W7 (Or.inl (List.mem_of_getElem? (i := 0) rfl))
  have zn7 : n0 ≤ h7.size := Nat.le_trans zn6 (Keep.of_wr W7).1
  have N7 := Fr.snoc X7 N6 ga
  refine OGo.go (B := T7.setTop (mkF m 38 #[.val (.ref a0), .val (.ref a1), .val .null, .val (.ref vb), .val (.int (5 : Int32))] [])) ?_ st7
  refine OGo.go (B := T7.setTop (mkF m 97 #[.val (.ref a0), .val (.ref a1), .val .null, .val (.ref vb), .val (.int (5 : Int32))] [])) ?_ (fun tX kX => XS.goto X7.here hx rfl (pc0 := 38) (pc' := 97) rfl (hb hby d7_38) (by decide) (by decide) kX)
  refine OGo.ret X7 (v := none) (fun _ => rfl) (BodyLoose.notSynchronized Bd) (fun fs hr => X7.returnOut hx Bd.returns (hb hby d7_97) hr) (Q := Q7c2 Z a0 a1 u1 u2 vb kb cs ch0 ch1 ch2 ch3 ch4 h0 n0) ?_ (by decide) (by decide)
  show Q7c2 Z a0 a1 u1 u2 vb kb cs ch0 ch1 ch2 ch3 ch4 h0 n0 _ T7.heap _
  rw [e7]
  exact ⟨nb_6, kn_6, rfl, N7, K7, sz_nb_6, E_a0, F_value_a0, F_coder_a0, E_nb_6, V_nb_6⟩
def Q6c2 (Z : State) (a0 : Addr) (a1 : Addr) (u1 : Value) (u2 : Value) (vb : Addr) (kb : ClassId) (cs : Int32) (ch0 : Int32) (ch1 : Int32) (ch2 : Int32) (ch3 : Int32) (ch4 : Int32) (h0 : Heap) (n0 : Nat) (v : Option Value) (h : Heap) (L : List Loc) : Prop := ∃ (nb : Addr) (kn : ClassId), v = none ∧ Fr n0 L ∧ Keep h0 h [a0] ∧ h0.size ≤ nb ∧ Exa Z h a0 "java/lang/String" ∧ Fld Z h a0 "java/lang/String" "value" "[B" (.ref nb) ∧ Fld Z h a0 "java/lang/String" "coder" "B" (.int (0 : Int32)) ∧ Exa Z h nb "[B" ∧ Arv Z h nb kn .byte (5 : Int32) [(.int ch0), (.int ch1), (.int ch2), (.int ch3), (.int ch4)] (.int (0 : Int32))
def P6c2 (Z : State) (a0 : Addr) (a1 : Addr) (u1 : Value) (u2 : Value) (vb : Addr) (kb : ClassId) (cs : Int32) (ch0 : Int32) (ch1 : Int32) (ch2 : Int32) (ch3 : Int32) (ch4 : Int32) (h0 : Heap) (n0 : Nat) (s : State) (o : Outcome) (U' : State) : Prop := ∃ v L, o = .returned v ∧ Q6c2 Z a0 a1 u1 u2 vb kb cs ch0 ch1 ch2 ch3 ch4 h0 n0 v U'.heap L ∧ FrameEnd s o U' L ({ frames := 4, cells := 1, slots := 5, locals := 73 } : Room).cells ({ frames := 4, cells := 1, slots := 5, locals := 73 } : Room).slots
set_option maxRecDepth 65536 in
set_option maxHeartbeats 40000000 in
theorem rm6c2 (l : Launch) (Z : State) (aV : Array Value) (hw : ∀ d ∈ tables_1, d.before aV Z = true) (ws : List Jvm.Cond) (a0 : Addr) (a1 : Addr) (u1 : Value) (u2 : Value) (vb : Addr) (kb : ClassId) (cs : Int32) (ch0 : Int32) (ch1 : Int32) (ch2 : Int32) (ch3 : Int32) (ch4 : Int32) (h0 : Heap) (n0 : Nat) (Z0 : n0 ≤ h0.size) (E_a0 : Exa Z h0 a0 "java/lang/String") (F_value_a0 : Fld Z h0 a0 "java/lang/String" "value" "[B" u1) (F_coder_a0 : Fld Z h0 a0 "java/lang/String" "coder" "B" u2) (E_a1 : Exa Z h0 a1 "java/lang/StringBuilder") (F_value_a1 : Fld Z h0 a1 "java/lang/AbstractStringBuilder" "value" "[B" (.ref vb)) (F_coder_a1 : Fld Z h0 a1 "java/lang/AbstractStringBuilder" "coder" "B" (.int (0 : Int32))) (F_count_a1 : Fld Z h0 a1 "java/lang/AbstractStringBuilder" "count" "I" (.int (5 : Int32))) (E_vb : Exa Z h0 vb "[B") (V_vb : Arv Z h0 vb kb .byte (6 : Int32) [(.int ch0), (.int ch1), (.int ch2), (.int ch3), (.int ch4), (.int (0 : Int32))] (.int (0 : Int32))) (S_COMPACT_STRINGS : Sta Z h0 "java/lang/String" "COMPACT_STRINGS" "Z" (.int cs)) (ga : n0 ≤ a0) (n01 : a1 ≠ a0) (n0v : vb ≠ a0) (hcs : ¬ cs = 0) :
    MetFree l (⟨"java/lang/String", "<init>", "(Ljava/lang/StringBuilder;)V"⟩ : MethodName) (head1 (Jvm.Cond.code (⟨"java/lang/String", "<init>", "(Ljava/lang/StringBuilder;)V"⟩ : MethodName) jdk_42_method_53_code 2 none :: ws) ({ frames := 4, cells := 1, slots := 5, locals := 73 } : Room)) (fun a U => a = #[(.ref a0), (.ref a1)] ∧ Z.Warmed39 U.vm ∧ U.heap = h0) (fun _ _ _ _ _ => True) (fun _ U o U' => ∃ v L, o = .returned v ∧ Q6c2 Z a0 a1 u1 u2 vb kb cs ch0 ch1 ch2 ch3 ch4 h0 n0 v U'.heap L ∧ FrameEnd U o U' L ({ frames := 4, cells := 1, slots := 5, locals := 73 } : Room).cells ({ frames := 4, cells := 1, slots := 5, locals := 73 } : Room).slots) := by
  refine MetFree.of_bodySF (plainFor_of_name pn_java_lang_String) hisR ?_
  intro p e s m args below meth c s₁ Bd hml0 hP hK
  obtain ⟨rfl, hZ, hh⟩ := hP
  have hx := Bd.exec
  have hby := Bd.bytes
  have hml : c.maxLocals = 2 := hml0
  have hown : s.vm.findClass "java/lang/String" = some m.cls := findClass_of_methodNamed Bd.named
  have hnm := (name_of_methodNamed Bd.named Bd.method).1
  have X0 : Stand p l e ({ frames := 4, cells := 1, slots := 5, locals := 73 } : Room) s m #[(.ref a0), (.ref a1)] below meth c s₁ [] 0 0 := Stand.of_body Bd
  have e0 : s₁.heap = h0 := by rw [← hh, Bd.state]; rfl
  have efx : entryFrame m #[(.ref a0), (.ref a1)] 2 = mkF m 0 #[.val (.ref a0), .val (.ref a1)] [] := by first | (simp [entryFrame, mkF, argsToLocals, Value.category]; done) | rfl
  have N0 := Fr.nil n0
  have K0 : Keep h0 h0 [a0] := Keep.refl h0 _
  refine OGo.start (g' := mkF m 0 #[.val (.ref a0), .val (.ref a1)] []) (efx) ?_
  show OGo p.tables e below (P6c2 Z a0 a1 u1 u2 vb kb cs ch0 ch1 ch2 ch3 ch4 h0 n0 s) (s₁.setTop (mkF m 0 #[.val (.ref a0), .val (.ref a1)] []))
  refine OGo.go (B := s₁.setTop (mkF m 1 #[.val (.ref a0), .val (.ref a1)] [(.ref a0)])) ?_ (fun tX kX => XS.aloadN X0.here hx rfl (hb hby d6_0) rfl rfl kX)
  refine OGo.go (B := s₁.setTop (mkF m 2 #[.val (.ref a0), .val (.ref a1)] [(.ref a1), (.ref a0)])) ?_ (fun tX kX => XS.aloadN X0.here hx rfl (hb hby d6_1) rfl rfl kX)
  refine OGo.go (B := s₁.setTop (mkF m 3 #[.val (.ref a0), .val (.ref a1)] [.null, (.ref a1), (.ref a0)])) ?_ (fun tX kX => XS.aconstNull X0.here hx rfl (hb hby d6_2) kX)
  obtain ⟨_, _, ⟨T1, L1, k1, n1⟩, -, X1, ⟨Lc1, hQ1, l1, y1, z1⟩, st1⟩ := X0.specialBack hx (y := (⟨"java/lang/String", "<init>", "(Ljava/lang/AbstractStringBuilder;Ljava/lang/Void;)V"⟩ : MethodName)) rfl hown (mvT hZ (hw _ (List.mem_of_getElem? (i := 37) rfl))) (mvT hZ (hw _ (List.mem_of_getElem? (i := 38) rfl))) (mvT hZ (hw _ (List.mem_of_getElem? (i := 39) rfl))) (by decide) (backOf (W := 0) (rm7c2 l Z aV hw [] a0 a1 u1 u2 vb kb cs ch0 ch1 ch2 ch3 ch4 h0 n0 Z0 E_a0 F_value_a0 F_coder_a0 E_a1 F_value_a1 F_coder_a1 F_count_a1 E_vb V_vb S_COMPACT_STRINGS ga n01 n0v hcs) hZ (hw _ (List.mem_of_getElem? (i := 39) rfl)) (hw _ (List.mem_of_getElem? (i := 21) rfl)) (by decide) (by decide)) (g := (mkF m 3 #[.val (.ref a0), .val (.ref a1)] [.null, (.ref a1), (.ref a0)])) rfl (by rw [hml]; rfl) (Steps.refl _) (a := a0) (argsL := [(.ref a1), .null]) (rest := []) (lenOf pd__Ljava_lang_AbstractStringBuilder_Ljava_lang_Void__V rfl) rfl (by show 2 * 0 + _ ≤ _; exact Nat.le_of_eq rfl) (hb hby d6_3) (fun _ _ => ⟨rfl, e0, (by decide : 0 + 1 ≤ _), (by decide : 0 + 5 ≤ _)⟩)
  dsimp only [Pt.U, Pt.locs, Pt.cells, Pt.slots] at X1 l1 y1 z1 st1 hQ1
  subst l1 y1 z1
  obtain ⟨nb_1, kn_1, rfl, N1q, Kq1, sz1_nb, E_a0_p, F_value_a0_p, F_coder_a0_p, E_nb_1_p, V_nb_1_p⟩ := hQ1
  have N1 := Fr.app N0 N1q
  have ne_a0_nb_1 : a0 ≠ nb_1 := Nat.ne_of_lt (Nat.lt_of_lt_of_le E_a0.lt sz1_nb)
  have ne_a1_nb_1 : a1 ≠ nb_1 := Nat.ne_of_lt (Nat.lt_of_lt_of_le E_a1.lt sz1_nb)
  have ne_vb_nb_1 : vb ≠ nb_1 := Nat.ne_of_lt (Nat.lt_of_lt_of_le E_vb.lt sz1_nb)
  have S_COMPACT_STRINGS := Sta.keepE S_COMPACT_STRINGS Kq1 (staS E_a0.cell (fun x hx' => nomatch hx'))
  have E_a0 := E_a0.keep Kq1
  have E_a1 := E_a1.keep Kq1
  have F_value_a1 := F_value_a1.keep Kq1 (ninS n01 nin0)
  have F_coder_a1 := F_coder_a1.keep Kq1 (ninS n01 nin0)
  have F_count_a1 := F_count_a1.keep Kq1 (ninS n01 nin0)
  have E_vb := E_vb.keep Kq1
  have V_vb := V_vb.keep Kq1 (ninS n0v nin0)
  have g_nb_1 : n0 ≤ nb_1 := Nat.le_trans Z0 sz1_nb
  have sz_nb_1 : h0.size ≤ nb_1 := Nat.le_trans K0.1 sz1_nb
  have K1 := K0.trans Kq1 (allS (P := fun x => x ∈ [a0] ∨ h0.size ≤ x) (Or.inl (List.mem_of_getElem? (i := 0) rfl)) all0)
  have zn1 : n0 ≤ T1.heap.size := Nat.le_trans Z0 Kq1.1
  have E_a0 := E_a0_p
  have F_value_a0 := F_value_a0_p
  have F_coder_a0 := F_coder_a0_p
  have E_nb_1 := E_nb_1_p
  have V_nb_1 := V_nb_1_p
  refine OGo.go (B := T1.setTop (mkF m 6 #[.val (.ref a0), .val (.ref a1)] [])) ?_ (fun tX kX => st1.trans kX)
  refine OGo.ret X1 (v := none) (fun _ => rfl) (BodyLoose.notSynchronized Bd) (fun fs hr => X1.returnOut hx Bd.returns (hb hby d6_6) hr) (Q := Q6c2 Z a0 a1 u1 u2 vb kb cs ch0 ch1 ch2 ch3 ch4 h0 n0) ?_ (by decide) (by decide)
  show Q6c2 Z a0 a1 u1 u2 vb kb cs ch0 ch1 ch2 ch3 ch4 h0 n0 _ T1.heap _
  exact ⟨nb_1, kn_1, rfl, N1, K1, sz_nb_1, E_a0, F_value_a0, F_coder_a0, E_nb_1, V_nb_1⟩
def Q5c2 (Z : State) (a0 : Addr) (vb : Addr) (kb : ClassId) (cs : Int32) (ch0 : Int32) (ch1 : Int32) (ch2 : Int32) (ch3 : Int32) (ch4 : Int32) (h0 : Heap) (n0 : Nat) (v : Option Value) (h : Heap) (L : List Loc) : Prop := ∃ (sr : Addr) (nb : Addr) (kn : ClassId), v = some (.ref sr) ∧ Fr n0 L ∧ Keep h0 h [] ∧ h0.size ≤ sr ∧ h0.size ≤ nb ∧ Exa Z h sr "java/lang/String" ∧ Fld Z h sr "java/lang/String" "value" "[B" (.ref nb) ∧ Fld Z h sr "java/lang/String" "coder" "B" (.int (0 : Int32)) ∧ Exa Z h nb "[B" ∧ Arv Z h nb kn .byte (5 : Int32) [(.int ch0), (.int ch1), (.int ch2), (.int ch3), (.int ch4)] (.int (0 : Int32))
def P5c2 (Z : State) (a0 : Addr) (vb : Addr) (kb : ClassId) (cs : Int32) (ch0 : Int32) (ch1 : Int32) (ch2 : Int32) (ch3 : Int32) (ch4 : Int32) (h0 : Heap) (n0 : Nat) (s : State) (o : Outcome) (U' : State) : Prop := ∃ v L, o = .returned v ∧ Q5c2 Z a0 vb kb cs ch0 ch1 ch2 ch3 ch4 h0 n0 v U'.heap L ∧ FrameEnd s o U' L ({ frames := 5, cells := 2, slots := 9, locals := 87 } : Room).cells ({ frames := 5, cells := 2, slots := 9, locals := 87 } : Room).slots
set_option maxRecDepth 65536 in
set_option maxHeartbeats 40000000 in
theorem rm5c2 (l : Launch) (Z : State) (aV : Array Value) (hw : ∀ d ∈ tables_1, d.before aV Z = true) (ws : List Jvm.Cond) (a0 : Addr) (vb : Addr) (kb : ClassId) (cs : Int32) (ch0 : Int32) (ch1 : Int32) (ch2 : Int32) (ch3 : Int32) (ch4 : Int32) (h0 : Heap) (n0 : Nat) (Z0 : n0 ≤ h0.size) (E_a0 : Exa Z h0 a0 "java/lang/StringBuilder") (F_value_a0 : Fld Z h0 a0 "java/lang/AbstractStringBuilder" "value" "[B" (.ref vb)) (F_coder_a0 : Fld Z h0 a0 "java/lang/AbstractStringBuilder" "coder" "B" (.int (0 : Int32))) (F_count_a0 : Fld Z h0 a0 "java/lang/AbstractStringBuilder" "count" "I" (.int (5 : Int32))) (E_vb : Exa Z h0 vb "[B") (V_vb : Arv Z h0 vb kb .byte (6 : Int32) [(.int ch0), (.int ch1), (.int ch2), (.int ch3), (.int ch4), (.int (0 : Int32))] (.int (0 : Int32))) (S_COMPACT_STRINGS : Sta Z h0 "java/lang/String" "COMPACT_STRINGS" "Z" (.int cs)) (hcs : ¬ cs = 0) :
    MetFree l (⟨"java/lang/StringBuilder", "toString", "()Ljava/lang/String;"⟩ : MethodName) (head1 (Jvm.Cond.code (⟨"java/lang/StringBuilder", "toString", "()Ljava/lang/String;"⟩ : MethodName) jdk_67_method_42_code 1 (some (.object "java/lang/String")) :: ws) ({ frames := 5, cells := 2, slots := 9, locals := 87 } : Room)) (fun a U => a = #[(.ref a0)] ∧ Z.Warmed39 U.vm ∧ U.heap = h0) (fun _ _ _ _ _ => True) (fun _ U o U' => ∃ v L, o = .returned v ∧ Q5c2 Z a0 vb kb cs ch0 ch1 ch2 ch3 ch4 h0 n0 v U'.heap L ∧ FrameEnd U o U' L ({ frames := 5, cells := 2, slots := 9, locals := 87 } : Room).cells ({ frames := 5, cells := 2, slots := 9, locals := 87 } : Room).slots) := by
  refine MetFree.of_bodySF (plainFor_of_name pn_java_lang_StringBuilder) hisR ?_
  intro p e s m args below meth c s₁ Bd hml0 hP hK
  obtain ⟨rfl, hZ, hh⟩ := hP
  have hx := Bd.exec
  have hby := Bd.bytes
  have hml : c.maxLocals = 1 := hml0
  have hown : s.vm.findClass "java/lang/StringBuilder" = some m.cls := findClass_of_methodNamed Bd.named
  have hnm := (name_of_methodNamed Bd.named Bd.method).1
  have X0 : Stand p l e ({ frames := 5, cells := 2, slots := 9, locals := 87 } : Room) s m #[(.ref a0)] below meth c s₁ [] 0 0 := Stand.of_body Bd
  have e0 : s₁.heap = h0 := by rw [← hh, Bd.state]; rfl
  have efx : entryFrame m #[(.ref a0)] 1 = mkF m 0 #[.val (.ref a0)] [] := by first | (simp [entryFrame, mkF, argsToLocals, Value.category]; done) | rfl
  have N0 := Fr.nil n0
  have K0 : Keep h0 h0 [] := Keep.refl h0 _
  refine OGo.start (g' := mkF m 0 #[.val (.ref a0)] []) (efx) ?_
  show OGo p.tables e below (P5c2 Z a0 vb kb cs ch0 ch1 ch2 ch3 ch4 h0 n0 s) (s₁.setTop (mkF m 0 #[.val (.ref a0)] []))
  obtain ⟨T1, h1, X1, e1, E1, A1, D1, C1, st1⟩ := newO X0 hx hZ hown (hw _ (List.mem_of_getElem? (i := 31) rfl)) (hw _ (List.mem_of_getElem? (i := 32) rfl)) (hw _ (List.mem_of_getElem? (i := 21) rfl)) e0 (g := (mkF m 0 #[.val (.ref a0)] [])) rfl (hb hby d5_0) (by decide) (by decide)
  obtain ⟨b1, g1⟩ : ∃ z, z = h0.size := ⟨_, rfl⟩
  rw [← g1] at A1 D1 st1 C1
  have ne_a0_b1 : a0 ≠ b1 := Nat.ne_of_lt (Nat.lt_of_lt_of_le E_a0.lt (Nat.le_of_eq g1.symm))
  have ne_vb_b1 : vb ≠ b1 := Nat.ne_of_lt (Nat.lt_of_lt_of_le E_vb.lt (Nat.le_of_eq g1.symm))
  have E_a0 := E_a0.ext E1
  have F_value_a0 := F_value_a0.ext E1
  have F_coder_a0 := F_coder_a0.ext E1
  have F_count_a0 := F_count_a0.ext E1
  have E_vb := E_vb.ext E1
  have V_vb := V_vb.ext E1
  have S_COMPACT_STRINGS := S_COMPACT_STRINGS.ext E1
  have g_b1 : n0 ≤ b1 := Nat.le_trans Z0 (Nat.le_of_eq g1.symm)
  have sz_b1 : h0.size ≤ b1 := Nat.le_trans K0.1 (Nat.le_of_eq g1.symm)
  have zn1 : n0 ≤ h1.size := Nat.le_trans Z0 E1.1
  have K1 := K0.ext E1
  have E_b1 := A1
  have F_coder_b1 : Fld Z h1 b1 "java/lang/String" "coder" "B" (.int (0 : Int32)) := D1 (Or.inr (hw _ (List.mem_of_getElem? (i := 63) rfl))) (ty := .byte) (by decide)
  have F_value_b1 : Fld Z h1 b1 "java/lang/String" "value" "[B" .null := D1 (Or.inr (hw _ (List.mem_of_getElem? (i := 78) rfl))) (ty := (.array .byte)) (by decide)
  refine OGo.go (B := T1.setTop (mkF m 3 #[.val (.ref a0)] [(.ref b1)])) ?_ st1
  refine OGo.go (B := T1.setTop (mkF m 4 #[.val (.ref a0)] [(.ref b1), (.ref b1)])) ?_ (fun tX kX => XS.dup X1.here hx rfl (hb hby d5_3) rfl rfl kX)
  refine OGo.go (B := T1.setTop (mkF m 5 #[.val (.ref a0)] [(.ref a0), (.ref b1), (.ref b1)])) ?_ (fun tX kX => XS.aloadN X1.here hx rfl (hb hby d5_4) rfl rfl kX)
  obtain ⟨_, _, ⟨T2, L2, k2, n2⟩, -, X2, ⟨Lc2, hQ2, l2, y2, z2⟩, st2⟩ := X1.specialBack hx (y := (⟨"java/lang/String", "<init>", "(Ljava/lang/StringBuilder;)V"⟩ : MethodName)) rfl hown (mvT hZ (hw _ (List.mem_of_getElem? (i := 33) rfl))) (mvT hZ (hw _ (List.mem_of_getElem? (i := 34) rfl))) (mvT hZ (hw _ (List.mem_of_getElem? (i := 36) rfl))) (by decide) (backOf (W := 1) (rm6c2 l Z aV hw [] b1 a0 .null (.int (0 : Int32)) vb kb cs ch0 ch1 ch2 ch3 ch4 h1 n0 zn1 E_b1 F_value_b1 F_coder_b1 E_a0 F_value_a0 F_coder_a0 F_count_a0 E_vb V_vb S_COMPACT_STRINGS g_b1 ne_a0_b1 ne_vb_b1 hcs) hZ (hw _ (List.mem_of_getElem? (i := 36) rfl)) (hw _ (List.mem_of_getElem? (i := 21) rfl)) (by decide) (by decide)) (g := (mkF m 5 #[.val (.ref a0)] [(.ref a0), (.ref b1), (.ref b1)])) rfl (by rw [hml]; rfl) (Steps.refl _) (a := b1) (argsL := [(.ref a0)]) (rest := [(.ref b1)]) (lenOf pd__Ljava_lang_StringBuilder__V rfl) rfl (by show 2 * 0 + _ ≤ _; exact Nat.le_of_eq rfl) (hb hby d5_5) (fun _ _ => ⟨rfl, e1, (by decide : 1 + 1 ≤ _), (by decide : 4 + 5 ≤ _)⟩)
  dsimp only [Pt.U, Pt.locs, Pt.cells, Pt.slots] at X2 l2 y2 z2 st2 hQ2
  subst l2 y2 z2
  obtain ⟨nb_2, kn_2, rfl, N2q, Kq2, sz2_nb, E_b1_p, F_value_b1_p, F_coder_b1_p, E_nb_2_p, V_nb_2_p⟩ := hQ2
  have N2 := Fr.app N0 N2q
  have ne_a0_nb_2 : a0 ≠ nb_2 := Nat.ne_of_lt (Nat.lt_of_lt_of_le E_a0.lt sz2_nb)
  have ne_vb_nb_2 : vb ≠ nb_2 := Nat.ne_of_lt (Nat.lt_of_lt_of_le E_vb.lt sz2_nb)
  have ne_b1_nb_2 : b1 ≠ nb_2 := Nat.ne_of_lt (Nat.lt_of_lt_of_le E_b1.lt sz2_nb)
  have S_COMPACT_STRINGS := Sta.keepE S_COMPACT_STRINGS Kq2 (staS E_b1.cell (fun x hx' => nomatch hx'))
  have E_a0 := E_a0.keep Kq2
  have F_value_a0 := F_value_a0.keep Kq2 (ninS ne_a0_b1 nin0)
  have F_coder_a0 := F_coder_a0.keep Kq2 (ninS ne_a0_b1 nin0)
  have F_count_a0 := F_count_a0.keep Kq2 (ninS ne_a0_b1 nin0)
  have E_vb := E_vb.keep Kq2
  have V_vb := V_vb.keep Kq2 (ninS ne_vb_b1 nin0)
  have E_b1 := E_b1.keep Kq2
  have g_nb_2 : n0 ≤ nb_2 := Nat.le_trans zn1 sz2_nb
  have sz_nb_2 : h0.size ≤ nb_2 := Nat.le_trans K1.1 sz2_nb
  have K2 := K1.trans Kq2 (allS (P := fun x => x ∈ ([] : List Addr) ∨ h0.size ≤ x) (Or.inr sz_b1) all0)
  have zn2 : n0 ≤ T2.heap.size := Nat.le_trans zn1 Kq2.1
  have E_b1 := E_b1_p
  have F_value_b1 := F_value_b1_p
  have F_coder_b1 := F_coder_b1_p
  have E_nb_2 := E_nb_2_p
  have V_nb_2 := V_nb_2_p
  refine OGo.go (B := T2.setTop (mkF m 8 #[.val (.ref a0)] [(.ref b1)])) ?_ (fun tX kX => st2.trans kX)
  refine OGo.ret X2 (v := (some (.ref b1))) (fun h => by rw [Bd.returns] at h; cases h) (BodyLoose.notSynchronized Bd) (fun fs hr => retOut X2 hx Bd.returns rfl (Or.inr (Or.inr (Or.inr (Or.inr ⟨rfl, rfl, rfl⟩)))) (hb hby d5_8) hr) (Q := Q5c2 Z a0 vb kb cs ch0 ch1 ch2 ch3 ch4 h0 n0) ?_ (by decide) (by decide)
  show Q5c2 Z a0 vb kb cs ch0 ch1 ch2 ch3 ch4 h0 n0 _ T2.heap _
  exact ⟨b1, nb_2, kn_2, rfl, N2, K2, sz_b1, sz_nb_2, E_b1, F_value_b1, F_coder_b1, E_nb_2, V_nb_2⟩
def Q19c3 (Z : State) (vb : Addr) (kb : ClassId) (ch0 : Int32) (ch1 : Int32) (ch2 : Int32) (ch3 : Int32) (ch4 : Int32) (ch5 : Int32) (ch6 : Int32) (ch7 : Int32) (h0 : Heap) (n0 : Nat) (v : Option Value) (h : Heap) (L : List Loc) : Prop := ∃ (nb : Addr) (kn : ClassId), v = some (.ref nb) ∧ Fr n0 L ∧ Keep h0 h [] ∧ h0.size ≤ nb ∧ Exa Z h nb "[B" ∧ Arv Z h nb kn .byte (8 : Int32) [(.int ch0), (.int ch1), (.int ch2), (.int ch3), (.int ch4), (.int ch5), (.int ch6), (.int ch7)] (.int (0 : Int32))
def P19c3 (Z : State) (vb : Addr) (kb : ClassId) (ch0 : Int32) (ch1 : Int32) (ch2 : Int32) (ch3 : Int32) (ch4 : Int32) (ch5 : Int32) (ch6 : Int32) (ch7 : Int32) (h0 : Heap) (n0 : Nat) (s : State) (o : Outcome) (U' : State) : Prop := ∃ v L, o = .returned v ∧ Q19c3 Z vb kb ch0 ch1 ch2 ch3 ch4 ch5 ch6 ch7 h0 n0 v U'.heap L ∧ FrameEnd s o U' L ({ frames := 1, cells := 1, slots := 8, locals := 26 } : Room).cells ({ frames := 1, cells := 1, slots := 8, locals := 26 } : Room).slots
set_option maxRecDepth 65536 in
set_option maxHeartbeats 40000000 in
theorem rm19c3 (l : Launch) (Z : State) (aV : Array Value) (hw : ∀ d ∈ tables_1, d.before aV Z = true) (ws : List Jvm.Cond) (vb : Addr) (kb : ClassId) (ch0 : Int32) (ch1 : Int32) (ch2 : Int32) (ch3 : Int32) (ch4 : Int32) (ch5 : Int32) (ch6 : Int32) (ch7 : Int32) (h0 : Heap) (n0 : Nat) (Z0 : n0 ≤ h0.size) (E_vb : Exa Z h0 vb "[B") (V_vb : Arv Z h0 vb kb .byte (9 : Int32) [(.int ch0), (.int ch1), (.int ch2), (.int ch3), (.int ch4), (.int ch5), (.int ch6), (.int ch7), (.int (0 : Int32))] (.int (0 : Int32))) :
    MetFree l (⟨"java/util/Arrays", "copyOfRangeByte", "([BII)[B"⟩ : MethodName) (head1 (Jvm.Cond.code (⟨"java/util/Arrays", "copyOfRangeByte", "([BII)[B"⟩ : MethodName) jdk_65_method_133_code 5 (some (.array .byte)) :: ws) ({ frames := 1, cells := 1, slots := 8, locals := 26 } : Room)) (fun a U => a = #[(.ref vb), (.int (0 : Int32)), (.int (8 : Int32))] ∧ Z.Warmed39 U.vm ∧ U.heap = h0) (fun _ _ _ _ _ => True) (fun _ U o U' => ∃ v L, o = .returned v ∧ Q19c3 Z vb kb ch0 ch1 ch2 ch3 ch4 ch5 ch6 ch7 h0 n0 v U'.heap L ∧ FrameEnd U o U' L ({ frames := 1, cells := 1, slots := 8, locals := 26 } : Room).cells ({ frames := 1, cells := 1, slots := 8, locals := 26 } : Room).slots) := by
  refine MetFree.of_bodySF (plainFor_of_name pn_java_util_Arrays) hisR ?_
  intro p e s m args below meth c s₁ Bd hml0 hP hK
  obtain ⟨rfl, hZ, hh⟩ := hP
  have hx := Bd.exec
  have hby := Bd.bytes
  have hml : c.maxLocals = 5 := hml0
  have hown : s.vm.findClass "java/util/Arrays" = some m.cls := findClass_of_methodNamed Bd.named
  have hnm := (name_of_methodNamed Bd.named Bd.method).1
  have X0 : Stand p l e ({ frames := 1, cells := 1, slots := 8, locals := 26 } : Room) s m #[(.ref vb), (.int (0 : Int32)), (.int (8 : Int32))] below meth c s₁ [] 0 0 := Stand.of_body Bd
  have e0 : s₁.heap = h0 := by rw [← hh, Bd.state]; rfl
  have efx : entryFrame m #[(.ref vb), (.int (0 : Int32)), (.int (8 : Int32))] 5 = mkF m 0 #[.val (.ref vb), .val (.int (0 : Int32)), .val (.int (8 : Int32)), .unset, .unset] [] := by first | (simp [entryFrame, mkF, argsToLocals, Value.category]; done) | rfl
  have N0 := Fr.nil n0
  have K0 : Keep h0 h0 [] := Keep.refl h0 _
  refine OGo.start (g' := mkF m 0 #[.val (.ref vb), .val (.int (0 : Int32)), .val (.int (8 : Int32)), .unset, .unset] []) (efx) ?_
  show OGo p.tables e below (P19c3 Z vb kb ch0 ch1 ch2 ch3 ch4 ch5 ch6 ch7 h0 n0 s) (s₁.setTop (mkF m 0 #[.val (.ref vb), .val (.int (0 : Int32)), .val (.int (8 : Int32)), .unset, .unset] []))
  refine OGo.go (B := s₁.setTop (mkF m 1 #[.val (.ref vb), .val (.int (0 : Int32)), .val (.int (8 : Int32)), .unset, .unset] [(.int (0 : Int32))])) ?_ (fun tX kX => XS.iloadN X0.here hx rfl (hb hby d19_0) rfl kX)
  refine OGo.go (B := s₁.setTop (mkF m 2 #[.val (.ref vb), .val (.int (0 : Int32)), .val (.int (8 : Int32)), .unset, .unset] [(.int (8 : Int32)), (.int (0 : Int32))])) ?_ (fun tX kX => XS.iloadN X0.here hx rfl (hb hby d19_1) rfl kX)
  obtain ⟨_, _, ⟨T1, L1, k1, n1⟩, -, X1, ⟨Lc1, hQ1, l1, y1, z1⟩, st1⟩ := Jvm.LawKit.callS X0 hx (y := (⟨"java/util/Arrays", "checkLength", "(II)V"⟩ : MethodName)) hown (mvT hZ (hw _ (List.mem_of_getElem? (i := 117) rfl))) (mvT hZ (hw _ (List.mem_of_getElem? (i := 118) rfl))) (mvT hZ (hw _ (List.mem_of_getElem? (i := 66) rfl))) (mvT hZ (hw _ (List.mem_of_getElem? (i := 119) rfl))) (by decide) (backOf (W := 0) (rm20 l Z aV hw [] (0 : Int32) (8 : Int32) h0 n0 Z0 (by decide)) hZ (hw _ (List.mem_of_getElem? (i := 119) rfl)) (hw _ (List.mem_of_getElem? (i := 66) rfl)) (by decide) (by decide)) (g := (mkF m 2 #[.val (.ref vb), .val (.int (0 : Int32)), .val (.int (8 : Int32)), .unset, .unset] [(.int (8 : Int32)), (.int (0 : Int32))])) rfl (by rw [hml]; rfl) (argsL := [(.int (0 : Int32)), (.int (8 : Int32))]) (rest := []) (lenOf pd__II_V rfl) rfl (by show 2 * 0 + _ ≤ _; exact Nat.le_of_eq rfl) (hb hby d19_2) (fun _ _ => ⟨rfl, e0, (by decide : 0 + 0 ≤ _), (by decide : 0 + 0 ≤ _)⟩)
  dsimp only [Pt.U, Pt.locs, Pt.cells, Pt.slots] at X1 l1 y1 z1 st1 hQ1
  subst l1 y1 z1
  obtain ⟨rfl, N1q, e1⟩ := hQ1
  have N1 := Fr.app N0 N1q
  refine OGo.go (B := T1.setTop (mkF m 5 #[.val (.ref vb), .val (.int (0 : Int32)), .val (.int (8 : Int32)), .unset, .unset] [])) ?_ st1
  refine OGo.go (B := T1.setTop (mkF m 6 #[.val (.ref vb), .val (.int (0 : Int32)), .val (.int (8 : Int32)), .unset, .unset] [(.int (8 : Int32))])) ?_ (fun tX kX => XS.iloadN X1.here hx rfl (hb hby d19_5) rfl kX)
  refine OGo.go (B := T1.setTop (mkF m 7 #[.val (.ref vb), .val (.int (0 : Int32)), .val (.int (8 : Int32)), .unset, .unset] [(.int (0 : Int32)), (.int (8 : Int32))])) ?_ (fun tX kX => XS.iloadN X1.here hx rfl (hb hby d19_6) rfl kX)
  refine OGo.go (B := T1.setTop (mkF m 8 #[.val (.ref vb), .val (.int (0 : Int32)), .val (.int (8 : Int32)), .unset, .unset] [(.int (8 : Int32))])) ?_ (fun tX kX => XS.isub X1.here hx rfl (hb hby d19_7) rfl kX)
  refine OGo.go (B := T1.setTop (mkF m 9 #[.val (.ref vb), .val (.int (0 : Int32)), .val (.int (8 : Int32)), .val (.int (8 : Int32)), .unset] [])) ?_ (fun tX kX => XS.istoreN X1.here hx rfl (hb hby d19_8) rfl (l' := #[.val (.ref vb), .val (.int (0 : Int32)), .val (.int (8 : Int32)), .val (.int (8 : Int32)), .unset]) rfl kX)
  refine OGo.go (B := T1.setTop (mkF m 10 #[.val (.ref vb), .val (.int (0 : Int32)), .val (.int (8 : Int32)), .val (.int (8 : Int32)), .unset] [(.int (8 : Int32))])) ?_ (fun tX kX => XS.iloadN X1.here hx rfl (hb hby d19_9) rfl kX)
  obtain ⟨T2, h2, k2, X2, e2, E2, A2, EA2, st2⟩ := newPE X1 hx hZ (hw _ (List.mem_of_getElem? (i := 0) rfl)) e1 (g := (mkF m 10 #[.val (.ref vb), .val (.int (0 : Int32)), .val (.int (8 : Int32)), .val (.int (8 : Int32)), .unset] [(.int (8 : Int32))])) rfl (hb hby d19_10) rfl (by decide) (cap := 8) (by decide) (by decide) (by decide) (by decide) (ad := "[B") (by decide)
  obtain ⟨b2, g2⟩ : ∃ z, z = h0.size := ⟨_, rfl⟩
  rw [← g2] at A2 EA2 st2
  have ne_vb_b2 : vb ≠ b2 := Nat.ne_of_lt (Nat.lt_of_lt_of_le E_vb.lt (Nat.le_of_eq g2.symm))
  have E_vb := E_vb.ext E2
  have V_vb := V_vb.ext E2
  have g_b2 : n0 ≤ b2 := Nat.le_trans Z0 (Nat.le_of_eq g2.symm)
  have sz_b2 : h0.size ≤ b2 := Nat.le_trans K0.1 (Nat.le_of_eq g2.symm)
  have zn2 : n0 ≤ h2.size := Nat.le_trans Z0 E2.1
  have K2 := K0.ext E2
  have E_b2 := EA2
  have V_b2 : Arv Z h2 b2 k2 .byte (8 : Int32) [(.int (0 : Int32)), (.int (0 : Int32)), (.int (0 : Int32)), (.int (0 : Int32)), (.int (0 : Int32)), (.int (0 : Int32)), (.int (0 : Int32)), (.int (0 : Int32))] (.int (0 : Int32)) := (Arv.new A2 (by decide)).pad (pad_rep [] (.int (0 : Int32)) 8)
  refine OGo.go (B := T2.setTop (mkF m 12 #[.val (.ref vb), .val (.int (0 : Int32)), .val (.int (8 : Int32)), .val (.int (8 : Int32)), .unset] [(.ref b2)])) ?_ st2
  refine OGo.go (B := T2.setTop (mkF m 14 #[.val (.ref vb), .val (.int (0 : Int32)), .val (.int (8 : Int32)), .val (.int (8 : Int32)), .val (.ref b2)] [])) ?_ (fun tX kX => XS.astore X2.here hx rfl (hb hby d19_12) rfl rfl (l' := #[.val (.ref vb), .val (.int (0 : Int32)), .val (.int (8 : Int32)), .val (.int (8 : Int32)), .val (.ref b2)]) rfl kX)
  refine OGo.go (B := T2.setTop (mkF m 15 #[.val (.ref vb), .val (.int (0 : Int32)), .val (.int (8 : Int32)), .val (.int (8 : Int32)), .val (.ref b2)] [(.ref vb)])) ?_ (fun tX kX => XS.aloadN X2.here hx rfl (hb hby d19_14) rfl rfl kX)
  refine OGo.go (B := T2.setTop (mkF m 16 #[.val (.ref vb), .val (.int (0 : Int32)), .val (.int (8 : Int32)), .val (.int (8 : Int32)), .val (.ref b2)] [(.int (0 : Int32)), (.ref vb)])) ?_ (fun tX kX => XS.iloadN X2.here hx rfl (hb hby d19_15) rfl kX)
  refine OGo.go (B := T2.setTop (mkF m 18 #[.val (.ref vb), .val (.int (0 : Int32)), .val (.int (8 : Int32)), .val (.int (8 : Int32)), .val (.ref b2)] [(.ref b2), (.int (0 : Int32)), (.ref vb)])) ?_ (fun tX kX => XS.aload X2.here hx rfl (hb hby d19_16) rfl rfl kX)
  refine OGo.go (B := T2.setTop (mkF m 19 #[.val (.ref vb), .val (.int (0 : Int32)), .val (.int (8 : Int32)), .val (.int (8 : Int32)), .val (.ref b2)] [(.int (0 : Int32)), (.ref b2), (.int (0 : Int32)), (.ref vb)])) ?_ (fun tX kX => XS.iconst X2.here hx rfl (hb hby d19_18) kX)
  refine OGo.go (B := T2.setTop (mkF m 20 #[.val (.ref vb), .val (.int (0 : Int32)), .val (.int (8 : Int32)), .val (.int (8 : Int32)), .val (.ref b2)] [(.ref vb), (.int (0 : Int32)), (.ref b2), (.int (0 : Int32)), (.ref vb)])) ?_ (fun tX kX => XS.aloadN X2.here hx rfl (hb hby d19_19) rfl rfl kX)
  obtain ⟨cl3, Ar3, qa3, S3, N3', H3, G3⟩ := id V_vb
  refine OGo.go (B := T2.setTop (mkF m 21 #[.val (.ref vb), .val (.int (0 : Int32)), .val (.int (8 : Int32)), .val (.int (8 : Int32)), .val (.ref b2)] [(.int (9 : Int32)), (.int (0 : Int32)), (.ref b2), (.int (0 : Int32)), (.ref vb)])) ?_ (fun tX kX => X2.arraylength hx (by rw [e2]; exact Ar3.1) (State.isArrayOf_alike hZ.alike Ar3.2.1) (g := (mkF m 20 #[.val (.ref vb), .val (.int (0 : Int32)), .val (.int (8 : Int32)), .val (.int (8 : Int32)), .val (.ref b2)] [(.ref vb), (.int (0 : Int32)), (.ref b2), (.int (0 : Int32)), (.ref vb)])) rfl rfl (hb hby d19_20) _ (by rw [len_of S3 N3']; exact kX))
  refine OGo.go (B := T2.setTop (mkF m 22 #[.val (.ref vb), .val (.int (0 : Int32)), .val (.int (8 : Int32)), .val (.int (8 : Int32)), .val (.ref b2)] [(.int (0 : Int32)), (.int (9 : Int32)), (.int (0 : Int32)), (.ref b2), (.int (0 : Int32)), (.ref vb)])) ?_ (fun tX kX => XS.iloadN X2.here hx rfl (hb hby d19_21) rfl kX)
  refine OGo.go (B := T2.setTop (mkF m 23 #[.val (.ref vb), .val (.int (0 : Int32)), .val (.int (8 : Int32)), .val (.int (8 : Int32)), .val (.ref b2)] [(.int (9 : Int32)), (.int (0 : Int32)), (.ref b2), (.int (0 : Int32)), (.ref vb)])) ?_ (fun tX kX => XS.isub X2.here hx rfl (hb hby d19_22) rfl kX)
  refine OGo.go (B := T2.setTop (mkF m 24 #[.val (.ref vb), .val (.int (0 : Int32)), .val (.int (8 : Int32)), .val (.int (8 : Int32)), .val (.ref b2)] [(.int (8 : Int32)), (.int (9 : Int32)), (.int (0 : Int32)), (.ref b2), (.int (0 : Int32)), (.ref vb)])) ?_ (fun tX kX => XS.iloadN X2.here hx rfl (hb hby d19_23) rfl kX)
  obtain ⟨_, _, ⟨T4, L4, k4, n4⟩, -, X4, ⟨Lc4, hQ4, l4, y4, z4⟩, st4⟩ := Jvm.LawKit.callS X2 hx (y := (⟨"java/lang/Math", "min", "(II)I"⟩ : MethodName)) hown (mvT hZ (hw _ (List.mem_of_getElem? (i := 120) rfl))) (mvT hZ (hw _ (List.mem_of_getElem? (i := 121) rfl))) (mvT hZ (hw _ (List.mem_of_getElem? (i := 122) rfl))) (mvT hZ (hw _ (List.mem_of_getElem? (i := 123) rfl))) (by decide) (backOf (W := 4) (rm21g l Z aV hw [] (9 : Int32) (8 : Int32) h2 n0 zn2 (by decide)) hZ (hw _ (List.mem_of_getElem? (i := 123) rfl)) (hw _ (List.mem_of_getElem? (i := 122) rfl)) (by decide) (by decide)) (g := (mkF m 24 #[.val (.ref vb), .val (.int (0 : Int32)), .val (.int (8 : Int32)), .val (.int (8 : Int32)), .val (.ref b2)] [(.int (8 : Int32)), (.int (9 : Int32)), (.int (0 : Int32)), (.ref b2), (.int (0 : Int32)), (.ref vb)])) rfl (by rw [hml]; rfl) (argsL := [(.int (9 : Int32)), (.int (8 : Int32))]) (rest := [(.int (0 : Int32)), (.ref b2), (.int (0 : Int32)), (.ref vb)]) (lenOf pd__II_I rfl) rfl (by show 2 * 0 + _ ≤ _; exact Nat.le_of_eq rfl) (hb hby d19_24) (fun _ _ => ⟨rfl, e2, (by decide : 1 + 0 ≤ _), (by decide : 8 + 0 ≤ _)⟩)
  dsimp only [Pt.U, Pt.locs, Pt.cells, Pt.slots] at X4 l4 y4 z4 st4 hQ4
  subst l4 y4 z4
  obtain ⟨rfl, N4q, e4⟩ := hQ4
  have N4 := Fr.app N1 N4q
  refine OGo.go (B := T4.setTop (mkF m 27 #[.val (.ref vb), .val (.int (0 : Int32)), .val (.int (8 : Int32)), .val (.int (8 : Int32)), .val (.ref b2)] [(.int (8 : Int32)), (.int (0 : Int32)), (.ref b2), (.int (0 : Int32)), (.ref vb)])) ?_ st4
  obtain ⟨T5, h5, L5, X5, e5, N5, Kq5, V5, st5⟩ := cpA X4 hx hZ hown (hw _ (List.mem_of_getElem? (i := 124) rfl)) (hw _ (List.mem_of_getElem? (i := 127) rfl)) (hw _ (List.mem_of_getElem? (i := 125) rfl)) (hw _ (List.mem_of_getElem? (i := 126) rfl)) e4 (sp := (0 : Int32)) (dp := (0 : Int32)) (nn := (8 : Int32)) (us := [(.int ch0), (.int ch1), (.int ch2), (.int ch3), (.int ch4), (.int ch5), (.int ch6), (.int ch7)]) V_vb V_b2 (Or.inl ⟨rfl, rfl⟩) (by decide) (by decide) (by decide) (by decide) (by decide) rfl (Nat.le_of_ble_eq_true rfl) N4 g_b2 (g := (mkF m 27 #[.val (.ref vb), .val (.int (0 : Int32)), .val (.int (8 : Int32)), .val (.int (8 : Int32)), .val (.ref b2)] [(.int (8 : Int32)), (.int (0 : Int32)), (.ref b2), (.int (0 : Int32)), (.ref vb)])) rfl (by rw [hml]; rfl) rfl (hb hby d19_27) (by decide) (W := 0) (by show 2 * 0 + _ ≤ _; exact Nat.le_of_eq rfl) (by decide)
  have E_vb := E_vb.keep Kq5
  have V_vb := V_vb.keep Kq5 (ninS ne_vb_b2 nin0)
  have E_b2 := E_b2.keep Kq5
  have K5 := K2.trans Kq5 (allS (P := fun x => x ∈ ([] : List Addr) ∨ h0.size ≤ x) (Or.inr sz_b2) all0)
  have zn5 : n0 ≤ h5.size := Nat.le_trans zn2 Kq5.1
  have V_b2 : Arv Z h5 b2 k2 .byte (8 : Int32) [(.int ch0), (.int ch1), (.int ch2), (.int ch3), (.int ch4), (.int ch5), (.int ch6), (.int ch7)] (.int (0 : Int32)) := V5
  refine OGo.go (B := T5.setTop (mkF m 30 #[.val (.ref vb), .val (.int (0 : Int32)), .val (.int (8 : Int32)), .val (.int (8 : Int32)), .val (.ref b2)] [])) ?_ st5
  refine OGo.go (B := T5.setTop (mkF m 32 #[.val (.ref vb), .val (.int (0 : Int32)), .val (.int (8 : Int32)), .val (.int (8 : Int32)), .val (.ref b2)] [(.ref b2)])) ?_ (fun tX kX => XS.aload X5.here hx rfl (hb hby d19_30) rfl rfl kX)
  refine OGo.ret X5 (v := (some (.ref b2))) (fun h => by rw [Bd.returns] at h; cases h) (BodyLoose.notSynchronized Bd) (fun fs hr => retOut X5 hx Bd.returns rfl (Or.inr (Or.inr (Or.inr (Or.inr ⟨rfl, rfl, rfl⟩)))) (hb hby d19_32) hr) (Q := Q19c3 Z vb kb ch0 ch1 ch2 ch3 ch4 ch5 ch6 ch7 h0 n0) ?_ (by decide) (by decide)
  show Q19c3 Z vb kb ch0 ch1 ch2 ch3 ch4 ch5 ch6 ch7 h0 n0 _ T5.heap _
  rw [e5]
  exact ⟨b2, k2, rfl, N5, K5, sz_b2, E_b2, V_b2⟩
def Q12c3 (Z : State) (vb : Addr) (kb : ClassId) (ch0 : Int32) (ch1 : Int32) (ch2 : Int32) (ch3 : Int32) (ch4 : Int32) (ch5 : Int32) (ch6 : Int32) (ch7 : Int32) (h0 : Heap) (n0 : Nat) (v : Option Value) (h : Heap) (L : List Loc) : Prop := ∃ (nb : Addr) (kn : ClassId), v = some (.ref nb) ∧ Fr n0 L ∧ Keep h0 h [] ∧ h0.size ≤ nb ∧ Exa Z h nb "[B" ∧ Arv Z h nb kn .byte (8 : Int32) [(.int ch0), (.int ch1), (.int ch2), (.int ch3), (.int ch4), (.int ch5), (.int ch6), (.int ch7)] (.int (0 : Int32))
def P12c3 (Z : State) (vb : Addr) (kb : ClassId) (ch0 : Int32) (ch1 : Int32) (ch2 : Int32) (ch3 : Int32) (ch4 : Int32) (ch5 : Int32) (ch6 : Int32) (ch7 : Int32) (h0 : Heap) (n0 : Nat) (s : State) (o : Outcome) (U' : State) : Prop := ∃ v L, o = .returned v ∧ Q12c3 Z vb kb ch0 ch1 ch2 ch3 ch4 ch5 ch6 ch7 h0 n0 v U'.heap L ∧ FrameEnd s o U' L ({ frames := 2, cells := 1, slots := 8, locals := 42 } : Room).cells ({ frames := 2, cells := 1, slots := 8, locals := 42 } : Room).slots
set_option maxRecDepth 65536 in
set_option maxHeartbeats 40000000 in
theorem rm12c3 (l : Launch) (Z : State) (aV : Array Value) (hw : ∀ d ∈ tables_1, d.before aV Z = true) (ws : List Jvm.Cond) (vb : Addr) (kb : ClassId) (ch0 : Int32) (ch1 : Int32) (ch2 : Int32) (ch3 : Int32) (ch4 : Int32) (ch5 : Int32) (ch6 : Int32) (ch7 : Int32) (h0 : Heap) (n0 : Nat) (Z0 : n0 ≤ h0.size) (E_vb : Exa Z h0 vb "[B") (V_vb : Arv Z h0 vb kb .byte (9 : Int32) [(.int ch0), (.int ch1), (.int ch2), (.int ch3), (.int ch4), (.int ch5), (.int ch6), (.int ch7), (.int (0 : Int32))] (.int (0 : Int32))) :
    MetFree l (⟨"java/util/Arrays", "copyOfRange", "([BII)[B"⟩ : MethodName) (head1 (Jvm.Cond.code (⟨"java/util/Arrays", "copyOfRange", "([BII)[B"⟩ : MethodName) jdk_65_method_132_code 3 (some (.array .byte)) :: ws) ({ frames := 2, cells := 1, slots := 8, locals := 42 } : Room)) (fun a U => a = #[(.ref vb), (.int (0 : Int32)), (.int (8 : Int32))] ∧ Z.Warmed39 U.vm ∧ U.heap = h0) (fun _ _ _ _ _ => True) (fun _ U o U' => ∃ v L, o = .returned v ∧ Q12c3 Z vb kb ch0 ch1 ch2 ch3 ch4 ch5 ch6 ch7 h0 n0 v U'.heap L ∧ FrameEnd U o U' L ({ frames := 2, cells := 1, slots := 8, locals := 42 } : Room).cells ({ frames := 2, cells := 1, slots := 8, locals := 42 } : Room).slots) := by
  refine MetFree.of_bodySF (plainFor_of_name pn_java_util_Arrays) hisR ?_
  intro p e s m args below meth c s₁ Bd hml0 hP hK
  obtain ⟨rfl, hZ, hh⟩ := hP
  have hx := Bd.exec
  have hby := Bd.bytes
  have hml : c.maxLocals = 3 := hml0
  have hown : s.vm.findClass "java/util/Arrays" = some m.cls := findClass_of_methodNamed Bd.named
  have hnm := (name_of_methodNamed Bd.named Bd.method).1
  have X0 : Stand p l e ({ frames := 2, cells := 1, slots := 8, locals := 42 } : Room) s m #[(.ref vb), (.int (0 : Int32)), (.int (8 : Int32))] below meth c s₁ [] 0 0 := Stand.of_body Bd
  have e0 : s₁.heap = h0 := by rw [← hh, Bd.state]; rfl
  have efx : entryFrame m #[(.ref vb), (.int (0 : Int32)), (.int (8 : Int32))] 3 = mkF m 0 #[.val (.ref vb), .val (.int (0 : Int32)), .val (.int (8 : Int32))] [] := by first | (simp [entryFrame, mkF, argsToLocals, Value.category]; done) | rfl
  have N0 := Fr.nil n0
  have K0 : Keep h0 h0 [] := Keep.refl h0 _
  refine OGo.start (g' := mkF m 0 #[.val (.ref vb), .val (.int (0 : Int32)), .val (.int (8 : Int32))] []) (efx) ?_
  show OGo p.tables e below (P12c3 Z vb kb ch0 ch1 ch2 ch3 ch4 ch5 ch6 ch7 h0 n0 s) (s₁.setTop (mkF m 0 #[.val (.ref vb), .val (.int (0 : Int32)), .val (.int (8 : Int32))] []))
  refine OGo.go (B := s₁.setTop (mkF m 1 #[.val (.ref vb), .val (.int (0 : Int32)), .val (.int (8 : Int32))] [(.int (0 : Int32))])) ?_ (fun tX kX => XS.iloadN X0.here hx rfl (hb hby d12_0) rfl kX)
  refine OGo.go (B := s₁.setTop (mkF m 4 #[.val (.ref vb), .val (.int (0 : Int32)), .val (.int (8 : Int32))] [])) ?_ (fun tX kX => XS.ifNo X0.here hx rfl (hb hby d12_1) rfl ((if0 _ _).trans (teq (by decide)).2) kX)
  refine OGo.go (B := s₁.setTop (mkF m 5 #[.val (.ref vb), .val (.int (0 : Int32)), .val (.int (8 : Int32))] [(.int (8 : Int32))])) ?_ (fun tX kX => XS.iloadN X0.here hx rfl (hb hby d12_4) rfl kX)
  refine OGo.go (B := s₁.setTop (mkF m 6 #[.val (.ref vb), .val (.int (0 : Int32)), .val (.int (8 : Int32))] [(.ref vb), (.int (8 : Int32))])) ?_ (fun tX kX => XS.aloadN X0.here hx rfl (hb hby d12_5) rfl rfl kX)
  obtain ⟨cl1, Ar1, qa1, S1, N1', H1, G1⟩ := id V_vb
  refine OGo.go (B := s₁.setTop (mkF m 7 #[.val (.ref vb), .val (.int (0 : Int32)), .val (.int (8 : Int32))] [(.int (9 : Int32)), (.int (8 : Int32))])) ?_ (fun tX kX => X0.arraylength hx (by rw [e0]; exact Ar1.1) (State.isArrayOf_alike hZ.alike Ar1.2.1) (g := (mkF m 6 #[.val (.ref vb), .val (.int (0 : Int32)), .val (.int (8 : Int32))] [(.ref vb), (.int (8 : Int32))])) rfl rfl (hb hby d12_6) _ (by rw [len_of S1 N1']; exact kX))
  refine OGo.go (B := s₁.setTop (mkF m 10 #[.val (.ref vb), .val (.int (0 : Int32)), .val (.int (8 : Int32))] [])) ?_ (fun tX kX => XS.icmpNo X0.here hx rfl (hb hby d12_7) rfl (feq (by decide)).1 kX)
  refine OGo.go (B := s₁.setTop (mkF m 11 #[.val (.ref vb), .val (.int (0 : Int32)), .val (.int (8 : Int32))] [(.ref vb)])) ?_ (fun tX kX => XS.aloadN X0.here hx rfl (hb hby d12_10) rfl rfl kX)
  refine OGo.go (B := s₁.setTop (mkF m 12 #[.val (.ref vb), .val (.int (0 : Int32)), .val (.int (8 : Int32))] [(.int (0 : Int32)), (.ref vb)])) ?_ (fun tX kX => XS.iloadN X0.here hx rfl (hb hby d12_11) rfl kX)
  refine OGo.go (B := s₁.setTop (mkF m 13 #[.val (.ref vb), .val (.int (0 : Int32)), .val (.int (8 : Int32))] [(.int (8 : Int32)), (.int (0 : Int32)), (.ref vb)])) ?_ (fun tX kX => XS.iloadN X0.here hx rfl (hb hby d12_12) rfl kX)
  obtain ⟨_, _, ⟨T2, L2, k2, n2⟩, -, X2, ⟨Lc2, hQ2, l2, y2, z2⟩, st2⟩ := Jvm.LawKit.callS X0 hx (y := (⟨"java/util/Arrays", "copyOfRangeByte", "([BII)[B"⟩ : MethodName)) hown (mvT hZ (hw _ (List.mem_of_getElem? (i := 114) rfl))) (mvT hZ (hw _ (List.mem_of_getElem? (i := 115) rfl))) (mvT hZ (hw _ (List.mem_of_getElem? (i := 66) rfl))) (mvT hZ (hw _ (List.mem_of_getElem? (i := 116) rfl))) (by decide) (backOf (W := 0) (rm19c3 l Z aV hw [] vb kb ch0 ch1 ch2 ch3 ch4 ch5 ch6 ch7 h0 n0 Z0 E_vb V_vb) hZ (hw _ (List.mem_of_getElem? (i := 116) rfl)) (hw _ (List.mem_of_getElem? (i := 66) rfl)) (by decide) (by decide)) (g := (mkF m 13 #[.val (.ref vb), .val (.int (0 : Int32)), .val (.int (8 : Int32))] [(.int (8 : Int32)), (.int (0 : Int32)), (.ref vb)])) rfl (by rw [hml]; rfl) (argsL := [(.ref vb), (.int (0 : Int32)), (.int (8 : Int32))]) (rest := []) (lenOf pd___BII__B rfl) rfl (by show 2 * 0 + _ ≤ _; exact Nat.le_of_eq rfl) (hb hby d12_13) (fun _ _ => ⟨rfl, e0, (by decide : 0 + 1 ≤ _), (by decide : 0 + 8 ≤ _)⟩)
  dsimp only [Pt.U, Pt.locs, Pt.cells, Pt.slots] at X2 l2 y2 z2 st2 hQ2
  subst l2 y2 z2
  obtain ⟨nb_2, kn_2, rfl, N2q, Kq2, sz2_nb, E_nb_2_p, V_nb_2_p⟩ := hQ2
  have N2 := Fr.app N0 N2q
  have ne_vb_nb_2 : vb ≠ nb_2 := Nat.ne_of_lt (Nat.lt_of_lt_of_le E_vb.lt sz2_nb)
  have E_vb := E_vb.keep Kq2
  have V_vb := V_vb.keep Kq2 nin0
  have g_nb_2 : n0 ≤ nb_2 := Nat.le_trans Z0 sz2_nb
  have sz_nb_2 : h0.size ≤ nb_2 := Nat.le_trans K0.1 sz2_nb
  have K2 := K0.trans Kq2 all0
  have zn2 : n0 ≤ T2.heap.size := Nat.le_trans Z0 Kq2.1
  have E_nb_2 := E_nb_2_p
  have V_nb_2 := V_nb_2_p
  refine OGo.go (B := T2.setTop (mkF m 16 #[.val (.ref vb), .val (.int (0 : Int32)), .val (.int (8 : Int32))] [(.ref nb_2)])) ?_ st2
  refine OGo.ret X2 (v := (some (.ref nb_2))) (fun h => by rw [Bd.returns] at h; cases h) (BodyLoose.notSynchronized Bd) (fun fs hr => retOut X2 hx Bd.returns rfl (Or.inr (Or.inr (Or.inr (Or.inr ⟨rfl, rfl, rfl⟩)))) (hb hby d12_16) hr) (Q := Q12c3 Z vb kb ch0 ch1 ch2 ch3 ch4 ch5 ch6 ch7 h0 n0) ?_ (by decide) (by decide)
  show Q12c3 Z vb kb ch0 ch1 ch2 ch3 ch4 ch5 ch6 ch7 h0 n0 _ T2.heap _
  exact ⟨nb_2, kn_2, rfl, N2, K2, sz_nb_2, E_nb_2, V_nb_2⟩
def Q7c3 (Z : State) (a0 : Addr) (a1 : Addr) (u1 : Value) (u2 : Value) (vb : Addr) (kb : ClassId) (cs : Int32) (ch0 : Int32) (ch1 : Int32) (ch2 : Int32) (ch3 : Int32) (ch4 : Int32) (ch5 : Int32) (ch6 : Int32) (ch7 : Int32) (h0 : Heap) (n0 : Nat) (v : Option Value) (h : Heap) (L : List Loc) : Prop := ∃ (nb : Addr) (kn : ClassId), v = none ∧ Fr n0 L ∧ Keep h0 h [a0] ∧ h0.size ≤ nb ∧ Exa Z h a0 "java/lang/String" ∧ Fld Z h a0 "java/lang/String" "value" "[B" (.ref nb) ∧ Fld Z h a0 "java/lang/String" "coder" "B" (.int (0 : Int32)) ∧ Exa Z h nb "[B" ∧ Arv Z h nb kn .byte (8 : Int32) [(.int ch0), (.int ch1), (.int ch2), (.int ch3), (.int ch4), (.int ch5), (.int ch6), (.int ch7)] (.int (0 : Int32))
def P7c3 (Z : State) (a0 : Addr) (a1 : Addr) (u1 : Value) (u2 : Value) (vb : Addr) (kb : ClassId) (cs : Int32) (ch0 : Int32) (ch1 : Int32) (ch2 : Int32) (ch3 : Int32) (ch4 : Int32) (ch5 : Int32) (ch6 : Int32) (ch7 : Int32) (h0 : Heap) (n0 : Nat) (s : State) (o : Outcome) (U' : State) : Prop := ∃ v L, o = .returned v ∧ Q7c3 Z a0 a1 u1 u2 vb kb cs ch0 ch1 ch2 ch3 ch4 ch5 ch6 ch7 h0 n0 v U'.heap L ∧ FrameEnd s o U' L ({ frames := 3, cells := 1, slots := 8, locals := 57 } : Room).cells ({ frames := 3, cells := 1, slots := 8, locals := 57 } : Room).slots
set_option maxRecDepth 65536 in
set_option maxHeartbeats 40000000 in
theorem rm7c3 (l : Launch) (Z : State) (aV : Array Value) (hw : ∀ d ∈ tables_1, d.before aV Z = true) (ws : List Jvm.Cond) (a0 : Addr) (a1 : Addr) (u1 : Value) (u2 : Value) (vb : Addr) (kb : ClassId) (cs : Int32) (ch0 : Int32) (ch1 : Int32) (ch2 : Int32) (ch3 : Int32) (ch4 : Int32) (ch5 : Int32) (ch6 : Int32) (ch7 : Int32) (h0 : Heap) (n0 : Nat) (Z0 : n0 ≤ h0.size) (E_a0 : Exa Z h0 a0 "java/lang/String") (F_value_a0 : Fld Z h0 a0 "java/lang/String" "value" "[B" u1) (F_coder_a0 : Fld Z h0 a0 "java/lang/String" "coder" "B" u2) (E_a1 : Exa Z h0 a1 "java/lang/StringBuilder") (F_value_a1 : Fld Z h0 a1 "java/lang/AbstractStringBuilder" "value" "[B" (.ref vb)) (F_coder_a1 : Fld Z h0 a1 "java/lang/AbstractStringBuilder" "coder" "B" (.int (0 : Int32))) (F_count_a1 : Fld Z h0 a1 "java/lang/AbstractStringBuilder" "count" "I" (.int (8 : Int32))) (E_vb : Exa Z h0 vb "[B") (V_vb : Arv Z h0 vb kb .byte (9 : Int32) [(.int ch0), (.int ch1), (.int ch2), (.int ch3), (.int ch4), (.int ch5), (.int ch6), (.int ch7), (.int (0 : Int32))] (.int (0 : Int32))) (S_COMPACT_STRINGS : Sta Z h0 "java/lang/String" "COMPACT_STRINGS" "Z" (.int cs)) (ga : n0 ≤ a0) (n01 : a1 ≠ a0) (n0v : vb ≠ a0) (hcs : ¬ cs = 0) :
    MetFree l (⟨"java/lang/String", "<init>", "(Ljava/lang/AbstractStringBuilder;Ljava/lang/Void;)V"⟩ : MethodName) (head1 (Jvm.Cond.code (⟨"java/lang/String", "<init>", "(Ljava/lang/AbstractStringBuilder;Ljava/lang/Void;)V"⟩ : MethodName) jdk_42_method_150_code 5 none :: ws) ({ frames := 3, cells := 1, slots := 8, locals := 57 } : Room)) (fun a U => a = #[(.ref a0), (.ref a1), .null] ∧ Z.Warmed39 U.vm ∧ U.heap = h0) (fun _ _ _ _ _ => True) (fun _ U o U' => ∃ v L, o = .returned v ∧ Q7c3 Z a0 a1 u1 u2 vb kb cs ch0 ch1 ch2 ch3 ch4 ch5 ch6 ch7 h0 n0 v U'.heap L ∧ FrameEnd U o U' L ({ frames := 3, cells := 1, slots := 8, locals := 57 } : Room).cells ({ frames := 3, cells := 1, slots := 8, locals := 57 } : Room).slots) := by
  refine MetFree.of_bodySF (plainFor_of_name pn_java_lang_String) hisR ?_
  intro p e s m args below meth c s₁ Bd hml0 hP hK
  obtain ⟨rfl, hZ, hh⟩ := hP
  have hx := Bd.exec
  have hby := Bd.bytes
  have hml : c.maxLocals = 5 := hml0
  have hown : s.vm.findClass "java/lang/String" = some m.cls := findClass_of_methodNamed Bd.named
  have hnm := (name_of_methodNamed Bd.named Bd.method).1
  have X0 : Stand p l e ({ frames := 3, cells := 1, slots := 8, locals := 57 } : Room) s m #[(.ref a0), (.ref a1), .null] below meth c s₁ [] 0 0 := Stand.of_body Bd
  have e0 : s₁.heap = h0 := by rw [← hh, Bd.state]; rfl
  have efx : entryFrame m #[(.ref a0), (.ref a1), .null] 5 = mkF m 0 #[.val (.ref a0), .val (.ref a1), .val .null, .unset, .unset] [] := by first | (simp [entryFrame, mkF, argsToLocals, Value.category]; done) | rfl
  have N0 := Fr.nil n0
  have K0 : Keep h0 h0 [a0] := Keep.refl h0 _
  refine OGo.start (g' := mkF m 0 #[.val (.ref a0), .val (.ref a1), .val .null, .unset, .unset] []) (efx) ?_
  show OGo p.tables e below (P7c3 Z a0 a1 u1 u2 vb kb cs ch0 ch1 ch2 ch3 ch4 ch5 ch6 ch7 h0 n0 s) (s₁.setTop (mkF m 0 #[.val (.ref a0), .val (.ref a1), .val .null, .unset, .unset] []))
  refine OGo.go (B := s₁.setTop (mkF m 1 #[.val (.ref a0), .val (.ref a1), .val .null, .unset, .unset] [(.ref a0)])) ?_ (fun tX kX => XS.aloadN X0.here hx rfl (hb hby d7_0) rfl rfl kX)
  obtain ⟨T1, X1, e1, st1⟩ := initO X0 hx hZ hown (hw _ (List.mem_of_getElem? (i := 40) rfl)) (hw _ (List.mem_of_getElem? (i := 18) rfl)) (hw _ (List.mem_of_getElem? (i := 19) rfl)) e0 (g := (mkF m 1 #[.val (.ref a0), .val (.ref a1), .val .null, .unset, .unset] [(.ref a0)])) rfl (by rw [hml]; rfl) rfl (hb hby d7_1) (by decide) (W := 0) (by show 2 * 0 + _ ≤ _; exact Nat.le_of_eq rfl) (by decide)
  refine OGo.go (B := T1.setTop (mkF m 4 #[.val (.ref a0), .val (.ref a1), .val .null, .unset, .unset] [])) ?_ st1
  refine OGo.go (B := T1.setTop (mkF m 5 #[.val (.ref a0), .val (.ref a1), .val .null, .unset, .unset] [(.ref a1)])) ?_ (fun tX kX => XS.aloadN X1.here hx rfl (hb hby d7_4) rfl rfl kX)
  obtain ⟨cq2, kq2, q2a, q2b, q2c⟩ := isOf hZ e1 E_a1
  obtain ⟨_, _, ⟨T2, L2, k2, n2⟩, -, X2, ⟨Lc2, hQ2, l2, y2, z2⟩, st2⟩ := X1.virtualBack hx (y := (⟨"java/lang/AbstractStringBuilder", "getValue", "()[B"⟩ : MethodName)) (z := (⟨"java/lang/AbstractStringBuilder", "getValue", "()[B"⟩ : MethodName)) hown (mvT hZ (hw _ (List.mem_of_getElem? (i := 41) rfl))) (mvT hZ (hw _ (List.mem_of_getElem? (i := 42) rfl))) (notFace_of_selects (args := #[]) (mvT hZ (hw _ (List.mem_of_getElem? (i := 44) rfl)))) (mvT hZ (hw _ (List.mem_of_getElem? (i := 44) rfl))) (mvT hZ (hw _ (List.mem_of_getElem? (i := 43) rfl))) (by decide) (backOf (W := 0) (rm8 l Z aV hw [] a1 vb h0 n0 Z0 F_value_a1) hZ (hw _ (List.mem_of_getElem? (i := 45) rfl)) (hw _ (List.mem_of_getElem? (i := 15) rfl)) (by decide) (by decide)) q2a q2c (g := (mkF m 5 #[.val (.ref a0), .val (.ref a1), .val .null, .unset, .unset] [(.ref a1)])) rfl (by rw [hml]; rfl) (Steps.refl _) (argsL := []) (rest := []) (lenOf pd____B rfl) rfl (by show 2 * 0 + _ ≤ _; exact Nat.le_of_eq rfl) (hb hby d7_5) (fun _ _ => ⟨rfl, e1, (by decide : 0 + 0 ≤ _), (by decide : 0 + 0 ≤ _)⟩)
  dsimp only [Pt.U, Pt.locs, Pt.cells, Pt.slots] at X2 l2 y2 z2 st2 hQ2
  subst l2 y2 z2
  obtain ⟨rfl, N2q, e2⟩ := hQ2
  have N2 := Fr.app N0 N2q
  refine OGo.go (B := T2.setTop (mkF m 8 #[.val (.ref a0), .val (.ref a1), .val .null, .unset, .unset] [(.ref vb)])) ?_ (fun tX kX => st2.trans kX)
  refine OGo.go (B := T2.setTop (mkF m 9 #[.val (.ref a0), .val (.ref a1), .val .null, .val (.ref vb), .unset] [])) ?_ (fun tX kX => XS.astoreN X2.here hx rfl (hb hby d7_8) rfl rfl (l' := #[.val (.ref a0), .val (.ref a1), .val .null, .val (.ref vb), .unset]) rfl kX)
  refine OGo.go (B := T2.setTop (mkF m 10 #[.val (.ref a0), .val (.ref a1), .val .null, .val (.ref vb), .unset] [(.ref a1)])) ?_ (fun tX kX => XS.aloadN X2.here hx rfl (hb hby d7_9) rfl rfl kX)
  obtain ⟨cq3, kq3, q3a, q3b, q3c⟩ := isOf hZ e2 E_a1
  obtain ⟨_, _, ⟨T3, L3, k3, n3⟩, -, X3, ⟨Lc3, hQ3, l3, y3, z3⟩, st3⟩ := X2.virtualBack hx (y := (⟨"java/lang/AbstractStringBuilder", "length", "()I"⟩ : MethodName)) (z := (⟨"java/lang/StringBuilder", "length", "()I"⟩ : MethodName)) hown (mvT hZ (hw _ (List.mem_of_getElem? (i := 46) rfl))) (mvT hZ (hw _ (List.mem_of_getElem? (i := 47) rfl))) (own_nf (args := #[]) (mvT hZ (hw _ (List.mem_of_getElem? (i := 44) rfl))) rfl) (mvT hZ (hw _ (List.mem_of_getElem? (i := 49) rfl))) (mvT hZ (hw _ (List.mem_of_getElem? (i := 50) rfl))) (by decide) (backOf (W := 0) (rm9 l Z aV hw [] a1 (8 : Int32) h0 n0 Z0 E_a1 F_count_a1) hZ (hw _ (List.mem_of_getElem? (i := 51) rfl)) (hw _ (List.mem_of_getElem? (i := 7) rfl)) (by decide) (by decide)) q3a q3c (g := (mkF m 10 #[.val (.ref a0), .val (.ref a1), .val .null, .val (.ref vb), .unset] [(.ref a1)])) rfl (by rw [hml]; rfl) (Steps.refl _) (argsL := []) (rest := []) (lenOf pd___I rfl) rfl (by show 2 * 0 + _ ≤ _; exact Nat.le_of_eq rfl) (hb hby d7_10) (fun _ _ => ⟨rfl, e2, (by decide : 0 + 0 ≤ _), (by decide : 0 + 0 ≤ _)⟩)
  dsimp only [Pt.U, Pt.locs, Pt.cells, Pt.slots] at X3 l3 y3 z3 st3 hQ3
  subst l3 y3 z3
  obtain ⟨rfl, N3q, e3⟩ := hQ3
  have N3 := Fr.app N2 N3q
  refine OGo.go (B := T3.setTop (mkF m 13 #[.val (.ref a0), .val (.ref a1), .val .null, .val (.ref vb), .unset] [(.int (8 : Int32))])) ?_ (fun tX kX => st3.trans kX)
  refine OGo.go (B := T3.setTop (mkF m 15 #[.val (.ref a0), .val (.ref a1), .val .null, .val (.ref vb), .val (.int (8 : Int32))] [])) ?_ (fun tX kX => XS.istore X3.here hx rfl (hb hby d7_13) rfl (l' := #[.val (.ref a0), .val (.ref a1), .val .null, .val (.ref vb), .val (.int (8 : Int32))]) rfl kX)
  refine OGo.go (B := T3.setTop (mkF m 16 #[.val (.ref a0), .val (.ref a1), .val .null, .val (.ref vb), .val (.int (8 : Int32))] [(.ref a1)])) ?_ (fun tX kX => XS.aloadN X3.here hx rfl (hb hby d7_15) rfl rfl kX)
  obtain ⟨cq4, kq4, q4a, q4b, q4c⟩ := isOf hZ e3 E_a1
  obtain ⟨_, _, ⟨T4, L4, k4, n4⟩, -, X4, ⟨Lc4, hQ4, l4, y4, z4⟩, st4⟩ := X3.virtualBack hx (y := (⟨"java/lang/AbstractStringBuilder", "isLatin1", "()Z"⟩ : MethodName)) (z := (⟨"java/lang/AbstractStringBuilder", "isLatin1", "()Z"⟩ : MethodName)) hown (mvT hZ (hw _ (List.mem_of_getElem? (i := 57) rfl))) (mvT hZ (hw _ (List.mem_of_getElem? (i := 58) rfl))) (notFace_of_selects (args := #[]) (mvT hZ (hw _ (List.mem_of_getElem? (i := 60) rfl)))) (mvT hZ (hw _ (List.mem_of_getElem? (i := 60) rfl))) (mvT hZ (hw _ (List.mem_of_getElem? (i := 59) rfl))) (by decide) (backOf (W := 0) (rm11 l Z aV hw [] a1 cs h0 n0 Z0 F_coder_a1 S_COMPACT_STRINGS hcs) hZ (hw _ (List.mem_of_getElem? (i := 61) rfl)) (hw _ (List.mem_of_getElem? (i := 15) rfl)) (by decide) (by decide)) q4a q4c (g := (mkF m 16 #[.val (.ref a0), .val (.ref a1), .val .null, .val (.ref vb), .val (.int (8 : Int32))] [(.ref a1)])) rfl (by rw [hml]; rfl) (Steps.refl _) (argsL := []) (rest := []) (lenOf pd___Z rfl) rfl (by show 2 * 0 + _ ≤ _; exact Nat.le_of_eq rfl) (hb hby d7_16) (fun _ _ => ⟨rfl, e3, (by decide : 0 + 0 ≤ _), (by decide : 0 + 0 ≤ _)⟩)
  dsimp only [Pt.U, Pt.locs, Pt.cells, Pt.slots] at X4 l4 y4 z4 st4 hQ4
  subst l4 y4 z4
  obtain ⟨rfl, N4q, e4⟩ := hQ4
  have N4 := Fr.app N3 N4q
  refine OGo.go (B := T4.setTop (mkF m 19 #[.val (.ref a0), .val (.ref a1), .val .null, .val (.ref vb), .val (.int (8 : Int32))] [(.int (1 : Int32))])) ?_ (fun tX kX => st4.trans kX)
  refine OGo.go (B := T4.setTop (mkF m 22 #[.val (.ref a0), .val (.ref a1), .val .null, .val (.ref vb), .val (.int (8 : Int32))] [])) ?_ (fun tX kX => XS.ifNo X4.here hx rfl (hb hby d7_19) rfl ((if0 _ _).trans (feq (by decide)).1) kX)
  refine OGo.go (B := T4.setTop (mkF m 23 #[.val (.ref a0), .val (.ref a1), .val .null, .val (.ref vb), .val (.int (8 : Int32))] [(.ref a0)])) ?_ (fun tX kX => XS.aloadN X4.here hx rfl (hb hby d7_22) rfl rfl kX)
  refine OGo.go (B := T4.setTop (mkF m 24 #[.val (.ref a0), .val (.ref a1), .val .null, .val (.ref vb), .val (.int (8 : Int32))] [(.int (0 : Int32)), (.ref a0)])) ?_ (fun tX kX => XS.iconst X4.here hx rfl (hb hby d7_23) kX)
  obtain ⟨T5, h5, X5, e5, W5, st5⟩ := putF X4 hx hZ hown (host := "") (Or.inl (hw _ (List.mem_of_getElem? (i := 62) rfl))) Via.refl e4 F_coder_a0 E_a0 (Or.inr ⟨(hw _ (List.mem_of_getElem? (i := 63) rfl)), rfl, hnm⟩) (hw _ (List.mem_of_getElem? (i := 32) rfl)) (ty := .byte) (by decide) rfl rfl (g := (mkF m 24 #[.val (.ref a0), .val (.ref a1), .val .null, .val (.ref vb), .val (.int (8 : Int32))] [(.int (0 : Int32)), (.ref a0)])) rfl rfl (hb hby d7_24)
  have E_a0 := E_a0.wr W5
  have F_value_a0 := F_value_a0.other W5 (Or.inr (slot_ne (Or.inr (hw _ (List.mem_of_getElem? (i := 78) rfl))) (Or.inr (hw _ (List.mem_of_getElem? (i := 63) rfl))) (by decide) (t := (.array .byte)) (t' := .byte) (by decide) (by decide)))
  have F_coder_a0 := F_coder_a0.same W5
  have E_a1 := E_a1.wr W5
  have F_value_a1 := F_value_a1.other W5 (Or.inl n01)
  have F_coder_a1 := F_coder_a1.other W5 (Or.inl n01)
  have F_count_a1 := F_count_a1.other W5 (Or.inl n01)
  have E_vb := E_vb.wr W5
  have V_vb := V_vb.other W5 n0v
  have S_COMPACT_STRINGS := S_COMPACT_STRINGS.wr W5
  have K5 := K0.wr W5 (Or.inl (List.mem_of_getElem? (i := 0) rfl))
  have zn5 : n0 ≤ h5.size := Nat.le_trans Z0 (Keep.of_wr W5).1
  have N5 := Fr.snoc X5 N4 ga
  refine OGo.go (B := T5.setTop (mkF m 27 #[.val (.ref a0), .val (.ref a1), .val .null, .val (.ref vb), .val (.int (8 : Int32))] [])) ?_ st5
  refine OGo.go (B := T5.setTop (mkF m 28 #[.val (.ref a0), .val (.ref a1), .val .null, .val (.ref vb), .val (.int (8 : Int32))] [(.ref a0)])) ?_ (fun tX kX => XS.aloadN X5.here hx rfl (hb hby d7_27) rfl rfl kX)
  refine OGo.go (B := T5.setTop (mkF m 29 #[.val (.ref a0), .val (.ref a1), .val .null, .val (.ref vb), .val (.int (8 : Int32))] [(.ref vb), (.ref a0)])) ?_ (fun tX kX => XS.aloadN X5.here hx rfl (hb hby d7_28) rfl rfl kX)
  refine OGo.go (B := T5.setTop (mkF m 30 #[.val (.ref a0), .val (.ref a1), .val .null, .val (.ref vb), .val (.int (8 : Int32))] [(.int (0 : Int32)), (.ref vb), (.ref a0)])) ?_ (fun tX kX => XS.iconst X5.here hx rfl (hb hby d7_29) kX)
  refine OGo.go (B := T5.setTop (mkF m 32 #[.val (.ref a0), .val (.ref a1), .val .null, .val (.ref vb), .val (.int (8 : Int32))] [(.int (8 : Int32)), (.int (0 : Int32)), (.ref vb), (.ref a0)])) ?_ (fun tX kX => XS.iload X5.here hx rfl (hb hby d7_30) rfl kX)
  obtain ⟨_, _, ⟨T6, L6, k6, n6⟩, -, X6, ⟨Lc6, hQ6, l6, y6, z6⟩, st6⟩ := Jvm.LawKit.callS X5 hx (y := (⟨"java/util/Arrays", "copyOfRange", "([BII)[B"⟩ : MethodName)) hown (mvT hZ (hw _ (List.mem_of_getElem? (i := 64) rfl))) (mvT hZ (hw _ (List.mem_of_getElem? (i := 65) rfl))) (mvT hZ (hw _ (List.mem_of_getElem? (i := 66) rfl))) (mvT hZ (hw _ (List.mem_of_getElem? (i := 67) rfl))) (by decide) (backOf (W := 1) (rm12c3 l Z aV hw [] vb kb ch0 ch1 ch2 ch3 ch4 ch5 ch6 ch7 h5 n0 zn5 E_vb V_vb) hZ (hw _ (List.mem_of_getElem? (i := 67) rfl)) (hw _ (List.mem_of_getElem? (i := 66) rfl)) (by decide) (by decide)) (g := (mkF m 32 #[.val (.ref a0), .val (.ref a1), .val .null, .val (.ref vb), .val (.int (8 : Int32))] [(.int (8 : Int32)), (.int (0 : Int32)), (.ref vb), (.ref a0)])) rfl (by rw [hml]; rfl) (argsL := [(.ref vb), (.int (0 : Int32)), (.int (8 : Int32))]) (rest := [(.ref a0)]) (lenOf pd___BII__B rfl) rfl (by show 2 * 0 + _ ≤ _; exact Nat.le_of_eq rfl) (hb hby d7_32) (fun _ _ => ⟨rfl, e5, (by decide : 0 + 1 ≤ _), (by decide : 0 + 8 ≤ _)⟩)
  dsimp only [Pt.U, Pt.locs, Pt.cells, Pt.slots] at X6 l6 y6 z6 st6 hQ6
  subst l6 y6 z6
  obtain ⟨nb_6, kn_6, rfl, N6q, Kq6, sz6_nb, E_nb_6_p, V_nb_6_p⟩ := hQ6
  have N6 := Fr.app N5 N6q
  have ne_a0_nb_6 : a0 ≠ nb_6 := Nat.ne_of_lt (Nat.lt_of_lt_of_le E_a0.lt sz6_nb)
  have ne_a1_nb_6 : a1 ≠ nb_6 := Nat.ne_of_lt (Nat.lt_of_lt_of_le E_a1.lt sz6_nb)
  have ne_vb_nb_6 : vb ≠ nb_6 := Nat.ne_of_lt (Nat.lt_of_lt_of_le E_vb.lt sz6_nb)
  have S_COMPACT_STRINGS := Sta.keep0 S_COMPACT_STRINGS Kq6
  have E_a0 := E_a0.keep Kq6
  have F_value_a0 := F_value_a0.keep Kq6 nin0
  have F_coder_a0 := F_coder_a0.keep Kq6 nin0
  have E_a1 := E_a1.keep Kq6
  have F_value_a1 := F_value_a1.keep Kq6 nin0
  have F_coder_a1 := F_coder_a1.keep Kq6 nin0
  have F_count_a1 := F_count_a1.keep Kq6 nin0
  have E_vb := E_vb.keep Kq6
  have V_vb := V_vb.keep Kq6 nin0
  have g_nb_6 : n0 ≤ nb_6 := Nat.le_trans zn5 sz6_nb
  have sz_nb_6 : h0.size ≤ nb_6 := Nat.le_trans K5.1 sz6_nb
  have K6 := K5.trans Kq6 all0
  have zn6 : n0 ≤ T6.heap.size := Nat.le_trans zn5 Kq6.1
  have E_nb_6 := E_nb_6_p
  have V_nb_6 := V_nb_6_p
  refine OGo.go (B := T6.setTop (mkF m 35 #[.val (.ref a0), .val (.ref a1), .val .null, .val (.ref vb), .val (.int (8 : Int32))] [(.ref nb_6), (.ref a0)])) ?_ st6
  obtain ⟨T7, h7, X7, e7, W7, st7⟩ := putF X6 hx hZ hown (host := "") (Or.inl (hw _ (List.mem_of_getElem? (i := 77) rfl))) Via.refl rfl F_value_a0 E_a0 (Or.inr ⟨(hw _ (List.mem_of_getElem? (i := 78) rfl)), rfl, hnm⟩) (hw _ (List.mem_of_getElem? (i := 32) rfl)) (ty := (.array .byte)) (by decide) rfl rfl (g := (mkF m 35 #[.val (.ref a0), .val (.ref a1), .val .null, .val (.ref vb), .val (.int (8 : Int32))] [(.ref nb_6), (.ref a0)])) rfl rfl (hb hby d7_35)
  have E_a0 := E_a0.wr W7
  have F_value_a0 := F_value_a0.same W7
  have F_coder_a0 := F_coder_a0.other W7 (Or.inr (slot_ne (Or.inr (hw _ (List.mem_of_getElem? (i := 63) rfl))) (Or.inr (hw _ (List.mem_of_getElem? (i := 78) rfl))) (by decide) (t := .byte) (t' := (.array .byte)) (by decide) (by decide)))
  have E_a1 := E_a1.wr W7
  have F_value_a1 := F_value_a1.other W7 (Or.inl n01)
  have F_coder_a1 := F_coder_a1.other W7 (Or.inl n01)
  have F_count_a1 := F_count_a1.other W7 (Or.inl n01)
  have E_vb := E_vb.wr W7
  have V_vb := V_vb.other W7 n0v
  have S_COMPACT_STRINGS := S_COMPACT_STRINGS.wr W7
  have E_nb_6 := E_nb_6.wr W7
  have V_nb_6 := V_nb_6.other W7 (Ne.symm ne_a0_nb_6)
  have K7 := K6.wr W7 (Or.inl (List.mem_of_getElem? (i := 0) rfl))
  have zn7 : n0 ≤ h7.size := Nat.le_trans zn6 (Keep.of_wr W7).1
  have N7 := Fr.snoc X7 N6 ga
  refine OGo.go (B := T7.setTop (mkF m 38 #[.val (.ref a0), .val (.ref a1), .val .null, .val (.ref vb), .val (.int (8 : Int32))] [])) ?_ st7
  refine OGo.go (B := T7.setTop (mkF m 97 #[.val (.ref a0), .val (.ref a1), .val .null, .val (.ref vb), .val (.int (8 : Int32))] [])) ?_ (fun tX kX => XS.goto X7.here hx rfl (pc0 := 38) (pc' := 97) rfl (hb hby d7_38) (by decide) (by decide) kX)
  refine OGo.ret X7 (v := none) (fun _ => rfl) (BodyLoose.notSynchronized Bd) (fun fs hr => X7.returnOut hx Bd.returns (hb hby d7_97) hr) (Q := Q7c3 Z a0 a1 u1 u2 vb kb cs ch0 ch1 ch2 ch3 ch4 ch5 ch6 ch7 h0 n0) ?_ (by decide) (by decide)
  show Q7c3 Z a0 a1 u1 u2 vb kb cs ch0 ch1 ch2 ch3 ch4 ch5 ch6 ch7 h0 n0 _ T7.heap _
  rw [e7]
  exact ⟨nb_6, kn_6, rfl, N7, K7, sz_nb_6, E_a0, F_value_a0, F_coder_a0, E_nb_6, V_nb_6⟩
def Q6c3 (Z : State) (a0 : Addr) (a1 : Addr) (u1 : Value) (u2 : Value) (vb : Addr) (kb : ClassId) (cs : Int32) (ch0 : Int32) (ch1 : Int32) (ch2 : Int32) (ch3 : Int32) (ch4 : Int32) (ch5 : Int32) (ch6 : Int32) (ch7 : Int32) (h0 : Heap) (n0 : Nat) (v : Option Value) (h : Heap) (L : List Loc) : Prop := ∃ (nb : Addr) (kn : ClassId), v = none ∧ Fr n0 L ∧ Keep h0 h [a0] ∧ h0.size ≤ nb ∧ Exa Z h a0 "java/lang/String" ∧ Fld Z h a0 "java/lang/String" "value" "[B" (.ref nb) ∧ Fld Z h a0 "java/lang/String" "coder" "B" (.int (0 : Int32)) ∧ Exa Z h nb "[B" ∧ Arv Z h nb kn .byte (8 : Int32) [(.int ch0), (.int ch1), (.int ch2), (.int ch3), (.int ch4), (.int ch5), (.int ch6), (.int ch7)] (.int (0 : Int32))
def P6c3 (Z : State) (a0 : Addr) (a1 : Addr) (u1 : Value) (u2 : Value) (vb : Addr) (kb : ClassId) (cs : Int32) (ch0 : Int32) (ch1 : Int32) (ch2 : Int32) (ch3 : Int32) (ch4 : Int32) (ch5 : Int32) (ch6 : Int32) (ch7 : Int32) (h0 : Heap) (n0 : Nat) (s : State) (o : Outcome) (U' : State) : Prop := ∃ v L, o = .returned v ∧ Q6c3 Z a0 a1 u1 u2 vb kb cs ch0 ch1 ch2 ch3 ch4 ch5 ch6 ch7 h0 n0 v U'.heap L ∧ FrameEnd s o U' L ({ frames := 4, cells := 1, slots := 8, locals := 73 } : Room).cells ({ frames := 4, cells := 1, slots := 8, locals := 73 } : Room).slots
set_option maxRecDepth 65536 in
set_option maxHeartbeats 40000000 in
theorem rm6c3 (l : Launch) (Z : State) (aV : Array Value) (hw : ∀ d ∈ tables_1, d.before aV Z = true) (ws : List Jvm.Cond) (a0 : Addr) (a1 : Addr) (u1 : Value) (u2 : Value) (vb : Addr) (kb : ClassId) (cs : Int32) (ch0 : Int32) (ch1 : Int32) (ch2 : Int32) (ch3 : Int32) (ch4 : Int32) (ch5 : Int32) (ch6 : Int32) (ch7 : Int32) (h0 : Heap) (n0 : Nat) (Z0 : n0 ≤ h0.size) (E_a0 : Exa Z h0 a0 "java/lang/String") (F_value_a0 : Fld Z h0 a0 "java/lang/String" "value" "[B" u1) (F_coder_a0 : Fld Z h0 a0 "java/lang/String" "coder" "B" u2) (E_a1 : Exa Z h0 a1 "java/lang/StringBuilder") (F_value_a1 : Fld Z h0 a1 "java/lang/AbstractStringBuilder" "value" "[B" (.ref vb)) (F_coder_a1 : Fld Z h0 a1 "java/lang/AbstractStringBuilder" "coder" "B" (.int (0 : Int32))) (F_count_a1 : Fld Z h0 a1 "java/lang/AbstractStringBuilder" "count" "I" (.int (8 : Int32))) (E_vb : Exa Z h0 vb "[B") (V_vb : Arv Z h0 vb kb .byte (9 : Int32) [(.int ch0), (.int ch1), (.int ch2), (.int ch3), (.int ch4), (.int ch5), (.int ch6), (.int ch7), (.int (0 : Int32))] (.int (0 : Int32))) (S_COMPACT_STRINGS : Sta Z h0 "java/lang/String" "COMPACT_STRINGS" "Z" (.int cs)) (ga : n0 ≤ a0) (n01 : a1 ≠ a0) (n0v : vb ≠ a0) (hcs : ¬ cs = 0) :
    MetFree l (⟨"java/lang/String", "<init>", "(Ljava/lang/StringBuilder;)V"⟩ : MethodName) (head1 (Jvm.Cond.code (⟨"java/lang/String", "<init>", "(Ljava/lang/StringBuilder;)V"⟩ : MethodName) jdk_42_method_53_code 2 none :: ws) ({ frames := 4, cells := 1, slots := 8, locals := 73 } : Room)) (fun a U => a = #[(.ref a0), (.ref a1)] ∧ Z.Warmed39 U.vm ∧ U.heap = h0) (fun _ _ _ _ _ => True) (fun _ U o U' => ∃ v L, o = .returned v ∧ Q6c3 Z a0 a1 u1 u2 vb kb cs ch0 ch1 ch2 ch3 ch4 ch5 ch6 ch7 h0 n0 v U'.heap L ∧ FrameEnd U o U' L ({ frames := 4, cells := 1, slots := 8, locals := 73 } : Room).cells ({ frames := 4, cells := 1, slots := 8, locals := 73 } : Room).slots) := by
  refine MetFree.of_bodySF (plainFor_of_name pn_java_lang_String) hisR ?_
  intro p e s m args below meth c s₁ Bd hml0 hP hK
  obtain ⟨rfl, hZ, hh⟩ := hP
  have hx := Bd.exec
  have hby := Bd.bytes
  have hml : c.maxLocals = 2 := hml0
  have hown : s.vm.findClass "java/lang/String" = some m.cls := findClass_of_methodNamed Bd.named
  have hnm := (name_of_methodNamed Bd.named Bd.method).1
  have X0 : Stand p l e ({ frames := 4, cells := 1, slots := 8, locals := 73 } : Room) s m #[(.ref a0), (.ref a1)] below meth c s₁ [] 0 0 := Stand.of_body Bd
  have e0 : s₁.heap = h0 := by rw [← hh, Bd.state]; rfl
  have efx : entryFrame m #[(.ref a0), (.ref a1)] 2 = mkF m 0 #[.val (.ref a0), .val (.ref a1)] [] := by first | (simp [entryFrame, mkF, argsToLocals, Value.category]; done) | rfl
  have N0 := Fr.nil n0
  have K0 : Keep h0 h0 [a0] := Keep.refl h0 _
  refine OGo.start (g' := mkF m 0 #[.val (.ref a0), .val (.ref a1)] []) (efx) ?_
  show OGo p.tables e below (P6c3 Z a0 a1 u1 u2 vb kb cs ch0 ch1 ch2 ch3 ch4 ch5 ch6 ch7 h0 n0 s) (s₁.setTop (mkF m 0 #[.val (.ref a0), .val (.ref a1)] []))
  refine OGo.go (B := s₁.setTop (mkF m 1 #[.val (.ref a0), .val (.ref a1)] [(.ref a0)])) ?_ (fun tX kX => XS.aloadN X0.here hx rfl (hb hby d6_0) rfl rfl kX)
  refine OGo.go (B := s₁.setTop (mkF m 2 #[.val (.ref a0), .val (.ref a1)] [(.ref a1), (.ref a0)])) ?_ (fun tX kX => XS.aloadN X0.here hx rfl (hb hby d6_1) rfl rfl kX)
  refine OGo.go (B := s₁.setTop (mkF m 3 #[.val (.ref a0), .val (.ref a1)] [.null, (.ref a1), (.ref a0)])) ?_ (fun tX kX => XS.aconstNull X0.here hx rfl (hb hby d6_2) kX)
  obtain ⟨_, _, ⟨T1, L1, k1, n1⟩, -, X1, ⟨Lc1, hQ1, l1, y1, z1⟩, st1⟩ := X0.specialBack hx (y := (⟨"java/lang/String", "<init>", "(Ljava/lang/AbstractStringBuilder;Ljava/lang/Void;)V"⟩ : MethodName)) rfl hown (mvT hZ (hw _ (List.mem_of_getElem? (i := 37) rfl))) (mvT hZ (hw _ (List.mem_of_getElem? (i := 38) rfl))) (mvT hZ (hw _ (List.mem_of_getElem? (i := 39) rfl))) (by decide) (backOf (W := 0) (rm7c3 l Z aV hw [] a0 a1 u1 u2 vb kb cs ch0 ch1 ch2 ch3 ch4 ch5 ch6 ch7 h0 n0 Z0 E_a0 F_value_a0 F_coder_a0 E_a1 F_value_a1 F_coder_a1 F_count_a1 E_vb V_vb S_COMPACT_STRINGS ga n01 n0v hcs) hZ (hw _ (List.mem_of_getElem? (i := 39) rfl)) (hw _ (List.mem_of_getElem? (i := 21) rfl)) (by decide) (by decide)) (g := (mkF m 3 #[.val (.ref a0), .val (.ref a1)] [.null, (.ref a1), (.ref a0)])) rfl (by rw [hml]; rfl) (Steps.refl _) (a := a0) (argsL := [(.ref a1), .null]) (rest := []) (lenOf pd__Ljava_lang_AbstractStringBuilder_Ljava_lang_Void__V rfl) rfl (by show 2 * 0 + _ ≤ _; exact Nat.le_of_eq rfl) (hb hby d6_3) (fun _ _ => ⟨rfl, e0, (by decide : 0 + 1 ≤ _), (by decide : 0 + 8 ≤ _)⟩)
  dsimp only [Pt.U, Pt.locs, Pt.cells, Pt.slots] at X1 l1 y1 z1 st1 hQ1
  subst l1 y1 z1
  obtain ⟨nb_1, kn_1, rfl, N1q, Kq1, sz1_nb, E_a0_p, F_value_a0_p, F_coder_a0_p, E_nb_1_p, V_nb_1_p⟩ := hQ1
  have N1 := Fr.app N0 N1q
  have ne_a0_nb_1 : a0 ≠ nb_1 := Nat.ne_of_lt (Nat.lt_of_lt_of_le E_a0.lt sz1_nb)
  have ne_a1_nb_1 : a1 ≠ nb_1 := Nat.ne_of_lt (Nat.lt_of_lt_of_le E_a1.lt sz1_nb)
  have ne_vb_nb_1 : vb ≠ nb_1 := Nat.ne_of_lt (Nat.lt_of_lt_of_le E_vb.lt sz1_nb)
  have S_COMPACT_STRINGS := Sta.keepE S_COMPACT_STRINGS Kq1 (staS E_a0.cell (fun x hx' => nomatch hx'))
  have E_a0 := E_a0.keep Kq1
  have E_a1 := E_a1.keep Kq1
  have F_value_a1 := F_value_a1.keep Kq1 (ninS n01 nin0)
  have F_coder_a1 := F_coder_a1.keep Kq1 (ninS n01 nin0)
  have F_count_a1 := F_count_a1.keep Kq1 (ninS n01 nin0)
  have E_vb := E_vb.keep Kq1
  have V_vb := V_vb.keep Kq1 (ninS n0v nin0)
  have g_nb_1 : n0 ≤ nb_1 := Nat.le_trans Z0 sz1_nb
  have sz_nb_1 : h0.size ≤ nb_1 := Nat.le_trans K0.1 sz1_nb
  have K1 := K0.trans Kq1 (allS (P := fun x => x ∈ [a0] ∨ h0.size ≤ x) (Or.inl (List.mem_of_getElem? (i := 0) rfl)) all0)
  have zn1 : n0 ≤ T1.heap.size := Nat.le_trans Z0 Kq1.1
  have E_a0 := E_a0_p
  have F_value_a0 := F_value_a0_p
  have F_coder_a0 := F_coder_a0_p
  have E_nb_1 := E_nb_1_p
  have V_nb_1 := V_nb_1_p
  refine OGo.go (B := T1.setTop (mkF m 6 #[.val (.ref a0), .val (.ref a1)] [])) ?_ (fun tX kX => st1.trans kX)
  refine OGo.ret X1 (v := none) (fun _ => rfl) (BodyLoose.notSynchronized Bd) (fun fs hr => X1.returnOut hx Bd.returns (hb hby d6_6) hr) (Q := Q6c3 Z a0 a1 u1 u2 vb kb cs ch0 ch1 ch2 ch3 ch4 ch5 ch6 ch7 h0 n0) ?_ (by decide) (by decide)
  show Q6c3 Z a0 a1 u1 u2 vb kb cs ch0 ch1 ch2 ch3 ch4 ch5 ch6 ch7 h0 n0 _ T1.heap _
  exact ⟨nb_1, kn_1, rfl, N1, K1, sz_nb_1, E_a0, F_value_a0, F_coder_a0, E_nb_1, V_nb_1⟩
def Q5c3 (Z : State) (a0 : Addr) (vb : Addr) (kb : ClassId) (cs : Int32) (ch0 : Int32) (ch1 : Int32) (ch2 : Int32) (ch3 : Int32) (ch4 : Int32) (ch5 : Int32) (ch6 : Int32) (ch7 : Int32) (h0 : Heap) (n0 : Nat) (v : Option Value) (h : Heap) (L : List Loc) : Prop := ∃ (sr : Addr) (nb : Addr) (kn : ClassId), v = some (.ref sr) ∧ Fr n0 L ∧ Keep h0 h [] ∧ h0.size ≤ sr ∧ h0.size ≤ nb ∧ Exa Z h sr "java/lang/String" ∧ Fld Z h sr "java/lang/String" "value" "[B" (.ref nb) ∧ Fld Z h sr "java/lang/String" "coder" "B" (.int (0 : Int32)) ∧ Exa Z h nb "[B" ∧ Arv Z h nb kn .byte (8 : Int32) [(.int ch0), (.int ch1), (.int ch2), (.int ch3), (.int ch4), (.int ch5), (.int ch6), (.int ch7)] (.int (0 : Int32))
def P5c3 (Z : State) (a0 : Addr) (vb : Addr) (kb : ClassId) (cs : Int32) (ch0 : Int32) (ch1 : Int32) (ch2 : Int32) (ch3 : Int32) (ch4 : Int32) (ch5 : Int32) (ch6 : Int32) (ch7 : Int32) (h0 : Heap) (n0 : Nat) (s : State) (o : Outcome) (U' : State) : Prop := ∃ v L, o = .returned v ∧ Q5c3 Z a0 vb kb cs ch0 ch1 ch2 ch3 ch4 ch5 ch6 ch7 h0 n0 v U'.heap L ∧ FrameEnd s o U' L ({ frames := 5, cells := 2, slots := 12, locals := 87 } : Room).cells ({ frames := 5, cells := 2, slots := 12, locals := 87 } : Room).slots
set_option maxRecDepth 65536 in
set_option maxHeartbeats 40000000 in
theorem rm5c3 (l : Launch) (Z : State) (aV : Array Value) (hw : ∀ d ∈ tables_1, d.before aV Z = true) (ws : List Jvm.Cond) (a0 : Addr) (vb : Addr) (kb : ClassId) (cs : Int32) (ch0 : Int32) (ch1 : Int32) (ch2 : Int32) (ch3 : Int32) (ch4 : Int32) (ch5 : Int32) (ch6 : Int32) (ch7 : Int32) (h0 : Heap) (n0 : Nat) (Z0 : n0 ≤ h0.size) (E_a0 : Exa Z h0 a0 "java/lang/StringBuilder") (F_value_a0 : Fld Z h0 a0 "java/lang/AbstractStringBuilder" "value" "[B" (.ref vb)) (F_coder_a0 : Fld Z h0 a0 "java/lang/AbstractStringBuilder" "coder" "B" (.int (0 : Int32))) (F_count_a0 : Fld Z h0 a0 "java/lang/AbstractStringBuilder" "count" "I" (.int (8 : Int32))) (E_vb : Exa Z h0 vb "[B") (V_vb : Arv Z h0 vb kb .byte (9 : Int32) [(.int ch0), (.int ch1), (.int ch2), (.int ch3), (.int ch4), (.int ch5), (.int ch6), (.int ch7), (.int (0 : Int32))] (.int (0 : Int32))) (S_COMPACT_STRINGS : Sta Z h0 "java/lang/String" "COMPACT_STRINGS" "Z" (.int cs)) (hcs : ¬ cs = 0) :
    MetFree l (⟨"java/lang/StringBuilder", "toString", "()Ljava/lang/String;"⟩ : MethodName) (head1 (Jvm.Cond.code (⟨"java/lang/StringBuilder", "toString", "()Ljava/lang/String;"⟩ : MethodName) jdk_67_method_42_code 1 (some (.object "java/lang/String")) :: ws) ({ frames := 5, cells := 2, slots := 12, locals := 87 } : Room)) (fun a U => a = #[(.ref a0)] ∧ Z.Warmed39 U.vm ∧ U.heap = h0) (fun _ _ _ _ _ => True) (fun _ U o U' => ∃ v L, o = .returned v ∧ Q5c3 Z a0 vb kb cs ch0 ch1 ch2 ch3 ch4 ch5 ch6 ch7 h0 n0 v U'.heap L ∧ FrameEnd U o U' L ({ frames := 5, cells := 2, slots := 12, locals := 87 } : Room).cells ({ frames := 5, cells := 2, slots := 12, locals := 87 } : Room).slots) := by
  refine MetFree.of_bodySF (plainFor_of_name pn_java_lang_StringBuilder) hisR ?_
  intro p e s m args below meth c s₁ Bd hml0 hP hK
  obtain ⟨rfl, hZ, hh⟩ := hP
  have hx := Bd.exec
  have hby := Bd.bytes
  have hml : c.maxLocals = 1 := hml0
  have hown : s.vm.findClass "java/lang/StringBuilder" = some m.cls := findClass_of_methodNamed Bd.named
  have hnm := (name_of_methodNamed Bd.named Bd.method).1
  have X0 : Stand p l e ({ frames := 5, cells := 2, slots := 12, locals := 87 } : Room) s m #[(.ref a0)] below meth c s₁ [] 0 0 := Stand.of_body Bd
  have e0 : s₁.heap = h0 := by rw [← hh, Bd.state]; rfl
  have efx : entryFrame m #[(.ref a0)] 1 = mkF m 0 #[.val (.ref a0)] [] := by first | (simp [entryFrame, mkF, argsToLocals, Value.category]; done) | rfl
  have N0 := Fr.nil n0
  have K0 : Keep h0 h0 [] := Keep.refl h0 _
  refine OGo.start (g' := mkF m 0 #[.val (.ref a0)] []) (efx) ?_
  show OGo p.tables e below (P5c3 Z a0 vb kb cs ch0 ch1 ch2 ch3 ch4 ch5 ch6 ch7 h0 n0 s) (s₁.setTop (mkF m 0 #[.val (.ref a0)] []))
  obtain ⟨T1, h1, X1, e1, E1, A1, D1, C1, st1⟩ := newO X0 hx hZ hown (hw _ (List.mem_of_getElem? (i := 31) rfl)) (hw _ (List.mem_of_getElem? (i := 32) rfl)) (hw _ (List.mem_of_getElem? (i := 21) rfl)) e0 (g := (mkF m 0 #[.val (.ref a0)] [])) rfl (hb hby d5_0) (by decide) (by decide)
  obtain ⟨b1, g1⟩ : ∃ z, z = h0.size := ⟨_, rfl⟩
  rw [← g1] at A1 D1 st1 C1
  have ne_a0_b1 : a0 ≠ b1 := Nat.ne_of_lt (Nat.lt_of_lt_of_le E_a0.lt (Nat.le_of_eq g1.symm))
  have ne_vb_b1 : vb ≠ b1 := Nat.ne_of_lt (Nat.lt_of_lt_of_le E_vb.lt (Nat.le_of_eq g1.symm))
  have E_a0 := E_a0.ext E1
  have F_value_a0 := F_value_a0.ext E1
  have F_coder_a0 := F_coder_a0.ext E1
  have F_count_a0 := F_count_a0.ext E1
  have E_vb := E_vb.ext E1
  have V_vb := V_vb.ext E1
  have S_COMPACT_STRINGS := S_COMPACT_STRINGS.ext E1
  have g_b1 : n0 ≤ b1 := Nat.le_trans Z0 (Nat.le_of_eq g1.symm)
  have sz_b1 : h0.size ≤ b1 := Nat.le_trans K0.1 (Nat.le_of_eq g1.symm)
  have zn1 : n0 ≤ h1.size := Nat.le_trans Z0 E1.1
  have K1 := K0.ext E1
  have E_b1 := A1
  have F_coder_b1 : Fld Z h1 b1 "java/lang/String" "coder" "B" (.int (0 : Int32)) := D1 (Or.inr (hw _ (List.mem_of_getElem? (i := 63) rfl))) (ty := .byte) (by decide)
  have F_value_b1 : Fld Z h1 b1 "java/lang/String" "value" "[B" .null := D1 (Or.inr (hw _ (List.mem_of_getElem? (i := 78) rfl))) (ty := (.array .byte)) (by decide)
  refine OGo.go (B := T1.setTop (mkF m 3 #[.val (.ref a0)] [(.ref b1)])) ?_ st1
  refine OGo.go (B := T1.setTop (mkF m 4 #[.val (.ref a0)] [(.ref b1), (.ref b1)])) ?_ (fun tX kX => XS.dup X1.here hx rfl (hb hby d5_3) rfl rfl kX)
  refine OGo.go (B := T1.setTop (mkF m 5 #[.val (.ref a0)] [(.ref a0), (.ref b1), (.ref b1)])) ?_ (fun tX kX => XS.aloadN X1.here hx rfl (hb hby d5_4) rfl rfl kX)
  obtain ⟨_, _, ⟨T2, L2, k2, n2⟩, -, X2, ⟨Lc2, hQ2, l2, y2, z2⟩, st2⟩ := X1.specialBack hx (y := (⟨"java/lang/String", "<init>", "(Ljava/lang/StringBuilder;)V"⟩ : MethodName)) rfl hown (mvT hZ (hw _ (List.mem_of_getElem? (i := 33) rfl))) (mvT hZ (hw _ (List.mem_of_getElem? (i := 34) rfl))) (mvT hZ (hw _ (List.mem_of_getElem? (i := 36) rfl))) (by decide) (backOf (W := 1) (rm6c3 l Z aV hw [] b1 a0 .null (.int (0 : Int32)) vb kb cs ch0 ch1 ch2 ch3 ch4 ch5 ch6 ch7 h1 n0 zn1 E_b1 F_value_b1 F_coder_b1 E_a0 F_value_a0 F_coder_a0 F_count_a0 E_vb V_vb S_COMPACT_STRINGS g_b1 ne_a0_b1 ne_vb_b1 hcs) hZ (hw _ (List.mem_of_getElem? (i := 36) rfl)) (hw _ (List.mem_of_getElem? (i := 21) rfl)) (by decide) (by decide)) (g := (mkF m 5 #[.val (.ref a0)] [(.ref a0), (.ref b1), (.ref b1)])) rfl (by rw [hml]; rfl) (Steps.refl _) (a := b1) (argsL := [(.ref a0)]) (rest := [(.ref b1)]) (lenOf pd__Ljava_lang_StringBuilder__V rfl) rfl (by show 2 * 0 + _ ≤ _; exact Nat.le_of_eq rfl) (hb hby d5_5) (fun _ _ => ⟨rfl, e1, (by decide : 1 + 1 ≤ _), (by decide : 4 + 8 ≤ _)⟩)
  dsimp only [Pt.U, Pt.locs, Pt.cells, Pt.slots] at X2 l2 y2 z2 st2 hQ2
  subst l2 y2 z2
  obtain ⟨nb_2, kn_2, rfl, N2q, Kq2, sz2_nb, E_b1_p, F_value_b1_p, F_coder_b1_p, E_nb_2_p, V_nb_2_p⟩ := hQ2
  have N2 := Fr.app N0 N2q
  have ne_a0_nb_2 : a0 ≠ nb_2 := Nat.ne_of_lt (Nat.lt_of_lt_of_le E_a0.lt sz2_nb)
  have ne_vb_nb_2 : vb ≠ nb_2 := Nat.ne_of_lt (Nat.lt_of_lt_of_le E_vb.lt sz2_nb)
  have ne_b1_nb_2 : b1 ≠ nb_2 := Nat.ne_of_lt (Nat.lt_of_lt_of_le E_b1.lt sz2_nb)
  have S_COMPACT_STRINGS := Sta.keepE S_COMPACT_STRINGS Kq2 (staS E_b1.cell (fun x hx' => nomatch hx'))
  have E_a0 := E_a0.keep Kq2
  have F_value_a0 := F_value_a0.keep Kq2 (ninS ne_a0_b1 nin0)
  have F_coder_a0 := F_coder_a0.keep Kq2 (ninS ne_a0_b1 nin0)
  have F_count_a0 := F_count_a0.keep Kq2 (ninS ne_a0_b1 nin0)
  have E_vb := E_vb.keep Kq2
  have V_vb := V_vb.keep Kq2 (ninS ne_vb_b1 nin0)
  have E_b1 := E_b1.keep Kq2
  have g_nb_2 : n0 ≤ nb_2 := Nat.le_trans zn1 sz2_nb
  have sz_nb_2 : h0.size ≤ nb_2 := Nat.le_trans K1.1 sz2_nb
  have K2 := K1.trans Kq2 (allS (P := fun x => x ∈ ([] : List Addr) ∨ h0.size ≤ x) (Or.inr sz_b1) all0)
  have zn2 : n0 ≤ T2.heap.size := Nat.le_trans zn1 Kq2.1
  have E_b1 := E_b1_p
  have F_value_b1 := F_value_b1_p
  have F_coder_b1 := F_coder_b1_p
  have E_nb_2 := E_nb_2_p
  have V_nb_2 := V_nb_2_p
  refine OGo.go (B := T2.setTop (mkF m 8 #[.val (.ref a0)] [(.ref b1)])) ?_ (fun tX kX => st2.trans kX)
  refine OGo.ret X2 (v := (some (.ref b1))) (fun h => by rw [Bd.returns] at h; cases h) (BodyLoose.notSynchronized Bd) (fun fs hr => retOut X2 hx Bd.returns rfl (Or.inr (Or.inr (Or.inr (Or.inr ⟨rfl, rfl, rfl⟩)))) (hb hby d5_8) hr) (Q := Q5c3 Z a0 vb kb cs ch0 ch1 ch2 ch3 ch4 ch5 ch6 ch7 h0 n0) ?_ (by decide) (by decide)
  show Q5c3 Z a0 vb kb cs ch0 ch1 ch2 ch3 ch4 ch5 ch6 ch7 h0 n0 _ T2.heap _
  exact ⟨b1, nb_2, kn_2, rfl, N2, K2, sz_b1, sz_nb_2, E_b1, F_value_b1, F_coder_b1, E_nb_2, V_nb_2⟩
theorem d1_0 : decode prog_1_method_2_code 0 = .ok (.new 7, 3) := by decide +kernel
theorem d1_3 : decode prog_1_method_2_code 3 = .ok (.dup, 1) := by decide +kernel
theorem d1_4 : decode prog_1_method_2_code 4 = .ok (.aload_n 0, 1) := by decide +kernel
theorem d1_5 : decode prog_1_method_2_code 5 = .ok (.arraylength, 1) := by decide +kernel
theorem d1_6 : decode prog_1_method_2_code 6 = .ok (.iconst 3, 1) := by decide +kernel
theorem d1_7 : decode prog_1_method_2_code 7 = .ok (.imul, 1) := by decide +kernel
theorem d1_8 : decode prog_1_method_2_code 8 = .ok (.invokespecial 9, 3) := by decide +kernel
theorem d1_11 : decode prog_1_method_2_code 11 = .ok (.astore_n 1, 1) := by decide +kernel
theorem d1_12 : decode prog_1_method_2_code 12 = .ok (.aload_n 0, 1) := by decide +kernel
theorem d1_13 : decode prog_1_method_2_code 13 = .ok (.astore_n 2, 1) := by decide +kernel
theorem d1_14 : decode prog_1_method_2_code 14 = .ok (.aload_n 2, 1) := by decide +kernel
theorem d1_15 : decode prog_1_method_2_code 15 = .ok (.arraylength, 1) := by decide +kernel
theorem d1_16 : decode prog_1_method_2_code 16 = .ok (.istore_n 3, 1) := by decide +kernel
theorem d1_17 : decode prog_1_method_2_code 17 = .ok (.iconst 0, 1) := by decide +kernel
theorem d1_18 : decode prog_1_method_2_code 18 = .ok (.istore 4, 2) := by decide +kernel
theorem d1_20 : decode prog_1_method_2_code 20 = .ok (.iload 4, 2) := by decide +kernel
theorem d1_22 : decode prog_1_method_2_code 22 = .ok (.iload_n 3, 1) := by decide +kernel
theorem d1_23 : decode prog_1_method_2_code 23 = .ok (.if_icmp .ge 57, 3) := by decide +kernel
theorem d1_80 : decode prog_1_method_2_code 80 = .ok (.aload_n 1, 1) := by decide +kernel
theorem d1_81 : decode prog_1_method_2_code 81 = .ok (.invokevirtual 26, 3) := by decide +kernel
theorem pd___Ljava_lang_String_ : parseMethodDescriptor "()Ljava/lang/String;" = some ⟨[], some (.object "java/lang/String")⟩ := by decide +kernel
theorem d1_84 : decode prog_1_method_2_code 84 = .ok (.areturn, 1) := by decide +kernel
theorem pn_com_example_cartouche_cartouche_host_Hex : plainName "com/example/cartouche/cartouche/host/Hex" = true := by first | (simp [plainName, overriddenIn]; done) | decide +kernel
def Q1n0 (Z : State) (a0 : Addr) (kb : ClassId) (cs : Int32) (ud : Addr) (kd : ClassId) (h0 : Heap) (n0 : Nat) (v : Option Value) (h : Heap) (L : List Loc) : Prop := ∃ (sr : Addr) (nb : Addr) (kn : ClassId), v = some (.ref sr) ∧ Fr n0 L ∧ Keep h0 h [] ∧ h0.size ≤ sr ∧ h0.size ≤ nb ∧ Exa Z h sr "java/lang/String" ∧ Fld Z h sr "java/lang/String" "value" "[B" (.ref nb) ∧ Fld Z h sr "java/lang/String" "coder" "B" (.int (0 : Int32)) ∧ Exa Z h nb "[B" ∧ Arv Z h nb kn .byte (0 : Int32) [] (.int (0 : Int32))
def P1n0 (Z : State) (a0 : Addr) (kb : ClassId) (cs : Int32) (ud : Addr) (kd : ClassId) (h0 : Heap) (n0 : Nat) (s : State) (o : Outcome) (U' : State) : Prop := ∃ v L, o = .returned v ∧ Q1n0 Z a0 kb cs ud kd h0 n0 v U'.heap L ∧ FrameEnd s o U' L ({ frames := 5, cells := 4, slots := 8, locals := 71 } : Room).cells ({ frames := 5, cells := 4, slots := 8, locals := 71 } : Room).slots
set_option maxRecDepth 65536 in
set_option maxHeartbeats 40000000 in
theorem rm1n0 (l : Launch) (Z : State) (aV : Array Value) (hw : ∀ d ∈ tables_1, d.before aV Z = true) (ws : List Jvm.Cond) (a0 : Addr) (kb : ClassId) (cs : Int32) (ud : Addr) (kd : ClassId) (h0 : Heap) (n0 : Nat) (Z0 : n0 ≤ h0.size) (V_a0 : Arv Z h0 a0 kb .byte (0 : Int32) [] (.int (0 : Int32))) (S_COMPACT_STRINGS : Sta Z h0 "java/lang/String" "COMPACT_STRINGS" "Z" (.int cs)) (S_DIGITS : Sta Z h0 "com/example/cartouche/cartouche/host/Hex" "DIGITS" "[C" (.ref ud)) (V_ud : Arv Z h0 ud kd .char (16 : Int32) own_D (.int (0 : Int32))) (hcs : ¬ cs = 0) :
    MetFree l (⟨"com/example/cartouche/cartouche/host/Hex", "format", "([B)Ljava/lang/String;"⟩ : MethodName) (head1 (Jvm.Cond.code (⟨"com/example/cartouche/cartouche/host/Hex", "format", "([B)Ljava/lang/String;"⟩ : MethodName) prog_1_method_2_code 6 (some (.object "java/lang/String")) :: ws) ({ frames := 5, cells := 4, slots := 8, locals := 71 } : Room)) (fun a U => a = #[(.ref a0)] ∧ Z.Warmed39 U.vm ∧ U.heap = h0) (fun _ _ _ _ _ => True) (fun _ U o U' => ∃ v L, o = .returned v ∧ Q1n0 Z a0 kb cs ud kd h0 n0 v U'.heap L ∧ FrameEnd U o U' L ({ frames := 5, cells := 4, slots := 8, locals := 71 } : Room).cells ({ frames := 5, cells := 4, slots := 8, locals := 71 } : Room).slots) := by
  refine MetFree.of_bodySF (plainFor_of_name pn_com_example_cartouche_cartouche_host_Hex) hisR ?_
  intro p e s m args below meth c s₁ Bd hml0 hP hK
  obtain ⟨rfl, hZ, hh⟩ := hP
  have hx := Bd.exec
  have hby := Bd.bytes
  have hml : c.maxLocals = 6 := hml0
  have hown : s.vm.findClass "com/example/cartouche/cartouche/host/Hex" = some m.cls := findClass_of_methodNamed Bd.named
  have hnm := (name_of_methodNamed Bd.named Bd.method).1
  have X0 : Stand p l e ({ frames := 5, cells := 4, slots := 8, locals := 71 } : Room) s m #[(.ref a0)] below meth c s₁ [] 0 0 := Stand.of_body Bd
  have e0 : s₁.heap = h0 := by rw [← hh, Bd.state]; rfl
  have efx : entryFrame m #[(.ref a0)] 6 = mkF m 0 #[.val (.ref a0), .unset, .unset, .unset, .unset, .unset] [] := by first | (simp [entryFrame, mkF, argsToLocals, Value.category]; done) | rfl
  have N0 := Fr.nil n0
  have K0 : Keep h0 h0 [] := Keep.refl h0 _
  refine OGo.start (g' := mkF m 0 #[.val (.ref a0), .unset, .unset, .unset, .unset, .unset] []) (efx) ?_
  show OGo p.tables e below (P1n0 Z a0 kb cs ud kd h0 n0 s) (s₁.setTop (mkF m 0 #[.val (.ref a0), .unset, .unset, .unset, .unset, .unset] []))
  obtain ⟨T1, h1, X1, e1, E1, A1, D1, C1, st1⟩ := newO X0 hx hZ hown (hw _ (List.mem_of_getElem? (i := 5) rfl)) (hw _ (List.mem_of_getElem? (i := 6) rfl)) (hw _ (List.mem_of_getElem? (i := 7) rfl)) e0 (g := (mkF m 0 #[.val (.ref a0), .unset, .unset, .unset, .unset, .unset] [])) rfl (hb hby d1_0) (by decide) (by decide)
  obtain ⟨b1, g1⟩ : ∃ z, z = h0.size := ⟨_, rfl⟩
  rw [← g1] at A1 D1 st1 C1
  have ne_a0_b1 : a0 ≠ b1 := Nat.ne_of_lt (Nat.lt_of_lt_of_le V_a0.lt (Nat.le_of_eq g1.symm))
  have ne_ud_b1 : ud ≠ b1 := Nat.ne_of_lt (Nat.lt_of_lt_of_le V_ud.lt (Nat.le_of_eq g1.symm))
  have V_a0 := V_a0.ext E1
  have S_COMPACT_STRINGS := S_COMPACT_STRINGS.ext E1
  have S_DIGITS := S_DIGITS.ext E1
  have V_ud := V_ud.ext E1
  have g_b1 : n0 ≤ b1 := Nat.le_trans Z0 (Nat.le_of_eq g1.symm)
  have sz_b1 : h0.size ≤ b1 := Nat.le_trans K0.1 (Nat.le_of_eq g1.symm)
  have zn1 : n0 ≤ h1.size := Nat.le_trans Z0 E1.1
  have K1 := K0.ext E1
  have E_b1 := A1
  have F_value_b1 : Fld Z h1 b1 "java/lang/AbstractStringBuilder" "value" "[B" .null := D1 (Or.inl (hw _ (List.mem_of_getElem? (i := 23) rfl))) (ty := (.array .byte)) (by decide)
  have F_coder_b1 : Fld Z h1 b1 "java/lang/AbstractStringBuilder" "coder" "B" (.int (0 : Int32)) := D1 (Or.inl (hw _ (List.mem_of_getElem? (i := 25) rfl))) (ty := .byte) (by decide)
  have F_count_b1 : Fld Z h1 b1 "java/lang/AbstractStringBuilder" "count" "I" (.int (0 : Int32)) := D1 (Or.inl (hw _ (List.mem_of_getElem? (i := 56) rfl))) (ty := .int) (by decide)
  refine OGo.go (B := T1.setTop (mkF m 3 #[.val (.ref a0), .unset, .unset, .unset, .unset, .unset] [(.ref b1)])) ?_ st1
  refine OGo.go (B := T1.setTop (mkF m 4 #[.val (.ref a0), .unset, .unset, .unset, .unset, .unset] [(.ref b1), (.ref b1)])) ?_ (fun tX kX => XS.dup X1.here hx rfl (hb hby d1_3) rfl rfl kX)
  refine OGo.go (B := T1.setTop (mkF m 5 #[.val (.ref a0), .unset, .unset, .unset, .unset, .unset] [(.ref a0), (.ref b1), (.ref b1)])) ?_ (fun tX kX => XS.aloadN X1.here hx rfl (hb hby d1_4) rfl rfl kX)
  obtain ⟨cl2, Ar2, qa2, S2, N2', H2, G2⟩ := id V_a0
  refine OGo.go (B := T1.setTop (mkF m 6 #[.val (.ref a0), .unset, .unset, .unset, .unset, .unset] [(.int (0 : Int32)), (.ref b1), (.ref b1)])) ?_ (fun tX kX => X1.arraylength hx (by rw [e1]; exact Ar2.1) (State.isArrayOf_alike hZ.alike Ar2.2.1) (g := (mkF m 5 #[.val (.ref a0), .unset, .unset, .unset, .unset, .unset] [(.ref a0), (.ref b1), (.ref b1)])) rfl rfl (hb hby d1_5) _ (by rw [len_of S2 N2']; exact kX))
  refine OGo.go (B := T1.setTop (mkF m 7 #[.val (.ref a0), .unset, .unset, .unset, .unset, .unset] [(.int (3 : Int32)), (.int (0 : Int32)), (.ref b1), (.ref b1)])) ?_ (fun tX kX => XS.iconst X1.here hx rfl (hb hby d1_6) kX)
  refine OGo.go (B := T1.setTop (mkF m 8 #[.val (.ref a0), .unset, .unset, .unset, .unset, .unset] [(.int (0 : Int32)), (.ref b1), (.ref b1)])) ?_ (fun tX kX => XS.imul X1.here hx rfl (hb hby d1_7) rfl kX)
  obtain ⟨_, _, ⟨T3, L3, k3, n3⟩, -, X3, ⟨Lc3, hQ3, l3, y3, z3⟩, st3⟩ := X1.specialBack hx (y := (⟨"java/lang/StringBuilder", "<init>", "(I)V"⟩ : MethodName)) rfl hown (mvT hZ (hw _ (List.mem_of_getElem? (i := 8) rfl))) (mvT hZ (hw _ (List.mem_of_getElem? (i := 9) rfl))) (mvT hZ (hw _ (List.mem_of_getElem? (i := 10) rfl))) (by decide) (backOf (W := 1) (rm2n0 l Z aV hw [] b1 .null (.int (0 : Int32)) cs h1 n0 zn1 E_b1 F_value_b1 F_coder_b1 F_count_b1 S_COMPACT_STRINGS g_b1 hcs) hZ (hw _ (List.mem_of_getElem? (i := 10) rfl)) (hw _ (List.mem_of_getElem? (i := 7) rfl)) (by decide) (by decide)) (g := (mkF m 8 #[.val (.ref a0), .unset, .unset, .unset, .unset, .unset] [(.int (0 : Int32)), (.ref b1), (.ref b1)])) rfl (by rw [hml]; rfl) (Steps.refl _) (a := b1) (argsL := [(.int (0 : Int32))]) (rest := [(.ref b1)]) (lenOf pd__I_V rfl) rfl (by show 2 * 0 + _ ≤ _; exact Nat.le_of_eq rfl) (hb hby d1_8) (fun _ _ => ⟨rfl, e1, (by decide : 1 + 1 ≤ _), (by decide : 4 + 0 ≤ _)⟩)
  dsimp only [Pt.U, Pt.locs, Pt.cells, Pt.slots] at X3 l3 y3 z3 st3 hQ3
  subst l3 y3 z3
  obtain ⟨vb_3, kb_3, rfl, N3q, Kq3, sz3_vb, E_b1_p, F_value_b1_p, F_coder_b1_p, F_count_b1_p, E_vb_3_p, V_vb_3_p⟩ := hQ3
  have N3 := Fr.app N0 N3q
  have ne_a0_vb_3 : a0 ≠ vb_3 := Nat.ne_of_lt (Nat.lt_of_lt_of_le V_a0.lt sz3_vb)
  have ne_ud_vb_3 : ud ≠ vb_3 := Nat.ne_of_lt (Nat.lt_of_lt_of_le V_ud.lt sz3_vb)
  have ne_b1_vb_3 : b1 ≠ vb_3 := Nat.ne_of_lt (Nat.lt_of_lt_of_le E_b1.lt sz3_vb)
  have S_COMPACT_STRINGS := Sta.keepE S_COMPACT_STRINGS Kq3 (staS E_b1.cell (fun x hx' => nomatch hx'))
  have S_DIGITS := Sta.keepE S_DIGITS Kq3 (staS E_b1.cell (fun x hx' => nomatch hx'))
  have V_a0 := V_a0.keep Kq3 (ninS ne_a0_b1 nin0)
  have V_ud := V_ud.keep Kq3 (ninS ne_ud_b1 nin0)
  have E_b1 := E_b1.keep Kq3
  have g_vb_3 : n0 ≤ vb_3 := Nat.le_trans zn1 sz3_vb
  have sz_vb_3 : h0.size ≤ vb_3 := Nat.le_trans K1.1 sz3_vb
  have K3 := K1.trans Kq3 (allS (P := fun x => x ∈ ([] : List Addr) ∨ h0.size ≤ x) (Or.inr sz_b1) all0)
  have zn3 : n0 ≤ T3.heap.size := Nat.le_trans zn1 Kq3.1
  have E_b1 := E_b1_p
  have F_value_b1 := F_value_b1_p
  have F_coder_b1 := F_coder_b1_p
  have F_count_b1 := F_count_b1_p
  have E_vb_3 := E_vb_3_p
  have V_vb_3 := V_vb_3_p
  refine OGo.go (B := T3.setTop (mkF m 11 #[.val (.ref a0), .unset, .unset, .unset, .unset, .unset] [(.ref b1)])) ?_ (fun tX kX => st3.trans kX)
  refine OGo.go (B := T3.setTop (mkF m 12 #[.val (.ref a0), .val (.ref b1), .unset, .unset, .unset, .unset] [])) ?_ (fun tX kX => XS.astoreN X3.here hx rfl (hb hby d1_11) rfl rfl (l' := #[.val (.ref a0), .val (.ref b1), .unset, .unset, .unset, .unset]) rfl kX)
  refine OGo.go (B := T3.setTop (mkF m 13 #[.val (.ref a0), .val (.ref b1), .unset, .unset, .unset, .unset] [(.ref a0)])) ?_ (fun tX kX => XS.aloadN X3.here hx rfl (hb hby d1_12) rfl rfl kX)
  refine OGo.go (B := T3.setTop (mkF m 14 #[.val (.ref a0), .val (.ref b1), .val (.ref a0), .unset, .unset, .unset] [])) ?_ (fun tX kX => XS.astoreN X3.here hx rfl (hb hby d1_13) rfl rfl (l' := #[.val (.ref a0), .val (.ref b1), .val (.ref a0), .unset, .unset, .unset]) rfl kX)
  refine OGo.go (B := T3.setTop (mkF m 15 #[.val (.ref a0), .val (.ref b1), .val (.ref a0), .unset, .unset, .unset] [(.ref a0)])) ?_ (fun tX kX => XS.aloadN X3.here hx rfl (hb hby d1_14) rfl rfl kX)
  obtain ⟨cl4, Ar4, qa4, S4, N4', H4, G4⟩ := id V_a0
  refine OGo.go (B := T3.setTop (mkF m 16 #[.val (.ref a0), .val (.ref b1), .val (.ref a0), .unset, .unset, .unset] [(.int (0 : Int32))])) ?_ (fun tX kX => X3.arraylength hx Ar4.1 (State.isArrayOf_alike hZ.alike Ar4.2.1) (g := (mkF m 15 #[.val (.ref a0), .val (.ref b1), .val (.ref a0), .unset, .unset, .unset] [(.ref a0)])) rfl rfl (hb hby d1_15) _ (by rw [len_of S4 N4']; exact kX))
  refine OGo.go (B := T3.setTop (mkF m 17 #[.val (.ref a0), .val (.ref b1), .val (.ref a0), .val (.int (0 : Int32)), .unset, .unset] [])) ?_ (fun tX kX => XS.istoreN X3.here hx rfl (hb hby d1_16) rfl (l' := #[.val (.ref a0), .val (.ref b1), .val (.ref a0), .val (.int (0 : Int32)), .unset, .unset]) rfl kX)
  refine OGo.go (B := T3.setTop (mkF m 18 #[.val (.ref a0), .val (.ref b1), .val (.ref a0), .val (.int (0 : Int32)), .unset, .unset] [(.int (0 : Int32))])) ?_ (fun tX kX => XS.iconst X3.here hx rfl (hb hby d1_17) kX)
  refine OGo.go (B := T3.setTop (mkF m 20 #[.val (.ref a0), .val (.ref b1), .val (.ref a0), .val (.int (0 : Int32)), .val (.int (0 : Int32)), .unset] [])) ?_ (fun tX kX => XS.istore X3.here hx rfl (hb hby d1_18) rfl (l' := #[.val (.ref a0), .val (.ref b1), .val (.ref a0), .val (.int (0 : Int32)), .val (.int (0 : Int32)), .unset]) rfl kX)
  refine OGo.go (B := T3.setTop (mkF m 22 #[.val (.ref a0), .val (.ref b1), .val (.ref a0), .val (.int (0 : Int32)), .val (.int (0 : Int32)), .unset] [(.int (0 : Int32))])) ?_ (fun tX kX => XS.iload X3.here hx rfl (hb hby d1_20) rfl kX)
  refine OGo.go (B := T3.setTop (mkF m 23 #[.val (.ref a0), .val (.ref b1), .val (.ref a0), .val (.int (0 : Int32)), .val (.int (0 : Int32)), .unset] [(.int (0 : Int32)), (.int (0 : Int32))])) ?_ (fun tX kX => XS.iloadN X3.here hx rfl (hb hby d1_22) rfl kX)
  refine OGo.go (B := T3.setTop (mkF m 80 #[.val (.ref a0), .val (.ref b1), .val (.ref a0), .val (.int (0 : Int32)), .val (.int (0 : Int32)), .unset] [])) ?_ (fun tX kX => XS.icmpYes X3.here hx rfl (pc0 := 23) (pc' := 80) rfl (hb hby d1_23) rfl (flt (by decide)).2.1 (by decide) (by decide) kX)
  refine OGo.go (B := T3.setTop (mkF m 81 #[.val (.ref a0), .val (.ref b1), .val (.ref a0), .val (.int (0 : Int32)), .val (.int (0 : Int32)), .unset] [(.ref b1)])) ?_ (fun tX kX => XS.aloadN X3.here hx rfl (hb hby d1_80) rfl rfl kX)
  obtain ⟨cq5, kq5, q5a, q5b, q5c⟩ := isOf hZ rfl E_b1
  obtain ⟨_, _, ⟨T5, L5, k5, n5⟩, -, X5, ⟨Lc5, hQ5, l5, y5, z5⟩, st5⟩ := X3.virtualBack hx (y := (⟨"java/lang/StringBuilder", "toString", "()Ljava/lang/String;"⟩ : MethodName)) (z := (⟨"java/lang/StringBuilder", "toString", "()Ljava/lang/String;"⟩ : MethodName)) hown (mvT hZ (hw _ (List.mem_of_getElem? (i := 26) rfl))) (mvT hZ (hw _ (List.mem_of_getElem? (i := 27) rfl))) (notFace_of_selects (args := #[]) (mvT hZ (hw _ (List.mem_of_getElem? (i := 29) rfl)))) (mvT hZ (hw _ (List.mem_of_getElem? (i := 29) rfl))) (mvT hZ (hw _ (List.mem_of_getElem? (i := 28) rfl))) (by decide) (backOf (W := 0) (rm5c0 l Z aV hw [] b1 vb_3 kb_3 cs T3.heap n0 zn3 E_b1 F_value_b1 F_coder_b1 F_count_b1 E_vb_3 V_vb_3 S_COMPACT_STRINGS hcs) hZ (hw _ (List.mem_of_getElem? (i := 30) rfl)) (hw _ (List.mem_of_getElem? (i := 7) rfl)) (by decide) (by decide)) q5a q5c (g := (mkF m 81 #[.val (.ref a0), .val (.ref b1), .val (.ref a0), .val (.int (0 : Int32)), .val (.int (0 : Int32)), .unset] [(.ref b1)])) rfl (by rw [hml]; rfl) (Steps.refl _) (argsL := []) (rest := []) (lenOf pd___Ljava_lang_String_ rfl) rfl (by show 2 * 0 + _ ≤ _; exact Nat.le_of_eq rfl) (hb hby d1_81) (fun _ _ => ⟨rfl, rfl, (by decide : 2 + 2 ≤ _), (by decide : 4 + 4 ≤ _)⟩)
  dsimp only [Pt.U, Pt.locs, Pt.cells, Pt.slots] at X5 l5 y5 z5 st5 hQ5
  subst l5 y5 z5
  obtain ⟨sr_5, nb_5, kn_5, rfl, N5q, Kq5, sz5_sr, sz5_nb, E_sr_5_p, F_value_sr_5_p, F_coder_sr_5_p, E_nb_5_p, V_nb_5_p⟩ := hQ5
  have N5 := Fr.app N3 N5q
  have ne_a0_sr_5 : a0 ≠ sr_5 := Nat.ne_of_lt (Nat.lt_of_lt_of_le V_a0.lt sz5_sr)
  have ne_ud_sr_5 : ud ≠ sr_5 := Nat.ne_of_lt (Nat.lt_of_lt_of_le V_ud.lt sz5_sr)
  have ne_b1_sr_5 : b1 ≠ sr_5 := Nat.ne_of_lt (Nat.lt_of_lt_of_le E_b1.lt sz5_sr)
  have ne_vb_3_sr_5 : vb_3 ≠ sr_5 := Nat.ne_of_lt (Nat.lt_of_lt_of_le E_vb_3.lt sz5_sr)
  have ne_a0_nb_5 : a0 ≠ nb_5 := Nat.ne_of_lt (Nat.lt_of_lt_of_le V_a0.lt sz5_nb)
  have ne_ud_nb_5 : ud ≠ nb_5 := Nat.ne_of_lt (Nat.lt_of_lt_of_le V_ud.lt sz5_nb)
  have ne_b1_nb_5 : b1 ≠ nb_5 := Nat.ne_of_lt (Nat.lt_of_lt_of_le E_b1.lt sz5_nb)
  have ne_vb_3_nb_5 : vb_3 ≠ nb_5 := Nat.ne_of_lt (Nat.lt_of_lt_of_le E_vb_3.lt sz5_nb)
  have S_COMPACT_STRINGS := Sta.keep0 S_COMPACT_STRINGS Kq5
  have S_DIGITS := Sta.keep0 S_DIGITS Kq5
  have V_a0 := V_a0.keep Kq5 nin0
  have V_ud := V_ud.keep Kq5 nin0
  have E_b1 := E_b1.keep Kq5
  have F_value_b1 := F_value_b1.keep Kq5 nin0
  have F_coder_b1 := F_coder_b1.keep Kq5 nin0
  have F_count_b1 := F_count_b1.keep Kq5 nin0
  have E_vb_3 := E_vb_3.keep Kq5
  have V_vb_3 := V_vb_3.keep Kq5 nin0
  have g_sr_5 : n0 ≤ sr_5 := Nat.le_trans zn3 sz5_sr
  have sz_sr_5 : h0.size ≤ sr_5 := Nat.le_trans K3.1 sz5_sr
  have g_nb_5 : n0 ≤ nb_5 := Nat.le_trans zn3 sz5_nb
  have sz_nb_5 : h0.size ≤ nb_5 := Nat.le_trans K3.1 sz5_nb
  have K5 := K3.trans Kq5 all0
  have zn5 : n0 ≤ T5.heap.size := Nat.le_trans zn3 Kq5.1
  have E_sr_5 := E_sr_5_p
  have F_value_sr_5 := F_value_sr_5_p
  have F_coder_sr_5 := F_coder_sr_5_p
  have E_nb_5 := E_nb_5_p
  have V_nb_5 := V_nb_5_p
  refine OGo.go (B := T5.setTop (mkF m 84 #[.val (.ref a0), .val (.ref b1), .val (.ref a0), .val (.int (0 : Int32)), .val (.int (0 : Int32)), .unset] [(.ref sr_5)])) ?_ (fun tX kX => st5.trans kX)
  refine OGo.ret X5 (v := (some (.ref sr_5))) (fun h => by rw [Bd.returns] at h; cases h) (BodyLoose.notSynchronized Bd) (fun fs hr => retOut X5 hx Bd.returns rfl (Or.inr (Or.inr (Or.inr (Or.inr ⟨rfl, rfl, rfl⟩)))) (hb hby d1_84) hr) (Q := Q1n0 Z a0 kb cs ud kd h0 n0) ?_ (by decide) (by decide)
  show Q1n0 Z a0 kb cs ud kd h0 n0 _ T5.heap _
  exact ⟨sr_5, nb_5, kn_5, rfl, N5, K5, sz_sr_5, sz_nb_5, E_sr_5, F_value_sr_5, F_coder_sr_5, E_nb_5, V_nb_5⟩
theorem d1_26 : decode prog_1_method_2_code 26 = .ok (.aload_n 2, 1) := by decide +kernel
theorem d1_27 : decode prog_1_method_2_code 27 = .ok (.iload 4, 2) := by decide +kernel
theorem d1_29 : decode prog_1_method_2_code 29 = .ok (.baload, 1) := by decide +kernel
theorem d1_30 : decode prog_1_method_2_code 30 = .ok (.istore 5, 2) := by decide +kernel
theorem d1_32 : decode prog_1_method_2_code 32 = .ok (.aload_n 1, 1) := by decide +kernel
theorem d1_33 : decode prog_1_method_2_code 33 = .ok (.invokevirtual 12, 3) := by decide +kernel
theorem d1_36 : decode prog_1_method_2_code 36 = .ok (.ifCond .le 10, 3) := by decide +kernel
theorem d1_46 : decode prog_1_method_2_code 46 = .ok (.aload_n 1, 1) := by decide +kernel
theorem d1_47 : decode prog_1_method_2_code 47 = .ok (.getstatic 20, 3) := by decide +kernel
theorem d1_50 : decode prog_1_method_2_code 50 = .ok (.iload 5, 2) := by decide +kernel
theorem d1_52 : decode prog_1_method_2_code 52 = .ok (.iconst 4, 1) := by decide +kernel
theorem d1_53 : decode prog_1_method_2_code 53 = .ok (.ishr, 1) := by decide +kernel
theorem d1_54 : decode prog_1_method_2_code 54 = .ok (.bipush 15, 2) := by decide +kernel
theorem d1_56 : decode prog_1_method_2_code 56 = .ok (.iand, 1) := by decide +kernel
theorem d1_57 : decode prog_1_method_2_code 57 = .ok (.caload, 1) := by decide +kernel
theorem d1_58 : decode prog_1_method_2_code 58 = .ok (.invokevirtual 16, 3) := by decide +kernel
theorem pd__C_Ljava_lang_StringBuilder_ : parseMethodDescriptor "(C)Ljava/lang/StringBuilder;" = some ⟨[.char], some (.object "java/lang/StringBuilder")⟩ := by decide +kernel
theorem d1_61 : decode prog_1_method_2_code 61 = .ok (.getstatic 20, 3) := by decide +kernel
theorem d1_64 : decode prog_1_method_2_code 64 = .ok (.iload 5, 2) := by decide +kernel
theorem d1_66 : decode prog_1_method_2_code 66 = .ok (.bipush 15, 2) := by decide +kernel
theorem d1_68 : decode prog_1_method_2_code 68 = .ok (.iand, 1) := by decide +kernel
theorem d1_69 : decode prog_1_method_2_code 69 = .ok (.caload, 1) := by decide +kernel
theorem d1_70 : decode prog_1_method_2_code 70 = .ok (.invokevirtual 16, 3) := by decide +kernel
theorem d1_73 : decode prog_1_method_2_code 73 = .ok (.pop, 1) := by decide +kernel
theorem d1_74 : decode prog_1_method_2_code 74 = .ok (.iinc 4 1, 3) := by decide +kernel
theorem d1_77 : decode prog_1_method_2_code 77 = .ok (.goto (-57), 3) := by decide +kernel
def Q1n1 (Z : State) (a0 : Addr) (kb : ClassId) (cs : Int32) (ud : Addr) (kd : ClassId) (x0 : Int32) (h0 : Heap) (n0 : Nat) (v : Option Value) (h : Heap) (L : List Loc) : Prop := ∃ (sr : Addr) (nb : Addr) (kn : ClassId), v = some (.ref sr) ∧ Fr n0 L ∧ Keep h0 h [] ∧ h0.size ≤ sr ∧ h0.size ≤ nb ∧ Exa Z h sr "java/lang/String" ∧ Fld Z h sr "java/lang/String" "value" "[B" (.ref nb) ∧ Fld Z h sr "java/lang/String" "coder" "B" (.int (0 : Int32)) ∧ Exa Z h nb "[B" ∧ Arv Z h nb kn .byte (2 : Int32) [(.int (((own_dig ((x0 >>> ((4 : Int32) &&& 31)) &&& (15 : Int32))).toInt8.toInt32).toInt8.toInt32)), (.int (((own_dig (x0 &&& (15 : Int32))).toInt8.toInt32).toInt8.toInt32))] (.int (0 : Int32))
def P1n1 (Z : State) (a0 : Addr) (kb : ClassId) (cs : Int32) (ud : Addr) (kd : ClassId) (x0 : Int32) (h0 : Heap) (n0 : Nat) (s : State) (o : Outcome) (U' : State) : Prop := ∃ v L, o = .returned v ∧ Q1n1 Z a0 kb cs ud kd x0 h0 n0 v U'.heap L ∧ FrameEnd s o U' L ({ frames := 6, cells := 4, slots := 13, locals := 99 } : Room).cells ({ frames := 6, cells := 4, slots := 13, locals := 99 } : Room).slots
set_option maxRecDepth 65536 in
set_option maxHeartbeats 40000000 in
theorem rm1n1 (l : Launch) (Z : State) (aV : Array Value) (hw : ∀ d ∈ tables_1, d.before aV Z = true) (ws : List Jvm.Cond) (a0 : Addr) (kb : ClassId) (cs : Int32) (ud : Addr) (kd : ClassId) (x0 : Int32) (h0 : Heap) (n0 : Nat) (Z0 : n0 ≤ h0.size) (V_a0 : Arv Z h0 a0 kb .byte (1 : Int32) [(.int x0)] (.int (0 : Int32))) (S_COMPACT_STRINGS : Sta Z h0 "java/lang/String" "COMPACT_STRINGS" "Z" (.int cs)) (S_DIGITS : Sta Z h0 "com/example/cartouche/cartouche/host/Hex" "DIGITS" "[C" (.ref ud)) (V_ud : Arv Z h0 ud kd .char (16 : Int32) own_D (.int (0 : Int32))) (hcs : ¬ cs = 0) :
    MetFree l (⟨"com/example/cartouche/cartouche/host/Hex", "format", "([B)Ljava/lang/String;"⟩ : MethodName) (head1 (Jvm.Cond.code (⟨"com/example/cartouche/cartouche/host/Hex", "format", "([B)Ljava/lang/String;"⟩ : MethodName) prog_1_method_2_code 6 (some (.object "java/lang/String")) :: ws) ({ frames := 6, cells := 4, slots := 13, locals := 99 } : Room)) (fun a U => a = #[(.ref a0)] ∧ Z.Warmed39 U.vm ∧ U.heap = h0) (fun _ _ _ _ _ => True) (fun _ U o U' => ∃ v L, o = .returned v ∧ Q1n1 Z a0 kb cs ud kd x0 h0 n0 v U'.heap L ∧ FrameEnd U o U' L ({ frames := 6, cells := 4, slots := 13, locals := 99 } : Room).cells ({ frames := 6, cells := 4, slots := 13, locals := 99 } : Room).slots) := by
  refine MetFree.of_bodySF (plainFor_of_name pn_com_example_cartouche_cartouche_host_Hex) hisR ?_
  intro p e s m args below meth c s₁ Bd hml0 hP hK
  obtain ⟨rfl, hZ, hh⟩ := hP
  have hx := Bd.exec
  have hby := Bd.bytes
  have hml : c.maxLocals = 6 := hml0
  have hown : s.vm.findClass "com/example/cartouche/cartouche/host/Hex" = some m.cls := findClass_of_methodNamed Bd.named
  have hnm := (name_of_methodNamed Bd.named Bd.method).1
  have X0 : Stand p l e ({ frames := 6, cells := 4, slots := 13, locals := 99 } : Room) s m #[(.ref a0)] below meth c s₁ [] 0 0 := Stand.of_body Bd
  have e0 : s₁.heap = h0 := by rw [← hh, Bd.state]; rfl
  have efx : entryFrame m #[(.ref a0)] 6 = mkF m 0 #[.val (.ref a0), .unset, .unset, .unset, .unset, .unset] [] := by first | (simp [entryFrame, mkF, argsToLocals, Value.category]; done) | rfl
  have N0 := Fr.nil n0
  have K0 : Keep h0 h0 [] := Keep.refl h0 _
  refine OGo.start (g' := mkF m 0 #[.val (.ref a0), .unset, .unset, .unset, .unset, .unset] []) (efx) ?_
  show OGo p.tables e below (P1n1 Z a0 kb cs ud kd x0 h0 n0 s) (s₁.setTop (mkF m 0 #[.val (.ref a0), .unset, .unset, .unset, .unset, .unset] []))
  obtain ⟨T1, h1, X1, e1, E1, A1, D1, C1, st1⟩ := newO X0 hx hZ hown (hw _ (List.mem_of_getElem? (i := 5) rfl)) (hw _ (List.mem_of_getElem? (i := 6) rfl)) (hw _ (List.mem_of_getElem? (i := 7) rfl)) e0 (g := (mkF m 0 #[.val (.ref a0), .unset, .unset, .unset, .unset, .unset] [])) rfl (hb hby d1_0) (by decide) (by decide)
  obtain ⟨b1, g1⟩ : ∃ z, z = h0.size := ⟨_, rfl⟩
  rw [← g1] at A1 D1 st1 C1
  have ne_a0_b1 : a0 ≠ b1 := Nat.ne_of_lt (Nat.lt_of_lt_of_le V_a0.lt (Nat.le_of_eq g1.symm))
  have ne_ud_b1 : ud ≠ b1 := Nat.ne_of_lt (Nat.lt_of_lt_of_le V_ud.lt (Nat.le_of_eq g1.symm))
  have V_a0 := V_a0.ext E1
  have S_COMPACT_STRINGS := S_COMPACT_STRINGS.ext E1
  have S_DIGITS := S_DIGITS.ext E1
  have V_ud := V_ud.ext E1
  have g_b1 : n0 ≤ b1 := Nat.le_trans Z0 (Nat.le_of_eq g1.symm)
  have sz_b1 : h0.size ≤ b1 := Nat.le_trans K0.1 (Nat.le_of_eq g1.symm)
  have zn1 : n0 ≤ h1.size := Nat.le_trans Z0 E1.1
  have K1 := K0.ext E1
  have E_b1 := A1
  have F_value_b1 : Fld Z h1 b1 "java/lang/AbstractStringBuilder" "value" "[B" .null := D1 (Or.inl (hw _ (List.mem_of_getElem? (i := 23) rfl))) (ty := (.array .byte)) (by decide)
  have F_coder_b1 : Fld Z h1 b1 "java/lang/AbstractStringBuilder" "coder" "B" (.int (0 : Int32)) := D1 (Or.inl (hw _ (List.mem_of_getElem? (i := 25) rfl))) (ty := .byte) (by decide)
  have F_count_b1 : Fld Z h1 b1 "java/lang/AbstractStringBuilder" "count" "I" (.int (0 : Int32)) := D1 (Or.inl (hw _ (List.mem_of_getElem? (i := 56) rfl))) (ty := .int) (by decide)
  refine OGo.go (B := T1.setTop (mkF m 3 #[.val (.ref a0), .unset, .unset, .unset, .unset, .unset] [(.ref b1)])) ?_ st1
  refine OGo.go (B := T1.setTop (mkF m 4 #[.val (.ref a0), .unset, .unset, .unset, .unset, .unset] [(.ref b1), (.ref b1)])) ?_ (fun tX kX => XS.dup X1.here hx rfl (hb hby d1_3) rfl rfl kX)
  refine OGo.go (B := T1.setTop (mkF m 5 #[.val (.ref a0), .unset, .unset, .unset, .unset, .unset] [(.ref a0), (.ref b1), (.ref b1)])) ?_ (fun tX kX => XS.aloadN X1.here hx rfl (hb hby d1_4) rfl rfl kX)
  obtain ⟨cl2, Ar2, qa2, S2, N2', H2, G2⟩ := id V_a0
  refine OGo.go (B := T1.setTop (mkF m 6 #[.val (.ref a0), .unset, .unset, .unset, .unset, .unset] [(.int (1 : Int32)), (.ref b1), (.ref b1)])) ?_ (fun tX kX => X1.arraylength hx (by rw [e1]; exact Ar2.1) (State.isArrayOf_alike hZ.alike Ar2.2.1) (g := (mkF m 5 #[.val (.ref a0), .unset, .unset, .unset, .unset, .unset] [(.ref a0), (.ref b1), (.ref b1)])) rfl rfl (hb hby d1_5) _ (by rw [len_of S2 N2']; exact kX))
  refine OGo.go (B := T1.setTop (mkF m 7 #[.val (.ref a0), .unset, .unset, .unset, .unset, .unset] [(.int (3 : Int32)), (.int (1 : Int32)), (.ref b1), (.ref b1)])) ?_ (fun tX kX => XS.iconst X1.here hx rfl (hb hby d1_6) kX)
  refine OGo.go (B := T1.setTop (mkF m 8 #[.val (.ref a0), .unset, .unset, .unset, .unset, .unset] [(.int (3 : Int32)), (.ref b1), (.ref b1)])) ?_ (fun tX kX => XS.imul X1.here hx rfl (hb hby d1_7) rfl kX)
  obtain ⟨_, _, ⟨T3, L3, k3, n3⟩, -, X3, ⟨Lc3, hQ3, l3, y3, z3⟩, st3⟩ := X1.specialBack hx (y := (⟨"java/lang/StringBuilder", "<init>", "(I)V"⟩ : MethodName)) rfl hown (mvT hZ (hw _ (List.mem_of_getElem? (i := 8) rfl))) (mvT hZ (hw _ (List.mem_of_getElem? (i := 9) rfl))) (mvT hZ (hw _ (List.mem_of_getElem? (i := 10) rfl))) (by decide) (backOf (W := 1) (rm2n3 l Z aV hw [] b1 .null (.int (0 : Int32)) cs h1 n0 zn1 E_b1 F_value_b1 F_coder_b1 F_count_b1 S_COMPACT_STRINGS g_b1 hcs) hZ (hw _ (List.mem_of_getElem? (i := 10) rfl)) (hw _ (List.mem_of_getElem? (i := 7) rfl)) (by decide) (by decide)) (g := (mkF m 8 #[.val (.ref a0), .unset, .unset, .unset, .unset, .unset] [(.int (3 : Int32)), (.ref b1), (.ref b1)])) rfl (by rw [hml]; rfl) (Steps.refl _) (a := b1) (argsL := [(.int (3 : Int32))]) (rest := [(.ref b1)]) (lenOf pd__I_V rfl) rfl (by show 2 * 0 + _ ≤ _; exact Nat.le_of_eq rfl) (hb hby d1_8) (fun _ _ => ⟨rfl, e1, (by decide : 1 + 1 ≤ _), (by decide : 4 + 3 ≤ _)⟩)
  dsimp only [Pt.U, Pt.locs, Pt.cells, Pt.slots] at X3 l3 y3 z3 st3 hQ3
  subst l3 y3 z3
  obtain ⟨vb_3, kb_3, rfl, N3q, Kq3, sz3_vb, E_b1_p, F_value_b1_p, F_coder_b1_p, F_count_b1_p, E_vb_3_p, V_vb_3_p⟩ := hQ3
  have N3 := Fr.app N0 N3q
  have ne_a0_vb_3 : a0 ≠ vb_3 := Nat.ne_of_lt (Nat.lt_of_lt_of_le V_a0.lt sz3_vb)
  have ne_ud_vb_3 : ud ≠ vb_3 := Nat.ne_of_lt (Nat.lt_of_lt_of_le V_ud.lt sz3_vb)
  have ne_b1_vb_3 : b1 ≠ vb_3 := Nat.ne_of_lt (Nat.lt_of_lt_of_le E_b1.lt sz3_vb)
  have S_COMPACT_STRINGS := Sta.keepE S_COMPACT_STRINGS Kq3 (staS E_b1.cell (fun x hx' => nomatch hx'))
  have S_DIGITS := Sta.keepE S_DIGITS Kq3 (staS E_b1.cell (fun x hx' => nomatch hx'))
  have V_a0 := V_a0.keep Kq3 (ninS ne_a0_b1 nin0)
  have V_ud := V_ud.keep Kq3 (ninS ne_ud_b1 nin0)
  have E_b1 := E_b1.keep Kq3
  have g_vb_3 : n0 ≤ vb_3 := Nat.le_trans zn1 sz3_vb
  have sz_vb_3 : h0.size ≤ vb_3 := Nat.le_trans K1.1 sz3_vb
  have K3 := K1.trans Kq3 (allS (P := fun x => x ∈ ([] : List Addr) ∨ h0.size ≤ x) (Or.inr sz_b1) all0)
  have zn3 : n0 ≤ T3.heap.size := Nat.le_trans zn1 Kq3.1
  have E_b1 := E_b1_p
  have F_value_b1 := F_value_b1_p
  have F_coder_b1 := F_coder_b1_p
  have F_count_b1 := F_count_b1_p
  have E_vb_3 := E_vb_3_p
  have V_vb_3 := V_vb_3_p
  refine OGo.go (B := T3.setTop (mkF m 11 #[.val (.ref a0), .unset, .unset, .unset, .unset, .unset] [(.ref b1)])) ?_ (fun tX kX => st3.trans kX)
  refine OGo.go (B := T3.setTop (mkF m 12 #[.val (.ref a0), .val (.ref b1), .unset, .unset, .unset, .unset] [])) ?_ (fun tX kX => XS.astoreN X3.here hx rfl (hb hby d1_11) rfl rfl (l' := #[.val (.ref a0), .val (.ref b1), .unset, .unset, .unset, .unset]) rfl kX)
  refine OGo.go (B := T3.setTop (mkF m 13 #[.val (.ref a0), .val (.ref b1), .unset, .unset, .unset, .unset] [(.ref a0)])) ?_ (fun tX kX => XS.aloadN X3.here hx rfl (hb hby d1_12) rfl rfl kX)
  refine OGo.go (B := T3.setTop (mkF m 14 #[.val (.ref a0), .val (.ref b1), .val (.ref a0), .unset, .unset, .unset] [])) ?_ (fun tX kX => XS.astoreN X3.here hx rfl (hb hby d1_13) rfl rfl (l' := #[.val (.ref a0), .val (.ref b1), .val (.ref a0), .unset, .unset, .unset]) rfl kX)
  refine OGo.go (B := T3.setTop (mkF m 15 #[.val (.ref a0), .val (.ref b1), .val (.ref a0), .unset, .unset, .unset] [(.ref a0)])) ?_ (fun tX kX => XS.aloadN X3.here hx rfl (hb hby d1_14) rfl rfl kX)
  obtain ⟨cl4, Ar4, qa4, S4, N4', H4, G4⟩ := id V_a0
  refine OGo.go (B := T3.setTop (mkF m 16 #[.val (.ref a0), .val (.ref b1), .val (.ref a0), .unset, .unset, .unset] [(.int (1 : Int32))])) ?_ (fun tX kX => X3.arraylength hx Ar4.1 (State.isArrayOf_alike hZ.alike Ar4.2.1) (g := (mkF m 15 #[.val (.ref a0), .val (.ref b1), .val (.ref a0), .unset, .unset, .unset] [(.ref a0)])) rfl rfl (hb hby d1_15) _ (by rw [len_of S4 N4']; exact kX))
  refine OGo.go (B := T3.setTop (mkF m 17 #[.val (.ref a0), .val (.ref b1), .val (.ref a0), .val (.int (1 : Int32)), .unset, .unset] [])) ?_ (fun tX kX => XS.istoreN X3.here hx rfl (hb hby d1_16) rfl (l' := #[.val (.ref a0), .val (.ref b1), .val (.ref a0), .val (.int (1 : Int32)), .unset, .unset]) rfl kX)
  refine OGo.go (B := T3.setTop (mkF m 18 #[.val (.ref a0), .val (.ref b1), .val (.ref a0), .val (.int (1 : Int32)), .unset, .unset] [(.int (0 : Int32))])) ?_ (fun tX kX => XS.iconst X3.here hx rfl (hb hby d1_17) kX)
  refine OGo.go (B := T3.setTop (mkF m 20 #[.val (.ref a0), .val (.ref b1), .val (.ref a0), .val (.int (1 : Int32)), .val (.int (0 : Int32)), .unset] [])) ?_ (fun tX kX => XS.istore X3.here hx rfl (hb hby d1_18) rfl (l' := #[.val (.ref a0), .val (.ref b1), .val (.ref a0), .val (.int (1 : Int32)), .val (.int (0 : Int32)), .unset]) rfl kX)
  refine OGo.go (B := T3.setTop (mkF m 22 #[.val (.ref a0), .val (.ref b1), .val (.ref a0), .val (.int (1 : Int32)), .val (.int (0 : Int32)), .unset] [(.int (0 : Int32))])) ?_ (fun tX kX => XS.iload X3.here hx rfl (hb hby d1_20) rfl kX)
  refine OGo.go (B := T3.setTop (mkF m 23 #[.val (.ref a0), .val (.ref b1), .val (.ref a0), .val (.int (1 : Int32)), .val (.int (0 : Int32)), .unset] [(.int (1 : Int32)), (.int (0 : Int32))])) ?_ (fun tX kX => XS.iloadN X3.here hx rfl (hb hby d1_22) rfl kX)
  refine OGo.go (B := T3.setTop (mkF m 26 #[.val (.ref a0), .val (.ref b1), .val (.ref a0), .val (.int (1 : Int32)), .val (.int (0 : Int32)), .unset] [])) ?_ (fun tX kX => XS.icmpNo X3.here hx rfl (hb hby d1_23) rfl (tlt (by decide)).2.1 kX)
  refine OGo.go (B := T3.setTop (mkF m 27 #[.val (.ref a0), .val (.ref b1), .val (.ref a0), .val (.int (1 : Int32)), .val (.int (0 : Int32)), .unset] [(.ref a0)])) ?_ (fun tX kX => XS.aloadN X3.here hx rfl (hb hby d1_26) rfl rfl kX)
  refine OGo.go (B := T3.setTop (mkF m 29 #[.val (.ref a0), .val (.ref b1), .val (.ref a0), .val (.int (1 : Int32)), .val (.int (0 : Int32)), .unset] [(.int (0 : Int32)), (.ref a0)])) ?_ (fun tX kX => XS.iload X3.here hx rfl (hb hby d1_27) rfl kX)
  obtain ⟨cl5, Ar5, qa5, S5, N5', H5, G5⟩ := id V_a0
  have hin5 := inb_of (j := (0 : Int32)) S5 ⟨by decide, by decide⟩
  have hat5 := H5.at (v := (.int x0)) hin5 rfl
  refine OGo.go (B := T3.setTop (mkF m 30 #[.val (.ref a0), .val (.ref b1), .val (.ref a0), .val (.int (1 : Int32)), .val (.int (0 : Int32)), .unset] [(.int x0)])) ?_ (fun tX kX => X3.baloadBytes hx (j := (0 : Int32)) (v := (.int x0)) Ar5.1 (State.isArrayOf_alike hZ.alike Ar5.2.1) Ar5.2.2 hin5 hat5 (g := (mkF m 29 #[.val (.ref a0), .val (.ref b1), .val (.ref a0), .val (.int (1 : Int32)), .val (.int (0 : Int32)), .unset] [(.int (0 : Int32)), (.ref a0)])) rfl rfl (hb hby d1_29) _ kX)
  refine OGo.go (B := T3.setTop (mkF m 32 #[.val (.ref a0), .val (.ref b1), .val (.ref a0), .val (.int (1 : Int32)), .val (.int (0 : Int32)), .val (.int x0)] [])) ?_ (fun tX kX => XS.istore X3.here hx rfl (hb hby d1_30) rfl (l' := #[.val (.ref a0), .val (.ref b1), .val (.ref a0), .val (.int (1 : Int32)), .val (.int (0 : Int32)), .val (.int x0)]) rfl kX)
  refine OGo.go (B := T3.setTop (mkF m 33 #[.val (.ref a0), .val (.ref b1), .val (.ref a0), .val (.int (1 : Int32)), .val (.int (0 : Int32)), .val (.int x0)] [(.ref b1)])) ?_ (fun tX kX => XS.aloadN X3.here hx rfl (hb hby d1_32) rfl rfl kX)
  obtain ⟨cq6, kq6, q6a, q6b, q6c⟩ := isOf hZ rfl E_b1
  obtain ⟨_, _, ⟨T6, L6, k6, n6⟩, -, X6, ⟨Lc6, hQ6, l6, y6, z6⟩, st6⟩ := X3.virtualBack hx (y := (⟨"java/lang/StringBuilder", "length", "()I"⟩ : MethodName)) (z := (⟨"java/lang/StringBuilder", "length", "()I"⟩ : MethodName)) hown (mvT hZ (hw _ (List.mem_of_getElem? (i := 90) rfl))) (mvT hZ (hw _ (List.mem_of_getElem? (i := 91) rfl))) (notFace_of_selects (args := #[]) (mvT hZ (hw _ (List.mem_of_getElem? (i := 92) rfl)))) (mvT hZ (hw _ (List.mem_of_getElem? (i := 92) rfl))) (mvT hZ (hw _ (List.mem_of_getElem? (i := 50) rfl))) (by decide) (backOf (W := 0) (rm9 l Z aV hw [] b1 (0 : Int32) T3.heap n0 zn3 E_b1 F_count_b1) hZ (hw _ (List.mem_of_getElem? (i := 51) rfl)) (hw _ (List.mem_of_getElem? (i := 7) rfl)) (by decide) (by decide)) q6a q6c (g := (mkF m 33 #[.val (.ref a0), .val (.ref b1), .val (.ref a0), .val (.int (1 : Int32)), .val (.int (0 : Int32)), .val (.int x0)] [(.ref b1)])) rfl (by rw [hml]; rfl) (Steps.refl _) (argsL := []) (rest := []) (lenOf pd___I rfl) rfl (by show 2 * 0 + _ ≤ _; exact Nat.le_of_eq rfl) (hb hby d1_33) (fun _ _ => ⟨rfl, rfl, (by decide : 2 + 0 ≤ _), (by decide : 7 + 0 ≤ _)⟩)
  dsimp only [Pt.U, Pt.locs, Pt.cells, Pt.slots] at X6 l6 y6 z6 st6 hQ6
  subst l6 y6 z6
  obtain ⟨rfl, N6q, e6⟩ := hQ6
  have N6 := Fr.app N3 N6q
  refine OGo.go (B := T6.setTop (mkF m 36 #[.val (.ref a0), .val (.ref b1), .val (.ref a0), .val (.int (1 : Int32)), .val (.int (0 : Int32)), .val (.int x0)] [(.int (0 : Int32))])) ?_ (fun tX kX => st6.trans kX)
  refine OGo.go (B := T6.setTop (mkF m 46 #[.val (.ref a0), .val (.ref b1), .val (.ref a0), .val (.int (1 : Int32)), .val (.int (0 : Int32)), .val (.int x0)] [])) ?_ (fun tX kX => XS.ifYes X6.here hx rfl (pc0 := 36) (pc' := 46) rfl (hb hby d1_36) rfl ((if0 _ _).trans (flt (by decide)).2.2.2) (by decide) (by decide) kX)
  refine OGo.go (B := T6.setTop (mkF m 47 #[.val (.ref a0), .val (.ref b1), .val (.ref a0), .val (.int (1 : Int32)), .val (.int (0 : Int32)), .val (.int x0)] [(.ref b1)])) ?_ (fun tX kX => XS.aloadN X6.here hx rfl (hb hby d1_46) rfl rfl kX)
  obtain ⟨T7, X7, e7, st7⟩ := getS2 X6 hx hZ hown (host := "") (Or.inl (hw _ (List.mem_of_getElem? (i := 93) rfl))) Via.refl e6 S_DIGITS (g := (mkF m 47 #[.val (.ref a0), .val (.ref b1), .val (.ref a0), .val (.int (1 : Int32)), .val (.int (0 : Int32)), .val (.int x0)] [(.ref b1)])) rfl (hb hby d1_47)
  refine OGo.go (B := T7.setTop (mkF m 50 #[.val (.ref a0), .val (.ref b1), .val (.ref a0), .val (.int (1 : Int32)), .val (.int (0 : Int32)), .val (.int x0)] [(.ref ud), (.ref b1)])) ?_ st7
  refine OGo.go (B := T7.setTop (mkF m 52 #[.val (.ref a0), .val (.ref b1), .val (.ref a0), .val (.int (1 : Int32)), .val (.int (0 : Int32)), .val (.int x0)] [(.int x0), (.ref ud), (.ref b1)])) ?_ (fun tX kX => XS.iload X7.here hx rfl (hb hby d1_50) rfl kX)
  refine OGo.go (B := T7.setTop (mkF m 53 #[.val (.ref a0), .val (.ref b1), .val (.ref a0), .val (.int (1 : Int32)), .val (.int (0 : Int32)), .val (.int x0)] [(.int (4 : Int32)), (.int x0), (.ref ud), (.ref b1)])) ?_ (fun tX kX => XS.iconst X7.here hx rfl (hb hby d1_52) kX)
  refine OGo.go (B := T7.setTop (mkF m 54 #[.val (.ref a0), .val (.ref b1), .val (.ref a0), .val (.int (1 : Int32)), .val (.int (0 : Int32)), .val (.int x0)] [(.int (x0 >>> ((4 : Int32) &&& 31))), (.ref ud), (.ref b1)])) ?_ (fun tX kX => XS.ishr X7.here hx rfl (hb hby d1_53) rfl kX)
  refine OGo.go (B := T7.setTop (mkF m 56 #[.val (.ref a0), .val (.ref b1), .val (.ref a0), .val (.int (1 : Int32)), .val (.int (0 : Int32)), .val (.int x0)] [(.int (15 : Int32)), (.int (x0 >>> ((4 : Int32) &&& 31))), (.ref ud), (.ref b1)])) ?_ (fun tX kX => XS.bipush X7.here hx rfl (hb hby d1_54) kX)
  refine OGo.go (B := T7.setTop (mkF m 57 #[.val (.ref a0), .val (.ref b1), .val (.ref a0), .val (.int (1 : Int32)), .val (.int (0 : Int32)), .val (.int x0)] [(.int ((x0 >>> ((4 : Int32) &&& 31)) &&& (15 : Int32))), (.ref ud), (.ref b1)])) ?_ (fun tX kX => XS.iand X7.here hx rfl (hb hby d1_56) rfl kX)
  obtain ⟨cl8, Ar8, qa8, S8, N8', H8, G8⟩ := id V_ud
  have hin8 := inb_of (j := ((x0 >>> ((4 : Int32) &&& 31)) &&& (15 : Int32))) S8 (own_in16 _)
  have hat8 := H8.at (v := (.int (own_dig ((x0 >>> ((4 : Int32) &&& 31)) &&& (15 : Int32))))) hin8 (own_getD _)
  refine OGo.go (B := T7.setTop (mkF m 58 #[.val (.ref a0), .val (.ref b1), .val (.ref a0), .val (.int (1 : Int32)), .val (.int (0 : Int32)), .val (.int x0)] [(.int (own_dig ((x0 >>> ((4 : Int32) &&& 31)) &&& (15 : Int32)))), (.ref b1)])) ?_ (fun tX kX => X7.caload hx (j := ((x0 >>> ((4 : Int32) &&& 31)) &&& (15 : Int32))) (v := (.int (own_dig ((x0 >>> ((4 : Int32) &&& 31)) &&& (15 : Int32))))) (by rw [e7]; exact Ar8.1) (State.isArrayOf_alike hZ.alike Ar8.2.1) Ar8.2.2 hin8 hat8 (g := (mkF m 57 #[.val (.ref a0), .val (.ref b1), .val (.ref a0), .val (.int (1 : Int32)), .val (.int (0 : Int32)), .val (.int x0)] [(.int ((x0 >>> ((4 : Int32) &&& 31)) &&& (15 : Int32))), (.ref ud), (.ref b1)])) rfl rfl (hb hby d1_57) _ kX)
  obtain ⟨cq9, kq9, q9a, q9b, q9c⟩ := isOf hZ e7 E_b1
  obtain ⟨_, _, ⟨T9, L9, k9, n9⟩, -, X9, ⟨Lc9, hQ9, l9, y9, z9⟩, st9⟩ := X7.virtualBack hx (y := (⟨"java/lang/StringBuilder", "append", "(C)Ljava/lang/StringBuilder;"⟩ : MethodName)) (z := (⟨"java/lang/StringBuilder", "append", "(C)Ljava/lang/StringBuilder;"⟩ : MethodName)) hown (mvT hZ (hw _ (List.mem_of_getElem? (i := 95) rfl))) (mvT hZ (hw _ (List.mem_of_getElem? (i := 96) rfl))) (notFace_of_selects (args := #[]) (mvT hZ (hw _ (List.mem_of_getElem? (i := 98) rfl)))) (mvT hZ (hw _ (List.mem_of_getElem? (i := 98) rfl))) (mvT hZ (hw _ (List.mem_of_getElem? (i := 97) rfl))) (by decide) (backOf (W := 0) (rm15 l Z aV hw [] b1 (own_dig ((x0 >>> ((4 : Int32) &&& 31)) &&& (15 : Int32))) vb_3 kb_3 (3 : Int32) [(.int (0 : Int32)), (.int (0 : Int32)), (.int (0 : Int32))] (0 : Int32) 0 cs T3.heap n0 zn3 E_b1 F_value_b1 F_coder_b1 F_count_b1 E_vb_3 V_vb_3 S_COMPACT_STRINGS g_b1 g_vb_3 ne_b1_vb_3 hcs (own_le255 _) (by decide) ⟨by decide, by decide⟩ rfl (Nat.le_of_ble_eq_true rfl)) hZ (hw _ (List.mem_of_getElem? (i := 99) rfl)) (hw _ (List.mem_of_getElem? (i := 7) rfl)) (by decide) (by decide)) q9a q9c (g := (mkF m 58 #[.val (.ref a0), .val (.ref b1), .val (.ref a0), .val (.int (1 : Int32)), .val (.int (0 : Int32)), .val (.int x0)] [(.int (own_dig ((x0 >>> ((4 : Int32) &&& 31)) &&& (15 : Int32)))), (.ref b1)])) rfl (by rw [hml]; rfl) (Steps.refl _) (argsL := [(.int (own_dig ((x0 >>> ((4 : Int32) &&& 31)) &&& (15 : Int32))))]) (rest := []) (lenOf pd__C_Ljava_lang_StringBuilder_ rfl) rfl (by show 2 * 0 + _ ≤ _; exact Nat.le_of_eq rfl) (hb hby d1_58) (fun _ _ => ⟨rfl, e7, (by decide : 2 + 0 ≤ _), (by decide : 7 + 0 ≤ _)⟩)
  dsimp only [Pt.U, Pt.locs, Pt.cells, Pt.slots] at X9 l9 y9 z9 st9 hQ9
  subst l9 y9 z9
  obtain ⟨rfl, N9q, Kq9, E_b1_p, F_value_b1_p, F_coder_b1_p, F_count_b1_p, E_vb_3_p, V_vb_3_p⟩ := hQ9
  have N9 := Fr.app N6 N9q
  have S_COMPACT_STRINGS := Sta.keepE S_COMPACT_STRINGS Kq9 (staS E_b1.cell (staS E_vb_3.cell (fun x hx' => nomatch hx')))
  have S_DIGITS := Sta.keepE S_DIGITS Kq9 (staS E_b1.cell (staS E_vb_3.cell (fun x hx' => nomatch hx')))
  have V_a0 := V_a0.keep Kq9 (ninS ne_a0_b1 (ninS ne_a0_vb_3 nin0))
  have V_ud := V_ud.keep Kq9 (ninS ne_ud_b1 (ninS ne_ud_vb_3 nin0))
  have E_b1 := E_b1.keep Kq9
  have E_vb_3 := E_vb_3.keep Kq9
  have K9 := K3.trans Kq9 (allS (P := fun x => x ∈ ([] : List Addr) ∨ h0.size ≤ x) (Or.inr sz_b1) (allS (P := fun x => x ∈ ([] : List Addr) ∨ h0.size ≤ x) (Or.inr sz_vb_3) all0))
  have zn9 : n0 ≤ T9.heap.size := Nat.le_trans zn3 Kq9.1
  have E_b1 := E_b1_p
  have F_value_b1 := F_value_b1_p
  have F_coder_b1 := F_coder_b1_p
  have F_count_b1 := F_count_b1_p
  have E_vb_3 := E_vb_3_p
  have V_vb_3 := V_vb_3_p
  refine OGo.go (B := T9.setTop (mkF m 61 #[.val (.ref a0), .val (.ref b1), .val (.ref a0), .val (.int (1 : Int32)), .val (.int (0 : Int32)), .val (.int x0)] [(.ref b1)])) ?_ (fun tX kX => st9.trans kX)
  have F_count_b1 : Fld Z T9.heap b1 "java/lang/AbstractStringBuilder" "count" "I" (.int (1 : Int32)) := F_count_b1
  have V_vb_3 : Arv Z T9.heap vb_3 kb_3 .byte (3 : Int32) [(.int (((own_dig ((x0 >>> ((4 : Int32) &&& 31)) &&& (15 : Int32))).toInt8.toInt32).toInt8.toInt32)), (.int (0 : Int32)), (.int (0 : Int32))] (.int (0 : Int32)) := V_vb_3
  obtain ⟨T10, X10, e10, st10⟩ := getS2 X9 hx hZ hown (host := "") (Or.inl (hw _ (List.mem_of_getElem? (i := 93) rfl))) Via.refl rfl S_DIGITS (g := (mkF m 61 #[.val (.ref a0), .val (.ref b1), .val (.ref a0), .val (.int (1 : Int32)), .val (.int (0 : Int32)), .val (.int x0)] [(.ref b1)])) rfl (hb hby d1_61)
  refine OGo.go (B := T10.setTop (mkF m 64 #[.val (.ref a0), .val (.ref b1), .val (.ref a0), .val (.int (1 : Int32)), .val (.int (0 : Int32)), .val (.int x0)] [(.ref ud), (.ref b1)])) ?_ st10
  refine OGo.go (B := T10.setTop (mkF m 66 #[.val (.ref a0), .val (.ref b1), .val (.ref a0), .val (.int (1 : Int32)), .val (.int (0 : Int32)), .val (.int x0)] [(.int x0), (.ref ud), (.ref b1)])) ?_ (fun tX kX => XS.iload X10.here hx rfl (hb hby d1_64) rfl kX)
  refine OGo.go (B := T10.setTop (mkF m 68 #[.val (.ref a0), .val (.ref b1), .val (.ref a0), .val (.int (1 : Int32)), .val (.int (0 : Int32)), .val (.int x0)] [(.int (15 : Int32)), (.int x0), (.ref ud), (.ref b1)])) ?_ (fun tX kX => XS.bipush X10.here hx rfl (hb hby d1_66) kX)
  refine OGo.go (B := T10.setTop (mkF m 69 #[.val (.ref a0), .val (.ref b1), .val (.ref a0), .val (.int (1 : Int32)), .val (.int (0 : Int32)), .val (.int x0)] [(.int (x0 &&& (15 : Int32))), (.ref ud), (.ref b1)])) ?_ (fun tX kX => XS.iand X10.here hx rfl (hb hby d1_68) rfl kX)
  obtain ⟨cl11, Ar11, qa11, S11, N11', H11, G11⟩ := id V_ud
  have hin11 := inb_of (j := (x0 &&& (15 : Int32))) S11 (own_in16 _)
  have hat11 := H11.at (v := (.int (own_dig (x0 &&& (15 : Int32))))) hin11 (own_getD _)
  refine OGo.go (B := T10.setTop (mkF m 70 #[.val (.ref a0), .val (.ref b1), .val (.ref a0), .val (.int (1 : Int32)), .val (.int (0 : Int32)), .val (.int x0)] [(.int (own_dig (x0 &&& (15 : Int32)))), (.ref b1)])) ?_ (fun tX kX => X10.caload hx (j := (x0 &&& (15 : Int32))) (v := (.int (own_dig (x0 &&& (15 : Int32))))) (by rw [e10]; exact Ar11.1) (State.isArrayOf_alike hZ.alike Ar11.2.1) Ar11.2.2 hin11 hat11 (g := (mkF m 69 #[.val (.ref a0), .val (.ref b1), .val (.ref a0), .val (.int (1 : Int32)), .val (.int (0 : Int32)), .val (.int x0)] [(.int (x0 &&& (15 : Int32))), (.ref ud), (.ref b1)])) rfl rfl (hb hby d1_69) _ kX)
  obtain ⟨cq12, kq12, q12a, q12b, q12c⟩ := isOf hZ e10 E_b1
  obtain ⟨_, _, ⟨T12, L12, k12, n12⟩, -, X12, ⟨Lc12, hQ12, l12, y12, z12⟩, st12⟩ := X10.virtualBack hx (y := (⟨"java/lang/StringBuilder", "append", "(C)Ljava/lang/StringBuilder;"⟩ : MethodName)) (z := (⟨"java/lang/StringBuilder", "append", "(C)Ljava/lang/StringBuilder;"⟩ : MethodName)) hown (mvT hZ (hw _ (List.mem_of_getElem? (i := 95) rfl))) (mvT hZ (hw _ (List.mem_of_getElem? (i := 96) rfl))) (notFace_of_selects (args := #[]) (mvT hZ (hw _ (List.mem_of_getElem? (i := 98) rfl)))) (mvT hZ (hw _ (List.mem_of_getElem? (i := 98) rfl))) (mvT hZ (hw _ (List.mem_of_getElem? (i := 97) rfl))) (by decide) (backOf (W := 0) (rm15 l Z aV hw [] b1 (own_dig (x0 &&& (15 : Int32))) vb_3 kb_3 (3 : Int32) [(.int (((own_dig ((x0 >>> ((4 : Int32) &&& 31)) &&& (15 : Int32))).toInt8.toInt32).toInt8.toInt32)), (.int (0 : Int32)), (.int (0 : Int32))] (1 : Int32) 1 cs T9.heap n0 zn9 E_b1 F_value_b1 F_coder_b1 F_count_b1 E_vb_3 V_vb_3 S_COMPACT_STRINGS g_b1 g_vb_3 ne_b1_vb_3 hcs (own_le255 _) (by decide) ⟨by decide, by decide⟩ rfl (Nat.le_of_ble_eq_true rfl)) hZ (hw _ (List.mem_of_getElem? (i := 99) rfl)) (hw _ (List.mem_of_getElem? (i := 7) rfl)) (by decide) (by decide)) q12a q12c (g := (mkF m 70 #[.val (.ref a0), .val (.ref b1), .val (.ref a0), .val (.int (1 : Int32)), .val (.int (0 : Int32)), .val (.int x0)] [(.int (own_dig (x0 &&& (15 : Int32)))), (.ref b1)])) rfl (by rw [hml]; rfl) (Steps.refl _) (argsL := [(.int (own_dig (x0 &&& (15 : Int32))))]) (rest := []) (lenOf pd__C_Ljava_lang_StringBuilder_ rfl) rfl (by show 2 * 0 + _ ≤ _; exact Nat.le_of_eq rfl) (hb hby d1_70) (fun _ _ => ⟨rfl, e10, (by decide : 2 + 0 ≤ _), (by decide : 7 + 0 ≤ _)⟩)
  dsimp only [Pt.U, Pt.locs, Pt.cells, Pt.slots] at X12 l12 y12 z12 st12 hQ12
  subst l12 y12 z12
  obtain ⟨rfl, N12q, Kq12, E_b1_p, F_value_b1_p, F_coder_b1_p, F_count_b1_p, E_vb_3_p, V_vb_3_p⟩ := hQ12
  have N12 := Fr.app N9 N12q
  have S_COMPACT_STRINGS := Sta.keepE S_COMPACT_STRINGS Kq12 (staS E_b1.cell (staS E_vb_3.cell (fun x hx' => nomatch hx')))
  have S_DIGITS := Sta.keepE S_DIGITS Kq12 (staS E_b1.cell (staS E_vb_3.cell (fun x hx' => nomatch hx')))
  have V_a0 := V_a0.keep Kq12 (ninS ne_a0_b1 (ninS ne_a0_vb_3 nin0))
  have V_ud := V_ud.keep Kq12 (ninS ne_ud_b1 (ninS ne_ud_vb_3 nin0))
  have E_b1 := E_b1.keep Kq12
  have E_vb_3 := E_vb_3.keep Kq12
  have K12 := K9.trans Kq12 (allS (P := fun x => x ∈ ([] : List Addr) ∨ h0.size ≤ x) (Or.inr sz_b1) (allS (P := fun x => x ∈ ([] : List Addr) ∨ h0.size ≤ x) (Or.inr sz_vb_3) all0))
  have zn12 : n0 ≤ T12.heap.size := Nat.le_trans zn9 Kq12.1
  have E_b1 := E_b1_p
  have F_value_b1 := F_value_b1_p
  have F_coder_b1 := F_coder_b1_p
  have F_count_b1 := F_count_b1_p
  have E_vb_3 := E_vb_3_p
  have V_vb_3 := V_vb_3_p
  refine OGo.go (B := T12.setTop (mkF m 73 #[.val (.ref a0), .val (.ref b1), .val (.ref a0), .val (.int (1 : Int32)), .val (.int (0 : Int32)), .val (.int x0)] [(.ref b1)])) ?_ (fun tX kX => st12.trans kX)
  have F_count_b1 : Fld Z T12.heap b1 "java/lang/AbstractStringBuilder" "count" "I" (.int (2 : Int32)) := F_count_b1
  have V_vb_3 : Arv Z T12.heap vb_3 kb_3 .byte (3 : Int32) [(.int (((own_dig ((x0 >>> ((4 : Int32) &&& 31)) &&& (15 : Int32))).toInt8.toInt32).toInt8.toInt32)), (.int (((own_dig (x0 &&& (15 : Int32))).toInt8.toInt32).toInt8.toInt32)), (.int (0 : Int32))] (.int (0 : Int32)) := V_vb_3
  refine OGo.go (B := T12.setTop (mkF m 74 #[.val (.ref a0), .val (.ref b1), .val (.ref a0), .val (.int (1 : Int32)), .val (.int (0 : Int32)), .val (.int x0)] [])) ?_ (fun tX kX => XS.pop X12.here hx rfl (hb hby d1_73) rfl rfl kX)
  refine OGo.go (B := T12.setTop (mkF m 77 #[.val (.ref a0), .val (.ref b1), .val (.ref a0), .val (.int (1 : Int32)), .val (.int (1 : Int32)), .val (.int x0)] [])) ?_ (fun tX kX => XS.iinc X12.here hx rfl (hb hby d1_74) rfl (l' := #[.val (.ref a0), .val (.ref b1), .val (.ref a0), .val (.int (1 : Int32)), .val (.int (1 : Int32)), .val (.int x0)]) rfl kX)
  refine OGo.go (B := T12.setTop (mkF m 20 #[.val (.ref a0), .val (.ref b1), .val (.ref a0), .val (.int (1 : Int32)), .val (.int (1 : Int32)), .val (.int x0)] [])) ?_ (fun tX kX => XS.goto X12.here hx rfl (pc0 := 77) (pc' := 20) rfl (hb hby d1_77) (by decide) (by decide) kX)
  refine OGo.go (B := T12.setTop (mkF m 22 #[.val (.ref a0), .val (.ref b1), .val (.ref a0), .val (.int (1 : Int32)), .val (.int (1 : Int32)), .val (.int x0)] [(.int (1 : Int32))])) ?_ (fun tX kX => XS.iload X12.here hx rfl (hb hby d1_20) rfl kX)
  refine OGo.go (B := T12.setTop (mkF m 23 #[.val (.ref a0), .val (.ref b1), .val (.ref a0), .val (.int (1 : Int32)), .val (.int (1 : Int32)), .val (.int x0)] [(.int (1 : Int32)), (.int (1 : Int32))])) ?_ (fun tX kX => XS.iloadN X12.here hx rfl (hb hby d1_22) rfl kX)
  refine OGo.go (B := T12.setTop (mkF m 80 #[.val (.ref a0), .val (.ref b1), .val (.ref a0), .val (.int (1 : Int32)), .val (.int (1 : Int32)), .val (.int x0)] [])) ?_ (fun tX kX => XS.icmpYes X12.here hx rfl (pc0 := 23) (pc' := 80) rfl (hb hby d1_23) rfl (flt (by decide)).2.1 (by decide) (by decide) kX)
  refine OGo.go (B := T12.setTop (mkF m 81 #[.val (.ref a0), .val (.ref b1), .val (.ref a0), .val (.int (1 : Int32)), .val (.int (1 : Int32)), .val (.int x0)] [(.ref b1)])) ?_ (fun tX kX => XS.aloadN X12.here hx rfl (hb hby d1_80) rfl rfl kX)
  obtain ⟨cq13, kq13, q13a, q13b, q13c⟩ := isOf hZ rfl E_b1
  obtain ⟨_, _, ⟨T13, L13, k13, n13⟩, -, X13, ⟨Lc13, hQ13, l13, y13, z13⟩, st13⟩ := X12.virtualBack hx (y := (⟨"java/lang/StringBuilder", "toString", "()Ljava/lang/String;"⟩ : MethodName)) (z := (⟨"java/lang/StringBuilder", "toString", "()Ljava/lang/String;"⟩ : MethodName)) hown (mvT hZ (hw _ (List.mem_of_getElem? (i := 26) rfl))) (mvT hZ (hw _ (List.mem_of_getElem? (i := 27) rfl))) (notFace_of_selects (args := #[]) (mvT hZ (hw _ (List.mem_of_getElem? (i := 29) rfl)))) (mvT hZ (hw _ (List.mem_of_getElem? (i := 29) rfl))) (mvT hZ (hw _ (List.mem_of_getElem? (i := 28) rfl))) (by decide) (backOf (W := 0) (rm5c1 l Z aV hw [] b1 vb_3 kb_3 cs (((own_dig ((x0 >>> ((4 : Int32) &&& 31)) &&& (15 : Int32))).toInt8.toInt32).toInt8.toInt32) (((own_dig (x0 &&& (15 : Int32))).toInt8.toInt32).toInt8.toInt32) T12.heap n0 zn12 E_b1 F_value_b1 F_coder_b1 F_count_b1 E_vb_3 V_vb_3 S_COMPACT_STRINGS hcs) hZ (hw _ (List.mem_of_getElem? (i := 30) rfl)) (hw _ (List.mem_of_getElem? (i := 7) rfl)) (by decide) (by decide)) q13a q13c (g := (mkF m 81 #[.val (.ref a0), .val (.ref b1), .val (.ref a0), .val (.int (1 : Int32)), .val (.int (1 : Int32)), .val (.int x0)] [(.ref b1)])) rfl (by rw [hml]; rfl) (Steps.refl _) (argsL := []) (rest := []) (lenOf pd___Ljava_lang_String_ rfl) rfl (by show 2 * 0 + _ ≤ _; exact Nat.le_of_eq rfl) (hb hby d1_81) (fun _ _ => ⟨rfl, rfl, (by decide : 2 + 2 ≤ _), (by decide : 7 + 6 ≤ _)⟩)
  dsimp only [Pt.U, Pt.locs, Pt.cells, Pt.slots] at X13 l13 y13 z13 st13 hQ13
  subst l13 y13 z13
  obtain ⟨sr_13, nb_13, kn_13, rfl, N13q, Kq13, sz13_sr, sz13_nb, E_sr_13_p, F_value_sr_13_p, F_coder_sr_13_p, E_nb_13_p, V_nb_13_p⟩ := hQ13
  have N13 := Fr.app N12 N13q
  have ne_a0_sr_13 : a0 ≠ sr_13 := Nat.ne_of_lt (Nat.lt_of_lt_of_le V_a0.lt sz13_sr)
  have ne_ud_sr_13 : ud ≠ sr_13 := Nat.ne_of_lt (Nat.lt_of_lt_of_le V_ud.lt sz13_sr)
  have ne_b1_sr_13 : b1 ≠ sr_13 := Nat.ne_of_lt (Nat.lt_of_lt_of_le E_b1.lt sz13_sr)
  have ne_vb_3_sr_13 : vb_3 ≠ sr_13 := Nat.ne_of_lt (Nat.lt_of_lt_of_le E_vb_3.lt sz13_sr)
  have ne_a0_nb_13 : a0 ≠ nb_13 := Nat.ne_of_lt (Nat.lt_of_lt_of_le V_a0.lt sz13_nb)
  have ne_ud_nb_13 : ud ≠ nb_13 := Nat.ne_of_lt (Nat.lt_of_lt_of_le V_ud.lt sz13_nb)
  have ne_b1_nb_13 : b1 ≠ nb_13 := Nat.ne_of_lt (Nat.lt_of_lt_of_le E_b1.lt sz13_nb)
  have ne_vb_3_nb_13 : vb_3 ≠ nb_13 := Nat.ne_of_lt (Nat.lt_of_lt_of_le E_vb_3.lt sz13_nb)
  have S_COMPACT_STRINGS := Sta.keep0 S_COMPACT_STRINGS Kq13
  have S_DIGITS := Sta.keep0 S_DIGITS Kq13
  have V_a0 := V_a0.keep Kq13 nin0
  have V_ud := V_ud.keep Kq13 nin0
  have E_b1 := E_b1.keep Kq13
  have E_vb_3 := E_vb_3.keep Kq13
  have F_value_b1 := F_value_b1.keep Kq13 nin0
  have F_coder_b1 := F_coder_b1.keep Kq13 nin0
  have F_count_b1 := F_count_b1.keep Kq13 nin0
  have V_vb_3 := V_vb_3.keep Kq13 nin0
  have g_sr_13 : n0 ≤ sr_13 := Nat.le_trans zn12 sz13_sr
  have sz_sr_13 : h0.size ≤ sr_13 := Nat.le_trans K12.1 sz13_sr
  have g_nb_13 : n0 ≤ nb_13 := Nat.le_trans zn12 sz13_nb
  have sz_nb_13 : h0.size ≤ nb_13 := Nat.le_trans K12.1 sz13_nb
  have K13 := K12.trans Kq13 all0
  have zn13 : n0 ≤ T13.heap.size := Nat.le_trans zn12 Kq13.1
  have E_sr_13 := E_sr_13_p
  have F_value_sr_13 := F_value_sr_13_p
  have F_coder_sr_13 := F_coder_sr_13_p
  have E_nb_13 := E_nb_13_p
  have V_nb_13 := V_nb_13_p
  refine OGo.go (B := T13.setTop (mkF m 84 #[.val (.ref a0), .val (.ref b1), .val (.ref a0), .val (.int (1 : Int32)), .val (.int (1 : Int32)), .val (.int x0)] [(.ref sr_13)])) ?_ (fun tX kX => st13.trans kX)
  refine OGo.ret X13 (v := (some (.ref sr_13))) (fun h => by rw [Bd.returns] at h; cases h) (BodyLoose.notSynchronized Bd) (fun fs hr => retOut X13 hx Bd.returns rfl (Or.inr (Or.inr (Or.inr (Or.inr ⟨rfl, rfl, rfl⟩)))) (hb hby d1_84) hr) (Q := Q1n1 Z a0 kb cs ud kd x0 h0 n0) ?_ (by decide) (by decide)
  show Q1n1 Z a0 kb cs ud kd x0 h0 n0 _ T13.heap _
  exact ⟨sr_13, nb_13, kn_13, rfl, N13, K13, sz_sr_13, sz_nb_13, E_sr_13, F_value_sr_13, F_coder_sr_13, E_nb_13, V_nb_13⟩
theorem d1_39 : decode prog_1_method_2_code 39 = .ok (.aload_n 1, 1) := by decide +kernel
theorem d1_40 : decode prog_1_method_2_code 40 = .ok (.bipush 32, 2) := by decide +kernel
theorem d1_42 : decode prog_1_method_2_code 42 = .ok (.invokevirtual 16, 3) := by decide +kernel
theorem d1_45 : decode prog_1_method_2_code 45 = .ok (.pop, 1) := by decide +kernel
def Q1n2 (Z : State) (a0 : Addr) (kb : ClassId) (cs : Int32) (ud : Addr) (kd : ClassId) (x0 : Int32) (x1 : Int32) (h0 : Heap) (n0 : Nat) (v : Option Value) (h : Heap) (L : List Loc) : Prop := ∃ (sr : Addr) (nb : Addr) (kn : ClassId), v = some (.ref sr) ∧ Fr n0 L ∧ Keep h0 h [] ∧ h0.size ≤ sr ∧ h0.size ≤ nb ∧ Exa Z h sr "java/lang/String" ∧ Fld Z h sr "java/lang/String" "value" "[B" (.ref nb) ∧ Fld Z h sr "java/lang/String" "coder" "B" (.int (0 : Int32)) ∧ Exa Z h nb "[B" ∧ Arv Z h nb kn .byte (5 : Int32) [(.int (((own_dig ((x0 >>> ((4 : Int32) &&& 31)) &&& (15 : Int32))).toInt8.toInt32).toInt8.toInt32)), (.int (((own_dig (x0 &&& (15 : Int32))).toInt8.toInt32).toInt8.toInt32)), (.int (((32 : Int32).toInt8.toInt32).toInt8.toInt32)), (.int (((own_dig ((x1 >>> ((4 : Int32) &&& 31)) &&& (15 : Int32))).toInt8.toInt32).toInt8.toInt32)), (.int (((own_dig (x1 &&& (15 : Int32))).toInt8.toInt32).toInt8.toInt32))] (.int (0 : Int32))
def P1n2 (Z : State) (a0 : Addr) (kb : ClassId) (cs : Int32) (ud : Addr) (kd : ClassId) (x0 : Int32) (x1 : Int32) (h0 : Heap) (n0 : Nat) (s : State) (o : Outcome) (U' : State) : Prop := ∃ v L, o = .returned v ∧ Q1n2 Z a0 kb cs ud kd x0 x1 h0 n0 v U'.heap L ∧ FrameEnd s o U' L ({ frames := 6, cells := 4, slots := 19, locals := 99 } : Room).cells ({ frames := 6, cells := 4, slots := 19, locals := 99 } : Room).slots
set_option maxRecDepth 65536 in
set_option maxHeartbeats 40000000 in
theorem rm1n2 (l : Launch) (Z : State) (aV : Array Value) (hw : ∀ d ∈ tables_1, d.before aV Z = true) (ws : List Jvm.Cond) (a0 : Addr) (kb : ClassId) (cs : Int32) (ud : Addr) (kd : ClassId) (x0 : Int32) (x1 : Int32) (h0 : Heap) (n0 : Nat) (Z0 : n0 ≤ h0.size) (V_a0 : Arv Z h0 a0 kb .byte (2 : Int32) [(.int x0), (.int x1)] (.int (0 : Int32))) (S_COMPACT_STRINGS : Sta Z h0 "java/lang/String" "COMPACT_STRINGS" "Z" (.int cs)) (S_DIGITS : Sta Z h0 "com/example/cartouche/cartouche/host/Hex" "DIGITS" "[C" (.ref ud)) (V_ud : Arv Z h0 ud kd .char (16 : Int32) own_D (.int (0 : Int32))) (hcs : ¬ cs = 0) :
    MetFree l (⟨"com/example/cartouche/cartouche/host/Hex", "format", "([B)Ljava/lang/String;"⟩ : MethodName) (head1 (Jvm.Cond.code (⟨"com/example/cartouche/cartouche/host/Hex", "format", "([B)Ljava/lang/String;"⟩ : MethodName) prog_1_method_2_code 6 (some (.object "java/lang/String")) :: ws) ({ frames := 6, cells := 4, slots := 19, locals := 99 } : Room)) (fun a U => a = #[(.ref a0)] ∧ Z.Warmed39 U.vm ∧ U.heap = h0) (fun _ _ _ _ _ => True) (fun _ U o U' => ∃ v L, o = .returned v ∧ Q1n2 Z a0 kb cs ud kd x0 x1 h0 n0 v U'.heap L ∧ FrameEnd U o U' L ({ frames := 6, cells := 4, slots := 19, locals := 99 } : Room).cells ({ frames := 6, cells := 4, slots := 19, locals := 99 } : Room).slots) := by
  refine MetFree.of_bodySF (plainFor_of_name pn_com_example_cartouche_cartouche_host_Hex) hisR ?_
  intro p e s m args below meth c s₁ Bd hml0 hP hK
  obtain ⟨rfl, hZ, hh⟩ := hP
  have hx := Bd.exec
  have hby := Bd.bytes
  have hml : c.maxLocals = 6 := hml0
  have hown : s.vm.findClass "com/example/cartouche/cartouche/host/Hex" = some m.cls := findClass_of_methodNamed Bd.named
  have hnm := (name_of_methodNamed Bd.named Bd.method).1
  have X0 : Stand p l e ({ frames := 6, cells := 4, slots := 19, locals := 99 } : Room) s m #[(.ref a0)] below meth c s₁ [] 0 0 := Stand.of_body Bd
  have e0 : s₁.heap = h0 := by rw [← hh, Bd.state]; rfl
  have efx : entryFrame m #[(.ref a0)] 6 = mkF m 0 #[.val (.ref a0), .unset, .unset, .unset, .unset, .unset] [] := by first | (simp [entryFrame, mkF, argsToLocals, Value.category]; done) | rfl
  have N0 := Fr.nil n0
  have K0 : Keep h0 h0 [] := Keep.refl h0 _
  refine OGo.start (g' := mkF m 0 #[.val (.ref a0), .unset, .unset, .unset, .unset, .unset] []) (efx) ?_
  show OGo p.tables e below (P1n2 Z a0 kb cs ud kd x0 x1 h0 n0 s) (s₁.setTop (mkF m 0 #[.val (.ref a0), .unset, .unset, .unset, .unset, .unset] []))
  obtain ⟨T1, h1, X1, e1, E1, A1, D1, C1, st1⟩ := newO X0 hx hZ hown (hw _ (List.mem_of_getElem? (i := 5) rfl)) (hw _ (List.mem_of_getElem? (i := 6) rfl)) (hw _ (List.mem_of_getElem? (i := 7) rfl)) e0 (g := (mkF m 0 #[.val (.ref a0), .unset, .unset, .unset, .unset, .unset] [])) rfl (hb hby d1_0) (by decide) (by decide)
  obtain ⟨b1, g1⟩ : ∃ z, z = h0.size := ⟨_, rfl⟩
  rw [← g1] at A1 D1 st1 C1
  have ne_a0_b1 : a0 ≠ b1 := Nat.ne_of_lt (Nat.lt_of_lt_of_le V_a0.lt (Nat.le_of_eq g1.symm))
  have ne_ud_b1 : ud ≠ b1 := Nat.ne_of_lt (Nat.lt_of_lt_of_le V_ud.lt (Nat.le_of_eq g1.symm))
  have V_a0 := V_a0.ext E1
  have S_COMPACT_STRINGS := S_COMPACT_STRINGS.ext E1
  have S_DIGITS := S_DIGITS.ext E1
  have V_ud := V_ud.ext E1
  have g_b1 : n0 ≤ b1 := Nat.le_trans Z0 (Nat.le_of_eq g1.symm)
  have sz_b1 : h0.size ≤ b1 := Nat.le_trans K0.1 (Nat.le_of_eq g1.symm)
  have zn1 : n0 ≤ h1.size := Nat.le_trans Z0 E1.1
  have K1 := K0.ext E1
  have E_b1 := A1
  have F_value_b1 : Fld Z h1 b1 "java/lang/AbstractStringBuilder" "value" "[B" .null := D1 (Or.inl (hw _ (List.mem_of_getElem? (i := 23) rfl))) (ty := (.array .byte)) (by decide)
  have F_coder_b1 : Fld Z h1 b1 "java/lang/AbstractStringBuilder" "coder" "B" (.int (0 : Int32)) := D1 (Or.inl (hw _ (List.mem_of_getElem? (i := 25) rfl))) (ty := .byte) (by decide)
  have F_count_b1 : Fld Z h1 b1 "java/lang/AbstractStringBuilder" "count" "I" (.int (0 : Int32)) := D1 (Or.inl (hw _ (List.mem_of_getElem? (i := 56) rfl))) (ty := .int) (by decide)
  refine OGo.go (B := T1.setTop (mkF m 3 #[.val (.ref a0), .unset, .unset, .unset, .unset, .unset] [(.ref b1)])) ?_ st1
  refine OGo.go (B := T1.setTop (mkF m 4 #[.val (.ref a0), .unset, .unset, .unset, .unset, .unset] [(.ref b1), (.ref b1)])) ?_ (fun tX kX => XS.dup X1.here hx rfl (hb hby d1_3) rfl rfl kX)
  refine OGo.go (B := T1.setTop (mkF m 5 #[.val (.ref a0), .unset, .unset, .unset, .unset, .unset] [(.ref a0), (.ref b1), (.ref b1)])) ?_ (fun tX kX => XS.aloadN X1.here hx rfl (hb hby d1_4) rfl rfl kX)
  obtain ⟨cl2, Ar2, qa2, S2, N2', H2, G2⟩ := id V_a0
  refine OGo.go (B := T1.setTop (mkF m 6 #[.val (.ref a0), .unset, .unset, .unset, .unset, .unset] [(.int (2 : Int32)), (.ref b1), (.ref b1)])) ?_ (fun tX kX => X1.arraylength hx (by rw [e1]; exact Ar2.1) (State.isArrayOf_alike hZ.alike Ar2.2.1) (g := (mkF m 5 #[.val (.ref a0), .unset, .unset, .unset, .unset, .unset] [(.ref a0), (.ref b1), (.ref b1)])) rfl rfl (hb hby d1_5) _ (by rw [len_of S2 N2']; exact kX))
  refine OGo.go (B := T1.setTop (mkF m 7 #[.val (.ref a0), .unset, .unset, .unset, .unset, .unset] [(.int (3 : Int32)), (.int (2 : Int32)), (.ref b1), (.ref b1)])) ?_ (fun tX kX => XS.iconst X1.here hx rfl (hb hby d1_6) kX)
  refine OGo.go (B := T1.setTop (mkF m 8 #[.val (.ref a0), .unset, .unset, .unset, .unset, .unset] [(.int (6 : Int32)), (.ref b1), (.ref b1)])) ?_ (fun tX kX => XS.imul X1.here hx rfl (hb hby d1_7) rfl kX)
  obtain ⟨_, _, ⟨T3, L3, k3, n3⟩, -, X3, ⟨Lc3, hQ3, l3, y3, z3⟩, st3⟩ := X1.specialBack hx (y := (⟨"java/lang/StringBuilder", "<init>", "(I)V"⟩ : MethodName)) rfl hown (mvT hZ (hw _ (List.mem_of_getElem? (i := 8) rfl))) (mvT hZ (hw _ (List.mem_of_getElem? (i := 9) rfl))) (mvT hZ (hw _ (List.mem_of_getElem? (i := 10) rfl))) (by decide) (backOf (W := 1) (rm2n6 l Z aV hw [] b1 .null (.int (0 : Int32)) cs h1 n0 zn1 E_b1 F_value_b1 F_coder_b1 F_count_b1 S_COMPACT_STRINGS g_b1 hcs) hZ (hw _ (List.mem_of_getElem? (i := 10) rfl)) (hw _ (List.mem_of_getElem? (i := 7) rfl)) (by decide) (by decide)) (g := (mkF m 8 #[.val (.ref a0), .unset, .unset, .unset, .unset, .unset] [(.int (6 : Int32)), (.ref b1), (.ref b1)])) rfl (by rw [hml]; rfl) (Steps.refl _) (a := b1) (argsL := [(.int (6 : Int32))]) (rest := [(.ref b1)]) (lenOf pd__I_V rfl) rfl (by show 2 * 0 + _ ≤ _; exact Nat.le_of_eq rfl) (hb hby d1_8) (fun _ _ => ⟨rfl, e1, (by decide : 1 + 1 ≤ _), (by decide : 4 + 6 ≤ _)⟩)
  dsimp only [Pt.U, Pt.locs, Pt.cells, Pt.slots] at X3 l3 y3 z3 st3 hQ3
  subst l3 y3 z3
  obtain ⟨vb_3, kb_3, rfl, N3q, Kq3, sz3_vb, E_b1_p, F_value_b1_p, F_coder_b1_p, F_count_b1_p, E_vb_3_p, V_vb_3_p⟩ := hQ3
  have N3 := Fr.app N0 N3q
  have ne_a0_vb_3 : a0 ≠ vb_3 := Nat.ne_of_lt (Nat.lt_of_lt_of_le V_a0.lt sz3_vb)
  have ne_ud_vb_3 : ud ≠ vb_3 := Nat.ne_of_lt (Nat.lt_of_lt_of_le V_ud.lt sz3_vb)
  have ne_b1_vb_3 : b1 ≠ vb_3 := Nat.ne_of_lt (Nat.lt_of_lt_of_le E_b1.lt sz3_vb)
  have S_COMPACT_STRINGS := Sta.keepE S_COMPACT_STRINGS Kq3 (staS E_b1.cell (fun x hx' => nomatch hx'))
  have S_DIGITS := Sta.keepE S_DIGITS Kq3 (staS E_b1.cell (fun x hx' => nomatch hx'))
  have V_a0 := V_a0.keep Kq3 (ninS ne_a0_b1 nin0)
  have V_ud := V_ud.keep Kq3 (ninS ne_ud_b1 nin0)
  have E_b1 := E_b1.keep Kq3
  have g_vb_3 : n0 ≤ vb_3 := Nat.le_trans zn1 sz3_vb
  have sz_vb_3 : h0.size ≤ vb_3 := Nat.le_trans K1.1 sz3_vb
  have K3 := K1.trans Kq3 (allS (P := fun x => x ∈ ([] : List Addr) ∨ h0.size ≤ x) (Or.inr sz_b1) all0)
  have zn3 : n0 ≤ T3.heap.size := Nat.le_trans zn1 Kq3.1
  have E_b1 := E_b1_p
  have F_value_b1 := F_value_b1_p
  have F_coder_b1 := F_coder_b1_p
  have F_count_b1 := F_count_b1_p
  have E_vb_3 := E_vb_3_p
  have V_vb_3 := V_vb_3_p
  refine OGo.go (B := T3.setTop (mkF m 11 #[.val (.ref a0), .unset, .unset, .unset, .unset, .unset] [(.ref b1)])) ?_ (fun tX kX => st3.trans kX)
  refine OGo.go (B := T3.setTop (mkF m 12 #[.val (.ref a0), .val (.ref b1), .unset, .unset, .unset, .unset] [])) ?_ (fun tX kX => XS.astoreN X3.here hx rfl (hb hby d1_11) rfl rfl (l' := #[.val (.ref a0), .val (.ref b1), .unset, .unset, .unset, .unset]) rfl kX)
  refine OGo.go (B := T3.setTop (mkF m 13 #[.val (.ref a0), .val (.ref b1), .unset, .unset, .unset, .unset] [(.ref a0)])) ?_ (fun tX kX => XS.aloadN X3.here hx rfl (hb hby d1_12) rfl rfl kX)
  refine OGo.go (B := T3.setTop (mkF m 14 #[.val (.ref a0), .val (.ref b1), .val (.ref a0), .unset, .unset, .unset] [])) ?_ (fun tX kX => XS.astoreN X3.here hx rfl (hb hby d1_13) rfl rfl (l' := #[.val (.ref a0), .val (.ref b1), .val (.ref a0), .unset, .unset, .unset]) rfl kX)
  refine OGo.go (B := T3.setTop (mkF m 15 #[.val (.ref a0), .val (.ref b1), .val (.ref a0), .unset, .unset, .unset] [(.ref a0)])) ?_ (fun tX kX => XS.aloadN X3.here hx rfl (hb hby d1_14) rfl rfl kX)
  obtain ⟨cl4, Ar4, qa4, S4, N4', H4, G4⟩ := id V_a0
  refine OGo.go (B := T3.setTop (mkF m 16 #[.val (.ref a0), .val (.ref b1), .val (.ref a0), .unset, .unset, .unset] [(.int (2 : Int32))])) ?_ (fun tX kX => X3.arraylength hx Ar4.1 (State.isArrayOf_alike hZ.alike Ar4.2.1) (g := (mkF m 15 #[.val (.ref a0), .val (.ref b1), .val (.ref a0), .unset, .unset, .unset] [(.ref a0)])) rfl rfl (hb hby d1_15) _ (by rw [len_of S4 N4']; exact kX))
  refine OGo.go (B := T3.setTop (mkF m 17 #[.val (.ref a0), .val (.ref b1), .val (.ref a0), .val (.int (2 : Int32)), .unset, .unset] [])) ?_ (fun tX kX => XS.istoreN X3.here hx rfl (hb hby d1_16) rfl (l' := #[.val (.ref a0), .val (.ref b1), .val (.ref a0), .val (.int (2 : Int32)), .unset, .unset]) rfl kX)
  refine OGo.go (B := T3.setTop (mkF m 18 #[.val (.ref a0), .val (.ref b1), .val (.ref a0), .val (.int (2 : Int32)), .unset, .unset] [(.int (0 : Int32))])) ?_ (fun tX kX => XS.iconst X3.here hx rfl (hb hby d1_17) kX)
  refine OGo.go (B := T3.setTop (mkF m 20 #[.val (.ref a0), .val (.ref b1), .val (.ref a0), .val (.int (2 : Int32)), .val (.int (0 : Int32)), .unset] [])) ?_ (fun tX kX => XS.istore X3.here hx rfl (hb hby d1_18) rfl (l' := #[.val (.ref a0), .val (.ref b1), .val (.ref a0), .val (.int (2 : Int32)), .val (.int (0 : Int32)), .unset]) rfl kX)
  refine OGo.go (B := T3.setTop (mkF m 22 #[.val (.ref a0), .val (.ref b1), .val (.ref a0), .val (.int (2 : Int32)), .val (.int (0 : Int32)), .unset] [(.int (0 : Int32))])) ?_ (fun tX kX => XS.iload X3.here hx rfl (hb hby d1_20) rfl kX)
  refine OGo.go (B := T3.setTop (mkF m 23 #[.val (.ref a0), .val (.ref b1), .val (.ref a0), .val (.int (2 : Int32)), .val (.int (0 : Int32)), .unset] [(.int (2 : Int32)), (.int (0 : Int32))])) ?_ (fun tX kX => XS.iloadN X3.here hx rfl (hb hby d1_22) rfl kX)
  refine OGo.go (B := T3.setTop (mkF m 26 #[.val (.ref a0), .val (.ref b1), .val (.ref a0), .val (.int (2 : Int32)), .val (.int (0 : Int32)), .unset] [])) ?_ (fun tX kX => XS.icmpNo X3.here hx rfl (hb hby d1_23) rfl (tlt (by decide)).2.1 kX)
  refine OGo.go (B := T3.setTop (mkF m 27 #[.val (.ref a0), .val (.ref b1), .val (.ref a0), .val (.int (2 : Int32)), .val (.int (0 : Int32)), .unset] [(.ref a0)])) ?_ (fun tX kX => XS.aloadN X3.here hx rfl (hb hby d1_26) rfl rfl kX)
  refine OGo.go (B := T3.setTop (mkF m 29 #[.val (.ref a0), .val (.ref b1), .val (.ref a0), .val (.int (2 : Int32)), .val (.int (0 : Int32)), .unset] [(.int (0 : Int32)), (.ref a0)])) ?_ (fun tX kX => XS.iload X3.here hx rfl (hb hby d1_27) rfl kX)
  obtain ⟨cl5, Ar5, qa5, S5, N5', H5, G5⟩ := id V_a0
  have hin5 := inb_of (j := (0 : Int32)) S5 ⟨by decide, by decide⟩
  have hat5 := H5.at (v := (.int x0)) hin5 rfl
  refine OGo.go (B := T3.setTop (mkF m 30 #[.val (.ref a0), .val (.ref b1), .val (.ref a0), .val (.int (2 : Int32)), .val (.int (0 : Int32)), .unset] [(.int x0)])) ?_ (fun tX kX => X3.baloadBytes hx (j := (0 : Int32)) (v := (.int x0)) Ar5.1 (State.isArrayOf_alike hZ.alike Ar5.2.1) Ar5.2.2 hin5 hat5 (g := (mkF m 29 #[.val (.ref a0), .val (.ref b1), .val (.ref a0), .val (.int (2 : Int32)), .val (.int (0 : Int32)), .unset] [(.int (0 : Int32)), (.ref a0)])) rfl rfl (hb hby d1_29) _ kX)
  refine OGo.go (B := T3.setTop (mkF m 32 #[.val (.ref a0), .val (.ref b1), .val (.ref a0), .val (.int (2 : Int32)), .val (.int (0 : Int32)), .val (.int x0)] [])) ?_ (fun tX kX => XS.istore X3.here hx rfl (hb hby d1_30) rfl (l' := #[.val (.ref a0), .val (.ref b1), .val (.ref a0), .val (.int (2 : Int32)), .val (.int (0 : Int32)), .val (.int x0)]) rfl kX)
  refine OGo.go (B := T3.setTop (mkF m 33 #[.val (.ref a0), .val (.ref b1), .val (.ref a0), .val (.int (2 : Int32)), .val (.int (0 : Int32)), .val (.int x0)] [(.ref b1)])) ?_ (fun tX kX => XS.aloadN X3.here hx rfl (hb hby d1_32) rfl rfl kX)
  obtain ⟨cq6, kq6, q6a, q6b, q6c⟩ := isOf hZ rfl E_b1
  obtain ⟨_, _, ⟨T6, L6, k6, n6⟩, -, X6, ⟨Lc6, hQ6, l6, y6, z6⟩, st6⟩ := X3.virtualBack hx (y := (⟨"java/lang/StringBuilder", "length", "()I"⟩ : MethodName)) (z := (⟨"java/lang/StringBuilder", "length", "()I"⟩ : MethodName)) hown (mvT hZ (hw _ (List.mem_of_getElem? (i := 90) rfl))) (mvT hZ (hw _ (List.mem_of_getElem? (i := 91) rfl))) (notFace_of_selects (args := #[]) (mvT hZ (hw _ (List.mem_of_getElem? (i := 92) rfl)))) (mvT hZ (hw _ (List.mem_of_getElem? (i := 92) rfl))) (mvT hZ (hw _ (List.mem_of_getElem? (i := 50) rfl))) (by decide) (backOf (W := 0) (rm9 l Z aV hw [] b1 (0 : Int32) T3.heap n0 zn3 E_b1 F_count_b1) hZ (hw _ (List.mem_of_getElem? (i := 51) rfl)) (hw _ (List.mem_of_getElem? (i := 7) rfl)) (by decide) (by decide)) q6a q6c (g := (mkF m 33 #[.val (.ref a0), .val (.ref b1), .val (.ref a0), .val (.int (2 : Int32)), .val (.int (0 : Int32)), .val (.int x0)] [(.ref b1)])) rfl (by rw [hml]; rfl) (Steps.refl _) (argsL := []) (rest := []) (lenOf pd___I rfl) rfl (by show 2 * 0 + _ ≤ _; exact Nat.le_of_eq rfl) (hb hby d1_33) (fun _ _ => ⟨rfl, rfl, (by decide : 2 + 0 ≤ _), (by decide : 10 + 0 ≤ _)⟩)
  dsimp only [Pt.U, Pt.locs, Pt.cells, Pt.slots] at X6 l6 y6 z6 st6 hQ6
  subst l6 y6 z6
  obtain ⟨rfl, N6q, e6⟩ := hQ6
  have N6 := Fr.app N3 N6q
  refine OGo.go (B := T6.setTop (mkF m 36 #[.val (.ref a0), .val (.ref b1), .val (.ref a0), .val (.int (2 : Int32)), .val (.int (0 : Int32)), .val (.int x0)] [(.int (0 : Int32))])) ?_ (fun tX kX => st6.trans kX)
  refine OGo.go (B := T6.setTop (mkF m 46 #[.val (.ref a0), .val (.ref b1), .val (.ref a0), .val (.int (2 : Int32)), .val (.int (0 : Int32)), .val (.int x0)] [])) ?_ (fun tX kX => XS.ifYes X6.here hx rfl (pc0 := 36) (pc' := 46) rfl (hb hby d1_36) rfl ((if0 _ _).trans (flt (by decide)).2.2.2) (by decide) (by decide) kX)
  refine OGo.go (B := T6.setTop (mkF m 47 #[.val (.ref a0), .val (.ref b1), .val (.ref a0), .val (.int (2 : Int32)), .val (.int (0 : Int32)), .val (.int x0)] [(.ref b1)])) ?_ (fun tX kX => XS.aloadN X6.here hx rfl (hb hby d1_46) rfl rfl kX)
  obtain ⟨T7, X7, e7, st7⟩ := getS2 X6 hx hZ hown (host := "") (Or.inl (hw _ (List.mem_of_getElem? (i := 93) rfl))) Via.refl e6 S_DIGITS (g := (mkF m 47 #[.val (.ref a0), .val (.ref b1), .val (.ref a0), .val (.int (2 : Int32)), .val (.int (0 : Int32)), .val (.int x0)] [(.ref b1)])) rfl (hb hby d1_47)
  refine OGo.go (B := T7.setTop (mkF m 50 #[.val (.ref a0), .val (.ref b1), .val (.ref a0), .val (.int (2 : Int32)), .val (.int (0 : Int32)), .val (.int x0)] [(.ref ud), (.ref b1)])) ?_ st7
  refine OGo.go (B := T7.setTop (mkF m 52 #[.val (.ref a0), .val (.ref b1), .val (.ref a0), .val (.int (2 : Int32)), .val (.int (0 : Int32)), .val (.int x0)] [(.int x0), (.ref ud), (.ref b1)])) ?_ (fun tX kX => XS.iload X7.here hx rfl (hb hby d1_50) rfl kX)
  refine OGo.go (B := T7.setTop (mkF m 53 #[.val (.ref a0), .val (.ref b1), .val (.ref a0), .val (.int (2 : Int32)), .val (.int (0 : Int32)), .val (.int x0)] [(.int (4 : Int32)), (.int x0), (.ref ud), (.ref b1)])) ?_ (fun tX kX => XS.iconst X7.here hx rfl (hb hby d1_52) kX)
  refine OGo.go (B := T7.setTop (mkF m 54 #[.val (.ref a0), .val (.ref b1), .val (.ref a0), .val (.int (2 : Int32)), .val (.int (0 : Int32)), .val (.int x0)] [(.int (x0 >>> ((4 : Int32) &&& 31))), (.ref ud), (.ref b1)])) ?_ (fun tX kX => XS.ishr X7.here hx rfl (hb hby d1_53) rfl kX)
  refine OGo.go (B := T7.setTop (mkF m 56 #[.val (.ref a0), .val (.ref b1), .val (.ref a0), .val (.int (2 : Int32)), .val (.int (0 : Int32)), .val (.int x0)] [(.int (15 : Int32)), (.int (x0 >>> ((4 : Int32) &&& 31))), (.ref ud), (.ref b1)])) ?_ (fun tX kX => XS.bipush X7.here hx rfl (hb hby d1_54) kX)
  refine OGo.go (B := T7.setTop (mkF m 57 #[.val (.ref a0), .val (.ref b1), .val (.ref a0), .val (.int (2 : Int32)), .val (.int (0 : Int32)), .val (.int x0)] [(.int ((x0 >>> ((4 : Int32) &&& 31)) &&& (15 : Int32))), (.ref ud), (.ref b1)])) ?_ (fun tX kX => XS.iand X7.here hx rfl (hb hby d1_56) rfl kX)
  obtain ⟨cl8, Ar8, qa8, S8, N8', H8, G8⟩ := id V_ud
  have hin8 := inb_of (j := ((x0 >>> ((4 : Int32) &&& 31)) &&& (15 : Int32))) S8 (own_in16 _)
  have hat8 := H8.at (v := (.int (own_dig ((x0 >>> ((4 : Int32) &&& 31)) &&& (15 : Int32))))) hin8 (own_getD _)
  refine OGo.go (B := T7.setTop (mkF m 58 #[.val (.ref a0), .val (.ref b1), .val (.ref a0), .val (.int (2 : Int32)), .val (.int (0 : Int32)), .val (.int x0)] [(.int (own_dig ((x0 >>> ((4 : Int32) &&& 31)) &&& (15 : Int32)))), (.ref b1)])) ?_ (fun tX kX => X7.caload hx (j := ((x0 >>> ((4 : Int32) &&& 31)) &&& (15 : Int32))) (v := (.int (own_dig ((x0 >>> ((4 : Int32) &&& 31)) &&& (15 : Int32))))) (by rw [e7]; exact Ar8.1) (State.isArrayOf_alike hZ.alike Ar8.2.1) Ar8.2.2 hin8 hat8 (g := (mkF m 57 #[.val (.ref a0), .val (.ref b1), .val (.ref a0), .val (.int (2 : Int32)), .val (.int (0 : Int32)), .val (.int x0)] [(.int ((x0 >>> ((4 : Int32) &&& 31)) &&& (15 : Int32))), (.ref ud), (.ref b1)])) rfl rfl (hb hby d1_57) _ kX)
  obtain ⟨cq9, kq9, q9a, q9b, q9c⟩ := isOf hZ e7 E_b1
  obtain ⟨_, _, ⟨T9, L9, k9, n9⟩, -, X9, ⟨Lc9, hQ9, l9, y9, z9⟩, st9⟩ := X7.virtualBack hx (y := (⟨"java/lang/StringBuilder", "append", "(C)Ljava/lang/StringBuilder;"⟩ : MethodName)) (z := (⟨"java/lang/StringBuilder", "append", "(C)Ljava/lang/StringBuilder;"⟩ : MethodName)) hown (mvT hZ (hw _ (List.mem_of_getElem? (i := 95) rfl))) (mvT hZ (hw _ (List.mem_of_getElem? (i := 96) rfl))) (notFace_of_selects (args := #[]) (mvT hZ (hw _ (List.mem_of_getElem? (i := 98) rfl)))) (mvT hZ (hw _ (List.mem_of_getElem? (i := 98) rfl))) (mvT hZ (hw _ (List.mem_of_getElem? (i := 97) rfl))) (by decide) (backOf (W := 0) (rm15 l Z aV hw [] b1 (own_dig ((x0 >>> ((4 : Int32) &&& 31)) &&& (15 : Int32))) vb_3 kb_3 (6 : Int32) [(.int (0 : Int32)), (.int (0 : Int32)), (.int (0 : Int32)), (.int (0 : Int32)), (.int (0 : Int32)), (.int (0 : Int32))] (0 : Int32) 0 cs T3.heap n0 zn3 E_b1 F_value_b1 F_coder_b1 F_count_b1 E_vb_3 V_vb_3 S_COMPACT_STRINGS g_b1 g_vb_3 ne_b1_vb_3 hcs (own_le255 _) (by decide) ⟨by decide, by decide⟩ rfl (Nat.le_of_ble_eq_true rfl)) hZ (hw _ (List.mem_of_getElem? (i := 99) rfl)) (hw _ (List.mem_of_getElem? (i := 7) rfl)) (by decide) (by decide)) q9a q9c (g := (mkF m 58 #[.val (.ref a0), .val (.ref b1), .val (.ref a0), .val (.int (2 : Int32)), .val (.int (0 : Int32)), .val (.int x0)] [(.int (own_dig ((x0 >>> ((4 : Int32) &&& 31)) &&& (15 : Int32)))), (.ref b1)])) rfl (by rw [hml]; rfl) (Steps.refl _) (argsL := [(.int (own_dig ((x0 >>> ((4 : Int32) &&& 31)) &&& (15 : Int32))))]) (rest := []) (lenOf pd__C_Ljava_lang_StringBuilder_ rfl) rfl (by show 2 * 0 + _ ≤ _; exact Nat.le_of_eq rfl) (hb hby d1_58) (fun _ _ => ⟨rfl, e7, (by decide : 2 + 0 ≤ _), (by decide : 10 + 0 ≤ _)⟩)
  dsimp only [Pt.U, Pt.locs, Pt.cells, Pt.slots] at X9 l9 y9 z9 st9 hQ9
  subst l9 y9 z9
  obtain ⟨rfl, N9q, Kq9, E_b1_p, F_value_b1_p, F_coder_b1_p, F_count_b1_p, E_vb_3_p, V_vb_3_p⟩ := hQ9
  have N9 := Fr.app N6 N9q
  have S_COMPACT_STRINGS := Sta.keepE S_COMPACT_STRINGS Kq9 (staS E_b1.cell (staS E_vb_3.cell (fun x hx' => nomatch hx')))
  have S_DIGITS := Sta.keepE S_DIGITS Kq9 (staS E_b1.cell (staS E_vb_3.cell (fun x hx' => nomatch hx')))
  have V_a0 := V_a0.keep Kq9 (ninS ne_a0_b1 (ninS ne_a0_vb_3 nin0))
  have V_ud := V_ud.keep Kq9 (ninS ne_ud_b1 (ninS ne_ud_vb_3 nin0))
  have E_b1 := E_b1.keep Kq9
  have E_vb_3 := E_vb_3.keep Kq9
  have K9 := K3.trans Kq9 (allS (P := fun x => x ∈ ([] : List Addr) ∨ h0.size ≤ x) (Or.inr sz_b1) (allS (P := fun x => x ∈ ([] : List Addr) ∨ h0.size ≤ x) (Or.inr sz_vb_3) all0))
  have zn9 : n0 ≤ T9.heap.size := Nat.le_trans zn3 Kq9.1
  have E_b1 := E_b1_p
  have F_value_b1 := F_value_b1_p
  have F_coder_b1 := F_coder_b1_p
  have F_count_b1 := F_count_b1_p
  have E_vb_3 := E_vb_3_p
  have V_vb_3 := V_vb_3_p
  refine OGo.go (B := T9.setTop (mkF m 61 #[.val (.ref a0), .val (.ref b1), .val (.ref a0), .val (.int (2 : Int32)), .val (.int (0 : Int32)), .val (.int x0)] [(.ref b1)])) ?_ (fun tX kX => st9.trans kX)
  have F_count_b1 : Fld Z T9.heap b1 "java/lang/AbstractStringBuilder" "count" "I" (.int (1 : Int32)) := F_count_b1
  have V_vb_3 : Arv Z T9.heap vb_3 kb_3 .byte (6 : Int32) [(.int (((own_dig ((x0 >>> ((4 : Int32) &&& 31)) &&& (15 : Int32))).toInt8.toInt32).toInt8.toInt32)), (.int (0 : Int32)), (.int (0 : Int32)), (.int (0 : Int32)), (.int (0 : Int32)), (.int (0 : Int32))] (.int (0 : Int32)) := V_vb_3
  obtain ⟨T10, X10, e10, st10⟩ := getS2 X9 hx hZ hown (host := "") (Or.inl (hw _ (List.mem_of_getElem? (i := 93) rfl))) Via.refl rfl S_DIGITS (g := (mkF m 61 #[.val (.ref a0), .val (.ref b1), .val (.ref a0), .val (.int (2 : Int32)), .val (.int (0 : Int32)), .val (.int x0)] [(.ref b1)])) rfl (hb hby d1_61)
  refine OGo.go (B := T10.setTop (mkF m 64 #[.val (.ref a0), .val (.ref b1), .val (.ref a0), .val (.int (2 : Int32)), .val (.int (0 : Int32)), .val (.int x0)] [(.ref ud), (.ref b1)])) ?_ st10
  refine OGo.go (B := T10.setTop (mkF m 66 #[.val (.ref a0), .val (.ref b1), .val (.ref a0), .val (.int (2 : Int32)), .val (.int (0 : Int32)), .val (.int x0)] [(.int x0), (.ref ud), (.ref b1)])) ?_ (fun tX kX => XS.iload X10.here hx rfl (hb hby d1_64) rfl kX)
  refine OGo.go (B := T10.setTop (mkF m 68 #[.val (.ref a0), .val (.ref b1), .val (.ref a0), .val (.int (2 : Int32)), .val (.int (0 : Int32)), .val (.int x0)] [(.int (15 : Int32)), (.int x0), (.ref ud), (.ref b1)])) ?_ (fun tX kX => XS.bipush X10.here hx rfl (hb hby d1_66) kX)
  refine OGo.go (B := T10.setTop (mkF m 69 #[.val (.ref a0), .val (.ref b1), .val (.ref a0), .val (.int (2 : Int32)), .val (.int (0 : Int32)), .val (.int x0)] [(.int (x0 &&& (15 : Int32))), (.ref ud), (.ref b1)])) ?_ (fun tX kX => XS.iand X10.here hx rfl (hb hby d1_68) rfl kX)
  obtain ⟨cl11, Ar11, qa11, S11, N11', H11, G11⟩ := id V_ud
  have hin11 := inb_of (j := (x0 &&& (15 : Int32))) S11 (own_in16 _)
  have hat11 := H11.at (v := (.int (own_dig (x0 &&& (15 : Int32))))) hin11 (own_getD _)
  refine OGo.go (B := T10.setTop (mkF m 70 #[.val (.ref a0), .val (.ref b1), .val (.ref a0), .val (.int (2 : Int32)), .val (.int (0 : Int32)), .val (.int x0)] [(.int (own_dig (x0 &&& (15 : Int32)))), (.ref b1)])) ?_ (fun tX kX => X10.caload hx (j := (x0 &&& (15 : Int32))) (v := (.int (own_dig (x0 &&& (15 : Int32))))) (by rw [e10]; exact Ar11.1) (State.isArrayOf_alike hZ.alike Ar11.2.1) Ar11.2.2 hin11 hat11 (g := (mkF m 69 #[.val (.ref a0), .val (.ref b1), .val (.ref a0), .val (.int (2 : Int32)), .val (.int (0 : Int32)), .val (.int x0)] [(.int (x0 &&& (15 : Int32))), (.ref ud), (.ref b1)])) rfl rfl (hb hby d1_69) _ kX)
  obtain ⟨cq12, kq12, q12a, q12b, q12c⟩ := isOf hZ e10 E_b1
  obtain ⟨_, _, ⟨T12, L12, k12, n12⟩, -, X12, ⟨Lc12, hQ12, l12, y12, z12⟩, st12⟩ := X10.virtualBack hx (y := (⟨"java/lang/StringBuilder", "append", "(C)Ljava/lang/StringBuilder;"⟩ : MethodName)) (z := (⟨"java/lang/StringBuilder", "append", "(C)Ljava/lang/StringBuilder;"⟩ : MethodName)) hown (mvT hZ (hw _ (List.mem_of_getElem? (i := 95) rfl))) (mvT hZ (hw _ (List.mem_of_getElem? (i := 96) rfl))) (notFace_of_selects (args := #[]) (mvT hZ (hw _ (List.mem_of_getElem? (i := 98) rfl)))) (mvT hZ (hw _ (List.mem_of_getElem? (i := 98) rfl))) (mvT hZ (hw _ (List.mem_of_getElem? (i := 97) rfl))) (by decide) (backOf (W := 0) (rm15 l Z aV hw [] b1 (own_dig (x0 &&& (15 : Int32))) vb_3 kb_3 (6 : Int32) [(.int (((own_dig ((x0 >>> ((4 : Int32) &&& 31)) &&& (15 : Int32))).toInt8.toInt32).toInt8.toInt32)), (.int (0 : Int32)), (.int (0 : Int32)), (.int (0 : Int32)), (.int (0 : Int32)), (.int (0 : Int32))] (1 : Int32) 1 cs T9.heap n0 zn9 E_b1 F_value_b1 F_coder_b1 F_count_b1 E_vb_3 V_vb_3 S_COMPACT_STRINGS g_b1 g_vb_3 ne_b1_vb_3 hcs (own_le255 _) (by decide) ⟨by decide, by decide⟩ rfl (Nat.le_of_ble_eq_true rfl)) hZ (hw _ (List.mem_of_getElem? (i := 99) rfl)) (hw _ (List.mem_of_getElem? (i := 7) rfl)) (by decide) (by decide)) q12a q12c (g := (mkF m 70 #[.val (.ref a0), .val (.ref b1), .val (.ref a0), .val (.int (2 : Int32)), .val (.int (0 : Int32)), .val (.int x0)] [(.int (own_dig (x0 &&& (15 : Int32)))), (.ref b1)])) rfl (by rw [hml]; rfl) (Steps.refl _) (argsL := [(.int (own_dig (x0 &&& (15 : Int32))))]) (rest := []) (lenOf pd__C_Ljava_lang_StringBuilder_ rfl) rfl (by show 2 * 0 + _ ≤ _; exact Nat.le_of_eq rfl) (hb hby d1_70) (fun _ _ => ⟨rfl, e10, (by decide : 2 + 0 ≤ _), (by decide : 10 + 0 ≤ _)⟩)
  dsimp only [Pt.U, Pt.locs, Pt.cells, Pt.slots] at X12 l12 y12 z12 st12 hQ12
  subst l12 y12 z12
  obtain ⟨rfl, N12q, Kq12, E_b1_p, F_value_b1_p, F_coder_b1_p, F_count_b1_p, E_vb_3_p, V_vb_3_p⟩ := hQ12
  have N12 := Fr.app N9 N12q
  have S_COMPACT_STRINGS := Sta.keepE S_COMPACT_STRINGS Kq12 (staS E_b1.cell (staS E_vb_3.cell (fun x hx' => nomatch hx')))
  have S_DIGITS := Sta.keepE S_DIGITS Kq12 (staS E_b1.cell (staS E_vb_3.cell (fun x hx' => nomatch hx')))
  have V_a0 := V_a0.keep Kq12 (ninS ne_a0_b1 (ninS ne_a0_vb_3 nin0))
  have V_ud := V_ud.keep Kq12 (ninS ne_ud_b1 (ninS ne_ud_vb_3 nin0))
  have E_b1 := E_b1.keep Kq12
  have E_vb_3 := E_vb_3.keep Kq12
  have K12 := K9.trans Kq12 (allS (P := fun x => x ∈ ([] : List Addr) ∨ h0.size ≤ x) (Or.inr sz_b1) (allS (P := fun x => x ∈ ([] : List Addr) ∨ h0.size ≤ x) (Or.inr sz_vb_3) all0))
  have zn12 : n0 ≤ T12.heap.size := Nat.le_trans zn9 Kq12.1
  have E_b1 := E_b1_p
  have F_value_b1 := F_value_b1_p
  have F_coder_b1 := F_coder_b1_p
  have F_count_b1 := F_count_b1_p
  have E_vb_3 := E_vb_3_p
  have V_vb_3 := V_vb_3_p
  refine OGo.go (B := T12.setTop (mkF m 73 #[.val (.ref a0), .val (.ref b1), .val (.ref a0), .val (.int (2 : Int32)), .val (.int (0 : Int32)), .val (.int x0)] [(.ref b1)])) ?_ (fun tX kX => st12.trans kX)
  have F_count_b1 : Fld Z T12.heap b1 "java/lang/AbstractStringBuilder" "count" "I" (.int (2 : Int32)) := F_count_b1
  have V_vb_3 : Arv Z T12.heap vb_3 kb_3 .byte (6 : Int32) [(.int (((own_dig ((x0 >>> ((4 : Int32) &&& 31)) &&& (15 : Int32))).toInt8.toInt32).toInt8.toInt32)), (.int (((own_dig (x0 &&& (15 : Int32))).toInt8.toInt32).toInt8.toInt32)), (.int (0 : Int32)), (.int (0 : Int32)), (.int (0 : Int32)), (.int (0 : Int32))] (.int (0 : Int32)) := V_vb_3
  refine OGo.go (B := T12.setTop (mkF m 74 #[.val (.ref a0), .val (.ref b1), .val (.ref a0), .val (.int (2 : Int32)), .val (.int (0 : Int32)), .val (.int x0)] [])) ?_ (fun tX kX => XS.pop X12.here hx rfl (hb hby d1_73) rfl rfl kX)
  refine OGo.go (B := T12.setTop (mkF m 77 #[.val (.ref a0), .val (.ref b1), .val (.ref a0), .val (.int (2 : Int32)), .val (.int (1 : Int32)), .val (.int x0)] [])) ?_ (fun tX kX => XS.iinc X12.here hx rfl (hb hby d1_74) rfl (l' := #[.val (.ref a0), .val (.ref b1), .val (.ref a0), .val (.int (2 : Int32)), .val (.int (1 : Int32)), .val (.int x0)]) rfl kX)
  refine OGo.go (B := T12.setTop (mkF m 20 #[.val (.ref a0), .val (.ref b1), .val (.ref a0), .val (.int (2 : Int32)), .val (.int (1 : Int32)), .val (.int x0)] [])) ?_ (fun tX kX => XS.goto X12.here hx rfl (pc0 := 77) (pc' := 20) rfl (hb hby d1_77) (by decide) (by decide) kX)
  refine OGo.go (B := T12.setTop (mkF m 22 #[.val (.ref a0), .val (.ref b1), .val (.ref a0), .val (.int (2 : Int32)), .val (.int (1 : Int32)), .val (.int x0)] [(.int (1 : Int32))])) ?_ (fun tX kX => XS.iload X12.here hx rfl (hb hby d1_20) rfl kX)
  refine OGo.go (B := T12.setTop (mkF m 23 #[.val (.ref a0), .val (.ref b1), .val (.ref a0), .val (.int (2 : Int32)), .val (.int (1 : Int32)), .val (.int x0)] [(.int (2 : Int32)), (.int (1 : Int32))])) ?_ (fun tX kX => XS.iloadN X12.here hx rfl (hb hby d1_22) rfl kX)
  refine OGo.go (B := T12.setTop (mkF m 26 #[.val (.ref a0), .val (.ref b1), .val (.ref a0), .val (.int (2 : Int32)), .val (.int (1 : Int32)), .val (.int x0)] [])) ?_ (fun tX kX => XS.icmpNo X12.here hx rfl (hb hby d1_23) rfl (tlt (by decide)).2.1 kX)
  refine OGo.go (B := T12.setTop (mkF m 27 #[.val (.ref a0), .val (.ref b1), .val (.ref a0), .val (.int (2 : Int32)), .val (.int (1 : Int32)), .val (.int x0)] [(.ref a0)])) ?_ (fun tX kX => XS.aloadN X12.here hx rfl (hb hby d1_26) rfl rfl kX)
  refine OGo.go (B := T12.setTop (mkF m 29 #[.val (.ref a0), .val (.ref b1), .val (.ref a0), .val (.int (2 : Int32)), .val (.int (1 : Int32)), .val (.int x0)] [(.int (1 : Int32)), (.ref a0)])) ?_ (fun tX kX => XS.iload X12.here hx rfl (hb hby d1_27) rfl kX)
  obtain ⟨cl13, Ar13, qa13, S13, N13', H13, G13⟩ := id V_a0
  have hin13 := inb_of (j := (1 : Int32)) S13 ⟨by decide, by decide⟩
  have hat13 := H13.at (v := (.int x1)) hin13 rfl
  refine OGo.go (B := T12.setTop (mkF m 30 #[.val (.ref a0), .val (.ref b1), .val (.ref a0), .val (.int (2 : Int32)), .val (.int (1 : Int32)), .val (.int x0)] [(.int x1)])) ?_ (fun tX kX => X12.baloadBytes hx (j := (1 : Int32)) (v := (.int x1)) Ar13.1 (State.isArrayOf_alike hZ.alike Ar13.2.1) Ar13.2.2 hin13 hat13 (g := (mkF m 29 #[.val (.ref a0), .val (.ref b1), .val (.ref a0), .val (.int (2 : Int32)), .val (.int (1 : Int32)), .val (.int x0)] [(.int (1 : Int32)), (.ref a0)])) rfl rfl (hb hby d1_29) _ kX)
  refine OGo.go (B := T12.setTop (mkF m 32 #[.val (.ref a0), .val (.ref b1), .val (.ref a0), .val (.int (2 : Int32)), .val (.int (1 : Int32)), .val (.int x1)] [])) ?_ (fun tX kX => XS.istore X12.here hx rfl (hb hby d1_30) rfl (l' := #[.val (.ref a0), .val (.ref b1), .val (.ref a0), .val (.int (2 : Int32)), .val (.int (1 : Int32)), .val (.int x1)]) rfl kX)
  refine OGo.go (B := T12.setTop (mkF m 33 #[.val (.ref a0), .val (.ref b1), .val (.ref a0), .val (.int (2 : Int32)), .val (.int (1 : Int32)), .val (.int x1)] [(.ref b1)])) ?_ (fun tX kX => XS.aloadN X12.here hx rfl (hb hby d1_32) rfl rfl kX)
  obtain ⟨cq14, kq14, q14a, q14b, q14c⟩ := isOf hZ rfl E_b1
  obtain ⟨_, _, ⟨T14, L14, k14, n14⟩, -, X14, ⟨Lc14, hQ14, l14, y14, z14⟩, st14⟩ := X12.virtualBack hx (y := (⟨"java/lang/StringBuilder", "length", "()I"⟩ : MethodName)) (z := (⟨"java/lang/StringBuilder", "length", "()I"⟩ : MethodName)) hown (mvT hZ (hw _ (List.mem_of_getElem? (i := 90) rfl))) (mvT hZ (hw _ (List.mem_of_getElem? (i := 91) rfl))) (notFace_of_selects (args := #[]) (mvT hZ (hw _ (List.mem_of_getElem? (i := 92) rfl)))) (mvT hZ (hw _ (List.mem_of_getElem? (i := 92) rfl))) (mvT hZ (hw _ (List.mem_of_getElem? (i := 50) rfl))) (by decide) (backOf (W := 0) (rm9 l Z aV hw [] b1 (2 : Int32) T12.heap n0 zn12 E_b1 F_count_b1) hZ (hw _ (List.mem_of_getElem? (i := 51) rfl)) (hw _ (List.mem_of_getElem? (i := 7) rfl)) (by decide) (by decide)) q14a q14c (g := (mkF m 33 #[.val (.ref a0), .val (.ref b1), .val (.ref a0), .val (.int (2 : Int32)), .val (.int (1 : Int32)), .val (.int x1)] [(.ref b1)])) rfl (by rw [hml]; rfl) (Steps.refl _) (argsL := []) (rest := []) (lenOf pd___I rfl) rfl (by show 2 * 0 + _ ≤ _; exact Nat.le_of_eq rfl) (hb hby d1_33) (fun _ _ => ⟨rfl, rfl, (by decide : 2 + 0 ≤ _), (by decide : 10 + 0 ≤ _)⟩)
  dsimp only [Pt.U, Pt.locs, Pt.cells, Pt.slots] at X14 l14 y14 z14 st14 hQ14
  subst l14 y14 z14
  obtain ⟨rfl, N14q, e14⟩ := hQ14
  have N14 := Fr.app N12 N14q
  refine OGo.go (B := T14.setTop (mkF m 36 #[.val (.ref a0), .val (.ref b1), .val (.ref a0), .val (.int (2 : Int32)), .val (.int (1 : Int32)), .val (.int x1)] [(.int (2 : Int32))])) ?_ (fun tX kX => st14.trans kX)
  refine OGo.go (B := T14.setTop (mkF m 39 #[.val (.ref a0), .val (.ref b1), .val (.ref a0), .val (.int (2 : Int32)), .val (.int (1 : Int32)), .val (.int x1)] [])) ?_ (fun tX kX => XS.ifNo X14.here hx rfl (hb hby d1_36) rfl ((if0 _ _).trans (tlt (by decide)).2.2.2) kX)
  refine OGo.go (B := T14.setTop (mkF m 40 #[.val (.ref a0), .val (.ref b1), .val (.ref a0), .val (.int (2 : Int32)), .val (.int (1 : Int32)), .val (.int x1)] [(.ref b1)])) ?_ (fun tX kX => XS.aloadN X14.here hx rfl (hb hby d1_39) rfl rfl kX)
  refine OGo.go (B := T14.setTop (mkF m 42 #[.val (.ref a0), .val (.ref b1), .val (.ref a0), .val (.int (2 : Int32)), .val (.int (1 : Int32)), .val (.int x1)] [(.int (32 : Int32)), (.ref b1)])) ?_ (fun tX kX => XS.bipush X14.here hx rfl (hb hby d1_40) kX)
  obtain ⟨cq15, kq15, q15a, q15b, q15c⟩ := isOf hZ e14 E_b1
  obtain ⟨_, _, ⟨T15, L15, k15, n15⟩, -, X15, ⟨Lc15, hQ15, l15, y15, z15⟩, st15⟩ := X14.virtualBack hx (y := (⟨"java/lang/StringBuilder", "append", "(C)Ljava/lang/StringBuilder;"⟩ : MethodName)) (z := (⟨"java/lang/StringBuilder", "append", "(C)Ljava/lang/StringBuilder;"⟩ : MethodName)) hown (mvT hZ (hw _ (List.mem_of_getElem? (i := 95) rfl))) (mvT hZ (hw _ (List.mem_of_getElem? (i := 96) rfl))) (notFace_of_selects (args := #[]) (mvT hZ (hw _ (List.mem_of_getElem? (i := 98) rfl)))) (mvT hZ (hw _ (List.mem_of_getElem? (i := 98) rfl))) (mvT hZ (hw _ (List.mem_of_getElem? (i := 97) rfl))) (by decide) (backOf (W := 0) (rm15 l Z aV hw [] b1 (32 : Int32) vb_3 kb_3 (6 : Int32) [(.int (((own_dig ((x0 >>> ((4 : Int32) &&& 31)) &&& (15 : Int32))).toInt8.toInt32).toInt8.toInt32)), (.int (((own_dig (x0 &&& (15 : Int32))).toInt8.toInt32).toInt8.toInt32)), (.int (0 : Int32)), (.int (0 : Int32)), (.int (0 : Int32)), (.int (0 : Int32))] (2 : Int32) 2 cs T12.heap n0 zn12 E_b1 F_value_b1 F_coder_b1 F_count_b1 E_vb_3 V_vb_3 S_COMPACT_STRINGS g_b1 g_vb_3 ne_b1_vb_3 hcs (by decide) (by decide) ⟨by decide, by decide⟩ rfl (Nat.le_of_ble_eq_true rfl)) hZ (hw _ (List.mem_of_getElem? (i := 99) rfl)) (hw _ (List.mem_of_getElem? (i := 7) rfl)) (by decide) (by decide)) q15a q15c (g := (mkF m 42 #[.val (.ref a0), .val (.ref b1), .val (.ref a0), .val (.int (2 : Int32)), .val (.int (1 : Int32)), .val (.int x1)] [(.int (32 : Int32)), (.ref b1)])) rfl (by rw [hml]; rfl) (Steps.refl _) (argsL := [(.int (32 : Int32))]) (rest := []) (lenOf pd__C_Ljava_lang_StringBuilder_ rfl) rfl (by show 2 * 0 + _ ≤ _; exact Nat.le_of_eq rfl) (hb hby d1_42) (fun _ _ => ⟨rfl, e14, (by decide : 2 + 0 ≤ _), (by decide : 10 + 0 ≤ _)⟩)
  dsimp only [Pt.U, Pt.locs, Pt.cells, Pt.slots] at X15 l15 y15 z15 st15 hQ15
  subst l15 y15 z15
  obtain ⟨rfl, N15q, Kq15, E_b1_p, F_value_b1_p, F_coder_b1_p, F_count_b1_p, E_vb_3_p, V_vb_3_p⟩ := hQ15
  have N15 := Fr.app N14 N15q
  have S_COMPACT_STRINGS := Sta.keepE S_COMPACT_STRINGS Kq15 (staS E_b1.cell (staS E_vb_3.cell (fun x hx' => nomatch hx')))
  have S_DIGITS := Sta.keepE S_DIGITS Kq15 (staS E_b1.cell (staS E_vb_3.cell (fun x hx' => nomatch hx')))
  have V_a0 := V_a0.keep Kq15 (ninS ne_a0_b1 (ninS ne_a0_vb_3 nin0))
  have V_ud := V_ud.keep Kq15 (ninS ne_ud_b1 (ninS ne_ud_vb_3 nin0))
  have E_b1 := E_b1.keep Kq15
  have E_vb_3 := E_vb_3.keep Kq15
  have K15 := K12.trans Kq15 (allS (P := fun x => x ∈ ([] : List Addr) ∨ h0.size ≤ x) (Or.inr sz_b1) (allS (P := fun x => x ∈ ([] : List Addr) ∨ h0.size ≤ x) (Or.inr sz_vb_3) all0))
  have zn15 : n0 ≤ T15.heap.size := Nat.le_trans zn12 Kq15.1
  have E_b1 := E_b1_p
  have F_value_b1 := F_value_b1_p
  have F_coder_b1 := F_coder_b1_p
  have F_count_b1 := F_count_b1_p
  have E_vb_3 := E_vb_3_p
  have V_vb_3 := V_vb_3_p
  refine OGo.go (B := T15.setTop (mkF m 45 #[.val (.ref a0), .val (.ref b1), .val (.ref a0), .val (.int (2 : Int32)), .val (.int (1 : Int32)), .val (.int x1)] [(.ref b1)])) ?_ (fun tX kX => st15.trans kX)
  have F_count_b1 : Fld Z T15.heap b1 "java/lang/AbstractStringBuilder" "count" "I" (.int (3 : Int32)) := F_count_b1
  have V_vb_3 : Arv Z T15.heap vb_3 kb_3 .byte (6 : Int32) [(.int (((own_dig ((x0 >>> ((4 : Int32) &&& 31)) &&& (15 : Int32))).toInt8.toInt32).toInt8.toInt32)), (.int (((own_dig (x0 &&& (15 : Int32))).toInt8.toInt32).toInt8.toInt32)), (.int (((32 : Int32).toInt8.toInt32).toInt8.toInt32)), (.int (0 : Int32)), (.int (0 : Int32)), (.int (0 : Int32))] (.int (0 : Int32)) := V_vb_3
  refine OGo.go (B := T15.setTop (mkF m 46 #[.val (.ref a0), .val (.ref b1), .val (.ref a0), .val (.int (2 : Int32)), .val (.int (1 : Int32)), .val (.int x1)] [])) ?_ (fun tX kX => XS.pop X15.here hx rfl (hb hby d1_45) rfl rfl kX)
  refine OGo.go (B := T15.setTop (mkF m 47 #[.val (.ref a0), .val (.ref b1), .val (.ref a0), .val (.int (2 : Int32)), .val (.int (1 : Int32)), .val (.int x1)] [(.ref b1)])) ?_ (fun tX kX => XS.aloadN X15.here hx rfl (hb hby d1_46) rfl rfl kX)
  obtain ⟨T16, X16, e16, st16⟩ := getS2 X15 hx hZ hown (host := "") (Or.inl (hw _ (List.mem_of_getElem? (i := 93) rfl))) Via.refl rfl S_DIGITS (g := (mkF m 47 #[.val (.ref a0), .val (.ref b1), .val (.ref a0), .val (.int (2 : Int32)), .val (.int (1 : Int32)), .val (.int x1)] [(.ref b1)])) rfl (hb hby d1_47)
  refine OGo.go (B := T16.setTop (mkF m 50 #[.val (.ref a0), .val (.ref b1), .val (.ref a0), .val (.int (2 : Int32)), .val (.int (1 : Int32)), .val (.int x1)] [(.ref ud), (.ref b1)])) ?_ st16
  refine OGo.go (B := T16.setTop (mkF m 52 #[.val (.ref a0), .val (.ref b1), .val (.ref a0), .val (.int (2 : Int32)), .val (.int (1 : Int32)), .val (.int x1)] [(.int x1), (.ref ud), (.ref b1)])) ?_ (fun tX kX => XS.iload X16.here hx rfl (hb hby d1_50) rfl kX)
  refine OGo.go (B := T16.setTop (mkF m 53 #[.val (.ref a0), .val (.ref b1), .val (.ref a0), .val (.int (2 : Int32)), .val (.int (1 : Int32)), .val (.int x1)] [(.int (4 : Int32)), (.int x1), (.ref ud), (.ref b1)])) ?_ (fun tX kX => XS.iconst X16.here hx rfl (hb hby d1_52) kX)
  refine OGo.go (B := T16.setTop (mkF m 54 #[.val (.ref a0), .val (.ref b1), .val (.ref a0), .val (.int (2 : Int32)), .val (.int (1 : Int32)), .val (.int x1)] [(.int (x1 >>> ((4 : Int32) &&& 31))), (.ref ud), (.ref b1)])) ?_ (fun tX kX => XS.ishr X16.here hx rfl (hb hby d1_53) rfl kX)
  refine OGo.go (B := T16.setTop (mkF m 56 #[.val (.ref a0), .val (.ref b1), .val (.ref a0), .val (.int (2 : Int32)), .val (.int (1 : Int32)), .val (.int x1)] [(.int (15 : Int32)), (.int (x1 >>> ((4 : Int32) &&& 31))), (.ref ud), (.ref b1)])) ?_ (fun tX kX => XS.bipush X16.here hx rfl (hb hby d1_54) kX)
  refine OGo.go (B := T16.setTop (mkF m 57 #[.val (.ref a0), .val (.ref b1), .val (.ref a0), .val (.int (2 : Int32)), .val (.int (1 : Int32)), .val (.int x1)] [(.int ((x1 >>> ((4 : Int32) &&& 31)) &&& (15 : Int32))), (.ref ud), (.ref b1)])) ?_ (fun tX kX => XS.iand X16.here hx rfl (hb hby d1_56) rfl kX)
  obtain ⟨cl17, Ar17, qa17, S17, N17', H17, G17⟩ := id V_ud
  have hin17 := inb_of (j := ((x1 >>> ((4 : Int32) &&& 31)) &&& (15 : Int32))) S17 (own_in16 _)
  have hat17 := H17.at (v := (.int (own_dig ((x1 >>> ((4 : Int32) &&& 31)) &&& (15 : Int32))))) hin17 (own_getD _)
  refine OGo.go (B := T16.setTop (mkF m 58 #[.val (.ref a0), .val (.ref b1), .val (.ref a0), .val (.int (2 : Int32)), .val (.int (1 : Int32)), .val (.int x1)] [(.int (own_dig ((x1 >>> ((4 : Int32) &&& 31)) &&& (15 : Int32)))), (.ref b1)])) ?_ (fun tX kX => X16.caload hx (j := ((x1 >>> ((4 : Int32) &&& 31)) &&& (15 : Int32))) (v := (.int (own_dig ((x1 >>> ((4 : Int32) &&& 31)) &&& (15 : Int32))))) (by rw [e16]; exact Ar17.1) (State.isArrayOf_alike hZ.alike Ar17.2.1) Ar17.2.2 hin17 hat17 (g := (mkF m 57 #[.val (.ref a0), .val (.ref b1), .val (.ref a0), .val (.int (2 : Int32)), .val (.int (1 : Int32)), .val (.int x1)] [(.int ((x1 >>> ((4 : Int32) &&& 31)) &&& (15 : Int32))), (.ref ud), (.ref b1)])) rfl rfl (hb hby d1_57) _ kX)
  obtain ⟨cq18, kq18, q18a, q18b, q18c⟩ := isOf hZ e16 E_b1
  obtain ⟨_, _, ⟨T18, L18, k18, n18⟩, -, X18, ⟨Lc18, hQ18, l18, y18, z18⟩, st18⟩ := X16.virtualBack hx (y := (⟨"java/lang/StringBuilder", "append", "(C)Ljava/lang/StringBuilder;"⟩ : MethodName)) (z := (⟨"java/lang/StringBuilder", "append", "(C)Ljava/lang/StringBuilder;"⟩ : MethodName)) hown (mvT hZ (hw _ (List.mem_of_getElem? (i := 95) rfl))) (mvT hZ (hw _ (List.mem_of_getElem? (i := 96) rfl))) (notFace_of_selects (args := #[]) (mvT hZ (hw _ (List.mem_of_getElem? (i := 98) rfl)))) (mvT hZ (hw _ (List.mem_of_getElem? (i := 98) rfl))) (mvT hZ (hw _ (List.mem_of_getElem? (i := 97) rfl))) (by decide) (backOf (W := 0) (rm15 l Z aV hw [] b1 (own_dig ((x1 >>> ((4 : Int32) &&& 31)) &&& (15 : Int32))) vb_3 kb_3 (6 : Int32) [(.int (((own_dig ((x0 >>> ((4 : Int32) &&& 31)) &&& (15 : Int32))).toInt8.toInt32).toInt8.toInt32)), (.int (((own_dig (x0 &&& (15 : Int32))).toInt8.toInt32).toInt8.toInt32)), (.int (((32 : Int32).toInt8.toInt32).toInt8.toInt32)), (.int (0 : Int32)), (.int (0 : Int32)), (.int (0 : Int32))] (3 : Int32) 3 cs T15.heap n0 zn15 E_b1 F_value_b1 F_coder_b1 F_count_b1 E_vb_3 V_vb_3 S_COMPACT_STRINGS g_b1 g_vb_3 ne_b1_vb_3 hcs (own_le255 _) (by decide) ⟨by decide, by decide⟩ rfl (Nat.le_of_ble_eq_true rfl)) hZ (hw _ (List.mem_of_getElem? (i := 99) rfl)) (hw _ (List.mem_of_getElem? (i := 7) rfl)) (by decide) (by decide)) q18a q18c (g := (mkF m 58 #[.val (.ref a0), .val (.ref b1), .val (.ref a0), .val (.int (2 : Int32)), .val (.int (1 : Int32)), .val (.int x1)] [(.int (own_dig ((x1 >>> ((4 : Int32) &&& 31)) &&& (15 : Int32)))), (.ref b1)])) rfl (by rw [hml]; rfl) (Steps.refl _) (argsL := [(.int (own_dig ((x1 >>> ((4 : Int32) &&& 31)) &&& (15 : Int32))))]) (rest := []) (lenOf pd__C_Ljava_lang_StringBuilder_ rfl) rfl (by show 2 * 0 + _ ≤ _; exact Nat.le_of_eq rfl) (hb hby d1_58) (fun _ _ => ⟨rfl, e16, (by decide : 2 + 0 ≤ _), (by decide : 10 + 0 ≤ _)⟩)
  dsimp only [Pt.U, Pt.locs, Pt.cells, Pt.slots] at X18 l18 y18 z18 st18 hQ18
  subst l18 y18 z18
  obtain ⟨rfl, N18q, Kq18, E_b1_p, F_value_b1_p, F_coder_b1_p, F_count_b1_p, E_vb_3_p, V_vb_3_p⟩ := hQ18
  have N18 := Fr.app N15 N18q
  have S_COMPACT_STRINGS := Sta.keepE S_COMPACT_STRINGS Kq18 (staS E_b1.cell (staS E_vb_3.cell (fun x hx' => nomatch hx')))
  have S_DIGITS := Sta.keepE S_DIGITS Kq18 (staS E_b1.cell (staS E_vb_3.cell (fun x hx' => nomatch hx')))
  have V_a0 := V_a0.keep Kq18 (ninS ne_a0_b1 (ninS ne_a0_vb_3 nin0))
  have V_ud := V_ud.keep Kq18 (ninS ne_ud_b1 (ninS ne_ud_vb_3 nin0))
  have E_b1 := E_b1.keep Kq18
  have E_vb_3 := E_vb_3.keep Kq18
  have K18 := K15.trans Kq18 (allS (P := fun x => x ∈ ([] : List Addr) ∨ h0.size ≤ x) (Or.inr sz_b1) (allS (P := fun x => x ∈ ([] : List Addr) ∨ h0.size ≤ x) (Or.inr sz_vb_3) all0))
  have zn18 : n0 ≤ T18.heap.size := Nat.le_trans zn15 Kq18.1
  have E_b1 := E_b1_p
  have F_value_b1 := F_value_b1_p
  have F_coder_b1 := F_coder_b1_p
  have F_count_b1 := F_count_b1_p
  have E_vb_3 := E_vb_3_p
  have V_vb_3 := V_vb_3_p
  refine OGo.go (B := T18.setTop (mkF m 61 #[.val (.ref a0), .val (.ref b1), .val (.ref a0), .val (.int (2 : Int32)), .val (.int (1 : Int32)), .val (.int x1)] [(.ref b1)])) ?_ (fun tX kX => st18.trans kX)
  have F_count_b1 : Fld Z T18.heap b1 "java/lang/AbstractStringBuilder" "count" "I" (.int (4 : Int32)) := F_count_b1
  have V_vb_3 : Arv Z T18.heap vb_3 kb_3 .byte (6 : Int32) [(.int (((own_dig ((x0 >>> ((4 : Int32) &&& 31)) &&& (15 : Int32))).toInt8.toInt32).toInt8.toInt32)), (.int (((own_dig (x0 &&& (15 : Int32))).toInt8.toInt32).toInt8.toInt32)), (.int (((32 : Int32).toInt8.toInt32).toInt8.toInt32)), (.int (((own_dig ((x1 >>> ((4 : Int32) &&& 31)) &&& (15 : Int32))).toInt8.toInt32).toInt8.toInt32)), (.int (0 : Int32)), (.int (0 : Int32))] (.int (0 : Int32)) := V_vb_3
  obtain ⟨T19, X19, e19, st19⟩ := getS2 X18 hx hZ hown (host := "") (Or.inl (hw _ (List.mem_of_getElem? (i := 93) rfl))) Via.refl rfl S_DIGITS (g := (mkF m 61 #[.val (.ref a0), .val (.ref b1), .val (.ref a0), .val (.int (2 : Int32)), .val (.int (1 : Int32)), .val (.int x1)] [(.ref b1)])) rfl (hb hby d1_61)
  refine OGo.go (B := T19.setTop (mkF m 64 #[.val (.ref a0), .val (.ref b1), .val (.ref a0), .val (.int (2 : Int32)), .val (.int (1 : Int32)), .val (.int x1)] [(.ref ud), (.ref b1)])) ?_ st19
  refine OGo.go (B := T19.setTop (mkF m 66 #[.val (.ref a0), .val (.ref b1), .val (.ref a0), .val (.int (2 : Int32)), .val (.int (1 : Int32)), .val (.int x1)] [(.int x1), (.ref ud), (.ref b1)])) ?_ (fun tX kX => XS.iload X19.here hx rfl (hb hby d1_64) rfl kX)
  refine OGo.go (B := T19.setTop (mkF m 68 #[.val (.ref a0), .val (.ref b1), .val (.ref a0), .val (.int (2 : Int32)), .val (.int (1 : Int32)), .val (.int x1)] [(.int (15 : Int32)), (.int x1), (.ref ud), (.ref b1)])) ?_ (fun tX kX => XS.bipush X19.here hx rfl (hb hby d1_66) kX)
  refine OGo.go (B := T19.setTop (mkF m 69 #[.val (.ref a0), .val (.ref b1), .val (.ref a0), .val (.int (2 : Int32)), .val (.int (1 : Int32)), .val (.int x1)] [(.int (x1 &&& (15 : Int32))), (.ref ud), (.ref b1)])) ?_ (fun tX kX => XS.iand X19.here hx rfl (hb hby d1_68) rfl kX)
  obtain ⟨cl20, Ar20, qa20, S20, N20', H20, G20⟩ := id V_ud
  have hin20 := inb_of (j := (x1 &&& (15 : Int32))) S20 (own_in16 _)
  have hat20 := H20.at (v := (.int (own_dig (x1 &&& (15 : Int32))))) hin20 (own_getD _)
  refine OGo.go (B := T19.setTop (mkF m 70 #[.val (.ref a0), .val (.ref b1), .val (.ref a0), .val (.int (2 : Int32)), .val (.int (1 : Int32)), .val (.int x1)] [(.int (own_dig (x1 &&& (15 : Int32)))), (.ref b1)])) ?_ (fun tX kX => X19.caload hx (j := (x1 &&& (15 : Int32))) (v := (.int (own_dig (x1 &&& (15 : Int32))))) (by rw [e19]; exact Ar20.1) (State.isArrayOf_alike hZ.alike Ar20.2.1) Ar20.2.2 hin20 hat20 (g := (mkF m 69 #[.val (.ref a0), .val (.ref b1), .val (.ref a0), .val (.int (2 : Int32)), .val (.int (1 : Int32)), .val (.int x1)] [(.int (x1 &&& (15 : Int32))), (.ref ud), (.ref b1)])) rfl rfl (hb hby d1_69) _ kX)
  obtain ⟨cq21, kq21, q21a, q21b, q21c⟩ := isOf hZ e19 E_b1
  obtain ⟨_, _, ⟨T21, L21, k21, n21⟩, -, X21, ⟨Lc21, hQ21, l21, y21, z21⟩, st21⟩ := X19.virtualBack hx (y := (⟨"java/lang/StringBuilder", "append", "(C)Ljava/lang/StringBuilder;"⟩ : MethodName)) (z := (⟨"java/lang/StringBuilder", "append", "(C)Ljava/lang/StringBuilder;"⟩ : MethodName)) hown (mvT hZ (hw _ (List.mem_of_getElem? (i := 95) rfl))) (mvT hZ (hw _ (List.mem_of_getElem? (i := 96) rfl))) (notFace_of_selects (args := #[]) (mvT hZ (hw _ (List.mem_of_getElem? (i := 98) rfl)))) (mvT hZ (hw _ (List.mem_of_getElem? (i := 98) rfl))) (mvT hZ (hw _ (List.mem_of_getElem? (i := 97) rfl))) (by decide) (backOf (W := 0) (rm15 l Z aV hw [] b1 (own_dig (x1 &&& (15 : Int32))) vb_3 kb_3 (6 : Int32) [(.int (((own_dig ((x0 >>> ((4 : Int32) &&& 31)) &&& (15 : Int32))).toInt8.toInt32).toInt8.toInt32)), (.int (((own_dig (x0 &&& (15 : Int32))).toInt8.toInt32).toInt8.toInt32)), (.int (((32 : Int32).toInt8.toInt32).toInt8.toInt32)), (.int (((own_dig ((x1 >>> ((4 : Int32) &&& 31)) &&& (15 : Int32))).toInt8.toInt32).toInt8.toInt32)), (.int (0 : Int32)), (.int (0 : Int32))] (4 : Int32) 4 cs T18.heap n0 zn18 E_b1 F_value_b1 F_coder_b1 F_count_b1 E_vb_3 V_vb_3 S_COMPACT_STRINGS g_b1 g_vb_3 ne_b1_vb_3 hcs (own_le255 _) (by decide) ⟨by decide, by decide⟩ rfl (Nat.le_of_ble_eq_true rfl)) hZ (hw _ (List.mem_of_getElem? (i := 99) rfl)) (hw _ (List.mem_of_getElem? (i := 7) rfl)) (by decide) (by decide)) q21a q21c (g := (mkF m 70 #[.val (.ref a0), .val (.ref b1), .val (.ref a0), .val (.int (2 : Int32)), .val (.int (1 : Int32)), .val (.int x1)] [(.int (own_dig (x1 &&& (15 : Int32)))), (.ref b1)])) rfl (by rw [hml]; rfl) (Steps.refl _) (argsL := [(.int (own_dig (x1 &&& (15 : Int32))))]) (rest := []) (lenOf pd__C_Ljava_lang_StringBuilder_ rfl) rfl (by show 2 * 0 + _ ≤ _; exact Nat.le_of_eq rfl) (hb hby d1_70) (fun _ _ => ⟨rfl, e19, (by decide : 2 + 0 ≤ _), (by decide : 10 + 0 ≤ _)⟩)
  dsimp only [Pt.U, Pt.locs, Pt.cells, Pt.slots] at X21 l21 y21 z21 st21 hQ21
  subst l21 y21 z21
  obtain ⟨rfl, N21q, Kq21, E_b1_p, F_value_b1_p, F_coder_b1_p, F_count_b1_p, E_vb_3_p, V_vb_3_p⟩ := hQ21
  have N21 := Fr.app N18 N21q
  have S_COMPACT_STRINGS := Sta.keepE S_COMPACT_STRINGS Kq21 (staS E_b1.cell (staS E_vb_3.cell (fun x hx' => nomatch hx')))
  have S_DIGITS := Sta.keepE S_DIGITS Kq21 (staS E_b1.cell (staS E_vb_3.cell (fun x hx' => nomatch hx')))
  have V_a0 := V_a0.keep Kq21 (ninS ne_a0_b1 (ninS ne_a0_vb_3 nin0))
  have V_ud := V_ud.keep Kq21 (ninS ne_ud_b1 (ninS ne_ud_vb_3 nin0))
  have E_b1 := E_b1.keep Kq21
  have E_vb_3 := E_vb_3.keep Kq21
  have K21 := K18.trans Kq21 (allS (P := fun x => x ∈ ([] : List Addr) ∨ h0.size ≤ x) (Or.inr sz_b1) (allS (P := fun x => x ∈ ([] : List Addr) ∨ h0.size ≤ x) (Or.inr sz_vb_3) all0))
  have zn21 : n0 ≤ T21.heap.size := Nat.le_trans zn18 Kq21.1
  have E_b1 := E_b1_p
  have F_value_b1 := F_value_b1_p
  have F_coder_b1 := F_coder_b1_p
  have F_count_b1 := F_count_b1_p
  have E_vb_3 := E_vb_3_p
  have V_vb_3 := V_vb_3_p
  refine OGo.go (B := T21.setTop (mkF m 73 #[.val (.ref a0), .val (.ref b1), .val (.ref a0), .val (.int (2 : Int32)), .val (.int (1 : Int32)), .val (.int x1)] [(.ref b1)])) ?_ (fun tX kX => st21.trans kX)
  have F_count_b1 : Fld Z T21.heap b1 "java/lang/AbstractStringBuilder" "count" "I" (.int (5 : Int32)) := F_count_b1
  have V_vb_3 : Arv Z T21.heap vb_3 kb_3 .byte (6 : Int32) [(.int (((own_dig ((x0 >>> ((4 : Int32) &&& 31)) &&& (15 : Int32))).toInt8.toInt32).toInt8.toInt32)), (.int (((own_dig (x0 &&& (15 : Int32))).toInt8.toInt32).toInt8.toInt32)), (.int (((32 : Int32).toInt8.toInt32).toInt8.toInt32)), (.int (((own_dig ((x1 >>> ((4 : Int32) &&& 31)) &&& (15 : Int32))).toInt8.toInt32).toInt8.toInt32)), (.int (((own_dig (x1 &&& (15 : Int32))).toInt8.toInt32).toInt8.toInt32)), (.int (0 : Int32))] (.int (0 : Int32)) := V_vb_3
  refine OGo.go (B := T21.setTop (mkF m 74 #[.val (.ref a0), .val (.ref b1), .val (.ref a0), .val (.int (2 : Int32)), .val (.int (1 : Int32)), .val (.int x1)] [])) ?_ (fun tX kX => XS.pop X21.here hx rfl (hb hby d1_73) rfl rfl kX)
  refine OGo.go (B := T21.setTop (mkF m 77 #[.val (.ref a0), .val (.ref b1), .val (.ref a0), .val (.int (2 : Int32)), .val (.int (2 : Int32)), .val (.int x1)] [])) ?_ (fun tX kX => XS.iinc X21.here hx rfl (hb hby d1_74) rfl (l' := #[.val (.ref a0), .val (.ref b1), .val (.ref a0), .val (.int (2 : Int32)), .val (.int (2 : Int32)), .val (.int x1)]) rfl kX)
  refine OGo.go (B := T21.setTop (mkF m 20 #[.val (.ref a0), .val (.ref b1), .val (.ref a0), .val (.int (2 : Int32)), .val (.int (2 : Int32)), .val (.int x1)] [])) ?_ (fun tX kX => XS.goto X21.here hx rfl (pc0 := 77) (pc' := 20) rfl (hb hby d1_77) (by decide) (by decide) kX)
  refine OGo.go (B := T21.setTop (mkF m 22 #[.val (.ref a0), .val (.ref b1), .val (.ref a0), .val (.int (2 : Int32)), .val (.int (2 : Int32)), .val (.int x1)] [(.int (2 : Int32))])) ?_ (fun tX kX => XS.iload X21.here hx rfl (hb hby d1_20) rfl kX)
  refine OGo.go (B := T21.setTop (mkF m 23 #[.val (.ref a0), .val (.ref b1), .val (.ref a0), .val (.int (2 : Int32)), .val (.int (2 : Int32)), .val (.int x1)] [(.int (2 : Int32)), (.int (2 : Int32))])) ?_ (fun tX kX => XS.iloadN X21.here hx rfl (hb hby d1_22) rfl kX)
  refine OGo.go (B := T21.setTop (mkF m 80 #[.val (.ref a0), .val (.ref b1), .val (.ref a0), .val (.int (2 : Int32)), .val (.int (2 : Int32)), .val (.int x1)] [])) ?_ (fun tX kX => XS.icmpYes X21.here hx rfl (pc0 := 23) (pc' := 80) rfl (hb hby d1_23) rfl (flt (by decide)).2.1 (by decide) (by decide) kX)
  refine OGo.go (B := T21.setTop (mkF m 81 #[.val (.ref a0), .val (.ref b1), .val (.ref a0), .val (.int (2 : Int32)), .val (.int (2 : Int32)), .val (.int x1)] [(.ref b1)])) ?_ (fun tX kX => XS.aloadN X21.here hx rfl (hb hby d1_80) rfl rfl kX)
  obtain ⟨cq22, kq22, q22a, q22b, q22c⟩ := isOf hZ rfl E_b1
  obtain ⟨_, _, ⟨T22, L22, k22, n22⟩, -, X22, ⟨Lc22, hQ22, l22, y22, z22⟩, st22⟩ := X21.virtualBack hx (y := (⟨"java/lang/StringBuilder", "toString", "()Ljava/lang/String;"⟩ : MethodName)) (z := (⟨"java/lang/StringBuilder", "toString", "()Ljava/lang/String;"⟩ : MethodName)) hown (mvT hZ (hw _ (List.mem_of_getElem? (i := 26) rfl))) (mvT hZ (hw _ (List.mem_of_getElem? (i := 27) rfl))) (notFace_of_selects (args := #[]) (mvT hZ (hw _ (List.mem_of_getElem? (i := 29) rfl)))) (mvT hZ (hw _ (List.mem_of_getElem? (i := 29) rfl))) (mvT hZ (hw _ (List.mem_of_getElem? (i := 28) rfl))) (by decide) (backOf (W := 0) (rm5c2 l Z aV hw [] b1 vb_3 kb_3 cs (((own_dig ((x0 >>> ((4 : Int32) &&& 31)) &&& (15 : Int32))).toInt8.toInt32).toInt8.toInt32) (((own_dig (x0 &&& (15 : Int32))).toInt8.toInt32).toInt8.toInt32) (((32 : Int32).toInt8.toInt32).toInt8.toInt32) (((own_dig ((x1 >>> ((4 : Int32) &&& 31)) &&& (15 : Int32))).toInt8.toInt32).toInt8.toInt32) (((own_dig (x1 &&& (15 : Int32))).toInt8.toInt32).toInt8.toInt32) T21.heap n0 zn21 E_b1 F_value_b1 F_coder_b1 F_count_b1 E_vb_3 V_vb_3 S_COMPACT_STRINGS hcs) hZ (hw _ (List.mem_of_getElem? (i := 30) rfl)) (hw _ (List.mem_of_getElem? (i := 7) rfl)) (by decide) (by decide)) q22a q22c (g := (mkF m 81 #[.val (.ref a0), .val (.ref b1), .val (.ref a0), .val (.int (2 : Int32)), .val (.int (2 : Int32)), .val (.int x1)] [(.ref b1)])) rfl (by rw [hml]; rfl) (Steps.refl _) (argsL := []) (rest := []) (lenOf pd___Ljava_lang_String_ rfl) rfl (by show 2 * 0 + _ ≤ _; exact Nat.le_of_eq rfl) (hb hby d1_81) (fun _ _ => ⟨rfl, rfl, (by decide : 2 + 2 ≤ _), (by decide : 10 + 9 ≤ _)⟩)
  dsimp only [Pt.U, Pt.locs, Pt.cells, Pt.slots] at X22 l22 y22 z22 st22 hQ22
  subst l22 y22 z22
  obtain ⟨sr_22, nb_22, kn_22, rfl, N22q, Kq22, sz22_sr, sz22_nb, E_sr_22_p, F_value_sr_22_p, F_coder_sr_22_p, E_nb_22_p, V_nb_22_p⟩ := hQ22
  have N22 := Fr.app N21 N22q
  have ne_a0_sr_22 : a0 ≠ sr_22 := Nat.ne_of_lt (Nat.lt_of_lt_of_le V_a0.lt sz22_sr)
  have ne_ud_sr_22 : ud ≠ sr_22 := Nat.ne_of_lt (Nat.lt_of_lt_of_le V_ud.lt sz22_sr)
  have ne_b1_sr_22 : b1 ≠ sr_22 := Nat.ne_of_lt (Nat.lt_of_lt_of_le E_b1.lt sz22_sr)
  have ne_vb_3_sr_22 : vb_3 ≠ sr_22 := Nat.ne_of_lt (Nat.lt_of_lt_of_le E_vb_3.lt sz22_sr)
  have ne_a0_nb_22 : a0 ≠ nb_22 := Nat.ne_of_lt (Nat.lt_of_lt_of_le V_a0.lt sz22_nb)
  have ne_ud_nb_22 : ud ≠ nb_22 := Nat.ne_of_lt (Nat.lt_of_lt_of_le V_ud.lt sz22_nb)
  have ne_b1_nb_22 : b1 ≠ nb_22 := Nat.ne_of_lt (Nat.lt_of_lt_of_le E_b1.lt sz22_nb)
  have ne_vb_3_nb_22 : vb_3 ≠ nb_22 := Nat.ne_of_lt (Nat.lt_of_lt_of_le E_vb_3.lt sz22_nb)
  have S_COMPACT_STRINGS := Sta.keep0 S_COMPACT_STRINGS Kq22
  have S_DIGITS := Sta.keep0 S_DIGITS Kq22
  have V_a0 := V_a0.keep Kq22 nin0
  have V_ud := V_ud.keep Kq22 nin0
  have E_b1 := E_b1.keep Kq22
  have E_vb_3 := E_vb_3.keep Kq22
  have F_value_b1 := F_value_b1.keep Kq22 nin0
  have F_coder_b1 := F_coder_b1.keep Kq22 nin0
  have F_count_b1 := F_count_b1.keep Kq22 nin0
  have V_vb_3 := V_vb_3.keep Kq22 nin0
  have g_sr_22 : n0 ≤ sr_22 := Nat.le_trans zn21 sz22_sr
  have sz_sr_22 : h0.size ≤ sr_22 := Nat.le_trans K21.1 sz22_sr
  have g_nb_22 : n0 ≤ nb_22 := Nat.le_trans zn21 sz22_nb
  have sz_nb_22 : h0.size ≤ nb_22 := Nat.le_trans K21.1 sz22_nb
  have K22 := K21.trans Kq22 all0
  have zn22 : n0 ≤ T22.heap.size := Nat.le_trans zn21 Kq22.1
  have E_sr_22 := E_sr_22_p
  have F_value_sr_22 := F_value_sr_22_p
  have F_coder_sr_22 := F_coder_sr_22_p
  have E_nb_22 := E_nb_22_p
  have V_nb_22 := V_nb_22_p
  refine OGo.go (B := T22.setTop (mkF m 84 #[.val (.ref a0), .val (.ref b1), .val (.ref a0), .val (.int (2 : Int32)), .val (.int (2 : Int32)), .val (.int x1)] [(.ref sr_22)])) ?_ (fun tX kX => st22.trans kX)
  refine OGo.ret X22 (v := (some (.ref sr_22))) (fun h => by rw [Bd.returns] at h; cases h) (BodyLoose.notSynchronized Bd) (fun fs hr => retOut X22 hx Bd.returns rfl (Or.inr (Or.inr (Or.inr (Or.inr ⟨rfl, rfl, rfl⟩)))) (hb hby d1_84) hr) (Q := Q1n2 Z a0 kb cs ud kd x0 x1 h0 n0) ?_ (by decide) (by decide)
  show Q1n2 Z a0 kb cs ud kd x0 x1 h0 n0 _ T22.heap _
  exact ⟨sr_22, nb_22, kn_22, rfl, N22, K22, sz_sr_22, sz_nb_22, E_sr_22, F_value_sr_22, F_coder_sr_22, E_nb_22, V_nb_22⟩
def Q1n3 (Z : State) (a0 : Addr) (kb : ClassId) (cs : Int32) (ud : Addr) (kd : ClassId) (x0 : Int32) (x1 : Int32) (x2 : Int32) (h0 : Heap) (n0 : Nat) (v : Option Value) (h : Heap) (L : List Loc) : Prop := ∃ (sr : Addr) (nb : Addr) (kn : ClassId), v = some (.ref sr) ∧ Fr n0 L ∧ Keep h0 h [] ∧ h0.size ≤ sr ∧ h0.size ≤ nb ∧ Exa Z h sr "java/lang/String" ∧ Fld Z h sr "java/lang/String" "value" "[B" (.ref nb) ∧ Fld Z h sr "java/lang/String" "coder" "B" (.int (0 : Int32)) ∧ Exa Z h nb "[B" ∧ Arv Z h nb kn .byte (8 : Int32) [(.int (((own_dig ((x0 >>> ((4 : Int32) &&& 31)) &&& (15 : Int32))).toInt8.toInt32).toInt8.toInt32)), (.int (((own_dig (x0 &&& (15 : Int32))).toInt8.toInt32).toInt8.toInt32)), (.int (((32 : Int32).toInt8.toInt32).toInt8.toInt32)), (.int (((own_dig ((x1 >>> ((4 : Int32) &&& 31)) &&& (15 : Int32))).toInt8.toInt32).toInt8.toInt32)), (.int (((own_dig (x1 &&& (15 : Int32))).toInt8.toInt32).toInt8.toInt32)), (.int (((32 : Int32).toInt8.toInt32).toInt8.toInt32)), (.int (((own_dig ((x2 >>> ((4 : Int32) &&& 31)) &&& (15 : Int32))).toInt8.toInt32).toInt8.toInt32)), (.int (((own_dig (x2 &&& (15 : Int32))).toInt8.toInt32).toInt8.toInt32))] (.int (0 : Int32))
def P1n3 (Z : State) (a0 : Addr) (kb : ClassId) (cs : Int32) (ud : Addr) (kd : ClassId) (x0 : Int32) (x1 : Int32) (x2 : Int32) (h0 : Heap) (n0 : Nat) (s : State) (o : Outcome) (U' : State) : Prop := ∃ v L, o = .returned v ∧ Q1n3 Z a0 kb cs ud kd x0 x1 x2 h0 n0 v U'.heap L ∧ FrameEnd s o U' L ({ frames := 6, cells := 4, slots := 25, locals := 99 } : Room).cells ({ frames := 6, cells := 4, slots := 25, locals := 99 } : Room).slots
set_option maxRecDepth 65536 in
set_option maxHeartbeats 40000000 in
theorem rm1n3 (l : Launch) (Z : State) (aV : Array Value) (hw : ∀ d ∈ tables_1, d.before aV Z = true) (ws : List Jvm.Cond) (a0 : Addr) (kb : ClassId) (cs : Int32) (ud : Addr) (kd : ClassId) (x0 : Int32) (x1 : Int32) (x2 : Int32) (h0 : Heap) (n0 : Nat) (Z0 : n0 ≤ h0.size) (V_a0 : Arv Z h0 a0 kb .byte (3 : Int32) [(.int x0), (.int x1), (.int x2)] (.int (0 : Int32))) (S_COMPACT_STRINGS : Sta Z h0 "java/lang/String" "COMPACT_STRINGS" "Z" (.int cs)) (S_DIGITS : Sta Z h0 "com/example/cartouche/cartouche/host/Hex" "DIGITS" "[C" (.ref ud)) (V_ud : Arv Z h0 ud kd .char (16 : Int32) own_D (.int (0 : Int32))) (hcs : ¬ cs = 0) :
    MetFree l (⟨"com/example/cartouche/cartouche/host/Hex", "format", "([B)Ljava/lang/String;"⟩ : MethodName) (head1 (Jvm.Cond.code (⟨"com/example/cartouche/cartouche/host/Hex", "format", "([B)Ljava/lang/String;"⟩ : MethodName) prog_1_method_2_code 6 (some (.object "java/lang/String")) :: ws) ({ frames := 6, cells := 4, slots := 25, locals := 99 } : Room)) (fun a U => a = #[(.ref a0)] ∧ Z.Warmed39 U.vm ∧ U.heap = h0) (fun _ _ _ _ _ => True) (fun _ U o U' => ∃ v L, o = .returned v ∧ Q1n3 Z a0 kb cs ud kd x0 x1 x2 h0 n0 v U'.heap L ∧ FrameEnd U o U' L ({ frames := 6, cells := 4, slots := 25, locals := 99 } : Room).cells ({ frames := 6, cells := 4, slots := 25, locals := 99 } : Room).slots) := by
  refine MetFree.of_bodySF (plainFor_of_name pn_com_example_cartouche_cartouche_host_Hex) hisR ?_
  intro p e s m args below meth c s₁ Bd hml0 hP hK
  obtain ⟨rfl, hZ, hh⟩ := hP
  have hx := Bd.exec
  have hby := Bd.bytes
  have hml : c.maxLocals = 6 := hml0
  have hown : s.vm.findClass "com/example/cartouche/cartouche/host/Hex" = some m.cls := findClass_of_methodNamed Bd.named
  have hnm := (name_of_methodNamed Bd.named Bd.method).1
  have X0 : Stand p l e ({ frames := 6, cells := 4, slots := 25, locals := 99 } : Room) s m #[(.ref a0)] below meth c s₁ [] 0 0 := Stand.of_body Bd
  have e0 : s₁.heap = h0 := by rw [← hh, Bd.state]; rfl
  have efx : entryFrame m #[(.ref a0)] 6 = mkF m 0 #[.val (.ref a0), .unset, .unset, .unset, .unset, .unset] [] := by first | (simp [entryFrame, mkF, argsToLocals, Value.category]; done) | rfl
  have N0 := Fr.nil n0
  have K0 : Keep h0 h0 [] := Keep.refl h0 _
  refine OGo.start (g' := mkF m 0 #[.val (.ref a0), .unset, .unset, .unset, .unset, .unset] []) (efx) ?_
  show OGo p.tables e below (P1n3 Z a0 kb cs ud kd x0 x1 x2 h0 n0 s) (s₁.setTop (mkF m 0 #[.val (.ref a0), .unset, .unset, .unset, .unset, .unset] []))
  obtain ⟨T1, h1, X1, e1, E1, A1, D1, C1, st1⟩ := newO X0 hx hZ hown (hw _ (List.mem_of_getElem? (i := 5) rfl)) (hw _ (List.mem_of_getElem? (i := 6) rfl)) (hw _ (List.mem_of_getElem? (i := 7) rfl)) e0 (g := (mkF m 0 #[.val (.ref a0), .unset, .unset, .unset, .unset, .unset] [])) rfl (hb hby d1_0) (by decide) (by decide)
  obtain ⟨b1, g1⟩ : ∃ z, z = h0.size := ⟨_, rfl⟩
  rw [← g1] at A1 D1 st1 C1
  have ne_a0_b1 : a0 ≠ b1 := Nat.ne_of_lt (Nat.lt_of_lt_of_le V_a0.lt (Nat.le_of_eq g1.symm))
  have ne_ud_b1 : ud ≠ b1 := Nat.ne_of_lt (Nat.lt_of_lt_of_le V_ud.lt (Nat.le_of_eq g1.symm))
  have V_a0 := V_a0.ext E1
  have S_COMPACT_STRINGS := S_COMPACT_STRINGS.ext E1
  have S_DIGITS := S_DIGITS.ext E1
  have V_ud := V_ud.ext E1
  have g_b1 : n0 ≤ b1 := Nat.le_trans Z0 (Nat.le_of_eq g1.symm)
  have sz_b1 : h0.size ≤ b1 := Nat.le_trans K0.1 (Nat.le_of_eq g1.symm)
  have zn1 : n0 ≤ h1.size := Nat.le_trans Z0 E1.1
  have K1 := K0.ext E1
  have E_b1 := A1
  have F_value_b1 : Fld Z h1 b1 "java/lang/AbstractStringBuilder" "value" "[B" .null := D1 (Or.inl (hw _ (List.mem_of_getElem? (i := 23) rfl))) (ty := (.array .byte)) (by decide)
  have F_coder_b1 : Fld Z h1 b1 "java/lang/AbstractStringBuilder" "coder" "B" (.int (0 : Int32)) := D1 (Or.inl (hw _ (List.mem_of_getElem? (i := 25) rfl))) (ty := .byte) (by decide)
  have F_count_b1 : Fld Z h1 b1 "java/lang/AbstractStringBuilder" "count" "I" (.int (0 : Int32)) := D1 (Or.inl (hw _ (List.mem_of_getElem? (i := 56) rfl))) (ty := .int) (by decide)
  refine OGo.go (B := T1.setTop (mkF m 3 #[.val (.ref a0), .unset, .unset, .unset, .unset, .unset] [(.ref b1)])) ?_ st1
  refine OGo.go (B := T1.setTop (mkF m 4 #[.val (.ref a0), .unset, .unset, .unset, .unset, .unset] [(.ref b1), (.ref b1)])) ?_ (fun tX kX => XS.dup X1.here hx rfl (hb hby d1_3) rfl rfl kX)
  refine OGo.go (B := T1.setTop (mkF m 5 #[.val (.ref a0), .unset, .unset, .unset, .unset, .unset] [(.ref a0), (.ref b1), (.ref b1)])) ?_ (fun tX kX => XS.aloadN X1.here hx rfl (hb hby d1_4) rfl rfl kX)
  obtain ⟨cl2, Ar2, qa2, S2, N2', H2, G2⟩ := id V_a0
  refine OGo.go (B := T1.setTop (mkF m 6 #[.val (.ref a0), .unset, .unset, .unset, .unset, .unset] [(.int (3 : Int32)), (.ref b1), (.ref b1)])) ?_ (fun tX kX => X1.arraylength hx (by rw [e1]; exact Ar2.1) (State.isArrayOf_alike hZ.alike Ar2.2.1) (g := (mkF m 5 #[.val (.ref a0), .unset, .unset, .unset, .unset, .unset] [(.ref a0), (.ref b1), (.ref b1)])) rfl rfl (hb hby d1_5) _ (by rw [len_of S2 N2']; exact kX))
  refine OGo.go (B := T1.setTop (mkF m 7 #[.val (.ref a0), .unset, .unset, .unset, .unset, .unset] [(.int (3 : Int32)), (.int (3 : Int32)), (.ref b1), (.ref b1)])) ?_ (fun tX kX => XS.iconst X1.here hx rfl (hb hby d1_6) kX)
  refine OGo.go (B := T1.setTop (mkF m 8 #[.val (.ref a0), .unset, .unset, .unset, .unset, .unset] [(.int (9 : Int32)), (.ref b1), (.ref b1)])) ?_ (fun tX kX => XS.imul X1.here hx rfl (hb hby d1_7) rfl kX)
  obtain ⟨_, _, ⟨T3, L3, k3, n3⟩, -, X3, ⟨Lc3, hQ3, l3, y3, z3⟩, st3⟩ := X1.specialBack hx (y := (⟨"java/lang/StringBuilder", "<init>", "(I)V"⟩ : MethodName)) rfl hown (mvT hZ (hw _ (List.mem_of_getElem? (i := 8) rfl))) (mvT hZ (hw _ (List.mem_of_getElem? (i := 9) rfl))) (mvT hZ (hw _ (List.mem_of_getElem? (i := 10) rfl))) (by decide) (backOf (W := 1) (rm2n9 l Z aV hw [] b1 .null (.int (0 : Int32)) cs h1 n0 zn1 E_b1 F_value_b1 F_coder_b1 F_count_b1 S_COMPACT_STRINGS g_b1 hcs) hZ (hw _ (List.mem_of_getElem? (i := 10) rfl)) (hw _ (List.mem_of_getElem? (i := 7) rfl)) (by decide) (by decide)) (g := (mkF m 8 #[.val (.ref a0), .unset, .unset, .unset, .unset, .unset] [(.int (9 : Int32)), (.ref b1), (.ref b1)])) rfl (by rw [hml]; rfl) (Steps.refl _) (a := b1) (argsL := [(.int (9 : Int32))]) (rest := [(.ref b1)]) (lenOf pd__I_V rfl) rfl (by show 2 * 0 + _ ≤ _; exact Nat.le_of_eq rfl) (hb hby d1_8) (fun _ _ => ⟨rfl, e1, (by decide : 1 + 1 ≤ _), (by decide : 4 + 9 ≤ _)⟩)
  dsimp only [Pt.U, Pt.locs, Pt.cells, Pt.slots] at X3 l3 y3 z3 st3 hQ3
  subst l3 y3 z3
  obtain ⟨vb_3, kb_3, rfl, N3q, Kq3, sz3_vb, E_b1_p, F_value_b1_p, F_coder_b1_p, F_count_b1_p, E_vb_3_p, V_vb_3_p⟩ := hQ3
  have N3 := Fr.app N0 N3q
  have ne_a0_vb_3 : a0 ≠ vb_3 := Nat.ne_of_lt (Nat.lt_of_lt_of_le V_a0.lt sz3_vb)
  have ne_ud_vb_3 : ud ≠ vb_3 := Nat.ne_of_lt (Nat.lt_of_lt_of_le V_ud.lt sz3_vb)
  have ne_b1_vb_3 : b1 ≠ vb_3 := Nat.ne_of_lt (Nat.lt_of_lt_of_le E_b1.lt sz3_vb)
  have S_COMPACT_STRINGS := Sta.keepE S_COMPACT_STRINGS Kq3 (staS E_b1.cell (fun x hx' => nomatch hx'))
  have S_DIGITS := Sta.keepE S_DIGITS Kq3 (staS E_b1.cell (fun x hx' => nomatch hx'))
  have V_a0 := V_a0.keep Kq3 (ninS ne_a0_b1 nin0)
  have V_ud := V_ud.keep Kq3 (ninS ne_ud_b1 nin0)
  have E_b1 := E_b1.keep Kq3
  have g_vb_3 : n0 ≤ vb_3 := Nat.le_trans zn1 sz3_vb
  have sz_vb_3 : h0.size ≤ vb_3 := Nat.le_trans K1.1 sz3_vb
  have K3 := K1.trans Kq3 (allS (P := fun x => x ∈ ([] : List Addr) ∨ h0.size ≤ x) (Or.inr sz_b1) all0)
  have zn3 : n0 ≤ T3.heap.size := Nat.le_trans zn1 Kq3.1
  have E_b1 := E_b1_p
  have F_value_b1 := F_value_b1_p
  have F_coder_b1 := F_coder_b1_p
  have F_count_b1 := F_count_b1_p
  have E_vb_3 := E_vb_3_p
  have V_vb_3 := V_vb_3_p
  refine OGo.go (B := T3.setTop (mkF m 11 #[.val (.ref a0), .unset, .unset, .unset, .unset, .unset] [(.ref b1)])) ?_ (fun tX kX => st3.trans kX)
  refine OGo.go (B := T3.setTop (mkF m 12 #[.val (.ref a0), .val (.ref b1), .unset, .unset, .unset, .unset] [])) ?_ (fun tX kX => XS.astoreN X3.here hx rfl (hb hby d1_11) rfl rfl (l' := #[.val (.ref a0), .val (.ref b1), .unset, .unset, .unset, .unset]) rfl kX)
  refine OGo.go (B := T3.setTop (mkF m 13 #[.val (.ref a0), .val (.ref b1), .unset, .unset, .unset, .unset] [(.ref a0)])) ?_ (fun tX kX => XS.aloadN X3.here hx rfl (hb hby d1_12) rfl rfl kX)
  refine OGo.go (B := T3.setTop (mkF m 14 #[.val (.ref a0), .val (.ref b1), .val (.ref a0), .unset, .unset, .unset] [])) ?_ (fun tX kX => XS.astoreN X3.here hx rfl (hb hby d1_13) rfl rfl (l' := #[.val (.ref a0), .val (.ref b1), .val (.ref a0), .unset, .unset, .unset]) rfl kX)
  refine OGo.go (B := T3.setTop (mkF m 15 #[.val (.ref a0), .val (.ref b1), .val (.ref a0), .unset, .unset, .unset] [(.ref a0)])) ?_ (fun tX kX => XS.aloadN X3.here hx rfl (hb hby d1_14) rfl rfl kX)
  obtain ⟨cl4, Ar4, qa4, S4, N4', H4, G4⟩ := id V_a0
  refine OGo.go (B := T3.setTop (mkF m 16 #[.val (.ref a0), .val (.ref b1), .val (.ref a0), .unset, .unset, .unset] [(.int (3 : Int32))])) ?_ (fun tX kX => X3.arraylength hx Ar4.1 (State.isArrayOf_alike hZ.alike Ar4.2.1) (g := (mkF m 15 #[.val (.ref a0), .val (.ref b1), .val (.ref a0), .unset, .unset, .unset] [(.ref a0)])) rfl rfl (hb hby d1_15) _ (by rw [len_of S4 N4']; exact kX))
  refine OGo.go (B := T3.setTop (mkF m 17 #[.val (.ref a0), .val (.ref b1), .val (.ref a0), .val (.int (3 : Int32)), .unset, .unset] [])) ?_ (fun tX kX => XS.istoreN X3.here hx rfl (hb hby d1_16) rfl (l' := #[.val (.ref a0), .val (.ref b1), .val (.ref a0), .val (.int (3 : Int32)), .unset, .unset]) rfl kX)
  refine OGo.go (B := T3.setTop (mkF m 18 #[.val (.ref a0), .val (.ref b1), .val (.ref a0), .val (.int (3 : Int32)), .unset, .unset] [(.int (0 : Int32))])) ?_ (fun tX kX => XS.iconst X3.here hx rfl (hb hby d1_17) kX)
  refine OGo.go (B := T3.setTop (mkF m 20 #[.val (.ref a0), .val (.ref b1), .val (.ref a0), .val (.int (3 : Int32)), .val (.int (0 : Int32)), .unset] [])) ?_ (fun tX kX => XS.istore X3.here hx rfl (hb hby d1_18) rfl (l' := #[.val (.ref a0), .val (.ref b1), .val (.ref a0), .val (.int (3 : Int32)), .val (.int (0 : Int32)), .unset]) rfl kX)
  refine OGo.go (B := T3.setTop (mkF m 22 #[.val (.ref a0), .val (.ref b1), .val (.ref a0), .val (.int (3 : Int32)), .val (.int (0 : Int32)), .unset] [(.int (0 : Int32))])) ?_ (fun tX kX => XS.iload X3.here hx rfl (hb hby d1_20) rfl kX)
  refine OGo.go (B := T3.setTop (mkF m 23 #[.val (.ref a0), .val (.ref b1), .val (.ref a0), .val (.int (3 : Int32)), .val (.int (0 : Int32)), .unset] [(.int (3 : Int32)), (.int (0 : Int32))])) ?_ (fun tX kX => XS.iloadN X3.here hx rfl (hb hby d1_22) rfl kX)
  refine OGo.go (B := T3.setTop (mkF m 26 #[.val (.ref a0), .val (.ref b1), .val (.ref a0), .val (.int (3 : Int32)), .val (.int (0 : Int32)), .unset] [])) ?_ (fun tX kX => XS.icmpNo X3.here hx rfl (hb hby d1_23) rfl (tlt (by decide)).2.1 kX)
  refine OGo.go (B := T3.setTop (mkF m 27 #[.val (.ref a0), .val (.ref b1), .val (.ref a0), .val (.int (3 : Int32)), .val (.int (0 : Int32)), .unset] [(.ref a0)])) ?_ (fun tX kX => XS.aloadN X3.here hx rfl (hb hby d1_26) rfl rfl kX)
  refine OGo.go (B := T3.setTop (mkF m 29 #[.val (.ref a0), .val (.ref b1), .val (.ref a0), .val (.int (3 : Int32)), .val (.int (0 : Int32)), .unset] [(.int (0 : Int32)), (.ref a0)])) ?_ (fun tX kX => XS.iload X3.here hx rfl (hb hby d1_27) rfl kX)
  obtain ⟨cl5, Ar5, qa5, S5, N5', H5, G5⟩ := id V_a0
  have hin5 := inb_of (j := (0 : Int32)) S5 ⟨by decide, by decide⟩
  have hat5 := H5.at (v := (.int x0)) hin5 rfl
  refine OGo.go (B := T3.setTop (mkF m 30 #[.val (.ref a0), .val (.ref b1), .val (.ref a0), .val (.int (3 : Int32)), .val (.int (0 : Int32)), .unset] [(.int x0)])) ?_ (fun tX kX => X3.baloadBytes hx (j := (0 : Int32)) (v := (.int x0)) Ar5.1 (State.isArrayOf_alike hZ.alike Ar5.2.1) Ar5.2.2 hin5 hat5 (g := (mkF m 29 #[.val (.ref a0), .val (.ref b1), .val (.ref a0), .val (.int (3 : Int32)), .val (.int (0 : Int32)), .unset] [(.int (0 : Int32)), (.ref a0)])) rfl rfl (hb hby d1_29) _ kX)
  refine OGo.go (B := T3.setTop (mkF m 32 #[.val (.ref a0), .val (.ref b1), .val (.ref a0), .val (.int (3 : Int32)), .val (.int (0 : Int32)), .val (.int x0)] [])) ?_ (fun tX kX => XS.istore X3.here hx rfl (hb hby d1_30) rfl (l' := #[.val (.ref a0), .val (.ref b1), .val (.ref a0), .val (.int (3 : Int32)), .val (.int (0 : Int32)), .val (.int x0)]) rfl kX)
  refine OGo.go (B := T3.setTop (mkF m 33 #[.val (.ref a0), .val (.ref b1), .val (.ref a0), .val (.int (3 : Int32)), .val (.int (0 : Int32)), .val (.int x0)] [(.ref b1)])) ?_ (fun tX kX => XS.aloadN X3.here hx rfl (hb hby d1_32) rfl rfl kX)
  obtain ⟨cq6, kq6, q6a, q6b, q6c⟩ := isOf hZ rfl E_b1
  obtain ⟨_, _, ⟨T6, L6, k6, n6⟩, -, X6, ⟨Lc6, hQ6, l6, y6, z6⟩, st6⟩ := X3.virtualBack hx (y := (⟨"java/lang/StringBuilder", "length", "()I"⟩ : MethodName)) (z := (⟨"java/lang/StringBuilder", "length", "()I"⟩ : MethodName)) hown (mvT hZ (hw _ (List.mem_of_getElem? (i := 90) rfl))) (mvT hZ (hw _ (List.mem_of_getElem? (i := 91) rfl))) (notFace_of_selects (args := #[]) (mvT hZ (hw _ (List.mem_of_getElem? (i := 92) rfl)))) (mvT hZ (hw _ (List.mem_of_getElem? (i := 92) rfl))) (mvT hZ (hw _ (List.mem_of_getElem? (i := 50) rfl))) (by decide) (backOf (W := 0) (rm9 l Z aV hw [] b1 (0 : Int32) T3.heap n0 zn3 E_b1 F_count_b1) hZ (hw _ (List.mem_of_getElem? (i := 51) rfl)) (hw _ (List.mem_of_getElem? (i := 7) rfl)) (by decide) (by decide)) q6a q6c (g := (mkF m 33 #[.val (.ref a0), .val (.ref b1), .val (.ref a0), .val (.int (3 : Int32)), .val (.int (0 : Int32)), .val (.int x0)] [(.ref b1)])) rfl (by rw [hml]; rfl) (Steps.refl _) (argsL := []) (rest := []) (lenOf pd___I rfl) rfl (by show 2 * 0 + _ ≤ _; exact Nat.le_of_eq rfl) (hb hby d1_33) (fun _ _ => ⟨rfl, rfl, (by decide : 2 + 0 ≤ _), (by decide : 13 + 0 ≤ _)⟩)
  dsimp only [Pt.U, Pt.locs, Pt.cells, Pt.slots] at X6 l6 y6 z6 st6 hQ6
  subst l6 y6 z6
  obtain ⟨rfl, N6q, e6⟩ := hQ6
  have N6 := Fr.app N3 N6q
  refine OGo.go (B := T6.setTop (mkF m 36 #[.val (.ref a0), .val (.ref b1), .val (.ref a0), .val (.int (3 : Int32)), .val (.int (0 : Int32)), .val (.int x0)] [(.int (0 : Int32))])) ?_ (fun tX kX => st6.trans kX)
  refine OGo.go (B := T6.setTop (mkF m 46 #[.val (.ref a0), .val (.ref b1), .val (.ref a0), .val (.int (3 : Int32)), .val (.int (0 : Int32)), .val (.int x0)] [])) ?_ (fun tX kX => XS.ifYes X6.here hx rfl (pc0 := 36) (pc' := 46) rfl (hb hby d1_36) rfl ((if0 _ _).trans (flt (by decide)).2.2.2) (by decide) (by decide) kX)
  refine OGo.go (B := T6.setTop (mkF m 47 #[.val (.ref a0), .val (.ref b1), .val (.ref a0), .val (.int (3 : Int32)), .val (.int (0 : Int32)), .val (.int x0)] [(.ref b1)])) ?_ (fun tX kX => XS.aloadN X6.here hx rfl (hb hby d1_46) rfl rfl kX)
  obtain ⟨T7, X7, e7, st7⟩ := getS2 X6 hx hZ hown (host := "") (Or.inl (hw _ (List.mem_of_getElem? (i := 93) rfl))) Via.refl e6 S_DIGITS (g := (mkF m 47 #[.val (.ref a0), .val (.ref b1), .val (.ref a0), .val (.int (3 : Int32)), .val (.int (0 : Int32)), .val (.int x0)] [(.ref b1)])) rfl (hb hby d1_47)
  refine OGo.go (B := T7.setTop (mkF m 50 #[.val (.ref a0), .val (.ref b1), .val (.ref a0), .val (.int (3 : Int32)), .val (.int (0 : Int32)), .val (.int x0)] [(.ref ud), (.ref b1)])) ?_ st7
  refine OGo.go (B := T7.setTop (mkF m 52 #[.val (.ref a0), .val (.ref b1), .val (.ref a0), .val (.int (3 : Int32)), .val (.int (0 : Int32)), .val (.int x0)] [(.int x0), (.ref ud), (.ref b1)])) ?_ (fun tX kX => XS.iload X7.here hx rfl (hb hby d1_50) rfl kX)
  refine OGo.go (B := T7.setTop (mkF m 53 #[.val (.ref a0), .val (.ref b1), .val (.ref a0), .val (.int (3 : Int32)), .val (.int (0 : Int32)), .val (.int x0)] [(.int (4 : Int32)), (.int x0), (.ref ud), (.ref b1)])) ?_ (fun tX kX => XS.iconst X7.here hx rfl (hb hby d1_52) kX)
  refine OGo.go (B := T7.setTop (mkF m 54 #[.val (.ref a0), .val (.ref b1), .val (.ref a0), .val (.int (3 : Int32)), .val (.int (0 : Int32)), .val (.int x0)] [(.int (x0 >>> ((4 : Int32) &&& 31))), (.ref ud), (.ref b1)])) ?_ (fun tX kX => XS.ishr X7.here hx rfl (hb hby d1_53) rfl kX)
  refine OGo.go (B := T7.setTop (mkF m 56 #[.val (.ref a0), .val (.ref b1), .val (.ref a0), .val (.int (3 : Int32)), .val (.int (0 : Int32)), .val (.int x0)] [(.int (15 : Int32)), (.int (x0 >>> ((4 : Int32) &&& 31))), (.ref ud), (.ref b1)])) ?_ (fun tX kX => XS.bipush X7.here hx rfl (hb hby d1_54) kX)
  refine OGo.go (B := T7.setTop (mkF m 57 #[.val (.ref a0), .val (.ref b1), .val (.ref a0), .val (.int (3 : Int32)), .val (.int (0 : Int32)), .val (.int x0)] [(.int ((x0 >>> ((4 : Int32) &&& 31)) &&& (15 : Int32))), (.ref ud), (.ref b1)])) ?_ (fun tX kX => XS.iand X7.here hx rfl (hb hby d1_56) rfl kX)
  obtain ⟨cl8, Ar8, qa8, S8, N8', H8, G8⟩ := id V_ud
  have hin8 := inb_of (j := ((x0 >>> ((4 : Int32) &&& 31)) &&& (15 : Int32))) S8 (own_in16 _)
  have hat8 := H8.at (v := (.int (own_dig ((x0 >>> ((4 : Int32) &&& 31)) &&& (15 : Int32))))) hin8 (own_getD _)
  refine OGo.go (B := T7.setTop (mkF m 58 #[.val (.ref a0), .val (.ref b1), .val (.ref a0), .val (.int (3 : Int32)), .val (.int (0 : Int32)), .val (.int x0)] [(.int (own_dig ((x0 >>> ((4 : Int32) &&& 31)) &&& (15 : Int32)))), (.ref b1)])) ?_ (fun tX kX => X7.caload hx (j := ((x0 >>> ((4 : Int32) &&& 31)) &&& (15 : Int32))) (v := (.int (own_dig ((x0 >>> ((4 : Int32) &&& 31)) &&& (15 : Int32))))) (by rw [e7]; exact Ar8.1) (State.isArrayOf_alike hZ.alike Ar8.2.1) Ar8.2.2 hin8 hat8 (g := (mkF m 57 #[.val (.ref a0), .val (.ref b1), .val (.ref a0), .val (.int (3 : Int32)), .val (.int (0 : Int32)), .val (.int x0)] [(.int ((x0 >>> ((4 : Int32) &&& 31)) &&& (15 : Int32))), (.ref ud), (.ref b1)])) rfl rfl (hb hby d1_57) _ kX)
  obtain ⟨cq9, kq9, q9a, q9b, q9c⟩ := isOf hZ e7 E_b1
  obtain ⟨_, _, ⟨T9, L9, k9, n9⟩, -, X9, ⟨Lc9, hQ9, l9, y9, z9⟩, st9⟩ := X7.virtualBack hx (y := (⟨"java/lang/StringBuilder", "append", "(C)Ljava/lang/StringBuilder;"⟩ : MethodName)) (z := (⟨"java/lang/StringBuilder", "append", "(C)Ljava/lang/StringBuilder;"⟩ : MethodName)) hown (mvT hZ (hw _ (List.mem_of_getElem? (i := 95) rfl))) (mvT hZ (hw _ (List.mem_of_getElem? (i := 96) rfl))) (notFace_of_selects (args := #[]) (mvT hZ (hw _ (List.mem_of_getElem? (i := 98) rfl)))) (mvT hZ (hw _ (List.mem_of_getElem? (i := 98) rfl))) (mvT hZ (hw _ (List.mem_of_getElem? (i := 97) rfl))) (by decide) (backOf (W := 0) (rm15 l Z aV hw [] b1 (own_dig ((x0 >>> ((4 : Int32) &&& 31)) &&& (15 : Int32))) vb_3 kb_3 (9 : Int32) [(.int (0 : Int32)), (.int (0 : Int32)), (.int (0 : Int32)), (.int (0 : Int32)), (.int (0 : Int32)), (.int (0 : Int32)), (.int (0 : Int32)), (.int (0 : Int32)), (.int (0 : Int32))] (0 : Int32) 0 cs T3.heap n0 zn3 E_b1 F_value_b1 F_coder_b1 F_count_b1 E_vb_3 V_vb_3 S_COMPACT_STRINGS g_b1 g_vb_3 ne_b1_vb_3 hcs (own_le255 _) (by decide) ⟨by decide, by decide⟩ rfl (Nat.le_of_ble_eq_true rfl)) hZ (hw _ (List.mem_of_getElem? (i := 99) rfl)) (hw _ (List.mem_of_getElem? (i := 7) rfl)) (by decide) (by decide)) q9a q9c (g := (mkF m 58 #[.val (.ref a0), .val (.ref b1), .val (.ref a0), .val (.int (3 : Int32)), .val (.int (0 : Int32)), .val (.int x0)] [(.int (own_dig ((x0 >>> ((4 : Int32) &&& 31)) &&& (15 : Int32)))), (.ref b1)])) rfl (by rw [hml]; rfl) (Steps.refl _) (argsL := [(.int (own_dig ((x0 >>> ((4 : Int32) &&& 31)) &&& (15 : Int32))))]) (rest := []) (lenOf pd__C_Ljava_lang_StringBuilder_ rfl) rfl (by show 2 * 0 + _ ≤ _; exact Nat.le_of_eq rfl) (hb hby d1_58) (fun _ _ => ⟨rfl, e7, (by decide : 2 + 0 ≤ _), (by decide : 13 + 0 ≤ _)⟩)
  dsimp only [Pt.U, Pt.locs, Pt.cells, Pt.slots] at X9 l9 y9 z9 st9 hQ9
  subst l9 y9 z9
  obtain ⟨rfl, N9q, Kq9, E_b1_p, F_value_b1_p, F_coder_b1_p, F_count_b1_p, E_vb_3_p, V_vb_3_p⟩ := hQ9
  have N9 := Fr.app N6 N9q
  have S_COMPACT_STRINGS := Sta.keepE S_COMPACT_STRINGS Kq9 (staS E_b1.cell (staS E_vb_3.cell (fun x hx' => nomatch hx')))
  have S_DIGITS := Sta.keepE S_DIGITS Kq9 (staS E_b1.cell (staS E_vb_3.cell (fun x hx' => nomatch hx')))
  have V_a0 := V_a0.keep Kq9 (ninS ne_a0_b1 (ninS ne_a0_vb_3 nin0))
  have V_ud := V_ud.keep Kq9 (ninS ne_ud_b1 (ninS ne_ud_vb_3 nin0))
  have E_b1 := E_b1.keep Kq9
  have E_vb_3 := E_vb_3.keep Kq9
  have K9 := K3.trans Kq9 (allS (P := fun x => x ∈ ([] : List Addr) ∨ h0.size ≤ x) (Or.inr sz_b1) (allS (P := fun x => x ∈ ([] : List Addr) ∨ h0.size ≤ x) (Or.inr sz_vb_3) all0))
  have zn9 : n0 ≤ T9.heap.size := Nat.le_trans zn3 Kq9.1
  have E_b1 := E_b1_p
  have F_value_b1 := F_value_b1_p
  have F_coder_b1 := F_coder_b1_p
  have F_count_b1 := F_count_b1_p
  have E_vb_3 := E_vb_3_p
  have V_vb_3 := V_vb_3_p
  refine OGo.go (B := T9.setTop (mkF m 61 #[.val (.ref a0), .val (.ref b1), .val (.ref a0), .val (.int (3 : Int32)), .val (.int (0 : Int32)), .val (.int x0)] [(.ref b1)])) ?_ (fun tX kX => st9.trans kX)
  have F_count_b1 : Fld Z T9.heap b1 "java/lang/AbstractStringBuilder" "count" "I" (.int (1 : Int32)) := F_count_b1
  have V_vb_3 : Arv Z T9.heap vb_3 kb_3 .byte (9 : Int32) [(.int (((own_dig ((x0 >>> ((4 : Int32) &&& 31)) &&& (15 : Int32))).toInt8.toInt32).toInt8.toInt32)), (.int (0 : Int32)), (.int (0 : Int32)), (.int (0 : Int32)), (.int (0 : Int32)), (.int (0 : Int32)), (.int (0 : Int32)), (.int (0 : Int32)), (.int (0 : Int32))] (.int (0 : Int32)) := V_vb_3
  obtain ⟨T10, X10, e10, st10⟩ := getS2 X9 hx hZ hown (host := "") (Or.inl (hw _ (List.mem_of_getElem? (i := 93) rfl))) Via.refl rfl S_DIGITS (g := (mkF m 61 #[.val (.ref a0), .val (.ref b1), .val (.ref a0), .val (.int (3 : Int32)), .val (.int (0 : Int32)), .val (.int x0)] [(.ref b1)])) rfl (hb hby d1_61)
  refine OGo.go (B := T10.setTop (mkF m 64 #[.val (.ref a0), .val (.ref b1), .val (.ref a0), .val (.int (3 : Int32)), .val (.int (0 : Int32)), .val (.int x0)] [(.ref ud), (.ref b1)])) ?_ st10
  refine OGo.go (B := T10.setTop (mkF m 66 #[.val (.ref a0), .val (.ref b1), .val (.ref a0), .val (.int (3 : Int32)), .val (.int (0 : Int32)), .val (.int x0)] [(.int x0), (.ref ud), (.ref b1)])) ?_ (fun tX kX => XS.iload X10.here hx rfl (hb hby d1_64) rfl kX)
  refine OGo.go (B := T10.setTop (mkF m 68 #[.val (.ref a0), .val (.ref b1), .val (.ref a0), .val (.int (3 : Int32)), .val (.int (0 : Int32)), .val (.int x0)] [(.int (15 : Int32)), (.int x0), (.ref ud), (.ref b1)])) ?_ (fun tX kX => XS.bipush X10.here hx rfl (hb hby d1_66) kX)
  refine OGo.go (B := T10.setTop (mkF m 69 #[.val (.ref a0), .val (.ref b1), .val (.ref a0), .val (.int (3 : Int32)), .val (.int (0 : Int32)), .val (.int x0)] [(.int (x0 &&& (15 : Int32))), (.ref ud), (.ref b1)])) ?_ (fun tX kX => XS.iand X10.here hx rfl (hb hby d1_68) rfl kX)
  obtain ⟨cl11, Ar11, qa11, S11, N11', H11, G11⟩ := id V_ud
  have hin11 := inb_of (j := (x0 &&& (15 : Int32))) S11 (own_in16 _)
  have hat11 := H11.at (v := (.int (own_dig (x0 &&& (15 : Int32))))) hin11 (own_getD _)
  refine OGo.go (B := T10.setTop (mkF m 70 #[.val (.ref a0), .val (.ref b1), .val (.ref a0), .val (.int (3 : Int32)), .val (.int (0 : Int32)), .val (.int x0)] [(.int (own_dig (x0 &&& (15 : Int32)))), (.ref b1)])) ?_ (fun tX kX => X10.caload hx (j := (x0 &&& (15 : Int32))) (v := (.int (own_dig (x0 &&& (15 : Int32))))) (by rw [e10]; exact Ar11.1) (State.isArrayOf_alike hZ.alike Ar11.2.1) Ar11.2.2 hin11 hat11 (g := (mkF m 69 #[.val (.ref a0), .val (.ref b1), .val (.ref a0), .val (.int (3 : Int32)), .val (.int (0 : Int32)), .val (.int x0)] [(.int (x0 &&& (15 : Int32))), (.ref ud), (.ref b1)])) rfl rfl (hb hby d1_69) _ kX)
  obtain ⟨cq12, kq12, q12a, q12b, q12c⟩ := isOf hZ e10 E_b1
  obtain ⟨_, _, ⟨T12, L12, k12, n12⟩, -, X12, ⟨Lc12, hQ12, l12, y12, z12⟩, st12⟩ := X10.virtualBack hx (y := (⟨"java/lang/StringBuilder", "append", "(C)Ljava/lang/StringBuilder;"⟩ : MethodName)) (z := (⟨"java/lang/StringBuilder", "append", "(C)Ljava/lang/StringBuilder;"⟩ : MethodName)) hown (mvT hZ (hw _ (List.mem_of_getElem? (i := 95) rfl))) (mvT hZ (hw _ (List.mem_of_getElem? (i := 96) rfl))) (notFace_of_selects (args := #[]) (mvT hZ (hw _ (List.mem_of_getElem? (i := 98) rfl)))) (mvT hZ (hw _ (List.mem_of_getElem? (i := 98) rfl))) (mvT hZ (hw _ (List.mem_of_getElem? (i := 97) rfl))) (by decide) (backOf (W := 0) (rm15 l Z aV hw [] b1 (own_dig (x0 &&& (15 : Int32))) vb_3 kb_3 (9 : Int32) [(.int (((own_dig ((x0 >>> ((4 : Int32) &&& 31)) &&& (15 : Int32))).toInt8.toInt32).toInt8.toInt32)), (.int (0 : Int32)), (.int (0 : Int32)), (.int (0 : Int32)), (.int (0 : Int32)), (.int (0 : Int32)), (.int (0 : Int32)), (.int (0 : Int32)), (.int (0 : Int32))] (1 : Int32) 1 cs T9.heap n0 zn9 E_b1 F_value_b1 F_coder_b1 F_count_b1 E_vb_3 V_vb_3 S_COMPACT_STRINGS g_b1 g_vb_3 ne_b1_vb_3 hcs (own_le255 _) (by decide) ⟨by decide, by decide⟩ rfl (Nat.le_of_ble_eq_true rfl)) hZ (hw _ (List.mem_of_getElem? (i := 99) rfl)) (hw _ (List.mem_of_getElem? (i := 7) rfl)) (by decide) (by decide)) q12a q12c (g := (mkF m 70 #[.val (.ref a0), .val (.ref b1), .val (.ref a0), .val (.int (3 : Int32)), .val (.int (0 : Int32)), .val (.int x0)] [(.int (own_dig (x0 &&& (15 : Int32)))), (.ref b1)])) rfl (by rw [hml]; rfl) (Steps.refl _) (argsL := [(.int (own_dig (x0 &&& (15 : Int32))))]) (rest := []) (lenOf pd__C_Ljava_lang_StringBuilder_ rfl) rfl (by show 2 * 0 + _ ≤ _; exact Nat.le_of_eq rfl) (hb hby d1_70) (fun _ _ => ⟨rfl, e10, (by decide : 2 + 0 ≤ _), (by decide : 13 + 0 ≤ _)⟩)
  dsimp only [Pt.U, Pt.locs, Pt.cells, Pt.slots] at X12 l12 y12 z12 st12 hQ12
  subst l12 y12 z12
  obtain ⟨rfl, N12q, Kq12, E_b1_p, F_value_b1_p, F_coder_b1_p, F_count_b1_p, E_vb_3_p, V_vb_3_p⟩ := hQ12
  have N12 := Fr.app N9 N12q
  have S_COMPACT_STRINGS := Sta.keepE S_COMPACT_STRINGS Kq12 (staS E_b1.cell (staS E_vb_3.cell (fun x hx' => nomatch hx')))
  have S_DIGITS := Sta.keepE S_DIGITS Kq12 (staS E_b1.cell (staS E_vb_3.cell (fun x hx' => nomatch hx')))
  have V_a0 := V_a0.keep Kq12 (ninS ne_a0_b1 (ninS ne_a0_vb_3 nin0))
  have V_ud := V_ud.keep Kq12 (ninS ne_ud_b1 (ninS ne_ud_vb_3 nin0))
  have E_b1 := E_b1.keep Kq12
  have E_vb_3 := E_vb_3.keep Kq12
  have K12 := K9.trans Kq12 (allS (P := fun x => x ∈ ([] : List Addr) ∨ h0.size ≤ x) (Or.inr sz_b1) (allS (P := fun x => x ∈ ([] : List Addr) ∨ h0.size ≤ x) (Or.inr sz_vb_3) all0))
  have zn12 : n0 ≤ T12.heap.size := Nat.le_trans zn9 Kq12.1
  have E_b1 := E_b1_p
  have F_value_b1 := F_value_b1_p
  have F_coder_b1 := F_coder_b1_p
  have F_count_b1 := F_count_b1_p
  have E_vb_3 := E_vb_3_p
  have V_vb_3 := V_vb_3_p
  refine OGo.go (B := T12.setTop (mkF m 73 #[.val (.ref a0), .val (.ref b1), .val (.ref a0), .val (.int (3 : Int32)), .val (.int (0 : Int32)), .val (.int x0)] [(.ref b1)])) ?_ (fun tX kX => st12.trans kX)
  have F_count_b1 : Fld Z T12.heap b1 "java/lang/AbstractStringBuilder" "count" "I" (.int (2 : Int32)) := F_count_b1
  have V_vb_3 : Arv Z T12.heap vb_3 kb_3 .byte (9 : Int32) [(.int (((own_dig ((x0 >>> ((4 : Int32) &&& 31)) &&& (15 : Int32))).toInt8.toInt32).toInt8.toInt32)), (.int (((own_dig (x0 &&& (15 : Int32))).toInt8.toInt32).toInt8.toInt32)), (.int (0 : Int32)), (.int (0 : Int32)), (.int (0 : Int32)), (.int (0 : Int32)), (.int (0 : Int32)), (.int (0 : Int32)), (.int (0 : Int32))] (.int (0 : Int32)) := V_vb_3
  refine OGo.go (B := T12.setTop (mkF m 74 #[.val (.ref a0), .val (.ref b1), .val (.ref a0), .val (.int (3 : Int32)), .val (.int (0 : Int32)), .val (.int x0)] [])) ?_ (fun tX kX => XS.pop X12.here hx rfl (hb hby d1_73) rfl rfl kX)
  refine OGo.go (B := T12.setTop (mkF m 77 #[.val (.ref a0), .val (.ref b1), .val (.ref a0), .val (.int (3 : Int32)), .val (.int (1 : Int32)), .val (.int x0)] [])) ?_ (fun tX kX => XS.iinc X12.here hx rfl (hb hby d1_74) rfl (l' := #[.val (.ref a0), .val (.ref b1), .val (.ref a0), .val (.int (3 : Int32)), .val (.int (1 : Int32)), .val (.int x0)]) rfl kX)
  refine OGo.go (B := T12.setTop (mkF m 20 #[.val (.ref a0), .val (.ref b1), .val (.ref a0), .val (.int (3 : Int32)), .val (.int (1 : Int32)), .val (.int x0)] [])) ?_ (fun tX kX => XS.goto X12.here hx rfl (pc0 := 77) (pc' := 20) rfl (hb hby d1_77) (by decide) (by decide) kX)
  refine OGo.go (B := T12.setTop (mkF m 22 #[.val (.ref a0), .val (.ref b1), .val (.ref a0), .val (.int (3 : Int32)), .val (.int (1 : Int32)), .val (.int x0)] [(.int (1 : Int32))])) ?_ (fun tX kX => XS.iload X12.here hx rfl (hb hby d1_20) rfl kX)
  refine OGo.go (B := T12.setTop (mkF m 23 #[.val (.ref a0), .val (.ref b1), .val (.ref a0), .val (.int (3 : Int32)), .val (.int (1 : Int32)), .val (.int x0)] [(.int (3 : Int32)), (.int (1 : Int32))])) ?_ (fun tX kX => XS.iloadN X12.here hx rfl (hb hby d1_22) rfl kX)
  refine OGo.go (B := T12.setTop (mkF m 26 #[.val (.ref a0), .val (.ref b1), .val (.ref a0), .val (.int (3 : Int32)), .val (.int (1 : Int32)), .val (.int x0)] [])) ?_ (fun tX kX => XS.icmpNo X12.here hx rfl (hb hby d1_23) rfl (tlt (by decide)).2.1 kX)
  refine OGo.go (B := T12.setTop (mkF m 27 #[.val (.ref a0), .val (.ref b1), .val (.ref a0), .val (.int (3 : Int32)), .val (.int (1 : Int32)), .val (.int x0)] [(.ref a0)])) ?_ (fun tX kX => XS.aloadN X12.here hx rfl (hb hby d1_26) rfl rfl kX)
  refine OGo.go (B := T12.setTop (mkF m 29 #[.val (.ref a0), .val (.ref b1), .val (.ref a0), .val (.int (3 : Int32)), .val (.int (1 : Int32)), .val (.int x0)] [(.int (1 : Int32)), (.ref a0)])) ?_ (fun tX kX => XS.iload X12.here hx rfl (hb hby d1_27) rfl kX)
  obtain ⟨cl13, Ar13, qa13, S13, N13', H13, G13⟩ := id V_a0
  have hin13 := inb_of (j := (1 : Int32)) S13 ⟨by decide, by decide⟩
  have hat13 := H13.at (v := (.int x1)) hin13 rfl
  refine OGo.go (B := T12.setTop (mkF m 30 #[.val (.ref a0), .val (.ref b1), .val (.ref a0), .val (.int (3 : Int32)), .val (.int (1 : Int32)), .val (.int x0)] [(.int x1)])) ?_ (fun tX kX => X12.baloadBytes hx (j := (1 : Int32)) (v := (.int x1)) Ar13.1 (State.isArrayOf_alike hZ.alike Ar13.2.1) Ar13.2.2 hin13 hat13 (g := (mkF m 29 #[.val (.ref a0), .val (.ref b1), .val (.ref a0), .val (.int (3 : Int32)), .val (.int (1 : Int32)), .val (.int x0)] [(.int (1 : Int32)), (.ref a0)])) rfl rfl (hb hby d1_29) _ kX)
  refine OGo.go (B := T12.setTop (mkF m 32 #[.val (.ref a0), .val (.ref b1), .val (.ref a0), .val (.int (3 : Int32)), .val (.int (1 : Int32)), .val (.int x1)] [])) ?_ (fun tX kX => XS.istore X12.here hx rfl (hb hby d1_30) rfl (l' := #[.val (.ref a0), .val (.ref b1), .val (.ref a0), .val (.int (3 : Int32)), .val (.int (1 : Int32)), .val (.int x1)]) rfl kX)
  refine OGo.go (B := T12.setTop (mkF m 33 #[.val (.ref a0), .val (.ref b1), .val (.ref a0), .val (.int (3 : Int32)), .val (.int (1 : Int32)), .val (.int x1)] [(.ref b1)])) ?_ (fun tX kX => XS.aloadN X12.here hx rfl (hb hby d1_32) rfl rfl kX)
  obtain ⟨cq14, kq14, q14a, q14b, q14c⟩ := isOf hZ rfl E_b1
  obtain ⟨_, _, ⟨T14, L14, k14, n14⟩, -, X14, ⟨Lc14, hQ14, l14, y14, z14⟩, st14⟩ := X12.virtualBack hx (y := (⟨"java/lang/StringBuilder", "length", "()I"⟩ : MethodName)) (z := (⟨"java/lang/StringBuilder", "length", "()I"⟩ : MethodName)) hown (mvT hZ (hw _ (List.mem_of_getElem? (i := 90) rfl))) (mvT hZ (hw _ (List.mem_of_getElem? (i := 91) rfl))) (notFace_of_selects (args := #[]) (mvT hZ (hw _ (List.mem_of_getElem? (i := 92) rfl)))) (mvT hZ (hw _ (List.mem_of_getElem? (i := 92) rfl))) (mvT hZ (hw _ (List.mem_of_getElem? (i := 50) rfl))) (by decide) (backOf (W := 0) (rm9 l Z aV hw [] b1 (2 : Int32) T12.heap n0 zn12 E_b1 F_count_b1) hZ (hw _ (List.mem_of_getElem? (i := 51) rfl)) (hw _ (List.mem_of_getElem? (i := 7) rfl)) (by decide) (by decide)) q14a q14c (g := (mkF m 33 #[.val (.ref a0), .val (.ref b1), .val (.ref a0), .val (.int (3 : Int32)), .val (.int (1 : Int32)), .val (.int x1)] [(.ref b1)])) rfl (by rw [hml]; rfl) (Steps.refl _) (argsL := []) (rest := []) (lenOf pd___I rfl) rfl (by show 2 * 0 + _ ≤ _; exact Nat.le_of_eq rfl) (hb hby d1_33) (fun _ _ => ⟨rfl, rfl, (by decide : 2 + 0 ≤ _), (by decide : 13 + 0 ≤ _)⟩)
  dsimp only [Pt.U, Pt.locs, Pt.cells, Pt.slots] at X14 l14 y14 z14 st14 hQ14
  subst l14 y14 z14
  obtain ⟨rfl, N14q, e14⟩ := hQ14
  have N14 := Fr.app N12 N14q
  refine OGo.go (B := T14.setTop (mkF m 36 #[.val (.ref a0), .val (.ref b1), .val (.ref a0), .val (.int (3 : Int32)), .val (.int (1 : Int32)), .val (.int x1)] [(.int (2 : Int32))])) ?_ (fun tX kX => st14.trans kX)
  refine OGo.go (B := T14.setTop (mkF m 39 #[.val (.ref a0), .val (.ref b1), .val (.ref a0), .val (.int (3 : Int32)), .val (.int (1 : Int32)), .val (.int x1)] [])) ?_ (fun tX kX => XS.ifNo X14.here hx rfl (hb hby d1_36) rfl ((if0 _ _).trans (tlt (by decide)).2.2.2) kX)
  refine OGo.go (B := T14.setTop (mkF m 40 #[.val (.ref a0), .val (.ref b1), .val (.ref a0), .val (.int (3 : Int32)), .val (.int (1 : Int32)), .val (.int x1)] [(.ref b1)])) ?_ (fun tX kX => XS.aloadN X14.here hx rfl (hb hby d1_39) rfl rfl kX)
  refine OGo.go (B := T14.setTop (mkF m 42 #[.val (.ref a0), .val (.ref b1), .val (.ref a0), .val (.int (3 : Int32)), .val (.int (1 : Int32)), .val (.int x1)] [(.int (32 : Int32)), (.ref b1)])) ?_ (fun tX kX => XS.bipush X14.here hx rfl (hb hby d1_40) kX)
  obtain ⟨cq15, kq15, q15a, q15b, q15c⟩ := isOf hZ e14 E_b1
  obtain ⟨_, _, ⟨T15, L15, k15, n15⟩, -, X15, ⟨Lc15, hQ15, l15, y15, z15⟩, st15⟩ := X14.virtualBack hx (y := (⟨"java/lang/StringBuilder", "append", "(C)Ljava/lang/StringBuilder;"⟩ : MethodName)) (z := (⟨"java/lang/StringBuilder", "append", "(C)Ljava/lang/StringBuilder;"⟩ : MethodName)) hown (mvT hZ (hw _ (List.mem_of_getElem? (i := 95) rfl))) (mvT hZ (hw _ (List.mem_of_getElem? (i := 96) rfl))) (notFace_of_selects (args := #[]) (mvT hZ (hw _ (List.mem_of_getElem? (i := 98) rfl)))) (mvT hZ (hw _ (List.mem_of_getElem? (i := 98) rfl))) (mvT hZ (hw _ (List.mem_of_getElem? (i := 97) rfl))) (by decide) (backOf (W := 0) (rm15 l Z aV hw [] b1 (32 : Int32) vb_3 kb_3 (9 : Int32) [(.int (((own_dig ((x0 >>> ((4 : Int32) &&& 31)) &&& (15 : Int32))).toInt8.toInt32).toInt8.toInt32)), (.int (((own_dig (x0 &&& (15 : Int32))).toInt8.toInt32).toInt8.toInt32)), (.int (0 : Int32)), (.int (0 : Int32)), (.int (0 : Int32)), (.int (0 : Int32)), (.int (0 : Int32)), (.int (0 : Int32)), (.int (0 : Int32))] (2 : Int32) 2 cs T12.heap n0 zn12 E_b1 F_value_b1 F_coder_b1 F_count_b1 E_vb_3 V_vb_3 S_COMPACT_STRINGS g_b1 g_vb_3 ne_b1_vb_3 hcs (by decide) (by decide) ⟨by decide, by decide⟩ rfl (Nat.le_of_ble_eq_true rfl)) hZ (hw _ (List.mem_of_getElem? (i := 99) rfl)) (hw _ (List.mem_of_getElem? (i := 7) rfl)) (by decide) (by decide)) q15a q15c (g := (mkF m 42 #[.val (.ref a0), .val (.ref b1), .val (.ref a0), .val (.int (3 : Int32)), .val (.int (1 : Int32)), .val (.int x1)] [(.int (32 : Int32)), (.ref b1)])) rfl (by rw [hml]; rfl) (Steps.refl _) (argsL := [(.int (32 : Int32))]) (rest := []) (lenOf pd__C_Ljava_lang_StringBuilder_ rfl) rfl (by show 2 * 0 + _ ≤ _; exact Nat.le_of_eq rfl) (hb hby d1_42) (fun _ _ => ⟨rfl, e14, (by decide : 2 + 0 ≤ _), (by decide : 13 + 0 ≤ _)⟩)
  dsimp only [Pt.U, Pt.locs, Pt.cells, Pt.slots] at X15 l15 y15 z15 st15 hQ15
  subst l15 y15 z15
  obtain ⟨rfl, N15q, Kq15, E_b1_p, F_value_b1_p, F_coder_b1_p, F_count_b1_p, E_vb_3_p, V_vb_3_p⟩ := hQ15
  have N15 := Fr.app N14 N15q
  have S_COMPACT_STRINGS := Sta.keepE S_COMPACT_STRINGS Kq15 (staS E_b1.cell (staS E_vb_3.cell (fun x hx' => nomatch hx')))
  have S_DIGITS := Sta.keepE S_DIGITS Kq15 (staS E_b1.cell (staS E_vb_3.cell (fun x hx' => nomatch hx')))
  have V_a0 := V_a0.keep Kq15 (ninS ne_a0_b1 (ninS ne_a0_vb_3 nin0))
  have V_ud := V_ud.keep Kq15 (ninS ne_ud_b1 (ninS ne_ud_vb_3 nin0))
  have E_b1 := E_b1.keep Kq15
  have E_vb_3 := E_vb_3.keep Kq15
  have K15 := K12.trans Kq15 (allS (P := fun x => x ∈ ([] : List Addr) ∨ h0.size ≤ x) (Or.inr sz_b1) (allS (P := fun x => x ∈ ([] : List Addr) ∨ h0.size ≤ x) (Or.inr sz_vb_3) all0))
  have zn15 : n0 ≤ T15.heap.size := Nat.le_trans zn12 Kq15.1
  have E_b1 := E_b1_p
  have F_value_b1 := F_value_b1_p
  have F_coder_b1 := F_coder_b1_p
  have F_count_b1 := F_count_b1_p
  have E_vb_3 := E_vb_3_p
  have V_vb_3 := V_vb_3_p
  refine OGo.go (B := T15.setTop (mkF m 45 #[.val (.ref a0), .val (.ref b1), .val (.ref a0), .val (.int (3 : Int32)), .val (.int (1 : Int32)), .val (.int x1)] [(.ref b1)])) ?_ (fun tX kX => st15.trans kX)
  have F_count_b1 : Fld Z T15.heap b1 "java/lang/AbstractStringBuilder" "count" "I" (.int (3 : Int32)) := F_count_b1
  have V_vb_3 : Arv Z T15.heap vb_3 kb_3 .byte (9 : Int32) [(.int (((own_dig ((x0 >>> ((4 : Int32) &&& 31)) &&& (15 : Int32))).toInt8.toInt32).toInt8.toInt32)), (.int (((own_dig (x0 &&& (15 : Int32))).toInt8.toInt32).toInt8.toInt32)), (.int (((32 : Int32).toInt8.toInt32).toInt8.toInt32)), (.int (0 : Int32)), (.int (0 : Int32)), (.int (0 : Int32)), (.int (0 : Int32)), (.int (0 : Int32)), (.int (0 : Int32))] (.int (0 : Int32)) := V_vb_3
  refine OGo.go (B := T15.setTop (mkF m 46 #[.val (.ref a0), .val (.ref b1), .val (.ref a0), .val (.int (3 : Int32)), .val (.int (1 : Int32)), .val (.int x1)] [])) ?_ (fun tX kX => XS.pop X15.here hx rfl (hb hby d1_45) rfl rfl kX)
  refine OGo.go (B := T15.setTop (mkF m 47 #[.val (.ref a0), .val (.ref b1), .val (.ref a0), .val (.int (3 : Int32)), .val (.int (1 : Int32)), .val (.int x1)] [(.ref b1)])) ?_ (fun tX kX => XS.aloadN X15.here hx rfl (hb hby d1_46) rfl rfl kX)
  obtain ⟨T16, X16, e16, st16⟩ := getS2 X15 hx hZ hown (host := "") (Or.inl (hw _ (List.mem_of_getElem? (i := 93) rfl))) Via.refl rfl S_DIGITS (g := (mkF m 47 #[.val (.ref a0), .val (.ref b1), .val (.ref a0), .val (.int (3 : Int32)), .val (.int (1 : Int32)), .val (.int x1)] [(.ref b1)])) rfl (hb hby d1_47)
  refine OGo.go (B := T16.setTop (mkF m 50 #[.val (.ref a0), .val (.ref b1), .val (.ref a0), .val (.int (3 : Int32)), .val (.int (1 : Int32)), .val (.int x1)] [(.ref ud), (.ref b1)])) ?_ st16
  refine OGo.go (B := T16.setTop (mkF m 52 #[.val (.ref a0), .val (.ref b1), .val (.ref a0), .val (.int (3 : Int32)), .val (.int (1 : Int32)), .val (.int x1)] [(.int x1), (.ref ud), (.ref b1)])) ?_ (fun tX kX => XS.iload X16.here hx rfl (hb hby d1_50) rfl kX)
  refine OGo.go (B := T16.setTop (mkF m 53 #[.val (.ref a0), .val (.ref b1), .val (.ref a0), .val (.int (3 : Int32)), .val (.int (1 : Int32)), .val (.int x1)] [(.int (4 : Int32)), (.int x1), (.ref ud), (.ref b1)])) ?_ (fun tX kX => XS.iconst X16.here hx rfl (hb hby d1_52) kX)
  refine OGo.go (B := T16.setTop (mkF m 54 #[.val (.ref a0), .val (.ref b1), .val (.ref a0), .val (.int (3 : Int32)), .val (.int (1 : Int32)), .val (.int x1)] [(.int (x1 >>> ((4 : Int32) &&& 31))), (.ref ud), (.ref b1)])) ?_ (fun tX kX => XS.ishr X16.here hx rfl (hb hby d1_53) rfl kX)
  refine OGo.go (B := T16.setTop (mkF m 56 #[.val (.ref a0), .val (.ref b1), .val (.ref a0), .val (.int (3 : Int32)), .val (.int (1 : Int32)), .val (.int x1)] [(.int (15 : Int32)), (.int (x1 >>> ((4 : Int32) &&& 31))), (.ref ud), (.ref b1)])) ?_ (fun tX kX => XS.bipush X16.here hx rfl (hb hby d1_54) kX)
  refine OGo.go (B := T16.setTop (mkF m 57 #[.val (.ref a0), .val (.ref b1), .val (.ref a0), .val (.int (3 : Int32)), .val (.int (1 : Int32)), .val (.int x1)] [(.int ((x1 >>> ((4 : Int32) &&& 31)) &&& (15 : Int32))), (.ref ud), (.ref b1)])) ?_ (fun tX kX => XS.iand X16.here hx rfl (hb hby d1_56) rfl kX)
  obtain ⟨cl17, Ar17, qa17, S17, N17', H17, G17⟩ := id V_ud
  have hin17 := inb_of (j := ((x1 >>> ((4 : Int32) &&& 31)) &&& (15 : Int32))) S17 (own_in16 _)
  have hat17 := H17.at (v := (.int (own_dig ((x1 >>> ((4 : Int32) &&& 31)) &&& (15 : Int32))))) hin17 (own_getD _)
  refine OGo.go (B := T16.setTop (mkF m 58 #[.val (.ref a0), .val (.ref b1), .val (.ref a0), .val (.int (3 : Int32)), .val (.int (1 : Int32)), .val (.int x1)] [(.int (own_dig ((x1 >>> ((4 : Int32) &&& 31)) &&& (15 : Int32)))), (.ref b1)])) ?_ (fun tX kX => X16.caload hx (j := ((x1 >>> ((4 : Int32) &&& 31)) &&& (15 : Int32))) (v := (.int (own_dig ((x1 >>> ((4 : Int32) &&& 31)) &&& (15 : Int32))))) (by rw [e16]; exact Ar17.1) (State.isArrayOf_alike hZ.alike Ar17.2.1) Ar17.2.2 hin17 hat17 (g := (mkF m 57 #[.val (.ref a0), .val (.ref b1), .val (.ref a0), .val (.int (3 : Int32)), .val (.int (1 : Int32)), .val (.int x1)] [(.int ((x1 >>> ((4 : Int32) &&& 31)) &&& (15 : Int32))), (.ref ud), (.ref b1)])) rfl rfl (hb hby d1_57) _ kX)
  obtain ⟨cq18, kq18, q18a, q18b, q18c⟩ := isOf hZ e16 E_b1
  obtain ⟨_, _, ⟨T18, L18, k18, n18⟩, -, X18, ⟨Lc18, hQ18, l18, y18, z18⟩, st18⟩ := X16.virtualBack hx (y := (⟨"java/lang/StringBuilder", "append", "(C)Ljava/lang/StringBuilder;"⟩ : MethodName)) (z := (⟨"java/lang/StringBuilder", "append", "(C)Ljava/lang/StringBuilder;"⟩ : MethodName)) hown (mvT hZ (hw _ (List.mem_of_getElem? (i := 95) rfl))) (mvT hZ (hw _ (List.mem_of_getElem? (i := 96) rfl))) (notFace_of_selects (args := #[]) (mvT hZ (hw _ (List.mem_of_getElem? (i := 98) rfl)))) (mvT hZ (hw _ (List.mem_of_getElem? (i := 98) rfl))) (mvT hZ (hw _ (List.mem_of_getElem? (i := 97) rfl))) (by decide) (backOf (W := 0) (rm15 l Z aV hw [] b1 (own_dig ((x1 >>> ((4 : Int32) &&& 31)) &&& (15 : Int32))) vb_3 kb_3 (9 : Int32) [(.int (((own_dig ((x0 >>> ((4 : Int32) &&& 31)) &&& (15 : Int32))).toInt8.toInt32).toInt8.toInt32)), (.int (((own_dig (x0 &&& (15 : Int32))).toInt8.toInt32).toInt8.toInt32)), (.int (((32 : Int32).toInt8.toInt32).toInt8.toInt32)), (.int (0 : Int32)), (.int (0 : Int32)), (.int (0 : Int32)), (.int (0 : Int32)), (.int (0 : Int32)), (.int (0 : Int32))] (3 : Int32) 3 cs T15.heap n0 zn15 E_b1 F_value_b1 F_coder_b1 F_count_b1 E_vb_3 V_vb_3 S_COMPACT_STRINGS g_b1 g_vb_3 ne_b1_vb_3 hcs (own_le255 _) (by decide) ⟨by decide, by decide⟩ rfl (Nat.le_of_ble_eq_true rfl)) hZ (hw _ (List.mem_of_getElem? (i := 99) rfl)) (hw _ (List.mem_of_getElem? (i := 7) rfl)) (by decide) (by decide)) q18a q18c (g := (mkF m 58 #[.val (.ref a0), .val (.ref b1), .val (.ref a0), .val (.int (3 : Int32)), .val (.int (1 : Int32)), .val (.int x1)] [(.int (own_dig ((x1 >>> ((4 : Int32) &&& 31)) &&& (15 : Int32)))), (.ref b1)])) rfl (by rw [hml]; rfl) (Steps.refl _) (argsL := [(.int (own_dig ((x1 >>> ((4 : Int32) &&& 31)) &&& (15 : Int32))))]) (rest := []) (lenOf pd__C_Ljava_lang_StringBuilder_ rfl) rfl (by show 2 * 0 + _ ≤ _; exact Nat.le_of_eq rfl) (hb hby d1_58) (fun _ _ => ⟨rfl, e16, (by decide : 2 + 0 ≤ _), (by decide : 13 + 0 ≤ _)⟩)
  dsimp only [Pt.U, Pt.locs, Pt.cells, Pt.slots] at X18 l18 y18 z18 st18 hQ18
  subst l18 y18 z18
  obtain ⟨rfl, N18q, Kq18, E_b1_p, F_value_b1_p, F_coder_b1_p, F_count_b1_p, E_vb_3_p, V_vb_3_p⟩ := hQ18
  have N18 := Fr.app N15 N18q
  have S_COMPACT_STRINGS := Sta.keepE S_COMPACT_STRINGS Kq18 (staS E_b1.cell (staS E_vb_3.cell (fun x hx' => nomatch hx')))
  have S_DIGITS := Sta.keepE S_DIGITS Kq18 (staS E_b1.cell (staS E_vb_3.cell (fun x hx' => nomatch hx')))
  have V_a0 := V_a0.keep Kq18 (ninS ne_a0_b1 (ninS ne_a0_vb_3 nin0))
  have V_ud := V_ud.keep Kq18 (ninS ne_ud_b1 (ninS ne_ud_vb_3 nin0))
  have E_b1 := E_b1.keep Kq18
  have E_vb_3 := E_vb_3.keep Kq18
  have K18 := K15.trans Kq18 (allS (P := fun x => x ∈ ([] : List Addr) ∨ h0.size ≤ x) (Or.inr sz_b1) (allS (P := fun x => x ∈ ([] : List Addr) ∨ h0.size ≤ x) (Or.inr sz_vb_3) all0))
  have zn18 : n0 ≤ T18.heap.size := Nat.le_trans zn15 Kq18.1
  have E_b1 := E_b1_p
  have F_value_b1 := F_value_b1_p
  have F_coder_b1 := F_coder_b1_p
  have F_count_b1 := F_count_b1_p
  have E_vb_3 := E_vb_3_p
  have V_vb_3 := V_vb_3_p
  refine OGo.go (B := T18.setTop (mkF m 61 #[.val (.ref a0), .val (.ref b1), .val (.ref a0), .val (.int (3 : Int32)), .val (.int (1 : Int32)), .val (.int x1)] [(.ref b1)])) ?_ (fun tX kX => st18.trans kX)
  have F_count_b1 : Fld Z T18.heap b1 "java/lang/AbstractStringBuilder" "count" "I" (.int (4 : Int32)) := F_count_b1
  have V_vb_3 : Arv Z T18.heap vb_3 kb_3 .byte (9 : Int32) [(.int (((own_dig ((x0 >>> ((4 : Int32) &&& 31)) &&& (15 : Int32))).toInt8.toInt32).toInt8.toInt32)), (.int (((own_dig (x0 &&& (15 : Int32))).toInt8.toInt32).toInt8.toInt32)), (.int (((32 : Int32).toInt8.toInt32).toInt8.toInt32)), (.int (((own_dig ((x1 >>> ((4 : Int32) &&& 31)) &&& (15 : Int32))).toInt8.toInt32).toInt8.toInt32)), (.int (0 : Int32)), (.int (0 : Int32)), (.int (0 : Int32)), (.int (0 : Int32)), (.int (0 : Int32))] (.int (0 : Int32)) := V_vb_3
  obtain ⟨T19, X19, e19, st19⟩ := getS2 X18 hx hZ hown (host := "") (Or.inl (hw _ (List.mem_of_getElem? (i := 93) rfl))) Via.refl rfl S_DIGITS (g := (mkF m 61 #[.val (.ref a0), .val (.ref b1), .val (.ref a0), .val (.int (3 : Int32)), .val (.int (1 : Int32)), .val (.int x1)] [(.ref b1)])) rfl (hb hby d1_61)
  refine OGo.go (B := T19.setTop (mkF m 64 #[.val (.ref a0), .val (.ref b1), .val (.ref a0), .val (.int (3 : Int32)), .val (.int (1 : Int32)), .val (.int x1)] [(.ref ud), (.ref b1)])) ?_ st19
  refine OGo.go (B := T19.setTop (mkF m 66 #[.val (.ref a0), .val (.ref b1), .val (.ref a0), .val (.int (3 : Int32)), .val (.int (1 : Int32)), .val (.int x1)] [(.int x1), (.ref ud), (.ref b1)])) ?_ (fun tX kX => XS.iload X19.here hx rfl (hb hby d1_64) rfl kX)
  refine OGo.go (B := T19.setTop (mkF m 68 #[.val (.ref a0), .val (.ref b1), .val (.ref a0), .val (.int (3 : Int32)), .val (.int (1 : Int32)), .val (.int x1)] [(.int (15 : Int32)), (.int x1), (.ref ud), (.ref b1)])) ?_ (fun tX kX => XS.bipush X19.here hx rfl (hb hby d1_66) kX)
  refine OGo.go (B := T19.setTop (mkF m 69 #[.val (.ref a0), .val (.ref b1), .val (.ref a0), .val (.int (3 : Int32)), .val (.int (1 : Int32)), .val (.int x1)] [(.int (x1 &&& (15 : Int32))), (.ref ud), (.ref b1)])) ?_ (fun tX kX => XS.iand X19.here hx rfl (hb hby d1_68) rfl kX)
  obtain ⟨cl20, Ar20, qa20, S20, N20', H20, G20⟩ := id V_ud
  have hin20 := inb_of (j := (x1 &&& (15 : Int32))) S20 (own_in16 _)
  have hat20 := H20.at (v := (.int (own_dig (x1 &&& (15 : Int32))))) hin20 (own_getD _)
  refine OGo.go (B := T19.setTop (mkF m 70 #[.val (.ref a0), .val (.ref b1), .val (.ref a0), .val (.int (3 : Int32)), .val (.int (1 : Int32)), .val (.int x1)] [(.int (own_dig (x1 &&& (15 : Int32)))), (.ref b1)])) ?_ (fun tX kX => X19.caload hx (j := (x1 &&& (15 : Int32))) (v := (.int (own_dig (x1 &&& (15 : Int32))))) (by rw [e19]; exact Ar20.1) (State.isArrayOf_alike hZ.alike Ar20.2.1) Ar20.2.2 hin20 hat20 (g := (mkF m 69 #[.val (.ref a0), .val (.ref b1), .val (.ref a0), .val (.int (3 : Int32)), .val (.int (1 : Int32)), .val (.int x1)] [(.int (x1 &&& (15 : Int32))), (.ref ud), (.ref b1)])) rfl rfl (hb hby d1_69) _ kX)
  obtain ⟨cq21, kq21, q21a, q21b, q21c⟩ := isOf hZ e19 E_b1
  obtain ⟨_, _, ⟨T21, L21, k21, n21⟩, -, X21, ⟨Lc21, hQ21, l21, y21, z21⟩, st21⟩ := X19.virtualBack hx (y := (⟨"java/lang/StringBuilder", "append", "(C)Ljava/lang/StringBuilder;"⟩ : MethodName)) (z := (⟨"java/lang/StringBuilder", "append", "(C)Ljava/lang/StringBuilder;"⟩ : MethodName)) hown (mvT hZ (hw _ (List.mem_of_getElem? (i := 95) rfl))) (mvT hZ (hw _ (List.mem_of_getElem? (i := 96) rfl))) (notFace_of_selects (args := #[]) (mvT hZ (hw _ (List.mem_of_getElem? (i := 98) rfl)))) (mvT hZ (hw _ (List.mem_of_getElem? (i := 98) rfl))) (mvT hZ (hw _ (List.mem_of_getElem? (i := 97) rfl))) (by decide) (backOf (W := 0) (rm15 l Z aV hw [] b1 (own_dig (x1 &&& (15 : Int32))) vb_3 kb_3 (9 : Int32) [(.int (((own_dig ((x0 >>> ((4 : Int32) &&& 31)) &&& (15 : Int32))).toInt8.toInt32).toInt8.toInt32)), (.int (((own_dig (x0 &&& (15 : Int32))).toInt8.toInt32).toInt8.toInt32)), (.int (((32 : Int32).toInt8.toInt32).toInt8.toInt32)), (.int (((own_dig ((x1 >>> ((4 : Int32) &&& 31)) &&& (15 : Int32))).toInt8.toInt32).toInt8.toInt32)), (.int (0 : Int32)), (.int (0 : Int32)), (.int (0 : Int32)), (.int (0 : Int32)), (.int (0 : Int32))] (4 : Int32) 4 cs T18.heap n0 zn18 E_b1 F_value_b1 F_coder_b1 F_count_b1 E_vb_3 V_vb_3 S_COMPACT_STRINGS g_b1 g_vb_3 ne_b1_vb_3 hcs (own_le255 _) (by decide) ⟨by decide, by decide⟩ rfl (Nat.le_of_ble_eq_true rfl)) hZ (hw _ (List.mem_of_getElem? (i := 99) rfl)) (hw _ (List.mem_of_getElem? (i := 7) rfl)) (by decide) (by decide)) q21a q21c (g := (mkF m 70 #[.val (.ref a0), .val (.ref b1), .val (.ref a0), .val (.int (3 : Int32)), .val (.int (1 : Int32)), .val (.int x1)] [(.int (own_dig (x1 &&& (15 : Int32)))), (.ref b1)])) rfl (by rw [hml]; rfl) (Steps.refl _) (argsL := [(.int (own_dig (x1 &&& (15 : Int32))))]) (rest := []) (lenOf pd__C_Ljava_lang_StringBuilder_ rfl) rfl (by show 2 * 0 + _ ≤ _; exact Nat.le_of_eq rfl) (hb hby d1_70) (fun _ _ => ⟨rfl, e19, (by decide : 2 + 0 ≤ _), (by decide : 13 + 0 ≤ _)⟩)
  dsimp only [Pt.U, Pt.locs, Pt.cells, Pt.slots] at X21 l21 y21 z21 st21 hQ21
  subst l21 y21 z21
  obtain ⟨rfl, N21q, Kq21, E_b1_p, F_value_b1_p, F_coder_b1_p, F_count_b1_p, E_vb_3_p, V_vb_3_p⟩ := hQ21
  have N21 := Fr.app N18 N21q
  have S_COMPACT_STRINGS := Sta.keepE S_COMPACT_STRINGS Kq21 (staS E_b1.cell (staS E_vb_3.cell (fun x hx' => nomatch hx')))
  have S_DIGITS := Sta.keepE S_DIGITS Kq21 (staS E_b1.cell (staS E_vb_3.cell (fun x hx' => nomatch hx')))
  have V_a0 := V_a0.keep Kq21 (ninS ne_a0_b1 (ninS ne_a0_vb_3 nin0))
  have V_ud := V_ud.keep Kq21 (ninS ne_ud_b1 (ninS ne_ud_vb_3 nin0))
  have E_b1 := E_b1.keep Kq21
  have E_vb_3 := E_vb_3.keep Kq21
  have K21 := K18.trans Kq21 (allS (P := fun x => x ∈ ([] : List Addr) ∨ h0.size ≤ x) (Or.inr sz_b1) (allS (P := fun x => x ∈ ([] : List Addr) ∨ h0.size ≤ x) (Or.inr sz_vb_3) all0))
  have zn21 : n0 ≤ T21.heap.size := Nat.le_trans zn18 Kq21.1
  have E_b1 := E_b1_p
  have F_value_b1 := F_value_b1_p
  have F_coder_b1 := F_coder_b1_p
  have F_count_b1 := F_count_b1_p
  have E_vb_3 := E_vb_3_p
  have V_vb_3 := V_vb_3_p
  refine OGo.go (B := T21.setTop (mkF m 73 #[.val (.ref a0), .val (.ref b1), .val (.ref a0), .val (.int (3 : Int32)), .val (.int (1 : Int32)), .val (.int x1)] [(.ref b1)])) ?_ (fun tX kX => st21.trans kX)
  have F_count_b1 : Fld Z T21.heap b1 "java/lang/AbstractStringBuilder" "count" "I" (.int (5 : Int32)) := F_count_b1
  have V_vb_3 : Arv Z T21.heap vb_3 kb_3 .byte (9 : Int32) [(.int (((own_dig ((x0 >>> ((4 : Int32) &&& 31)) &&& (15 : Int32))).toInt8.toInt32).toInt8.toInt32)), (.int (((own_dig (x0 &&& (15 : Int32))).toInt8.toInt32).toInt8.toInt32)), (.int (((32 : Int32).toInt8.toInt32).toInt8.toInt32)), (.int (((own_dig ((x1 >>> ((4 : Int32) &&& 31)) &&& (15 : Int32))).toInt8.toInt32).toInt8.toInt32)), (.int (((own_dig (x1 &&& (15 : Int32))).toInt8.toInt32).toInt8.toInt32)), (.int (0 : Int32)), (.int (0 : Int32)), (.int (0 : Int32)), (.int (0 : Int32))] (.int (0 : Int32)) := V_vb_3
  refine OGo.go (B := T21.setTop (mkF m 74 #[.val (.ref a0), .val (.ref b1), .val (.ref a0), .val (.int (3 : Int32)), .val (.int (1 : Int32)), .val (.int x1)] [])) ?_ (fun tX kX => XS.pop X21.here hx rfl (hb hby d1_73) rfl rfl kX)
  refine OGo.go (B := T21.setTop (mkF m 77 #[.val (.ref a0), .val (.ref b1), .val (.ref a0), .val (.int (3 : Int32)), .val (.int (2 : Int32)), .val (.int x1)] [])) ?_ (fun tX kX => XS.iinc X21.here hx rfl (hb hby d1_74) rfl (l' := #[.val (.ref a0), .val (.ref b1), .val (.ref a0), .val (.int (3 : Int32)), .val (.int (2 : Int32)), .val (.int x1)]) rfl kX)
  refine OGo.go (B := T21.setTop (mkF m 20 #[.val (.ref a0), .val (.ref b1), .val (.ref a0), .val (.int (3 : Int32)), .val (.int (2 : Int32)), .val (.int x1)] [])) ?_ (fun tX kX => XS.goto X21.here hx rfl (pc0 := 77) (pc' := 20) rfl (hb hby d1_77) (by decide) (by decide) kX)
  refine OGo.go (B := T21.setTop (mkF m 22 #[.val (.ref a0), .val (.ref b1), .val (.ref a0), .val (.int (3 : Int32)), .val (.int (2 : Int32)), .val (.int x1)] [(.int (2 : Int32))])) ?_ (fun tX kX => XS.iload X21.here hx rfl (hb hby d1_20) rfl kX)
  refine OGo.go (B := T21.setTop (mkF m 23 #[.val (.ref a0), .val (.ref b1), .val (.ref a0), .val (.int (3 : Int32)), .val (.int (2 : Int32)), .val (.int x1)] [(.int (3 : Int32)), (.int (2 : Int32))])) ?_ (fun tX kX => XS.iloadN X21.here hx rfl (hb hby d1_22) rfl kX)
  refine OGo.go (B := T21.setTop (mkF m 26 #[.val (.ref a0), .val (.ref b1), .val (.ref a0), .val (.int (3 : Int32)), .val (.int (2 : Int32)), .val (.int x1)] [])) ?_ (fun tX kX => XS.icmpNo X21.here hx rfl (hb hby d1_23) rfl (tlt (by decide)).2.1 kX)
  refine OGo.go (B := T21.setTop (mkF m 27 #[.val (.ref a0), .val (.ref b1), .val (.ref a0), .val (.int (3 : Int32)), .val (.int (2 : Int32)), .val (.int x1)] [(.ref a0)])) ?_ (fun tX kX => XS.aloadN X21.here hx rfl (hb hby d1_26) rfl rfl kX)
  refine OGo.go (B := T21.setTop (mkF m 29 #[.val (.ref a0), .val (.ref b1), .val (.ref a0), .val (.int (3 : Int32)), .val (.int (2 : Int32)), .val (.int x1)] [(.int (2 : Int32)), (.ref a0)])) ?_ (fun tX kX => XS.iload X21.here hx rfl (hb hby d1_27) rfl kX)
  obtain ⟨cl22, Ar22, qa22, S22, N22', H22, G22⟩ := id V_a0
  have hin22 := inb_of (j := (2 : Int32)) S22 ⟨by decide, by decide⟩
  have hat22 := H22.at (v := (.int x2)) hin22 rfl
  refine OGo.go (B := T21.setTop (mkF m 30 #[.val (.ref a0), .val (.ref b1), .val (.ref a0), .val (.int (3 : Int32)), .val (.int (2 : Int32)), .val (.int x1)] [(.int x2)])) ?_ (fun tX kX => X21.baloadBytes hx (j := (2 : Int32)) (v := (.int x2)) Ar22.1 (State.isArrayOf_alike hZ.alike Ar22.2.1) Ar22.2.2 hin22 hat22 (g := (mkF m 29 #[.val (.ref a0), .val (.ref b1), .val (.ref a0), .val (.int (3 : Int32)), .val (.int (2 : Int32)), .val (.int x1)] [(.int (2 : Int32)), (.ref a0)])) rfl rfl (hb hby d1_29) _ kX)
  refine OGo.go (B := T21.setTop (mkF m 32 #[.val (.ref a0), .val (.ref b1), .val (.ref a0), .val (.int (3 : Int32)), .val (.int (2 : Int32)), .val (.int x2)] [])) ?_ (fun tX kX => XS.istore X21.here hx rfl (hb hby d1_30) rfl (l' := #[.val (.ref a0), .val (.ref b1), .val (.ref a0), .val (.int (3 : Int32)), .val (.int (2 : Int32)), .val (.int x2)]) rfl kX)
  refine OGo.go (B := T21.setTop (mkF m 33 #[.val (.ref a0), .val (.ref b1), .val (.ref a0), .val (.int (3 : Int32)), .val (.int (2 : Int32)), .val (.int x2)] [(.ref b1)])) ?_ (fun tX kX => XS.aloadN X21.here hx rfl (hb hby d1_32) rfl rfl kX)
  obtain ⟨cq23, kq23, q23a, q23b, q23c⟩ := isOf hZ rfl E_b1
  obtain ⟨_, _, ⟨T23, L23, k23, n23⟩, -, X23, ⟨Lc23, hQ23, l23, y23, z23⟩, st23⟩ := X21.virtualBack hx (y := (⟨"java/lang/StringBuilder", "length", "()I"⟩ : MethodName)) (z := (⟨"java/lang/StringBuilder", "length", "()I"⟩ : MethodName)) hown (mvT hZ (hw _ (List.mem_of_getElem? (i := 90) rfl))) (mvT hZ (hw _ (List.mem_of_getElem? (i := 91) rfl))) (notFace_of_selects (args := #[]) (mvT hZ (hw _ (List.mem_of_getElem? (i := 92) rfl)))) (mvT hZ (hw _ (List.mem_of_getElem? (i := 92) rfl))) (mvT hZ (hw _ (List.mem_of_getElem? (i := 50) rfl))) (by decide) (backOf (W := 0) (rm9 l Z aV hw [] b1 (5 : Int32) T21.heap n0 zn21 E_b1 F_count_b1) hZ (hw _ (List.mem_of_getElem? (i := 51) rfl)) (hw _ (List.mem_of_getElem? (i := 7) rfl)) (by decide) (by decide)) q23a q23c (g := (mkF m 33 #[.val (.ref a0), .val (.ref b1), .val (.ref a0), .val (.int (3 : Int32)), .val (.int (2 : Int32)), .val (.int x2)] [(.ref b1)])) rfl (by rw [hml]; rfl) (Steps.refl _) (argsL := []) (rest := []) (lenOf pd___I rfl) rfl (by show 2 * 0 + _ ≤ _; exact Nat.le_of_eq rfl) (hb hby d1_33) (fun _ _ => ⟨rfl, rfl, (by decide : 2 + 0 ≤ _), (by decide : 13 + 0 ≤ _)⟩)
  dsimp only [Pt.U, Pt.locs, Pt.cells, Pt.slots] at X23 l23 y23 z23 st23 hQ23
  subst l23 y23 z23
  obtain ⟨rfl, N23q, e23⟩ := hQ23
  have N23 := Fr.app N21 N23q
  refine OGo.go (B := T23.setTop (mkF m 36 #[.val (.ref a0), .val (.ref b1), .val (.ref a0), .val (.int (3 : Int32)), .val (.int (2 : Int32)), .val (.int x2)] [(.int (5 : Int32))])) ?_ (fun tX kX => st23.trans kX)
  refine OGo.go (B := T23.setTop (mkF m 39 #[.val (.ref a0), .val (.ref b1), .val (.ref a0), .val (.int (3 : Int32)), .val (.int (2 : Int32)), .val (.int x2)] [])) ?_ (fun tX kX => XS.ifNo X23.here hx rfl (hb hby d1_36) rfl ((if0 _ _).trans (tlt (by decide)).2.2.2) kX)
  refine OGo.go (B := T23.setTop (mkF m 40 #[.val (.ref a0), .val (.ref b1), .val (.ref a0), .val (.int (3 : Int32)), .val (.int (2 : Int32)), .val (.int x2)] [(.ref b1)])) ?_ (fun tX kX => XS.aloadN X23.here hx rfl (hb hby d1_39) rfl rfl kX)
  refine OGo.go (B := T23.setTop (mkF m 42 #[.val (.ref a0), .val (.ref b1), .val (.ref a0), .val (.int (3 : Int32)), .val (.int (2 : Int32)), .val (.int x2)] [(.int (32 : Int32)), (.ref b1)])) ?_ (fun tX kX => XS.bipush X23.here hx rfl (hb hby d1_40) kX)
  obtain ⟨cq24, kq24, q24a, q24b, q24c⟩ := isOf hZ e23 E_b1
  obtain ⟨_, _, ⟨T24, L24, k24, n24⟩, -, X24, ⟨Lc24, hQ24, l24, y24, z24⟩, st24⟩ := X23.virtualBack hx (y := (⟨"java/lang/StringBuilder", "append", "(C)Ljava/lang/StringBuilder;"⟩ : MethodName)) (z := (⟨"java/lang/StringBuilder", "append", "(C)Ljava/lang/StringBuilder;"⟩ : MethodName)) hown (mvT hZ (hw _ (List.mem_of_getElem? (i := 95) rfl))) (mvT hZ (hw _ (List.mem_of_getElem? (i := 96) rfl))) (notFace_of_selects (args := #[]) (mvT hZ (hw _ (List.mem_of_getElem? (i := 98) rfl)))) (mvT hZ (hw _ (List.mem_of_getElem? (i := 98) rfl))) (mvT hZ (hw _ (List.mem_of_getElem? (i := 97) rfl))) (by decide) (backOf (W := 0) (rm15 l Z aV hw [] b1 (32 : Int32) vb_3 kb_3 (9 : Int32) [(.int (((own_dig ((x0 >>> ((4 : Int32) &&& 31)) &&& (15 : Int32))).toInt8.toInt32).toInt8.toInt32)), (.int (((own_dig (x0 &&& (15 : Int32))).toInt8.toInt32).toInt8.toInt32)), (.int (((32 : Int32).toInt8.toInt32).toInt8.toInt32)), (.int (((own_dig ((x1 >>> ((4 : Int32) &&& 31)) &&& (15 : Int32))).toInt8.toInt32).toInt8.toInt32)), (.int (((own_dig (x1 &&& (15 : Int32))).toInt8.toInt32).toInt8.toInt32)), (.int (0 : Int32)), (.int (0 : Int32)), (.int (0 : Int32)), (.int (0 : Int32))] (5 : Int32) 5 cs T21.heap n0 zn21 E_b1 F_value_b1 F_coder_b1 F_count_b1 E_vb_3 V_vb_3 S_COMPACT_STRINGS g_b1 g_vb_3 ne_b1_vb_3 hcs (by decide) (by decide) ⟨by decide, by decide⟩ rfl (Nat.le_of_ble_eq_true rfl)) hZ (hw _ (List.mem_of_getElem? (i := 99) rfl)) (hw _ (List.mem_of_getElem? (i := 7) rfl)) (by decide) (by decide)) q24a q24c (g := (mkF m 42 #[.val (.ref a0), .val (.ref b1), .val (.ref a0), .val (.int (3 : Int32)), .val (.int (2 : Int32)), .val (.int x2)] [(.int (32 : Int32)), (.ref b1)])) rfl (by rw [hml]; rfl) (Steps.refl _) (argsL := [(.int (32 : Int32))]) (rest := []) (lenOf pd__C_Ljava_lang_StringBuilder_ rfl) rfl (by show 2 * 0 + _ ≤ _; exact Nat.le_of_eq rfl) (hb hby d1_42) (fun _ _ => ⟨rfl, e23, (by decide : 2 + 0 ≤ _), (by decide : 13 + 0 ≤ _)⟩)
  dsimp only [Pt.U, Pt.locs, Pt.cells, Pt.slots] at X24 l24 y24 z24 st24 hQ24
  subst l24 y24 z24
  obtain ⟨rfl, N24q, Kq24, E_b1_p, F_value_b1_p, F_coder_b1_p, F_count_b1_p, E_vb_3_p, V_vb_3_p⟩ := hQ24
  have N24 := Fr.app N23 N24q
  have S_COMPACT_STRINGS := Sta.keepE S_COMPACT_STRINGS Kq24 (staS E_b1.cell (staS E_vb_3.cell (fun x hx' => nomatch hx')))
  have S_DIGITS := Sta.keepE S_DIGITS Kq24 (staS E_b1.cell (staS E_vb_3.cell (fun x hx' => nomatch hx')))
  have V_a0 := V_a0.keep Kq24 (ninS ne_a0_b1 (ninS ne_a0_vb_3 nin0))
  have V_ud := V_ud.keep Kq24 (ninS ne_ud_b1 (ninS ne_ud_vb_3 nin0))
  have E_b1 := E_b1.keep Kq24
  have E_vb_3 := E_vb_3.keep Kq24
  have K24 := K21.trans Kq24 (allS (P := fun x => x ∈ ([] : List Addr) ∨ h0.size ≤ x) (Or.inr sz_b1) (allS (P := fun x => x ∈ ([] : List Addr) ∨ h0.size ≤ x) (Or.inr sz_vb_3) all0))
  have zn24 : n0 ≤ T24.heap.size := Nat.le_trans zn21 Kq24.1
  have E_b1 := E_b1_p
  have F_value_b1 := F_value_b1_p
  have F_coder_b1 := F_coder_b1_p
  have F_count_b1 := F_count_b1_p
  have E_vb_3 := E_vb_3_p
  have V_vb_3 := V_vb_3_p
  refine OGo.go (B := T24.setTop (mkF m 45 #[.val (.ref a0), .val (.ref b1), .val (.ref a0), .val (.int (3 : Int32)), .val (.int (2 : Int32)), .val (.int x2)] [(.ref b1)])) ?_ (fun tX kX => st24.trans kX)
  have F_count_b1 : Fld Z T24.heap b1 "java/lang/AbstractStringBuilder" "count" "I" (.int (6 : Int32)) := F_count_b1
  have V_vb_3 : Arv Z T24.heap vb_3 kb_3 .byte (9 : Int32) [(.int (((own_dig ((x0 >>> ((4 : Int32) &&& 31)) &&& (15 : Int32))).toInt8.toInt32).toInt8.toInt32)), (.int (((own_dig (x0 &&& (15 : Int32))).toInt8.toInt32).toInt8.toInt32)), (.int (((32 : Int32).toInt8.toInt32).toInt8.toInt32)), (.int (((own_dig ((x1 >>> ((4 : Int32) &&& 31)) &&& (15 : Int32))).toInt8.toInt32).toInt8.toInt32)), (.int (((own_dig (x1 &&& (15 : Int32))).toInt8.toInt32).toInt8.toInt32)), (.int (((32 : Int32).toInt8.toInt32).toInt8.toInt32)), (.int (0 : Int32)), (.int (0 : Int32)), (.int (0 : Int32))] (.int (0 : Int32)) := V_vb_3
  refine OGo.go (B := T24.setTop (mkF m 46 #[.val (.ref a0), .val (.ref b1), .val (.ref a0), .val (.int (3 : Int32)), .val (.int (2 : Int32)), .val (.int x2)] [])) ?_ (fun tX kX => XS.pop X24.here hx rfl (hb hby d1_45) rfl rfl kX)
  refine OGo.go (B := T24.setTop (mkF m 47 #[.val (.ref a0), .val (.ref b1), .val (.ref a0), .val (.int (3 : Int32)), .val (.int (2 : Int32)), .val (.int x2)] [(.ref b1)])) ?_ (fun tX kX => XS.aloadN X24.here hx rfl (hb hby d1_46) rfl rfl kX)
  obtain ⟨T25, X25, e25, st25⟩ := getS2 X24 hx hZ hown (host := "") (Or.inl (hw _ (List.mem_of_getElem? (i := 93) rfl))) Via.refl rfl S_DIGITS (g := (mkF m 47 #[.val (.ref a0), .val (.ref b1), .val (.ref a0), .val (.int (3 : Int32)), .val (.int (2 : Int32)), .val (.int x2)] [(.ref b1)])) rfl (hb hby d1_47)
  refine OGo.go (B := T25.setTop (mkF m 50 #[.val (.ref a0), .val (.ref b1), .val (.ref a0), .val (.int (3 : Int32)), .val (.int (2 : Int32)), .val (.int x2)] [(.ref ud), (.ref b1)])) ?_ st25
  refine OGo.go (B := T25.setTop (mkF m 52 #[.val (.ref a0), .val (.ref b1), .val (.ref a0), .val (.int (3 : Int32)), .val (.int (2 : Int32)), .val (.int x2)] [(.int x2), (.ref ud), (.ref b1)])) ?_ (fun tX kX => XS.iload X25.here hx rfl (hb hby d1_50) rfl kX)
  refine OGo.go (B := T25.setTop (mkF m 53 #[.val (.ref a0), .val (.ref b1), .val (.ref a0), .val (.int (3 : Int32)), .val (.int (2 : Int32)), .val (.int x2)] [(.int (4 : Int32)), (.int x2), (.ref ud), (.ref b1)])) ?_ (fun tX kX => XS.iconst X25.here hx rfl (hb hby d1_52) kX)
  refine OGo.go (B := T25.setTop (mkF m 54 #[.val (.ref a0), .val (.ref b1), .val (.ref a0), .val (.int (3 : Int32)), .val (.int (2 : Int32)), .val (.int x2)] [(.int (x2 >>> ((4 : Int32) &&& 31))), (.ref ud), (.ref b1)])) ?_ (fun tX kX => XS.ishr X25.here hx rfl (hb hby d1_53) rfl kX)
  refine OGo.go (B := T25.setTop (mkF m 56 #[.val (.ref a0), .val (.ref b1), .val (.ref a0), .val (.int (3 : Int32)), .val (.int (2 : Int32)), .val (.int x2)] [(.int (15 : Int32)), (.int (x2 >>> ((4 : Int32) &&& 31))), (.ref ud), (.ref b1)])) ?_ (fun tX kX => XS.bipush X25.here hx rfl (hb hby d1_54) kX)
  refine OGo.go (B := T25.setTop (mkF m 57 #[.val (.ref a0), .val (.ref b1), .val (.ref a0), .val (.int (3 : Int32)), .val (.int (2 : Int32)), .val (.int x2)] [(.int ((x2 >>> ((4 : Int32) &&& 31)) &&& (15 : Int32))), (.ref ud), (.ref b1)])) ?_ (fun tX kX => XS.iand X25.here hx rfl (hb hby d1_56) rfl kX)
  obtain ⟨cl26, Ar26, qa26, S26, N26', H26, G26⟩ := id V_ud
  have hin26 := inb_of (j := ((x2 >>> ((4 : Int32) &&& 31)) &&& (15 : Int32))) S26 (own_in16 _)
  have hat26 := H26.at (v := (.int (own_dig ((x2 >>> ((4 : Int32) &&& 31)) &&& (15 : Int32))))) hin26 (own_getD _)
  refine OGo.go (B := T25.setTop (mkF m 58 #[.val (.ref a0), .val (.ref b1), .val (.ref a0), .val (.int (3 : Int32)), .val (.int (2 : Int32)), .val (.int x2)] [(.int (own_dig ((x2 >>> ((4 : Int32) &&& 31)) &&& (15 : Int32)))), (.ref b1)])) ?_ (fun tX kX => X25.caload hx (j := ((x2 >>> ((4 : Int32) &&& 31)) &&& (15 : Int32))) (v := (.int (own_dig ((x2 >>> ((4 : Int32) &&& 31)) &&& (15 : Int32))))) (by rw [e25]; exact Ar26.1) (State.isArrayOf_alike hZ.alike Ar26.2.1) Ar26.2.2 hin26 hat26 (g := (mkF m 57 #[.val (.ref a0), .val (.ref b1), .val (.ref a0), .val (.int (3 : Int32)), .val (.int (2 : Int32)), .val (.int x2)] [(.int ((x2 >>> ((4 : Int32) &&& 31)) &&& (15 : Int32))), (.ref ud), (.ref b1)])) rfl rfl (hb hby d1_57) _ kX)
  obtain ⟨cq27, kq27, q27a, q27b, q27c⟩ := isOf hZ e25 E_b1
  obtain ⟨_, _, ⟨T27, L27, k27, n27⟩, -, X27, ⟨Lc27, hQ27, l27, y27, z27⟩, st27⟩ := X25.virtualBack hx (y := (⟨"java/lang/StringBuilder", "append", "(C)Ljava/lang/StringBuilder;"⟩ : MethodName)) (z := (⟨"java/lang/StringBuilder", "append", "(C)Ljava/lang/StringBuilder;"⟩ : MethodName)) hown (mvT hZ (hw _ (List.mem_of_getElem? (i := 95) rfl))) (mvT hZ (hw _ (List.mem_of_getElem? (i := 96) rfl))) (notFace_of_selects (args := #[]) (mvT hZ (hw _ (List.mem_of_getElem? (i := 98) rfl)))) (mvT hZ (hw _ (List.mem_of_getElem? (i := 98) rfl))) (mvT hZ (hw _ (List.mem_of_getElem? (i := 97) rfl))) (by decide) (backOf (W := 0) (rm15 l Z aV hw [] b1 (own_dig ((x2 >>> ((4 : Int32) &&& 31)) &&& (15 : Int32))) vb_3 kb_3 (9 : Int32) [(.int (((own_dig ((x0 >>> ((4 : Int32) &&& 31)) &&& (15 : Int32))).toInt8.toInt32).toInt8.toInt32)), (.int (((own_dig (x0 &&& (15 : Int32))).toInt8.toInt32).toInt8.toInt32)), (.int (((32 : Int32).toInt8.toInt32).toInt8.toInt32)), (.int (((own_dig ((x1 >>> ((4 : Int32) &&& 31)) &&& (15 : Int32))).toInt8.toInt32).toInt8.toInt32)), (.int (((own_dig (x1 &&& (15 : Int32))).toInt8.toInt32).toInt8.toInt32)), (.int (((32 : Int32).toInt8.toInt32).toInt8.toInt32)), (.int (0 : Int32)), (.int (0 : Int32)), (.int (0 : Int32))] (6 : Int32) 6 cs T24.heap n0 zn24 E_b1 F_value_b1 F_coder_b1 F_count_b1 E_vb_3 V_vb_3 S_COMPACT_STRINGS g_b1 g_vb_3 ne_b1_vb_3 hcs (own_le255 _) (by decide) ⟨by decide, by decide⟩ rfl (Nat.le_of_ble_eq_true rfl)) hZ (hw _ (List.mem_of_getElem? (i := 99) rfl)) (hw _ (List.mem_of_getElem? (i := 7) rfl)) (by decide) (by decide)) q27a q27c (g := (mkF m 58 #[.val (.ref a0), .val (.ref b1), .val (.ref a0), .val (.int (3 : Int32)), .val (.int (2 : Int32)), .val (.int x2)] [(.int (own_dig ((x2 >>> ((4 : Int32) &&& 31)) &&& (15 : Int32)))), (.ref b1)])) rfl (by rw [hml]; rfl) (Steps.refl _) (argsL := [(.int (own_dig ((x2 >>> ((4 : Int32) &&& 31)) &&& (15 : Int32))))]) (rest := []) (lenOf pd__C_Ljava_lang_StringBuilder_ rfl) rfl (by show 2 * 0 + _ ≤ _; exact Nat.le_of_eq rfl) (hb hby d1_58) (fun _ _ => ⟨rfl, e25, (by decide : 2 + 0 ≤ _), (by decide : 13 + 0 ≤ _)⟩)
  dsimp only [Pt.U, Pt.locs, Pt.cells, Pt.slots] at X27 l27 y27 z27 st27 hQ27
  subst l27 y27 z27
  obtain ⟨rfl, N27q, Kq27, E_b1_p, F_value_b1_p, F_coder_b1_p, F_count_b1_p, E_vb_3_p, V_vb_3_p⟩ := hQ27
  have N27 := Fr.app N24 N27q
  have S_COMPACT_STRINGS := Sta.keepE S_COMPACT_STRINGS Kq27 (staS E_b1.cell (staS E_vb_3.cell (fun x hx' => nomatch hx')))
  have S_DIGITS := Sta.keepE S_DIGITS Kq27 (staS E_b1.cell (staS E_vb_3.cell (fun x hx' => nomatch hx')))
  have V_a0 := V_a0.keep Kq27 (ninS ne_a0_b1 (ninS ne_a0_vb_3 nin0))
  have V_ud := V_ud.keep Kq27 (ninS ne_ud_b1 (ninS ne_ud_vb_3 nin0))
  have E_b1 := E_b1.keep Kq27
  have E_vb_3 := E_vb_3.keep Kq27
  have K27 := K24.trans Kq27 (allS (P := fun x => x ∈ ([] : List Addr) ∨ h0.size ≤ x) (Or.inr sz_b1) (allS (P := fun x => x ∈ ([] : List Addr) ∨ h0.size ≤ x) (Or.inr sz_vb_3) all0))
  have zn27 : n0 ≤ T27.heap.size := Nat.le_trans zn24 Kq27.1
  have E_b1 := E_b1_p
  have F_value_b1 := F_value_b1_p
  have F_coder_b1 := F_coder_b1_p
  have F_count_b1 := F_count_b1_p
  have E_vb_3 := E_vb_3_p
  have V_vb_3 := V_vb_3_p
  refine OGo.go (B := T27.setTop (mkF m 61 #[.val (.ref a0), .val (.ref b1), .val (.ref a0), .val (.int (3 : Int32)), .val (.int (2 : Int32)), .val (.int x2)] [(.ref b1)])) ?_ (fun tX kX => st27.trans kX)
  have F_count_b1 : Fld Z T27.heap b1 "java/lang/AbstractStringBuilder" "count" "I" (.int (7 : Int32)) := F_count_b1
  have V_vb_3 : Arv Z T27.heap vb_3 kb_3 .byte (9 : Int32) [(.int (((own_dig ((x0 >>> ((4 : Int32) &&& 31)) &&& (15 : Int32))).toInt8.toInt32).toInt8.toInt32)), (.int (((own_dig (x0 &&& (15 : Int32))).toInt8.toInt32).toInt8.toInt32)), (.int (((32 : Int32).toInt8.toInt32).toInt8.toInt32)), (.int (((own_dig ((x1 >>> ((4 : Int32) &&& 31)) &&& (15 : Int32))).toInt8.toInt32).toInt8.toInt32)), (.int (((own_dig (x1 &&& (15 : Int32))).toInt8.toInt32).toInt8.toInt32)), (.int (((32 : Int32).toInt8.toInt32).toInt8.toInt32)), (.int (((own_dig ((x2 >>> ((4 : Int32) &&& 31)) &&& (15 : Int32))).toInt8.toInt32).toInt8.toInt32)), (.int (0 : Int32)), (.int (0 : Int32))] (.int (0 : Int32)) := V_vb_3
  obtain ⟨T28, X28, e28, st28⟩ := getS2 X27 hx hZ hown (host := "") (Or.inl (hw _ (List.mem_of_getElem? (i := 93) rfl))) Via.refl rfl S_DIGITS (g := (mkF m 61 #[.val (.ref a0), .val (.ref b1), .val (.ref a0), .val (.int (3 : Int32)), .val (.int (2 : Int32)), .val (.int x2)] [(.ref b1)])) rfl (hb hby d1_61)
  refine OGo.go (B := T28.setTop (mkF m 64 #[.val (.ref a0), .val (.ref b1), .val (.ref a0), .val (.int (3 : Int32)), .val (.int (2 : Int32)), .val (.int x2)] [(.ref ud), (.ref b1)])) ?_ st28
  refine OGo.go (B := T28.setTop (mkF m 66 #[.val (.ref a0), .val (.ref b1), .val (.ref a0), .val (.int (3 : Int32)), .val (.int (2 : Int32)), .val (.int x2)] [(.int x2), (.ref ud), (.ref b1)])) ?_ (fun tX kX => XS.iload X28.here hx rfl (hb hby d1_64) rfl kX)
  refine OGo.go (B := T28.setTop (mkF m 68 #[.val (.ref a0), .val (.ref b1), .val (.ref a0), .val (.int (3 : Int32)), .val (.int (2 : Int32)), .val (.int x2)] [(.int (15 : Int32)), (.int x2), (.ref ud), (.ref b1)])) ?_ (fun tX kX => XS.bipush X28.here hx rfl (hb hby d1_66) kX)
  refine OGo.go (B := T28.setTop (mkF m 69 #[.val (.ref a0), .val (.ref b1), .val (.ref a0), .val (.int (3 : Int32)), .val (.int (2 : Int32)), .val (.int x2)] [(.int (x2 &&& (15 : Int32))), (.ref ud), (.ref b1)])) ?_ (fun tX kX => XS.iand X28.here hx rfl (hb hby d1_68) rfl kX)
  obtain ⟨cl29, Ar29, qa29, S29, N29', H29, G29⟩ := id V_ud
  have hin29 := inb_of (j := (x2 &&& (15 : Int32))) S29 (own_in16 _)
  have hat29 := H29.at (v := (.int (own_dig (x2 &&& (15 : Int32))))) hin29 (own_getD _)
  refine OGo.go (B := T28.setTop (mkF m 70 #[.val (.ref a0), .val (.ref b1), .val (.ref a0), .val (.int (3 : Int32)), .val (.int (2 : Int32)), .val (.int x2)] [(.int (own_dig (x2 &&& (15 : Int32)))), (.ref b1)])) ?_ (fun tX kX => X28.caload hx (j := (x2 &&& (15 : Int32))) (v := (.int (own_dig (x2 &&& (15 : Int32))))) (by rw [e28]; exact Ar29.1) (State.isArrayOf_alike hZ.alike Ar29.2.1) Ar29.2.2 hin29 hat29 (g := (mkF m 69 #[.val (.ref a0), .val (.ref b1), .val (.ref a0), .val (.int (3 : Int32)), .val (.int (2 : Int32)), .val (.int x2)] [(.int (x2 &&& (15 : Int32))), (.ref ud), (.ref b1)])) rfl rfl (hb hby d1_69) _ kX)
  obtain ⟨cq30, kq30, q30a, q30b, q30c⟩ := isOf hZ e28 E_b1
  obtain ⟨_, _, ⟨T30, L30, k30, n30⟩, -, X30, ⟨Lc30, hQ30, l30, y30, z30⟩, st30⟩ := X28.virtualBack hx (y := (⟨"java/lang/StringBuilder", "append", "(C)Ljava/lang/StringBuilder;"⟩ : MethodName)) (z := (⟨"java/lang/StringBuilder", "append", "(C)Ljava/lang/StringBuilder;"⟩ : MethodName)) hown (mvT hZ (hw _ (List.mem_of_getElem? (i := 95) rfl))) (mvT hZ (hw _ (List.mem_of_getElem? (i := 96) rfl))) (notFace_of_selects (args := #[]) (mvT hZ (hw _ (List.mem_of_getElem? (i := 98) rfl)))) (mvT hZ (hw _ (List.mem_of_getElem? (i := 98) rfl))) (mvT hZ (hw _ (List.mem_of_getElem? (i := 97) rfl))) (by decide) (backOf (W := 0) (rm15 l Z aV hw [] b1 (own_dig (x2 &&& (15 : Int32))) vb_3 kb_3 (9 : Int32) [(.int (((own_dig ((x0 >>> ((4 : Int32) &&& 31)) &&& (15 : Int32))).toInt8.toInt32).toInt8.toInt32)), (.int (((own_dig (x0 &&& (15 : Int32))).toInt8.toInt32).toInt8.toInt32)), (.int (((32 : Int32).toInt8.toInt32).toInt8.toInt32)), (.int (((own_dig ((x1 >>> ((4 : Int32) &&& 31)) &&& (15 : Int32))).toInt8.toInt32).toInt8.toInt32)), (.int (((own_dig (x1 &&& (15 : Int32))).toInt8.toInt32).toInt8.toInt32)), (.int (((32 : Int32).toInt8.toInt32).toInt8.toInt32)), (.int (((own_dig ((x2 >>> ((4 : Int32) &&& 31)) &&& (15 : Int32))).toInt8.toInt32).toInt8.toInt32)), (.int (0 : Int32)), (.int (0 : Int32))] (7 : Int32) 7 cs T27.heap n0 zn27 E_b1 F_value_b1 F_coder_b1 F_count_b1 E_vb_3 V_vb_3 S_COMPACT_STRINGS g_b1 g_vb_3 ne_b1_vb_3 hcs (own_le255 _) (by decide) ⟨by decide, by decide⟩ rfl (Nat.le_of_ble_eq_true rfl)) hZ (hw _ (List.mem_of_getElem? (i := 99) rfl)) (hw _ (List.mem_of_getElem? (i := 7) rfl)) (by decide) (by decide)) q30a q30c (g := (mkF m 70 #[.val (.ref a0), .val (.ref b1), .val (.ref a0), .val (.int (3 : Int32)), .val (.int (2 : Int32)), .val (.int x2)] [(.int (own_dig (x2 &&& (15 : Int32)))), (.ref b1)])) rfl (by rw [hml]; rfl) (Steps.refl _) (argsL := [(.int (own_dig (x2 &&& (15 : Int32))))]) (rest := []) (lenOf pd__C_Ljava_lang_StringBuilder_ rfl) rfl (by show 2 * 0 + _ ≤ _; exact Nat.le_of_eq rfl) (hb hby d1_70) (fun _ _ => ⟨rfl, e28, (by decide : 2 + 0 ≤ _), (by decide : 13 + 0 ≤ _)⟩)
  dsimp only [Pt.U, Pt.locs, Pt.cells, Pt.slots] at X30 l30 y30 z30 st30 hQ30
  subst l30 y30 z30
  obtain ⟨rfl, N30q, Kq30, E_b1_p, F_value_b1_p, F_coder_b1_p, F_count_b1_p, E_vb_3_p, V_vb_3_p⟩ := hQ30
  have N30 := Fr.app N27 N30q
  have S_COMPACT_STRINGS := Sta.keepE S_COMPACT_STRINGS Kq30 (staS E_b1.cell (staS E_vb_3.cell (fun x hx' => nomatch hx')))
  have S_DIGITS := Sta.keepE S_DIGITS Kq30 (staS E_b1.cell (staS E_vb_3.cell (fun x hx' => nomatch hx')))
  have V_a0 := V_a0.keep Kq30 (ninS ne_a0_b1 (ninS ne_a0_vb_3 nin0))
  have V_ud := V_ud.keep Kq30 (ninS ne_ud_b1 (ninS ne_ud_vb_3 nin0))
  have E_b1 := E_b1.keep Kq30
  have E_vb_3 := E_vb_3.keep Kq30
  have K30 := K27.trans Kq30 (allS (P := fun x => x ∈ ([] : List Addr) ∨ h0.size ≤ x) (Or.inr sz_b1) (allS (P := fun x => x ∈ ([] : List Addr) ∨ h0.size ≤ x) (Or.inr sz_vb_3) all0))
  have zn30 : n0 ≤ T30.heap.size := Nat.le_trans zn27 Kq30.1
  have E_b1 := E_b1_p
  have F_value_b1 := F_value_b1_p
  have F_coder_b1 := F_coder_b1_p
  have F_count_b1 := F_count_b1_p
  have E_vb_3 := E_vb_3_p
  have V_vb_3 := V_vb_3_p
  refine OGo.go (B := T30.setTop (mkF m 73 #[.val (.ref a0), .val (.ref b1), .val (.ref a0), .val (.int (3 : Int32)), .val (.int (2 : Int32)), .val (.int x2)] [(.ref b1)])) ?_ (fun tX kX => st30.trans kX)
  have F_count_b1 : Fld Z T30.heap b1 "java/lang/AbstractStringBuilder" "count" "I" (.int (8 : Int32)) := F_count_b1
  have V_vb_3 : Arv Z T30.heap vb_3 kb_3 .byte (9 : Int32) [(.int (((own_dig ((x0 >>> ((4 : Int32) &&& 31)) &&& (15 : Int32))).toInt8.toInt32).toInt8.toInt32)), (.int (((own_dig (x0 &&& (15 : Int32))).toInt8.toInt32).toInt8.toInt32)), (.int (((32 : Int32).toInt8.toInt32).toInt8.toInt32)), (.int (((own_dig ((x1 >>> ((4 : Int32) &&& 31)) &&& (15 : Int32))).toInt8.toInt32).toInt8.toInt32)), (.int (((own_dig (x1 &&& (15 : Int32))).toInt8.toInt32).toInt8.toInt32)), (.int (((32 : Int32).toInt8.toInt32).toInt8.toInt32)), (.int (((own_dig ((x2 >>> ((4 : Int32) &&& 31)) &&& (15 : Int32))).toInt8.toInt32).toInt8.toInt32)), (.int (((own_dig (x2 &&& (15 : Int32))).toInt8.toInt32).toInt8.toInt32)), (.int (0 : Int32))] (.int (0 : Int32)) := V_vb_3
  refine OGo.go (B := T30.setTop (mkF m 74 #[.val (.ref a0), .val (.ref b1), .val (.ref a0), .val (.int (3 : Int32)), .val (.int (2 : Int32)), .val (.int x2)] [])) ?_ (fun tX kX => XS.pop X30.here hx rfl (hb hby d1_73) rfl rfl kX)
  refine OGo.go (B := T30.setTop (mkF m 77 #[.val (.ref a0), .val (.ref b1), .val (.ref a0), .val (.int (3 : Int32)), .val (.int (3 : Int32)), .val (.int x2)] [])) ?_ (fun tX kX => XS.iinc X30.here hx rfl (hb hby d1_74) rfl (l' := #[.val (.ref a0), .val (.ref b1), .val (.ref a0), .val (.int (3 : Int32)), .val (.int (3 : Int32)), .val (.int x2)]) rfl kX)
  refine OGo.go (B := T30.setTop (mkF m 20 #[.val (.ref a0), .val (.ref b1), .val (.ref a0), .val (.int (3 : Int32)), .val (.int (3 : Int32)), .val (.int x2)] [])) ?_ (fun tX kX => XS.goto X30.here hx rfl (pc0 := 77) (pc' := 20) rfl (hb hby d1_77) (by decide) (by decide) kX)
  refine OGo.go (B := T30.setTop (mkF m 22 #[.val (.ref a0), .val (.ref b1), .val (.ref a0), .val (.int (3 : Int32)), .val (.int (3 : Int32)), .val (.int x2)] [(.int (3 : Int32))])) ?_ (fun tX kX => XS.iload X30.here hx rfl (hb hby d1_20) rfl kX)
  refine OGo.go (B := T30.setTop (mkF m 23 #[.val (.ref a0), .val (.ref b1), .val (.ref a0), .val (.int (3 : Int32)), .val (.int (3 : Int32)), .val (.int x2)] [(.int (3 : Int32)), (.int (3 : Int32))])) ?_ (fun tX kX => XS.iloadN X30.here hx rfl (hb hby d1_22) rfl kX)
  refine OGo.go (B := T30.setTop (mkF m 80 #[.val (.ref a0), .val (.ref b1), .val (.ref a0), .val (.int (3 : Int32)), .val (.int (3 : Int32)), .val (.int x2)] [])) ?_ (fun tX kX => XS.icmpYes X30.here hx rfl (pc0 := 23) (pc' := 80) rfl (hb hby d1_23) rfl (flt (by decide)).2.1 (by decide) (by decide) kX)
  refine OGo.go (B := T30.setTop (mkF m 81 #[.val (.ref a0), .val (.ref b1), .val (.ref a0), .val (.int (3 : Int32)), .val (.int (3 : Int32)), .val (.int x2)] [(.ref b1)])) ?_ (fun tX kX => XS.aloadN X30.here hx rfl (hb hby d1_80) rfl rfl kX)
  obtain ⟨cq31, kq31, q31a, q31b, q31c⟩ := isOf hZ rfl E_b1
  obtain ⟨_, _, ⟨T31, L31, k31, n31⟩, -, X31, ⟨Lc31, hQ31, l31, y31, z31⟩, st31⟩ := X30.virtualBack hx (y := (⟨"java/lang/StringBuilder", "toString", "()Ljava/lang/String;"⟩ : MethodName)) (z := (⟨"java/lang/StringBuilder", "toString", "()Ljava/lang/String;"⟩ : MethodName)) hown (mvT hZ (hw _ (List.mem_of_getElem? (i := 26) rfl))) (mvT hZ (hw _ (List.mem_of_getElem? (i := 27) rfl))) (notFace_of_selects (args := #[]) (mvT hZ (hw _ (List.mem_of_getElem? (i := 29) rfl)))) (mvT hZ (hw _ (List.mem_of_getElem? (i := 29) rfl))) (mvT hZ (hw _ (List.mem_of_getElem? (i := 28) rfl))) (by decide) (backOf (W := 0) (rm5c3 l Z aV hw [] b1 vb_3 kb_3 cs (((own_dig ((x0 >>> ((4 : Int32) &&& 31)) &&& (15 : Int32))).toInt8.toInt32).toInt8.toInt32) (((own_dig (x0 &&& (15 : Int32))).toInt8.toInt32).toInt8.toInt32) (((32 : Int32).toInt8.toInt32).toInt8.toInt32) (((own_dig ((x1 >>> ((4 : Int32) &&& 31)) &&& (15 : Int32))).toInt8.toInt32).toInt8.toInt32) (((own_dig (x1 &&& (15 : Int32))).toInt8.toInt32).toInt8.toInt32) (((32 : Int32).toInt8.toInt32).toInt8.toInt32) (((own_dig ((x2 >>> ((4 : Int32) &&& 31)) &&& (15 : Int32))).toInt8.toInt32).toInt8.toInt32) (((own_dig (x2 &&& (15 : Int32))).toInt8.toInt32).toInt8.toInt32) T30.heap n0 zn30 E_b1 F_value_b1 F_coder_b1 F_count_b1 E_vb_3 V_vb_3 S_COMPACT_STRINGS hcs) hZ (hw _ (List.mem_of_getElem? (i := 30) rfl)) (hw _ (List.mem_of_getElem? (i := 7) rfl)) (by decide) (by decide)) q31a q31c (g := (mkF m 81 #[.val (.ref a0), .val (.ref b1), .val (.ref a0), .val (.int (3 : Int32)), .val (.int (3 : Int32)), .val (.int x2)] [(.ref b1)])) rfl (by rw [hml]; rfl) (Steps.refl _) (argsL := []) (rest := []) (lenOf pd___Ljava_lang_String_ rfl) rfl (by show 2 * 0 + _ ≤ _; exact Nat.le_of_eq rfl) (hb hby d1_81) (fun _ _ => ⟨rfl, rfl, (by decide : 2 + 2 ≤ _), (by decide : 13 + 12 ≤ _)⟩)
  dsimp only [Pt.U, Pt.locs, Pt.cells, Pt.slots] at X31 l31 y31 z31 st31 hQ31
  subst l31 y31 z31
  obtain ⟨sr_31, nb_31, kn_31, rfl, N31q, Kq31, sz31_sr, sz31_nb, E_sr_31_p, F_value_sr_31_p, F_coder_sr_31_p, E_nb_31_p, V_nb_31_p⟩ := hQ31
  have N31 := Fr.app N30 N31q
  have ne_a0_sr_31 : a0 ≠ sr_31 := Nat.ne_of_lt (Nat.lt_of_lt_of_le V_a0.lt sz31_sr)
  have ne_ud_sr_31 : ud ≠ sr_31 := Nat.ne_of_lt (Nat.lt_of_lt_of_le V_ud.lt sz31_sr)
  have ne_b1_sr_31 : b1 ≠ sr_31 := Nat.ne_of_lt (Nat.lt_of_lt_of_le E_b1.lt sz31_sr)
  have ne_vb_3_sr_31 : vb_3 ≠ sr_31 := Nat.ne_of_lt (Nat.lt_of_lt_of_le E_vb_3.lt sz31_sr)
  have ne_a0_nb_31 : a0 ≠ nb_31 := Nat.ne_of_lt (Nat.lt_of_lt_of_le V_a0.lt sz31_nb)
  have ne_ud_nb_31 : ud ≠ nb_31 := Nat.ne_of_lt (Nat.lt_of_lt_of_le V_ud.lt sz31_nb)
  have ne_b1_nb_31 : b1 ≠ nb_31 := Nat.ne_of_lt (Nat.lt_of_lt_of_le E_b1.lt sz31_nb)
  have ne_vb_3_nb_31 : vb_3 ≠ nb_31 := Nat.ne_of_lt (Nat.lt_of_lt_of_le E_vb_3.lt sz31_nb)
  have S_COMPACT_STRINGS := Sta.keep0 S_COMPACT_STRINGS Kq31
  have S_DIGITS := Sta.keep0 S_DIGITS Kq31
  have V_a0 := V_a0.keep Kq31 nin0
  have V_ud := V_ud.keep Kq31 nin0
  have E_b1 := E_b1.keep Kq31
  have E_vb_3 := E_vb_3.keep Kq31
  have F_value_b1 := F_value_b1.keep Kq31 nin0
  have F_coder_b1 := F_coder_b1.keep Kq31 nin0
  have F_count_b1 := F_count_b1.keep Kq31 nin0
  have V_vb_3 := V_vb_3.keep Kq31 nin0
  have g_sr_31 : n0 ≤ sr_31 := Nat.le_trans zn30 sz31_sr
  have sz_sr_31 : h0.size ≤ sr_31 := Nat.le_trans K30.1 sz31_sr
  have g_nb_31 : n0 ≤ nb_31 := Nat.le_trans zn30 sz31_nb
  have sz_nb_31 : h0.size ≤ nb_31 := Nat.le_trans K30.1 sz31_nb
  have K31 := K30.trans Kq31 all0
  have zn31 : n0 ≤ T31.heap.size := Nat.le_trans zn30 Kq31.1
  have E_sr_31 := E_sr_31_p
  have F_value_sr_31 := F_value_sr_31_p
  have F_coder_sr_31 := F_coder_sr_31_p
  have E_nb_31 := E_nb_31_p
  have V_nb_31 := V_nb_31_p
  refine OGo.go (B := T31.setTop (mkF m 84 #[.val (.ref a0), .val (.ref b1), .val (.ref a0), .val (.int (3 : Int32)), .val (.int (3 : Int32)), .val (.int x2)] [(.ref sr_31)])) ?_ (fun tX kX => st31.trans kX)
  refine OGo.ret X31 (v := (some (.ref sr_31))) (fun h => by rw [Bd.returns] at h; cases h) (BodyLoose.notSynchronized Bd) (fun fs hr => retOut X31 hx Bd.returns rfl (Or.inr (Or.inr (Or.inr (Or.inr ⟨rfl, rfl, rfl⟩)))) (hb hby d1_84) hr) (Q := Q1n3 Z a0 kb cs ud kd x0 x1 x2 h0 n0) ?_ (by decide) (by decide)
  show Q1n3 Z a0 kb cs ud kd x0 x1 x2 h0 n0 _ T31.heap _
  exact ⟨sr_31, nb_31, kn_31, rfl, N31, K31, sz_sr_31, sz_nb_31, E_sr_31, F_value_sr_31, F_coder_sr_31, E_nb_31, V_nb_31⟩
theorem d14_0 : decode jdk_42_method_152_code 0 = .ok (.getstatic 38, 3) := by decide +kernel
theorem d14_3 : decode jdk_42_method_152_code 3 = .ok (.ifCond .eq 10, 3) := by decide +kernel
theorem d14_6 : decode jdk_42_method_152_code 6 = .ok (.aload_n 0, 1) := by decide +kernel
theorem d14_7 : decode jdk_42_method_152_code 7 = .ok (.getfield 15, 3) := by decide +kernel
theorem d14_10 : decode jdk_42_method_152_code 10 = .ok (.goto 4, 3) := by decide +kernel
theorem d14_14 : decode jdk_42_method_152_code 14 = .ok (.ireturn, 1) := by decide +kernel
def Q14 (Z : State) (a0 : Addr) (cs : Int32) (h0 : Heap) (n0 : Nat) (v : Option Value) (h : Heap) (L : List Loc) : Prop := v = some (.int (0 : Int32)) ∧ Fr n0 L ∧ h = h0
def P14 (Z : State) (a0 : Addr) (cs : Int32) (h0 : Heap) (n0 : Nat) (s : State) (o : Outcome) (U' : State) : Prop := ∃ v L, o = .returned v ∧ Q14 Z a0 cs h0 n0 v U'.heap L ∧ FrameEnd s o U' L ({ frames := 0, cells := 0, slots := 0, locals := 0 } : Room).cells ({ frames := 0, cells := 0, slots := 0, locals := 0 } : Room).slots
set_option maxRecDepth 65536 in
set_option maxHeartbeats 40000000 in
theorem rm14 (l : Launch) (Z : State) (aV : Array Value) (hw : ∀ d ∈ tables_1, d.before aV Z = true) (ws : List Jvm.Cond) (a0 : Addr) (cs : Int32) (h0 : Heap) (n0 : Nat) (Z0 : n0 ≤ h0.size) (F_coder_a0 : Fld Z h0 a0 "java/lang/String" "coder" "B" (.int (0 : Int32))) (S_COMPACT_STRINGS : Sta Z h0 "java/lang/String" "COMPACT_STRINGS" "Z" (.int cs)) (hcs : ¬ cs = 0) :
    MetFree l (⟨"java/lang/String", "coder", "()B"⟩ : MethodName) (head1 (Jvm.Cond.code (⟨"java/lang/String", "coder", "()B"⟩ : MethodName) jdk_42_method_152_code 1 (some .byte) :: ws) ({ frames := 0, cells := 0, slots := 0, locals := 0 } : Room)) (fun a U => a = #[(.ref a0)] ∧ Z.Warmed39 U.vm ∧ U.heap = h0) (fun _ _ _ _ _ => True) (fun _ U o U' => ∃ v L, o = .returned v ∧ Q14 Z a0 cs h0 n0 v U'.heap L ∧ FrameEnd U o U' L ({ frames := 0, cells := 0, slots := 0, locals := 0 } : Room).cells ({ frames := 0, cells := 0, slots := 0, locals := 0 } : Room).slots) := by
  refine MetFree.of_bodySF (plainFor_of_name pn_java_lang_String) hisR ?_
  intro p e s m args below meth c s₁ Bd hml0 hP hK
  obtain ⟨rfl, hZ, hh⟩ := hP
  have hx := Bd.exec
  have hby := Bd.bytes
  have hml : c.maxLocals = 1 := hml0
  have hown : s.vm.findClass "java/lang/String" = some m.cls := findClass_of_methodNamed Bd.named
  have hnm := (name_of_methodNamed Bd.named Bd.method).1
  have X0 : Stand p l e ({ frames := 0, cells := 0, slots := 0, locals := 0 } : Room) s m #[(.ref a0)] below meth c s₁ [] 0 0 := Stand.of_body Bd
  have e0 : s₁.heap = h0 := by rw [← hh, Bd.state]; rfl
  have efx : entryFrame m #[(.ref a0)] 1 = mkF m 0 #[.val (.ref a0)] [] := by first | (simp [entryFrame, mkF, argsToLocals, Value.category]; done) | rfl
  have N0 := Fr.nil n0
  have K0 : Keep h0 h0 [] := Keep.refl h0 _
  refine OGo.start (g' := mkF m 0 #[.val (.ref a0)] []) (efx) ?_
  show OGo p.tables e below (P14 Z a0 cs h0 n0 s) (s₁.setTop (mkF m 0 #[.val (.ref a0)] []))
  obtain ⟨T1, X1, e1, st1⟩ := getS2 X0 hx hZ hown (host := "") (Or.inl (hw _ (List.mem_of_getElem? (i := 89) rfl))) Via.refl e0 S_COMPACT_STRINGS (g := (mkF m 0 #[.val (.ref a0)] [])) rfl (hb hby d14_0)
  refine OGo.go (B := T1.setTop (mkF m 3 #[.val (.ref a0)] [(.int cs)])) ?_ st1
  refine OGo.go (B := T1.setTop (mkF m 6 #[.val (.ref a0)] [])) ?_ (fun tX kX => XS.ifNo X1.here hx rfl (hb hby d14_3) rfl ((if0 _ _).trans (feq hcs).1) kX)
  refine OGo.go (B := T1.setTop (mkF m 7 #[.val (.ref a0)] [(.ref a0)])) ?_ (fun tX kX => XS.aloadN X1.here hx rfl (hb hby d14_6) rfl rfl kX)
  obtain ⟨T2, X2, e2, st2⟩ := getF X1 hx hZ hown (host := "") (Or.inl (hw _ (List.mem_of_getElem? (i := 62) rfl))) Via.refl e1 F_coder_a0 (g := (mkF m 7 #[.val (.ref a0)] [(.ref a0)])) rfl rfl (hb hby d14_7)
  refine OGo.go (B := T2.setTop (mkF m 10 #[.val (.ref a0)] [(.int (0 : Int32))])) ?_ st2
  refine OGo.go (B := T2.setTop (mkF m 14 #[.val (.ref a0)] [(.int (0 : Int32))])) ?_ (fun tX kX => XS.goto X2.here hx rfl (pc0 := 10) (pc' := 14) rfl (hb hby d14_10) (by decide) (by decide) kX)
  refine OGo.ret X2 (v := (some (.int (0 : Int32)))) (fun h => by rw [Bd.returns] at h; cases h) (BodyLoose.notSynchronized Bd) (fun fs hr => retN X2 hx (t := .byte) (z := (0 : Int32)) Bd.returns (by simp) (hb hby d14_14) hr) (Q := Q14 Z a0 cs h0 n0) ?_ (by decide) (by decide)
  show Q14 Z a0 cs h0 n0 _ T2.heap _
  rw [e2]
  exact ⟨rfl, N0, rfl⟩
theorem d13_0 : decode jdk_42_method_54_code 0 = .ok (.aload_n 0, 1) := by decide +kernel
theorem d13_1 : decode jdk_42_method_54_code 1 = .ok (.getfield 9, 3) := by decide +kernel
theorem d13_4 : decode jdk_42_method_54_code 4 = .ok (.arraylength, 1) := by decide +kernel
theorem d13_5 : decode jdk_42_method_54_code 5 = .ok (.aload_n 0, 1) := by decide +kernel
theorem d13_6 : decode jdk_42_method_54_code 6 = .ok (.invokevirtual 335, 3) := by decide +kernel
theorem pd___B : parseMethodDescriptor "()B" = some ⟨[], some .byte⟩ := by decide +kernel
theorem d13_9 : decode jdk_42_method_54_code 9 = .ok (.ishr, 1) := by decide +kernel
theorem d13_10 : decode jdk_42_method_54_code 10 = .ok (.ireturn, 1) := by decide +kernel
def Q13 (Z : State) (a0 : Addr) (vb : Addr) (kb : ClassId) (n : Int32) (vs : List Value) (cs : Int32) (h0 : Heap) (n0 : Nat) (v : Option Value) (h : Heap) (L : List Loc) : Prop := v = some (.int (n >>> ((0 : Int32) &&& 31))) ∧ Fr n0 L ∧ h = h0
def P13 (Z : State) (a0 : Addr) (vb : Addr) (kb : ClassId) (n : Int32) (vs : List Value) (cs : Int32) (h0 : Heap) (n0 : Nat) (s : State) (o : Outcome) (U' : State) : Prop := ∃ v L, o = .returned v ∧ Q13 Z a0 vb kb n vs cs h0 n0 v U'.heap L ∧ FrameEnd s o U' L ({ frames := 1, cells := 0, slots := 0, locals := 13 } : Room).cells ({ frames := 1, cells := 0, slots := 0, locals := 13 } : Room).slots
set_option maxRecDepth 65536 in
set_option maxHeartbeats 40000000 in
theorem rm13 (l : Launch) (Z : State) (aV : Array Value) (hw : ∀ d ∈ tables_1, d.before aV Z = true) (ws : List Jvm.Cond) (a0 : Addr) (vb : Addr) (kb : ClassId) (n : Int32) (vs : List Value) (cs : Int32) (h0 : Heap) (n0 : Nat) (Z0 : n0 ≤ h0.size) (E_a0 : Exa Z h0 a0 "java/lang/String") (F_value_a0 : Fld Z h0 a0 "java/lang/String" "value" "[B" (.ref vb)) (F_coder_a0 : Fld Z h0 a0 "java/lang/String" "coder" "B" (.int (0 : Int32))) (V_vb : Arv Z h0 vb kb .byte n vs (.int (0 : Int32))) (S_COMPACT_STRINGS : Sta Z h0 "java/lang/String" "COMPACT_STRINGS" "Z" (.int cs)) (hcs : ¬ cs = 0) :
    MetFree l (⟨"java/lang/String", "length", "()I"⟩ : MethodName) (head1 (Jvm.Cond.code (⟨"java/lang/String", "length", "()I"⟩ : MethodName) jdk_42_method_54_code 1 (some .int) :: ws) ({ frames := 1, cells := 0, slots := 0, locals := 13 } : Room)) (fun a U => a = #[(.ref a0)] ∧ Z.Warmed39 U.vm ∧ U.heap = h0) (fun _ _ _ _ _ => True) (fun _ U o U' => ∃ v L, o = .returned v ∧ Q13 Z a0 vb kb n vs cs h0 n0 v U'.heap L ∧ FrameEnd U o U' L ({ frames := 1, cells := 0, slots := 0, locals := 13 } : Room).cells ({ frames := 1, cells := 0, slots := 0, locals := 13 } : Room).slots) := by
  refine MetFree.of_bodySF (plainFor_of_name pn_java_lang_String) hisR ?_
  intro p e s m args below meth c s₁ Bd hml0 hP hK
  obtain ⟨rfl, hZ, hh⟩ := hP
  have hx := Bd.exec
  have hby := Bd.bytes
  have hml : c.maxLocals = 1 := hml0
  have hown : s.vm.findClass "java/lang/String" = some m.cls := findClass_of_methodNamed Bd.named
  have hnm := (name_of_methodNamed Bd.named Bd.method).1
  have X0 : Stand p l e ({ frames := 1, cells := 0, slots := 0, locals := 13 } : Room) s m #[(.ref a0)] below meth c s₁ [] 0 0 := Stand.of_body Bd
  have e0 : s₁.heap = h0 := by rw [← hh, Bd.state]; rfl
  have efx : entryFrame m #[(.ref a0)] 1 = mkF m 0 #[.val (.ref a0)] [] := by first | (simp [entryFrame, mkF, argsToLocals, Value.category]; done) | rfl
  have N0 := Fr.nil n0
  have K0 : Keep h0 h0 [] := Keep.refl h0 _
  refine OGo.start (g' := mkF m 0 #[.val (.ref a0)] []) (efx) ?_
  show OGo p.tables e below (P13 Z a0 vb kb n vs cs h0 n0 s) (s₁.setTop (mkF m 0 #[.val (.ref a0)] []))
  refine OGo.go (B := s₁.setTop (mkF m 1 #[.val (.ref a0)] [(.ref a0)])) ?_ (fun tX kX => XS.aloadN X0.here hx rfl (hb hby d13_0) rfl rfl kX)
  obtain ⟨T1, X1, e1, st1⟩ := getF X0 hx hZ hown (host := "") (Or.inl (hw _ (List.mem_of_getElem? (i := 77) rfl))) Via.refl e0 F_value_a0 (g := (mkF m 1 #[.val (.ref a0)] [(.ref a0)])) rfl rfl (hb hby d13_1)
  refine OGo.go (B := T1.setTop (mkF m 4 #[.val (.ref a0)] [(.ref vb)])) ?_ st1
  obtain ⟨cl2, Ar2, qa2, S2, N2', H2, G2⟩ := id V_vb
  refine OGo.go (B := T1.setTop (mkF m 5 #[.val (.ref a0)] [(.int n)])) ?_ (fun tX kX => X1.arraylength hx (by rw [e1]; exact Ar2.1) (State.isArrayOf_alike hZ.alike Ar2.2.1) (g := (mkF m 4 #[.val (.ref a0)] [(.ref vb)])) rfl rfl (hb hby d13_4) _ (by rw [len_of S2 N2']; exact kX))
  refine OGo.go (B := T1.setTop (mkF m 6 #[.val (.ref a0)] [(.ref a0), (.int n)])) ?_ (fun tX kX => XS.aloadN X1.here hx rfl (hb hby d13_5) rfl rfl kX)
  obtain ⟨cq3, kq3, q3a, q3b, q3c⟩ := isOf hZ e1 E_a0
  obtain ⟨_, _, ⟨T3, L3, k3, n3⟩, -, X3, ⟨Lc3, hQ3, l3, y3, z3⟩, st3⟩ := X1.virtualBack hx (y := (⟨"java/lang/String", "coder", "()B"⟩ : MethodName)) (z := (⟨"java/lang/String", "coder", "()B"⟩ : MethodName)) hown (mvT hZ (hw _ (List.mem_of_getElem? (i := 84) rfl))) (mvT hZ (hw _ (List.mem_of_getElem? (i := 85) rfl))) (notFace_of_selects (args := #[]) (mvT hZ (hw _ (List.mem_of_getElem? (i := 87) rfl)))) (mvT hZ (hw _ (List.mem_of_getElem? (i := 87) rfl))) (mvT hZ (hw _ (List.mem_of_getElem? (i := 86) rfl))) (by decide) (backOf (W := 1) (rm14 l Z aV hw [] a0 cs h0 n0 Z0 F_coder_a0 S_COMPACT_STRINGS hcs) hZ (hw _ (List.mem_of_getElem? (i := 88) rfl)) (hw _ (List.mem_of_getElem? (i := 21) rfl)) (by decide) (by decide)) q3a q3c (g := (mkF m 6 #[.val (.ref a0)] [(.ref a0), (.int n)])) rfl (by rw [hml]; rfl) (Steps.refl _) (argsL := []) (rest := [(.int n)]) (lenOf pd___B rfl) rfl (by show 2 * 0 + _ ≤ _; exact Nat.le_of_eq rfl) (hb hby d13_6) (fun _ _ => ⟨rfl, e1, (by decide : 0 + 0 ≤ _), (by decide : 0 + 0 ≤ _)⟩)
  dsimp only [Pt.U, Pt.locs, Pt.cells, Pt.slots] at X3 l3 y3 z3 st3 hQ3
  subst l3 y3 z3
  obtain ⟨rfl, N3q, e3⟩ := hQ3
  have N3 := Fr.app N0 N3q
  refine OGo.go (B := T3.setTop (mkF m 9 #[.val (.ref a0)] [(.int (0 : Int32)), (.int n)])) ?_ (fun tX kX => st3.trans kX)
  refine OGo.go (B := T3.setTop (mkF m 10 #[.val (.ref a0)] [(.int (n >>> ((0 : Int32) &&& 31)))])) ?_ (fun tX kX => XS.ishr X3.here hx rfl (hb hby d13_9) rfl kX)
  refine OGo.ret X3 (v := (some (.int (n >>> ((0 : Int32) &&& 31))))) (fun h => by rw [Bd.returns] at h; cases h) (BodyLoose.notSynchronized Bd) (fun fs hr => retOut X3 hx Bd.returns rfl (Or.inl ⟨rfl, Or.inl rfl, _, rfl⟩) (hb hby d13_10) hr) (Q := Q13 Z a0 vb kb n vs cs h0 n0) ?_ (by decide) (by decide)
  show Q13 Z a0 vb kb n vs cs h0 n0 _ T3.heap _
  rw [e3]
  exact ⟨rfl, N3, rfl⟩
theorem d24_0 : decode jdk_42_method_154_code 0 = .ok (.getstatic 38, 3) := by decide +kernel
theorem d24_3 : decode jdk_42_method_154_code 3 = .ok (.ifCond .eq 14, 3) := by decide +kernel
theorem d24_6 : decode jdk_42_method_154_code 6 = .ok (.aload_n 0, 1) := by decide +kernel
theorem d24_7 : decode jdk_42_method_154_code 7 = .ok (.getfield 15, 3) := by decide +kernel
theorem d24_10 : decode jdk_42_method_154_code 10 = .ok (.ifCond .ne 7, 3) := by decide +kernel
theorem d24_13 : decode jdk_42_method_154_code 13 = .ok (.iconst 1, 1) := by decide +kernel
theorem d24_14 : decode jdk_42_method_154_code 14 = .ok (.goto 4, 3) := by decide +kernel
theorem d24_18 : decode jdk_42_method_154_code 18 = .ok (.ireturn, 1) := by decide +kernel
def Q24 (Z : State) (a0 : Addr) (cs : Int32) (h0 : Heap) (n0 : Nat) (v : Option Value) (h : Heap) (L : List Loc) : Prop := v = some (.int (1 : Int32)) ∧ Fr n0 L ∧ h = h0
def P24 (Z : State) (a0 : Addr) (cs : Int32) (h0 : Heap) (n0 : Nat) (s : State) (o : Outcome) (U' : State) : Prop := ∃ v L, o = .returned v ∧ Q24 Z a0 cs h0 n0 v U'.heap L ∧ FrameEnd s o U' L ({ frames := 0, cells := 0, slots := 0, locals := 0 } : Room).cells ({ frames := 0, cells := 0, slots := 0, locals := 0 } : Room).slots
set_option maxRecDepth 65536 in
set_option maxHeartbeats 40000000 in
theorem rm24 (l : Launch) (Z : State) (aV : Array Value) (hw : ∀ d ∈ tables_1, d.before aV Z = true) (ws : List Jvm.Cond) (a0 : Addr) (cs : Int32) (h0 : Heap) (n0 : Nat) (Z0 : n0 ≤ h0.size) (F_coder_a0 : Fld Z h0 a0 "java/lang/String" "coder" "B" (.int (0 : Int32))) (S_COMPACT_STRINGS : Sta Z h0 "java/lang/String" "COMPACT_STRINGS" "Z" (.int cs)) (hcs : ¬ cs = 0) :
    MetFree l (⟨"java/lang/String", "isLatin1", "()Z"⟩ : MethodName) (head1 (Jvm.Cond.code (⟨"java/lang/String", "isLatin1", "()Z"⟩ : MethodName) jdk_42_method_154_code 1 (some .boolean) :: ws) ({ frames := 0, cells := 0, slots := 0, locals := 0 } : Room)) (fun a U => a = #[(.ref a0)] ∧ Z.Warmed39 U.vm ∧ U.heap = h0) (fun _ _ _ _ _ => True) (fun _ U o U' => ∃ v L, o = .returned v ∧ Q24 Z a0 cs h0 n0 v U'.heap L ∧ FrameEnd U o U' L ({ frames := 0, cells := 0, slots := 0, locals := 0 } : Room).cells ({ frames := 0, cells := 0, slots := 0, locals := 0 } : Room).slots) := by
  refine MetFree.of_bodySF (plainFor_of_name pn_java_lang_String) hisR ?_
  intro p e s m args below meth c s₁ Bd hml0 hP hK
  obtain ⟨rfl, hZ, hh⟩ := hP
  have hx := Bd.exec
  have hby := Bd.bytes
  have hml : c.maxLocals = 1 := hml0
  have hown : s.vm.findClass "java/lang/String" = some m.cls := findClass_of_methodNamed Bd.named
  have hnm := (name_of_methodNamed Bd.named Bd.method).1
  have X0 : Stand p l e ({ frames := 0, cells := 0, slots := 0, locals := 0 } : Room) s m #[(.ref a0)] below meth c s₁ [] 0 0 := Stand.of_body Bd
  have e0 : s₁.heap = h0 := by rw [← hh, Bd.state]; rfl
  have efx : entryFrame m #[(.ref a0)] 1 = mkF m 0 #[.val (.ref a0)] [] := by first | (simp [entryFrame, mkF, argsToLocals, Value.category]; done) | rfl
  have N0 := Fr.nil n0
  have K0 : Keep h0 h0 [] := Keep.refl h0 _
  refine OGo.start (g' := mkF m 0 #[.val (.ref a0)] []) (efx) ?_
  show OGo p.tables e below (P24 Z a0 cs h0 n0 s) (s₁.setTop (mkF m 0 #[.val (.ref a0)] []))
  obtain ⟨T1, X1, e1, st1⟩ := getS2 X0 hx hZ hown (host := "") (Or.inl (hw _ (List.mem_of_getElem? (i := 89) rfl))) Via.refl e0 S_COMPACT_STRINGS (g := (mkF m 0 #[.val (.ref a0)] [])) rfl (hb hby d24_0)
  refine OGo.go (B := T1.setTop (mkF m 3 #[.val (.ref a0)] [(.int cs)])) ?_ st1
  refine OGo.go (B := T1.setTop (mkF m 6 #[.val (.ref a0)] [])) ?_ (fun tX kX => XS.ifNo X1.here hx rfl (hb hby d24_3) rfl ((if0 _ _).trans (feq hcs).1) kX)
  refine OGo.go (B := T1.setTop (mkF m 7 #[.val (.ref a0)] [(.ref a0)])) ?_ (fun tX kX => XS.aloadN X1.here hx rfl (hb hby d24_6) rfl rfl kX)
  obtain ⟨T2, X2, e2, st2⟩ := getF X1 hx hZ hown (host := "") (Or.inl (hw _ (List.mem_of_getElem? (i := 62) rfl))) Via.refl e1 F_coder_a0 (g := (mkF m 7 #[.val (.ref a0)] [(.ref a0)])) rfl rfl (hb hby d24_7)
  refine OGo.go (B := T2.setTop (mkF m 10 #[.val (.ref a0)] [(.int (0 : Int32))])) ?_ st2
  refine OGo.go (B := T2.setTop (mkF m 13 #[.val (.ref a0)] [])) ?_ (fun tX kX => XS.ifNo X2.here hx rfl (hb hby d24_10) rfl ((if0 _ _).trans (teq (by decide)).2) kX)
  refine OGo.go (B := T2.setTop (mkF m 14 #[.val (.ref a0)] [(.int (1 : Int32))])) ?_ (fun tX kX => XS.iconst X2.here hx rfl (hb hby d24_13) kX)
  refine OGo.go (B := T2.setTop (mkF m 18 #[.val (.ref a0)] [(.int (1 : Int32))])) ?_ (fun tX kX => XS.goto X2.here hx rfl (pc0 := 14) (pc' := 18) rfl (hb hby d24_14) (by decide) (by decide) kX)
  refine OGo.ret X2 (v := (some (.int (1 : Int32)))) (fun h => by rw [Bd.returns] at h; cases h) (BodyLoose.notSynchronized Bd) (fun fs hr => retN X2 hx (t := .boolean) (z := (1 : Int32)) Bd.returns (by simp) (hb hby d24_18) hr) (Q := Q24 Z a0 cs h0 n0) ?_ (by decide) (by decide)
  show Q24 Z a0 cs h0 n0 _ T2.heap _
  rw [e2]
  exact ⟨rfl, N0, rfl⟩
theorem d27_0 : decode jdk_41_method_11_code 0 = .ok (.iload_n 0, 1) := by decide +kernel
theorem d27_1 : decode jdk_41_method_11_code 1 = .ok (.ifCond .lt 8, 3) := by decide +kernel
theorem d27_4 : decode jdk_41_method_11_code 4 = .ok (.iload_n 0, 1) := by decide +kernel
theorem d27_5 : decode jdk_41_method_11_code 5 = .ok (.iload_n 1, 1) := by decide +kernel
theorem d27_6 : decode jdk_41_method_11_code 6 = .ok (.if_icmp .lt 10, 3) := by decide +kernel
theorem d27_16 : decode jdk_41_method_11_code 16 = .ok (.iload_n 0, 1) := by decide +kernel
theorem d27_17 : decode jdk_41_method_11_code 17 = .ok (.ireturn, 1) := by decide +kernel
theorem pn_jdk_internal_util_Preconditions : plainName "jdk/internal/util/Preconditions" = true := by first | (simp [plainName, overriddenIn]; done) | decide +kernel
def Q27n (Z : State) (p0 : Int32) (p1 : Int32) (h0 : Heap) (n0 : Nat) (v : Option Value) (h : Heap) (L : List Loc) : Prop := v = some (.int p0) ∧ Fr n0 L ∧ h = h0
def P27n (Z : State) (p0 : Int32) (p1 : Int32) (h0 : Heap) (n0 : Nat) (s : State) (o : Outcome) (U' : State) : Prop := ∃ v L, o = .returned v ∧ Q27n Z p0 p1 h0 n0 v U'.heap L ∧ FrameEnd s o U' L ({ frames := 0, cells := 0, slots := 0, locals := 0 } : Room).cells ({ frames := 0, cells := 0, slots := 0, locals := 0 } : Room).slots
set_option maxRecDepth 65536 in
set_option maxHeartbeats 40000000 in
theorem rm27n (l : Launch) (Z : State) (aV : Array Value) (hw : ∀ d ∈ tables_1, d.before aV Z = true) (ws : List Jvm.Cond) (p0 : Int32) (p1 : Int32) (h0 : Heap) (n0 : Nat) (Z0 : n0 ≤ h0.size) (hin : ¬ p0 < 0 ∧ p0 < p1) :
    MetFree l (⟨"jdk/internal/util/Preconditions", "checkIndex", "(IILjava/util/function/BiFunction;)I"⟩ : MethodName) (head1 (Jvm.Cond.code (⟨"jdk/internal/util/Preconditions", "checkIndex", "(IILjava/util/function/BiFunction;)I"⟩ : MethodName) jdk_41_method_11_code 3 (some .int) :: ws) ({ frames := 0, cells := 0, slots := 0, locals := 0 } : Room)) (fun a U => a = #[(.int p0), (.int p1), .null] ∧ Z.Warmed39 U.vm ∧ U.heap = h0) (fun _ _ _ _ _ => True) (fun _ U o U' => ∃ v L, o = .returned v ∧ Q27n Z p0 p1 h0 n0 v U'.heap L ∧ FrameEnd U o U' L ({ frames := 0, cells := 0, slots := 0, locals := 0 } : Room).cells ({ frames := 0, cells := 0, slots := 0, locals := 0 } : Room).slots) := by
  refine MetFree.of_bodySF (plainFor_of_name pn_jdk_internal_util_Preconditions) hisR ?_
  intro p e s m args below meth c s₁ Bd hml0 hP hK
  obtain ⟨rfl, hZ, hh⟩ := hP
  have hx := Bd.exec
  have hby := Bd.bytes
  have hml : c.maxLocals = 3 := hml0
  have hown : s.vm.findClass "jdk/internal/util/Preconditions" = some m.cls := findClass_of_methodNamed Bd.named
  have hnm := (name_of_methodNamed Bd.named Bd.method).1
  have X0 : Stand p l e ({ frames := 0, cells := 0, slots := 0, locals := 0 } : Room) s m #[(.int p0), (.int p1), .null] below meth c s₁ [] 0 0 := Stand.of_body Bd
  have e0 : s₁.heap = h0 := by rw [← hh, Bd.state]; rfl
  have efx : entryFrame m #[(.int p0), (.int p1), .null] 3 = mkF m 0 #[.val (.int p0), .val (.int p1), .val .null] [] := by first | (simp [entryFrame, mkF, argsToLocals, Value.category]; done) | rfl
  have N0 := Fr.nil n0
  have K0 : Keep h0 h0 [] := Keep.refl h0 _
  refine OGo.start (g' := mkF m 0 #[.val (.int p0), .val (.int p1), .val .null] []) (efx) ?_
  show OGo p.tables e below (P27n Z p0 p1 h0 n0 s) (s₁.setTop (mkF m 0 #[.val (.int p0), .val (.int p1), .val .null] []))
  refine OGo.go (B := s₁.setTop (mkF m 1 #[.val (.int p0), .val (.int p1), .val .null] [(.int p0)])) ?_ (fun tX kX => XS.iloadN X0.here hx rfl (hb hby d27_0) rfl kX)
  refine OGo.go (B := s₁.setTop (mkF m 4 #[.val (.int p0), .val (.int p1), .val .null] [])) ?_ (fun tX kX => XS.ifNo X0.here hx rfl (hb hby d27_1) rfl ((if0 _ _).trans (flt hin.1).1) kX)
  refine OGo.go (B := s₁.setTop (mkF m 5 #[.val (.int p0), .val (.int p1), .val .null] [(.int p0)])) ?_ (fun tX kX => XS.iloadN X0.here hx rfl (hb hby d27_4) rfl kX)
  refine OGo.go (B := s₁.setTop (mkF m 6 #[.val (.int p0), .val (.int p1), .val .null] [(.int p1), (.int p0)])) ?_ (fun tX kX => XS.iloadN X0.here hx rfl (hb hby d27_5) rfl kX)
  refine OGo.go (B := s₁.setTop (mkF m 16 #[.val (.int p0), .val (.int p1), .val .null] [])) ?_ (fun tX kX => XS.icmpYes X0.here hx rfl (pc0 := 6) (pc' := 16) rfl (hb hby d27_6) rfl (tlt hin.2).1 (by decide) (by decide) kX)
  refine OGo.go (B := s₁.setTop (mkF m 17 #[.val (.int p0), .val (.int p1), .val .null] [(.int p0)])) ?_ (fun tX kX => XS.iloadN X0.here hx rfl (hb hby d27_16) rfl kX)
  refine OGo.ret X0 (v := (some (.int p0))) (fun h => by rw [Bd.returns] at h; cases h) (BodyLoose.notSynchronized Bd) (fun fs hr => retOut X0 hx Bd.returns rfl (Or.inl ⟨rfl, Or.inl rfl, _, rfl⟩) (hb hby d27_17) hr) (Q := Q27n Z p0 p1 h0 n0) ?_ (by decide) (by decide)
  show Q27n Z p0 p1 h0 n0 _ s₁.heap _
  rw [e0]
  exact ⟨rfl, N0, rfl⟩
def Q27r (Z : State) (p0 : Int32) (p1 : Int32) (a2 : Addr) (h0 : Heap) (n0 : Nat) (v : Option Value) (h : Heap) (L : List Loc) : Prop := v = some (.int p0) ∧ Fr n0 L ∧ h = h0
def P27r (Z : State) (p0 : Int32) (p1 : Int32) (a2 : Addr) (h0 : Heap) (n0 : Nat) (s : State) (o : Outcome) (U' : State) : Prop := ∃ v L, o = .returned v ∧ Q27r Z p0 p1 a2 h0 n0 v U'.heap L ∧ FrameEnd s o U' L ({ frames := 0, cells := 0, slots := 0, locals := 0 } : Room).cells ({ frames := 0, cells := 0, slots := 0, locals := 0 } : Room).slots
set_option maxRecDepth 65536 in
set_option maxHeartbeats 40000000 in
theorem rm27r (l : Launch) (Z : State) (aV : Array Value) (hw : ∀ d ∈ tables_1, d.before aV Z = true) (ws : List Jvm.Cond) (p0 : Int32) (p1 : Int32) (a2 : Addr) (h0 : Heap) (n0 : Nat) (Z0 : n0 ≤ h0.size) (hin : ¬ p0 < 0 ∧ p0 < p1) :
    MetFree l (⟨"jdk/internal/util/Preconditions", "checkIndex", "(IILjava/util/function/BiFunction;)I"⟩ : MethodName) (head1 (Jvm.Cond.code (⟨"jdk/internal/util/Preconditions", "checkIndex", "(IILjava/util/function/BiFunction;)I"⟩ : MethodName) jdk_41_method_11_code 3 (some .int) :: ws) ({ frames := 0, cells := 0, slots := 0, locals := 0 } : Room)) (fun a U => a = #[(.int p0), (.int p1), (.ref a2)] ∧ Z.Warmed39 U.vm ∧ U.heap = h0) (fun _ _ _ _ _ => True) (fun _ U o U' => ∃ v L, o = .returned v ∧ Q27r Z p0 p1 a2 h0 n0 v U'.heap L ∧ FrameEnd U o U' L ({ frames := 0, cells := 0, slots := 0, locals := 0 } : Room).cells ({ frames := 0, cells := 0, slots := 0, locals := 0 } : Room).slots) := by
  refine MetFree.of_bodySF (plainFor_of_name pn_jdk_internal_util_Preconditions) hisR ?_
  intro p e s m args below meth c s₁ Bd hml0 hP hK
  obtain ⟨rfl, hZ, hh⟩ := hP
  have hx := Bd.exec
  have hby := Bd.bytes
  have hml : c.maxLocals = 3 := hml0
  have hown : s.vm.findClass "jdk/internal/util/Preconditions" = some m.cls := findClass_of_methodNamed Bd.named
  have hnm := (name_of_methodNamed Bd.named Bd.method).1
  have X0 : Stand p l e ({ frames := 0, cells := 0, slots := 0, locals := 0 } : Room) s m #[(.int p0), (.int p1), (.ref a2)] below meth c s₁ [] 0 0 := Stand.of_body Bd
  have e0 : s₁.heap = h0 := by rw [← hh, Bd.state]; rfl
  have efx : entryFrame m #[(.int p0), (.int p1), (.ref a2)] 3 = mkF m 0 #[.val (.int p0), .val (.int p1), .val (.ref a2)] [] := by first | (simp [entryFrame, mkF, argsToLocals, Value.category]; done) | rfl
  have N0 := Fr.nil n0
  have K0 : Keep h0 h0 [] := Keep.refl h0 _
  refine OGo.start (g' := mkF m 0 #[.val (.int p0), .val (.int p1), .val (.ref a2)] []) (efx) ?_
  show OGo p.tables e below (P27r Z p0 p1 a2 h0 n0 s) (s₁.setTop (mkF m 0 #[.val (.int p0), .val (.int p1), .val (.ref a2)] []))
  refine OGo.go (B := s₁.setTop (mkF m 1 #[.val (.int p0), .val (.int p1), .val (.ref a2)] [(.int p0)])) ?_ (fun tX kX => XS.iloadN X0.here hx rfl (hb hby d27_0) rfl kX)
  refine OGo.go (B := s₁.setTop (mkF m 4 #[.val (.int p0), .val (.int p1), .val (.ref a2)] [])) ?_ (fun tX kX => XS.ifNo X0.here hx rfl (hb hby d27_1) rfl ((if0 _ _).trans (flt hin.1).1) kX)
  refine OGo.go (B := s₁.setTop (mkF m 5 #[.val (.int p0), .val (.int p1), .val (.ref a2)] [(.int p0)])) ?_ (fun tX kX => XS.iloadN X0.here hx rfl (hb hby d27_4) rfl kX)
  refine OGo.go (B := s₁.setTop (mkF m 6 #[.val (.int p0), .val (.int p1), .val (.ref a2)] [(.int p1), (.int p0)])) ?_ (fun tX kX => XS.iloadN X0.here hx rfl (hb hby d27_5) rfl kX)
  refine OGo.go (B := s₁.setTop (mkF m 16 #[.val (.int p0), .val (.int p1), .val (.ref a2)] [])) ?_ (fun tX kX => XS.icmpYes X0.here hx rfl (pc0 := 6) (pc' := 16) rfl (hb hby d27_6) rfl (tlt hin.2).1 (by decide) (by decide) kX)
  refine OGo.go (B := s₁.setTop (mkF m 17 #[.val (.int p0), .val (.int p1), .val (.ref a2)] [(.int p0)])) ?_ (fun tX kX => XS.iloadN X0.here hx rfl (hb hby d27_16) rfl kX)
  refine OGo.ret X0 (v := (some (.int p0))) (fun h => by rw [Bd.returns] at h; cases h) (BodyLoose.notSynchronized Bd) (fun fs hr => retOut X0 hx Bd.returns rfl (Or.inl ⟨rfl, Or.inl rfl, _, rfl⟩) (hb hby d27_17) hr) (Q := Q27r Z p0 p1 a2 h0 n0) ?_ (by decide) (by decide)
  show Q27r Z p0 p1 a2 h0 n0 _ s₁.heap _
  rw [e0]
  exact ⟨rfl, N0, rfl⟩
theorem d26_0 : decode jdk_42_method_155_code 0 = .ok (.iload_n 0, 1) := by decide +kernel
theorem d26_1 : decode jdk_42_method_155_code 1 = .ok (.iload_n 1, 1) := by decide +kernel
theorem d26_2 : decode jdk_42_method_155_code 2 = .ok (.getstatic 1053, 3) := by decide +kernel
theorem d26_5 : decode jdk_42_method_155_code 5 = .ok (.invokestatic 1059, 3) := by decide +kernel
theorem pd__IILjava_util_function_BiFunction__I : parseMethodDescriptor "(IILjava/util/function/BiFunction;)I" = some ⟨[.int, .int, (.object "java/util/function/BiFunction")], some .int⟩ := by decide +kernel
theorem d26_8 : decode jdk_42_method_155_code 8 = .ok (.pop, 1) := by decide +kernel
theorem d26_9 : decode jdk_42_method_155_code 9 = .ok (.return_, 1) := by decide +kernel
def Q26 (Z : State) (p0 : Int32) (p1 : Int32) (fv : Value) (h0 : Heap) (n0 : Nat) (v : Option Value) (h : Heap) (L : List Loc) : Prop := v = none ∧ Fr n0 L ∧ h = h0
def P26 (Z : State) (p0 : Int32) (p1 : Int32) (fv : Value) (h0 : Heap) (n0 : Nat) (s : State) (o : Outcome) (U' : State) : Prop := ∃ v L, o = .returned v ∧ Q26 Z p0 p1 fv h0 n0 v U'.heap L ∧ FrameEnd s o U' L ({ frames := 1, cells := 0, slots := 0, locals := 14 } : Room).cells ({ frames := 1, cells := 0, slots := 0, locals := 14 } : Room).slots
set_option maxRecDepth 65536 in
set_option maxHeartbeats 40000000 in
theorem rm26 (l : Launch) (Z : State) (aV : Array Value) (hw : ∀ d ∈ tables_1, d.before aV Z = true) (ws : List Jvm.Cond) (p0 : Int32) (p1 : Int32) (fv : Value) (h0 : Heap) (n0 : Nat) (Z0 : n0 ≤ h0.size) (S_SIOOBE_FORMATTER : Sta Z h0 "jdk/internal/util/Preconditions" "SIOOBE_FORMATTER" "Ljava/util/function/BiFunction;" fv) (hfv : fv.isRef = true) (hin : ¬ p0 < 0 ∧ p0 < p1) :
    MetFree l (⟨"java/lang/String", "checkIndex", "(II)V"⟩ : MethodName) (head1 (Jvm.Cond.code (⟨"java/lang/String", "checkIndex", "(II)V"⟩ : MethodName) jdk_42_method_155_code 2 none :: ws) ({ frames := 1, cells := 0, slots := 0, locals := 14 } : Room)) (fun a U => a = #[(.int p0), (.int p1)] ∧ Z.Warmed39 U.vm ∧ U.heap = h0) (fun _ _ _ _ _ => True) (fun _ U o U' => ∃ v L, o = .returned v ∧ Q26 Z p0 p1 fv h0 n0 v U'.heap L ∧ FrameEnd U o U' L ({ frames := 1, cells := 0, slots := 0, locals := 14 } : Room).cells ({ frames := 1, cells := 0, slots := 0, locals := 14 } : Room).slots) := by
  refine MetFree.of_bodySF (plainFor_of_name pn_java_lang_String) hisR ?_
  intro p e s m args below meth c s₁ Bd hml0 hP hK
  obtain ⟨rfl, hZ, hh⟩ := hP
  have hx := Bd.exec
  have hby := Bd.bytes
  have hml : c.maxLocals = 2 := hml0
  have hown : s.vm.findClass "java/lang/String" = some m.cls := findClass_of_methodNamed Bd.named
  have hnm := (name_of_methodNamed Bd.named Bd.method).1
  have X0 : Stand p l e ({ frames := 1, cells := 0, slots := 0, locals := 14 } : Room) s m #[(.int p0), (.int p1)] below meth c s₁ [] 0 0 := Stand.of_body Bd
  have e0 : s₁.heap = h0 := by rw [← hh, Bd.state]; rfl
  have efx : entryFrame m #[(.int p0), (.int p1)] 2 = mkF m 0 #[.val (.int p0), .val (.int p1)] [] := by first | (simp [entryFrame, mkF, argsToLocals, Value.category]; done) | rfl
  have N0 := Fr.nil n0
  have K0 : Keep h0 h0 [] := Keep.refl h0 _
  refine OGo.start (g' := mkF m 0 #[.val (.int p0), .val (.int p1)] []) (efx) ?_
  show OGo p.tables e below (P26 Z p0 p1 fv h0 n0 s) (s₁.setTop (mkF m 0 #[.val (.int p0), .val (.int p1)] []))
  rcases ref_cases hfv with hfe | ⟨fa, hfe⟩
  ·
    rw [hfe] at S_SIOOBE_FORMATTER
    refine OGo.go (B := s₁.setTop (mkF m 1 #[.val (.int p0), .val (.int p1)] [(.int p0)])) ?_ (fun tX kX => XS.iloadN X0.here hx rfl (hb hby d26_0) rfl kX)
    refine OGo.go (B := s₁.setTop (mkF m 2 #[.val (.int p0), .val (.int p1)] [(.int p1), (.int p0)])) ?_ (fun tX kX => XS.iloadN X0.here hx rfl (hb hby d26_1) rfl kX)
    obtain ⟨T1, X1, e1, st1⟩ := getS2 X0 hx hZ hown (host := "") (Or.inl (hw _ (List.mem_of_getElem? (i := 148) rfl))) Via.refl e0 S_SIOOBE_FORMATTER (g := (mkF m 2 #[.val (.int p0), .val (.int p1)] [(.int p1), (.int p0)])) rfl (hb hby d26_2)
    refine OGo.go (B := T1.setTop (mkF m 5 #[.val (.int p0), .val (.int p1)] [.null, (.int p1), (.int p0)])) ?_ st1
    obtain ⟨_, _, ⟨T2, L2, k2, n2⟩, -, X2, ⟨Lc2, hQ2, l2, y2, z2⟩, st2⟩ := Jvm.LawKit.callS X1 hx (y := (⟨"jdk/internal/util/Preconditions", "checkIndex", "(IILjava/util/function/BiFunction;)I"⟩ : MethodName)) hown (mvT hZ (hw _ (List.mem_of_getElem? (i := 150) rfl))) (mvT hZ (hw _ (List.mem_of_getElem? (i := 151) rfl))) (mvT hZ (hw _ (List.mem_of_getElem? (i := 149) rfl))) (mvT hZ (hw _ (List.mem_of_getElem? (i := 152) rfl))) (by decide) (backOf (W := 0) (rm27n l Z aV hw [] p0 p1 h0 n0 Z0 hin) hZ (hw _ (List.mem_of_getElem? (i := 152) rfl)) (hw _ (List.mem_of_getElem? (i := 149) rfl)) (by decide) (by decide)) (g := (mkF m 5 #[.val (.int p0), .val (.int p1)] [.null, (.int p1), (.int p0)])) rfl (by rw [hml]; rfl) (argsL := [(.int p0), (.int p1), .null]) (rest := []) (lenOf pd__IILjava_util_function_BiFunction__I rfl) rfl (by show 2 * 0 + _ ≤ _; exact Nat.le_of_eq rfl) (hb hby d26_5) (fun _ _ => ⟨rfl, e1, (by decide : 0 + 0 ≤ _), (by decide : 0 + 0 ≤ _)⟩)
    dsimp only [Pt.U, Pt.locs, Pt.cells, Pt.slots] at X2 l2 y2 z2 st2 hQ2
    subst l2 y2 z2
    obtain ⟨rfl, N2q, e2⟩ := hQ2
    have N2 := Fr.app N0 N2q
    refine OGo.go (B := T2.setTop (mkF m 8 #[.val (.int p0), .val (.int p1)] [(.int p0)])) ?_ st2
    refine OGo.go (B := T2.setTop (mkF m 9 #[.val (.int p0), .val (.int p1)] [])) ?_ (fun tX kX => XS.pop X2.here hx rfl (hb hby d26_8) rfl rfl kX)
    refine OGo.ret X2 (v := none) (fun _ => rfl) (BodyLoose.notSynchronized Bd) (fun fs hr => X2.returnOut hx Bd.returns (hb hby d26_9) hr) (Q := Q26 Z p0 p1 fv h0 n0) ?_ (by decide) (by decide)
    show Q26 Z p0 p1 fv h0 n0 _ T2.heap _
    rw [e2]
    exact ⟨rfl, N2, rfl⟩
  ·
    rw [hfe] at S_SIOOBE_FORMATTER
    refine OGo.go (B := s₁.setTop (mkF m 1 #[.val (.int p0), .val (.int p1)] [(.int p0)])) ?_ (fun tX kX => XS.iloadN X0.here hx rfl (hb hby d26_0) rfl kX)
    refine OGo.go (B := s₁.setTop (mkF m 2 #[.val (.int p0), .val (.int p1)] [(.int p1), (.int p0)])) ?_ (fun tX kX => XS.iloadN X0.here hx rfl (hb hby d26_1) rfl kX)
    obtain ⟨T3, X3, e3, st3⟩ := getS2 X0 hx hZ hown (host := "") (Or.inl (hw _ (List.mem_of_getElem? (i := 148) rfl))) Via.refl e0 S_SIOOBE_FORMATTER (g := (mkF m 2 #[.val (.int p0), .val (.int p1)] [(.int p1), (.int p0)])) rfl (hb hby d26_2)
    refine OGo.go (B := T3.setTop (mkF m 5 #[.val (.int p0), .val (.int p1)] [(.ref fa), (.int p1), (.int p0)])) ?_ st3
    obtain ⟨_, _, ⟨T4, L4, k4, n4⟩, -, X4, ⟨Lc4, hQ4, l4, y4, z4⟩, st4⟩ := Jvm.LawKit.callS X3 hx (y := (⟨"jdk/internal/util/Preconditions", "checkIndex", "(IILjava/util/function/BiFunction;)I"⟩ : MethodName)) hown (mvT hZ (hw _ (List.mem_of_getElem? (i := 150) rfl))) (mvT hZ (hw _ (List.mem_of_getElem? (i := 151) rfl))) (mvT hZ (hw _ (List.mem_of_getElem? (i := 149) rfl))) (mvT hZ (hw _ (List.mem_of_getElem? (i := 152) rfl))) (by decide) (backOf (W := 0) (rm27r l Z aV hw [] p0 p1 fa h0 n0 Z0 hin) hZ (hw _ (List.mem_of_getElem? (i := 152) rfl)) (hw _ (List.mem_of_getElem? (i := 149) rfl)) (by decide) (by decide)) (g := (mkF m 5 #[.val (.int p0), .val (.int p1)] [(.ref fa), (.int p1), (.int p0)])) rfl (by rw [hml]; rfl) (argsL := [(.int p0), (.int p1), (.ref fa)]) (rest := []) (lenOf pd__IILjava_util_function_BiFunction__I rfl) rfl (by show 2 * 0 + _ ≤ _; exact Nat.le_of_eq rfl) (hb hby d26_5) (fun _ _ => ⟨rfl, e3, (by decide : 0 + 0 ≤ _), (by decide : 0 + 0 ≤ _)⟩)
    dsimp only [Pt.U, Pt.locs, Pt.cells, Pt.slots] at X4 l4 y4 z4 st4 hQ4
    subst l4 y4 z4
    obtain ⟨rfl, N4q, e4⟩ := hQ4
    have N4 := Fr.app N0 N4q
    refine OGo.go (B := T4.setTop (mkF m 8 #[.val (.int p0), .val (.int p1)] [(.int p0)])) ?_ st4
    refine OGo.go (B := T4.setTop (mkF m 9 #[.val (.int p0), .val (.int p1)] [])) ?_ (fun tX kX => XS.pop X4.here hx rfl (hb hby d26_8) rfl rfl kX)
    refine OGo.ret X4 (v := none) (fun _ => rfl) (BodyLoose.notSynchronized Bd) (fun fs hr => X4.returnOut hx Bd.returns (hb hby d26_9) hr) (Q := Q26 Z p0 p1 fv h0 n0) ?_ (by decide) (by decide)
    show Q26 Z p0 p1 fv h0 n0 _ T4.heap _
    rw [e4]
    exact ⟨rfl, N4, rfl⟩
theorem d25_0 : decode jdk_43_method_2_code 0 = .ok (.iload_n 1, 1) := by decide +kernel
theorem d25_1 : decode jdk_43_method_2_code 1 = .ok (.aload_n 0, 1) := by decide +kernel
theorem d25_2 : decode jdk_43_method_2_code 2 = .ok (.arraylength, 1) := by decide +kernel
theorem d25_3 : decode jdk_43_method_2_code 3 = .ok (.invokestatic 9, 3) := by decide +kernel
theorem d25_6 : decode jdk_43_method_2_code 6 = .ok (.aload_n 0, 1) := by decide +kernel
theorem d25_7 : decode jdk_43_method_2_code 7 = .ok (.iload_n 1, 1) := by decide +kernel
theorem d25_8 : decode jdk_43_method_2_code 8 = .ok (.baload, 1) := by decide +kernel
theorem d25_9 : decode jdk_43_method_2_code 9 = .ok (.sipush 255, 3) := by decide +kernel
theorem d25_12 : decode jdk_43_method_2_code 12 = .ok (.iand, 1) := by decide +kernel
theorem d25_13 : decode jdk_43_method_2_code 13 = .ok (.i2c, 1) := by decide +kernel
theorem d25_14 : decode jdk_43_method_2_code 14 = .ok (.ireturn, 1) := by decide +kernel
def Q25 (Z : State) (a0 : Addr) (p1 : Int32) (kb : ClassId) (n : Int32) (vs : List Value) (fv : Value) (ev : Int32) (h0 : Heap) (n0 : Nat) (v : Option Value) (h : Heap) (L : List Loc) : Prop := v = some (.int (((ev &&& (255 : Int32)).toUInt32.toUInt16.toUInt32.toInt32).toUInt32.toUInt16.toUInt32.toInt32)) ∧ Fr n0 L ∧ h = h0
def P25 (Z : State) (a0 : Addr) (p1 : Int32) (kb : ClassId) (n : Int32) (vs : List Value) (fv : Value) (ev : Int32) (h0 : Heap) (n0 : Nat) (s : State) (o : Outcome) (U' : State) : Prop := ∃ v L, o = .returned v ∧ Q25 Z a0 p1 kb n vs fv ev h0 n0 v U'.heap L ∧ FrameEnd s o U' L ({ frames := 2, cells := 0, slots := 0, locals := 27 } : Room).cells ({ frames := 2, cells := 0, slots := 0, locals := 27 } : Room).slots
set_option maxRecDepth 65536 in
set_option maxHeartbeats 40000000 in
theorem rm25 (l : Launch) (Z : State) (aV : Array Value) (hw : ∀ d ∈ tables_1, d.before aV Z = true) (ws : List Jvm.Cond) (a0 : Addr) (p1 : Int32) (kb : ClassId) (n : Int32) (vs : List Value) (fv : Value) (ev : Int32) (h0 : Heap) (n0 : Nat) (Z0 : n0 ≤ h0.size) (V_a0 : Arv Z h0 a0 kb .byte n vs (.int (0 : Int32))) (S_SIOOBE_FORMATTER : Sta Z h0 "jdk/internal/util/Preconditions" "SIOOBE_FORMATTER" "Ljava/util/function/BiFunction;" fv) (hfv : fv.isRef = true) (hin : ¬ p1 < 0 ∧ p1 < n) (hev : vs.getD p1.toNatClampNeg (.int (0 : Int32)) = .int ev) :
    MetFree l (⟨"java/lang/StringLatin1", "charAt", "([BI)C"⟩ : MethodName) (head1 (Jvm.Cond.code (⟨"java/lang/StringLatin1", "charAt", "([BI)C"⟩ : MethodName) jdk_43_method_2_code 2 (some .char) :: ws) ({ frames := 2, cells := 0, slots := 0, locals := 27 } : Room)) (fun a U => a = #[(.ref a0), (.int p1)] ∧ Z.Warmed39 U.vm ∧ U.heap = h0) (fun _ _ _ _ _ => True) (fun _ U o U' => ∃ v L, o = .returned v ∧ Q25 Z a0 p1 kb n vs fv ev h0 n0 v U'.heap L ∧ FrameEnd U o U' L ({ frames := 2, cells := 0, slots := 0, locals := 27 } : Room).cells ({ frames := 2, cells := 0, slots := 0, locals := 27 } : Room).slots) := by
  refine MetFree.of_bodySF (plainFor_of_name pn_java_lang_StringLatin1) hisR ?_
  intro p e s m args below meth c s₁ Bd hml0 hP hK
  obtain ⟨rfl, hZ, hh⟩ := hP
  have hx := Bd.exec
  have hby := Bd.bytes
  have hml : c.maxLocals = 2 := hml0
  have hown : s.vm.findClass "java/lang/StringLatin1" = some m.cls := findClass_of_methodNamed Bd.named
  have hnm := (name_of_methodNamed Bd.named Bd.method).1
  have X0 : Stand p l e ({ frames := 2, cells := 0, slots := 0, locals := 27 } : Room) s m #[(.ref a0), (.int p1)] below meth c s₁ [] 0 0 := Stand.of_body Bd
  have e0 : s₁.heap = h0 := by rw [← hh, Bd.state]; rfl
  have efx : entryFrame m #[(.ref a0), (.int p1)] 2 = mkF m 0 #[.val (.ref a0), .val (.int p1)] [] := by first | (simp [entryFrame, mkF, argsToLocals, Value.category]; done) | rfl
  have N0 := Fr.nil n0
  have K0 : Keep h0 h0 [] := Keep.refl h0 _
  refine OGo.start (g' := mkF m 0 #[.val (.ref a0), .val (.int p1)] []) (efx) ?_
  show OGo p.tables e below (P25 Z a0 p1 kb n vs fv ev h0 n0 s) (s₁.setTop (mkF m 0 #[.val (.ref a0), .val (.int p1)] []))
  refine OGo.go (B := s₁.setTop (mkF m 1 #[.val (.ref a0), .val (.int p1)] [(.int p1)])) ?_ (fun tX kX => XS.iloadN X0.here hx rfl (hb hby d25_0) rfl kX)
  refine OGo.go (B := s₁.setTop (mkF m 2 #[.val (.ref a0), .val (.int p1)] [(.ref a0), (.int p1)])) ?_ (fun tX kX => XS.aloadN X0.here hx rfl (hb hby d25_1) rfl rfl kX)
  obtain ⟨cl1, Ar1, qa1, S1, N1', H1, G1⟩ := id V_a0
  refine OGo.go (B := s₁.setTop (mkF m 3 #[.val (.ref a0), .val (.int p1)] [(.int n), (.int p1)])) ?_ (fun tX kX => X0.arraylength hx (by rw [e0]; exact Ar1.1) (State.isArrayOf_alike hZ.alike Ar1.2.1) (g := (mkF m 2 #[.val (.ref a0), .val (.int p1)] [(.ref a0), (.int p1)])) rfl rfl (hb hby d25_2) _ (by rw [len_of S1 N1']; exact kX))
  obtain ⟨_, _, ⟨T2, L2, k2, n2⟩, -, X2, ⟨Lc2, hQ2, l2, y2, z2⟩, st2⟩ := Jvm.LawKit.callS X0 hx (y := (⟨"java/lang/String", "checkIndex", "(II)V"⟩ : MethodName)) hown (mvT hZ (hw _ (List.mem_of_getElem? (i := 145) rfl))) (mvT hZ (hw _ (List.mem_of_getElem? (i := 146) rfl))) (mvT hZ (hw _ (List.mem_of_getElem? (i := 21) rfl))) (mvT hZ (hw _ (List.mem_of_getElem? (i := 147) rfl))) (by decide) (backOf (W := 0) (rm26 l Z aV hw [] p1 n fv h0 n0 Z0 S_SIOOBE_FORMATTER hfv hin) hZ (hw _ (List.mem_of_getElem? (i := 147) rfl)) (hw _ (List.mem_of_getElem? (i := 21) rfl)) (by decide) (by decide)) (g := (mkF m 3 #[.val (.ref a0), .val (.int p1)] [(.int n), (.int p1)])) rfl (by rw [hml]; rfl) (argsL := [(.int p1), (.int n)]) (rest := []) (lenOf pd__II_V rfl) rfl (by show 2 * 0 + _ ≤ _; exact Nat.le_of_eq rfl) (hb hby d25_3) (fun _ _ => ⟨rfl, e0, (by decide : 0 + 0 ≤ _), (by decide : 0 + 0 ≤ _)⟩)
  dsimp only [Pt.U, Pt.locs, Pt.cells, Pt.slots] at X2 l2 y2 z2 st2 hQ2
  subst l2 y2 z2
  obtain ⟨rfl, N2q, e2⟩ := hQ2
  have N2 := Fr.app N0 N2q
  refine OGo.go (B := T2.setTop (mkF m 6 #[.val (.ref a0), .val (.int p1)] [])) ?_ st2
  refine OGo.go (B := T2.setTop (mkF m 7 #[.val (.ref a0), .val (.int p1)] [(.ref a0)])) ?_ (fun tX kX => XS.aloadN X2.here hx rfl (hb hby d25_6) rfl rfl kX)
  refine OGo.go (B := T2.setTop (mkF m 8 #[.val (.ref a0), .val (.int p1)] [(.int p1), (.ref a0)])) ?_ (fun tX kX => XS.iloadN X2.here hx rfl (hb hby d25_7) rfl kX)
  obtain ⟨cl3, Ar3, qa3, S3, N3', H3, G3⟩ := id V_a0
  have hin3 := inb_of (j := p1) S3 hin
  have hat3 := H3.at (v := (.int ev)) hin3 hev
  refine OGo.go (B := T2.setTop (mkF m 9 #[.val (.ref a0), .val (.int p1)] [(.int ev)])) ?_ (fun tX kX => X2.baloadBytes hx (j := p1) (v := (.int ev)) (by rw [e2]; exact Ar3.1) (State.isArrayOf_alike hZ.alike Ar3.2.1) Ar3.2.2 hin3 hat3 (g := (mkF m 8 #[.val (.ref a0), .val (.int p1)] [(.int p1), (.ref a0)])) rfl rfl (hb hby d25_8) _ kX)
  refine OGo.go (B := T2.setTop (mkF m 12 #[.val (.ref a0), .val (.int p1)] [(.int (255 : Int32)), (.int ev)])) ?_ (fun tX kX => XS.sipush X2.here hx rfl (hb hby d25_9) kX)
  refine OGo.go (B := T2.setTop (mkF m 13 #[.val (.ref a0), .val (.int p1)] [(.int (ev &&& (255 : Int32)))])) ?_ (fun tX kX => XS.iand X2.here hx rfl (hb hby d25_12) rfl kX)
  refine OGo.go (B := T2.setTop (mkF m 14 #[.val (.ref a0), .val (.int p1)] [(.int ((ev &&& (255 : Int32)).toUInt32.toUInt16.toUInt32.toInt32))])) ?_ (fun tX kX => XS.i2c X2.here hx rfl (hb hby d25_13) rfl kX)
  refine OGo.ret X2 (v := (some (.int (((ev &&& (255 : Int32)).toUInt32.toUInt16.toUInt32.toInt32).toUInt32.toUInt16.toUInt32.toInt32)))) (fun h => by rw [Bd.returns] at h; cases h) (BodyLoose.notSynchronized Bd) (fun fs hr => retN X2 hx (t := .char) (z := ((ev &&& (255 : Int32)).toUInt32.toUInt16.toUInt32.toInt32)) Bd.returns (by simp) (hb hby d25_14) hr) (Q := Q25 Z a0 p1 kb n vs fv ev h0 n0) ?_ (by decide) (by decide)
  show Q25 Z a0 p1 kb n vs fv ev h0 n0 _ T2.heap _
  rw [e2]
  exact ⟨rfl, N2, rfl⟩
theorem d23_0 : decode jdk_42_method_56_code 0 = .ok (.aload_n 0, 1) := by decide +kernel
theorem d23_1 : decode jdk_42_method_56_code 1 = .ok (.invokevirtual 492, 3) := by decide +kernel
theorem d23_4 : decode jdk_42_method_56_code 4 = .ok (.ifCond .eq 12, 3) := by decide +kernel
theorem d23_7 : decode jdk_42_method_56_code 7 = .ok (.aload_n 0, 1) := by decide +kernel
theorem d23_8 : decode jdk_42_method_56_code 8 = .ok (.getfield 9, 3) := by decide +kernel
theorem d23_11 : decode jdk_42_method_56_code 11 = .ok (.iload_n 1, 1) := by decide +kernel
theorem d23_12 : decode jdk_42_method_56_code 12 = .ok (.invokestatic 495, 3) := by decide +kernel
theorem pd___BI_C : parseMethodDescriptor "([BI)C" = some ⟨[(.array .byte), .int], some .char⟩ := by decide +kernel
theorem d23_15 : decode jdk_42_method_56_code 15 = .ok (.ireturn, 1) := by decide +kernel
def Q23 (Z : State) (a0 : Addr) (p1 : Int32) (vb : Addr) (kb : ClassId) (n : Int32) (vs : List Value) (cs : Int32) (fv : Value) (ev : Int32) (h0 : Heap) (n0 : Nat) (v : Option Value) (h : Heap) (L : List Loc) : Prop := v = some (.int (((ev &&& (255 : Int32)).toUInt32.toUInt16.toUInt32.toInt32).toUInt32.toUInt16.toUInt32.toInt32)) ∧ Fr n0 L ∧ h = h0
def P23 (Z : State) (a0 : Addr) (p1 : Int32) (vb : Addr) (kb : ClassId) (n : Int32) (vs : List Value) (cs : Int32) (fv : Value) (ev : Int32) (h0 : Heap) (n0 : Nat) (s : State) (o : Outcome) (U' : State) : Prop := ∃ v L, o = .returned v ∧ Q23 Z a0 p1 vb kb n vs cs fv ev h0 n0 v U'.heap L ∧ FrameEnd s o U' L ({ frames := 3, cells := 0, slots := 0, locals := 40 } : Room).cells ({ frames := 3, cells := 0, slots := 0, locals := 40 } : Room).slots
set_option maxRecDepth 65536 in
set_option maxHeartbeats 40000000 in
theorem rm23 (l : Launch) (Z : State) (aV : Array Value) (hw : ∀ d ∈ tables_1, d.before aV Z = true) (ws : List Jvm.Cond) (a0 : Addr) (p1 : Int32) (vb : Addr) (kb : ClassId) (n : Int32) (vs : List Value) (cs : Int32) (fv : Value) (ev : Int32) (h0 : Heap) (n0 : Nat) (Z0 : n0 ≤ h0.size) (E_a0 : Exa Z h0 a0 "java/lang/String") (F_value_a0 : Fld Z h0 a0 "java/lang/String" "value" "[B" (.ref vb)) (F_coder_a0 : Fld Z h0 a0 "java/lang/String" "coder" "B" (.int (0 : Int32))) (V_vb : Arv Z h0 vb kb .byte n vs (.int (0 : Int32))) (S_COMPACT_STRINGS : Sta Z h0 "java/lang/String" "COMPACT_STRINGS" "Z" (.int cs)) (S_SIOOBE_FORMATTER : Sta Z h0 "jdk/internal/util/Preconditions" "SIOOBE_FORMATTER" "Ljava/util/function/BiFunction;" fv) (hcs : ¬ cs = 0) (hfv : fv.isRef = true) (hin : ¬ p1 < 0 ∧ p1 < n) (hev : vs.getD p1.toNatClampNeg (.int (0 : Int32)) = .int ev) :
    MetFree l (⟨"java/lang/String", "charAt", "(I)C"⟩ : MethodName) (head1 (Jvm.Cond.code (⟨"java/lang/String", "charAt", "(I)C"⟩ : MethodName) jdk_42_method_56_code 2 (some .char) :: ws) ({ frames := 3, cells := 0, slots := 0, locals := 40 } : Room)) (fun a U => a = #[(.ref a0), (.int p1)] ∧ Z.Warmed39 U.vm ∧ U.heap = h0) (fun _ _ _ _ _ => True) (fun _ U o U' => ∃ v L, o = .returned v ∧ Q23 Z a0 p1 vb kb n vs cs fv ev h0 n0 v U'.heap L ∧ FrameEnd U o U' L ({ frames := 3, cells := 0, slots := 0, locals := 40 } : Room).cells ({ frames := 3, cells := 0, slots := 0, locals := 40 } : Room).slots) := by
  refine MetFree.of_bodySF (plainFor_of_name pn_java_lang_String) hisR ?_
  intro p e s m args below meth c s₁ Bd hml0 hP hK
  obtain ⟨rfl, hZ, hh⟩ := hP
  have hx := Bd.exec
  have hby := Bd.bytes
  have hml : c.maxLocals = 2 := hml0
  have hown : s.vm.findClass "java/lang/String" = some m.cls := findClass_of_methodNamed Bd.named
  have hnm := (name_of_methodNamed Bd.named Bd.method).1
  have X0 : Stand p l e ({ frames := 3, cells := 0, slots := 0, locals := 40 } : Room) s m #[(.ref a0), (.int p1)] below meth c s₁ [] 0 0 := Stand.of_body Bd
  have e0 : s₁.heap = h0 := by rw [← hh, Bd.state]; rfl
  have efx : entryFrame m #[(.ref a0), (.int p1)] 2 = mkF m 0 #[.val (.ref a0), .val (.int p1)] [] := by first | (simp [entryFrame, mkF, argsToLocals, Value.category]; done) | rfl
  have N0 := Fr.nil n0
  have K0 : Keep h0 h0 [] := Keep.refl h0 _
  refine OGo.start (g' := mkF m 0 #[.val (.ref a0), .val (.int p1)] []) (efx) ?_
  show OGo p.tables e below (P23 Z a0 p1 vb kb n vs cs fv ev h0 n0 s) (s₁.setTop (mkF m 0 #[.val (.ref a0), .val (.int p1)] []))
  refine OGo.go (B := s₁.setTop (mkF m 1 #[.val (.ref a0), .val (.int p1)] [(.ref a0)])) ?_ (fun tX kX => XS.aloadN X0.here hx rfl (hb hby d23_0) rfl rfl kX)
  obtain ⟨cq1, kq1, q1a, q1b, q1c⟩ := isOf hZ e0 E_a0
  obtain ⟨_, _, ⟨T1, L1, k1, n1⟩, -, X1, ⟨Lc1, hQ1, l1, y1, z1⟩, st1⟩ := X0.virtualBack hx (y := (⟨"java/lang/String", "isLatin1", "()Z"⟩ : MethodName)) (z := (⟨"java/lang/String", "isLatin1", "()Z"⟩ : MethodName)) hown (mvT hZ (hw _ (List.mem_of_getElem? (i := 137) rfl))) (mvT hZ (hw _ (List.mem_of_getElem? (i := 138) rfl))) (notFace_of_selects (args := #[]) (mvT hZ (hw _ (List.mem_of_getElem? (i := 140) rfl)))) (mvT hZ (hw _ (List.mem_of_getElem? (i := 140) rfl))) (mvT hZ (hw _ (List.mem_of_getElem? (i := 139) rfl))) (by decide) (backOf (W := 0) (rm24 l Z aV hw [] a0 cs h0 n0 Z0 F_coder_a0 S_COMPACT_STRINGS hcs) hZ (hw _ (List.mem_of_getElem? (i := 141) rfl)) (hw _ (List.mem_of_getElem? (i := 21) rfl)) (by decide) (by decide)) q1a q1c (g := (mkF m 1 #[.val (.ref a0), .val (.int p1)] [(.ref a0)])) rfl (by rw [hml]; rfl) (Steps.refl _) (argsL := []) (rest := []) (lenOf pd___Z rfl) rfl (by show 2 * 0 + _ ≤ _; exact Nat.le_of_eq rfl) (hb hby d23_1) (fun _ _ => ⟨rfl, e0, (by decide : 0 + 0 ≤ _), (by decide : 0 + 0 ≤ _)⟩)
  dsimp only [Pt.U, Pt.locs, Pt.cells, Pt.slots] at X1 l1 y1 z1 st1 hQ1
  subst l1 y1 z1
  obtain ⟨rfl, N1q, e1⟩ := hQ1
  have N1 := Fr.app N0 N1q
  refine OGo.go (B := T1.setTop (mkF m 4 #[.val (.ref a0), .val (.int p1)] [(.int (1 : Int32))])) ?_ (fun tX kX => st1.trans kX)
  refine OGo.go (B := T1.setTop (mkF m 7 #[.val (.ref a0), .val (.int p1)] [])) ?_ (fun tX kX => XS.ifNo X1.here hx rfl (hb hby d23_4) rfl ((if0 _ _).trans (feq (by decide)).1) kX)
  refine OGo.go (B := T1.setTop (mkF m 8 #[.val (.ref a0), .val (.int p1)] [(.ref a0)])) ?_ (fun tX kX => XS.aloadN X1.here hx rfl (hb hby d23_7) rfl rfl kX)
  obtain ⟨T2, X2, e2, st2⟩ := getF X1 hx hZ hown (host := "") (Or.inl (hw _ (List.mem_of_getElem? (i := 77) rfl))) Via.refl e1 F_value_a0 (g := (mkF m 8 #[.val (.ref a0), .val (.int p1)] [(.ref a0)])) rfl rfl (hb hby d23_8)
  refine OGo.go (B := T2.setTop (mkF m 11 #[.val (.ref a0), .val (.int p1)] [(.ref vb)])) ?_ st2
  refine OGo.go (B := T2.setTop (mkF m 12 #[.val (.ref a0), .val (.int p1)] [(.int p1), (.ref vb)])) ?_ (fun tX kX => XS.iloadN X2.here hx rfl (hb hby d23_11) rfl kX)
  obtain ⟨_, _, ⟨T3, L3, k3, n3⟩, -, X3, ⟨Lc3, hQ3, l3, y3, z3⟩, st3⟩ := Jvm.LawKit.callS X2 hx (y := (⟨"java/lang/StringLatin1", "charAt", "([BI)C"⟩ : MethodName)) hown (mvT hZ (hw _ (List.mem_of_getElem? (i := 142) rfl))) (mvT hZ (hw _ (List.mem_of_getElem? (i := 143) rfl))) (mvT hZ (hw _ (List.mem_of_getElem? (i := 112) rfl))) (mvT hZ (hw _ (List.mem_of_getElem? (i := 144) rfl))) (by decide) (backOf (W := 0) (rm25 l Z aV hw [] vb p1 kb n vs fv ev h0 n0 Z0 V_vb S_SIOOBE_FORMATTER hfv hin hev) hZ (hw _ (List.mem_of_getElem? (i := 144) rfl)) (hw _ (List.mem_of_getElem? (i := 112) rfl)) (by decide) (by decide)) (g := (mkF m 12 #[.val (.ref a0), .val (.int p1)] [(.int p1), (.ref vb)])) rfl (by rw [hml]; rfl) (argsL := [(.ref vb), (.int p1)]) (rest := []) (lenOf pd___BI_C rfl) rfl (by show 2 * 0 + _ ≤ _; exact Nat.le_of_eq rfl) (hb hby d23_12) (fun _ _ => ⟨rfl, e2, (by decide : 0 + 0 ≤ _), (by decide : 0 + 0 ≤ _)⟩)
  dsimp only [Pt.U, Pt.locs, Pt.cells, Pt.slots] at X3 l3 y3 z3 st3 hQ3
  subst l3 y3 z3
  obtain ⟨rfl, N3q, e3⟩ := hQ3
  have N3 := Fr.app N1 N3q
  refine OGo.go (B := T3.setTop (mkF m 15 #[.val (.ref a0), .val (.int p1)] [(.int (((ev &&& (255 : Int32)).toUInt32.toUInt16.toUInt32.toInt32).toUInt32.toUInt16.toUInt32.toInt32))])) ?_ st3
  refine OGo.ret X3 (v := (some (.int ((((ev &&& (255 : Int32)).toUInt32.toUInt16.toUInt32.toInt32).toUInt32.toUInt16.toUInt32.toInt32).toUInt32.toUInt16.toUInt32.toInt32)))) (fun h => by rw [Bd.returns] at h; cases h) (BodyLoose.notSynchronized Bd) (fun fs hr => retN X3 hx (t := .char) (z := (((ev &&& (255 : Int32)).toUInt32.toUInt16.toUInt32.toInt32).toUInt32.toUInt16.toUInt32.toInt32)) Bd.returns (by simp) (hb hby d23_15) hr) (Q := Q23 Z a0 p1 vb kb n vs cs fv ev h0 n0) ?_ (by decide) (by decide)
  show Q23 Z a0 p1 vb kb n vs cs fv ev h0 n0 _ T3.heap _
  rw [e3]
  exact ⟨(congrArg (fun z => some (Value.int z)) (own_cc _)), N3, rfl⟩
theorem d28_0 : decode method_4_code 0 = .ok (.iload_n 0, 1) := by decide +kernel
theorem d28_1 : decode method_4_code 1 = .ok (.bipush 10, 2) := by decide +kernel
theorem d28_3 : decode method_4_code 3 = .ok (.if_icmp .ge 9, 3) := by decide +kernel
theorem d28_6 : decode method_4_code 6 = .ok (.bipush 48, 2) := by decide +kernel
theorem d28_8 : decode method_4_code 8 = .ok (.iload_n 0, 1) := by decide +kernel
theorem d28_9 : decode method_4_code 9 = .ok (.iadd, 1) := by decide +kernel
theorem d28_10 : decode method_4_code 10 = .ok (.i2c, 1) := by decide +kernel
theorem d28_11 : decode method_4_code 11 = .ok (.ireturn, 1) := by decide +kernel
theorem d28_12 : decode method_4_code 12 = .ok (.bipush 65, 2) := by decide +kernel
theorem d28_14 : decode method_4_code 14 = .ok (.iload_n 0, 1) := by decide +kernel
theorem d28_15 : decode method_4_code 15 = .ok (.bipush 10, 2) := by decide +kernel
theorem d28_17 : decode method_4_code 17 = .ok (.isub, 1) := by decide +kernel
theorem d28_18 : decode method_4_code 18 = .ok (.iadd, 1) := by decide +kernel
theorem d28_19 : decode method_4_code 19 = .ok (.i2c, 1) := by decide +kernel
theorem d28_20 : decode method_4_code 20 = .ok (.ireturn, 1) := by decide +kernel
theorem pn_com_example_cartouche_cartouche_host_HexFormatPinLaw : plainName "com/example/cartouche/cartouche/host/HexFormatPinLaw" = true := by first | (simp [plainName, overriddenIn]; done) | decide +kernel
def Q28 (Z : State) (p0 : Int32) (h0 : Heap) (n0 : Nat) (v : Option Value) (h : Heap) (L : List Loc) : Prop := v = some (.int (own_dg p0)) ∧ Fr n0 L ∧ h = h0
def P28 (Z : State) (p0 : Int32) (h0 : Heap) (n0 : Nat) (s : State) (o : Outcome) (U' : State) : Prop := ∃ v L, o = .returned v ∧ Q28 Z p0 h0 n0 v U'.heap L ∧ FrameEnd s o U' L ({ frames := 0, cells := 0, slots := 0, locals := 0 } : Room).cells ({ frames := 0, cells := 0, slots := 0, locals := 0 } : Room).slots
set_option maxRecDepth 65536 in
set_option maxHeartbeats 40000000 in
theorem rm28 (l : Launch) (Z : State) (aV : Array Value) (hw : ∀ d ∈ tables_1, d.before aV Z = true) (ws : List Jvm.Cond) (p0 : Int32) (h0 : Heap) (n0 : Nat) (Z0 : n0 ≤ h0.size) :
    MetFree l (⟨"com/example/cartouche/cartouche/host/HexFormatPinLaw", "digit", "(I)C"⟩ : MethodName) (head1 (Jvm.Cond.code (⟨"com/example/cartouche/cartouche/host/HexFormatPinLaw", "digit", "(I)C"⟩ : MethodName) method_4_code 1 (some .char) :: ws) ({ frames := 0, cells := 0, slots := 0, locals := 0 } : Room)) (fun a U => a = #[(.int p0)] ∧ Z.Warmed39 U.vm ∧ U.heap = h0) (fun _ _ _ _ _ => True) (fun _ U o U' => ∃ v L, o = .returned v ∧ Q28 Z p0 h0 n0 v U'.heap L ∧ FrameEnd U o U' L ({ frames := 0, cells := 0, slots := 0, locals := 0 } : Room).cells ({ frames := 0, cells := 0, slots := 0, locals := 0 } : Room).slots) := by
  refine MetFree.of_bodySF (plainFor_of_name pn_com_example_cartouche_cartouche_host_HexFormatPinLaw) hisR ?_
  intro p e s m args below meth c s₁ Bd hml0 hP hK
  obtain ⟨rfl, hZ, hh⟩ := hP
  have hx := Bd.exec
  have hby := Bd.bytes
  have hml : c.maxLocals = 1 := hml0
  have hown : s.vm.findClass "com/example/cartouche/cartouche/host/HexFormatPinLaw" = some m.cls := findClass_of_methodNamed Bd.named
  have hnm := (name_of_methodNamed Bd.named Bd.method).1
  have X0 : Stand p l e ({ frames := 0, cells := 0, slots := 0, locals := 0 } : Room) s m #[(.int p0)] below meth c s₁ [] 0 0 := Stand.of_body Bd
  have e0 : s₁.heap = h0 := by rw [← hh, Bd.state]; rfl
  have efx : entryFrame m #[(.int p0)] 1 = mkF m 0 #[.val (.int p0)] [] := by first | (simp [entryFrame, mkF, argsToLocals, Value.category]; done) | rfl
  have N0 := Fr.nil n0
  have K0 : Keep h0 h0 [] := Keep.refl h0 _
  refine OGo.start (g' := mkF m 0 #[.val (.int p0)] []) (efx) ?_
  show OGo p.tables e below (P28 Z p0 h0 n0 s) (s₁.setTop (mkF m 0 #[.val (.int p0)] []))
  refine OGo.go (B := s₁.setTop (mkF m 1 #[.val (.int p0)] [(.int p0)])) ?_ (fun tX kX => XS.iloadN X0.here hx rfl (hb hby d28_0) rfl kX)
  refine OGo.go (B := s₁.setTop (mkF m 3 #[.val (.int p0)] [(.int (10 : Int32)), (.int p0)])) ?_ (fun tX kX => XS.bipush X0.here hx rfl (hb hby d28_1) kX)
  by_cases hc3 : p0 < (10 : Int32)
  ·
    refine OGo.go (B := s₁.setTop (mkF m 6 #[.val (.int p0)] [])) ?_ (fun tX kX => XS.icmpNo X0.here hx rfl (hb hby d28_3) rfl (tlt hc3).2.1 kX)
    refine OGo.go (B := s₁.setTop (mkF m 8 #[.val (.int p0)] [(.int (48 : Int32))])) ?_ (fun tX kX => XS.bipush X0.here hx rfl (hb hby d28_6) kX)
    refine OGo.go (B := s₁.setTop (mkF m 9 #[.val (.int p0)] [(.int p0), (.int (48 : Int32))])) ?_ (fun tX kX => XS.iloadN X0.here hx rfl (hb hby d28_8) rfl kX)
    refine OGo.go (B := s₁.setTop (mkF m 10 #[.val (.int p0)] [(.int ((48 : Int32) + p0))])) ?_ (fun tX kX => XS.iadd X0.here hx rfl (hb hby d28_9) rfl kX)
    refine OGo.go (B := s₁.setTop (mkF m 11 #[.val (.int p0)] [(.int (((48 : Int32) + p0).toUInt32.toUInt16.toUInt32.toInt32))])) ?_ (fun tX kX => XS.i2c X0.here hx rfl (hb hby d28_10) rfl kX)
    refine OGo.ret X0 (v := (some (.int ((((48 : Int32) + p0).toUInt32.toUInt16.toUInt32.toInt32).toUInt32.toUInt16.toUInt32.toInt32)))) (fun h => by rw [Bd.returns] at h; cases h) (BodyLoose.notSynchronized Bd) (fun fs hr => retN X0 hx (t := .char) (z := (((48 : Int32) + p0).toUInt32.toUInt16.toUInt32.toInt32)) Bd.returns (by simp) (hb hby d28_11) hr) (Q := Q28 Z p0 h0 n0) ?_ (by decide) (by decide)
    show Q28 Z p0 h0 n0 _ s₁.heap _
    rw [e0]
    exact ⟨(congrArg (fun z => some (Value.int z)) (if_pos hc3).symm), N0, rfl⟩
  ·
    refine OGo.go (B := s₁.setTop (mkF m 12 #[.val (.int p0)] [])) ?_ (fun tX kX => XS.icmpYes X0.here hx rfl (pc0 := 3) (pc' := 12) rfl (hb hby d28_3) rfl (flt hc3).2.1 (by decide) (by decide) kX)
    refine OGo.go (B := s₁.setTop (mkF m 14 #[.val (.int p0)] [(.int (65 : Int32))])) ?_ (fun tX kX => XS.bipush X0.here hx rfl (hb hby d28_12) kX)
    refine OGo.go (B := s₁.setTop (mkF m 15 #[.val (.int p0)] [(.int p0), (.int (65 : Int32))])) ?_ (fun tX kX => XS.iloadN X0.here hx rfl (hb hby d28_14) rfl kX)
    refine OGo.go (B := s₁.setTop (mkF m 17 #[.val (.int p0)] [(.int (10 : Int32)), (.int p0), (.int (65 : Int32))])) ?_ (fun tX kX => XS.bipush X0.here hx rfl (hb hby d28_15) kX)
    refine OGo.go (B := s₁.setTop (mkF m 18 #[.val (.int p0)] [(.int (p0 - (10 : Int32))), (.int (65 : Int32))])) ?_ (fun tX kX => XS.isub X0.here hx rfl (hb hby d28_17) rfl kX)
    refine OGo.go (B := s₁.setTop (mkF m 19 #[.val (.int p0)] [(.int ((65 : Int32) + (p0 - (10 : Int32))))])) ?_ (fun tX kX => XS.iadd X0.here hx rfl (hb hby d28_18) rfl kX)
    refine OGo.go (B := s₁.setTop (mkF m 20 #[.val (.int p0)] [(.int (((65 : Int32) + (p0 - (10 : Int32))).toUInt32.toUInt16.toUInt32.toInt32))])) ?_ (fun tX kX => XS.i2c X0.here hx rfl (hb hby d28_19) rfl kX)
    refine OGo.ret X0 (v := (some (.int ((((65 : Int32) + (p0 - (10 : Int32))).toUInt32.toUInt16.toUInt32.toInt32).toUInt32.toUInt16.toUInt32.toInt32)))) (fun h => by rw [Bd.returns] at h; cases h) (BodyLoose.notSynchronized Bd) (fun fs hr => retN X0 hx (t := .char) (z := (((65 : Int32) + (p0 - (10 : Int32))).toUInt32.toUInt16.toUInt32.toInt32)) Bd.returns (by simp) (hb hby d28_20) hr) (Q := Q28 Z p0 h0 n0) ?_ (by decide) (by decide)
    show Q28 Z p0 h0 n0 _ s₁.heap _
    rw [e0]
    exact ⟨(congrArg (fun z => some (Value.int z)) (if_neg hc3).symm), N0, rfl⟩
theorem d22_0 : decode method_3_code 0 = .ok (.iload_n 2, 1) := by decide +kernel
theorem d22_1 : decode method_3_code 1 = .ok (.sipush 255, 3) := by decide +kernel
theorem d22_4 : decode method_3_code 4 = .ok (.iand, 1) := by decide +kernel
theorem d22_5 : decode method_3_code 5 = .ok (.istore_n 3, 1) := by decide +kernel
theorem d22_6 : decode method_3_code 6 = .ok (.aload_n 0, 1) := by decide +kernel
theorem d22_7 : decode method_3_code 7 = .ok (.iload_n 1, 1) := by decide +kernel
theorem d22_8 : decode method_3_code 8 = .ok (.invokevirtual 25, 3) := by decide +kernel
theorem pd__I_C : parseMethodDescriptor "(I)C" = some ⟨[.int], some .char⟩ := by decide +kernel
theorem d22_11 : decode method_3_code 11 = .ok (.iload_n 3, 1) := by decide +kernel
theorem d22_12 : decode method_3_code 12 = .ok (.bipush 16, 2) := by decide +kernel
theorem d22_14 : decode method_3_code 14 = .ok (.idiv, 1) := by decide +kernel
theorem d22_15 : decode method_3_code 15 = .ok (.invokestatic 29, 3) := by decide +kernel
theorem d22_18 : decode method_3_code 18 = .ok (.if_icmp .ne 24, 3) := by decide +kernel
theorem d22_21 : decode method_3_code 21 = .ok (.aload_n 0, 1) := by decide +kernel
theorem d22_22 : decode method_3_code 22 = .ok (.iload_n 1, 1) := by decide +kernel
theorem d22_23 : decode method_3_code 23 = .ok (.iconst 1, 1) := by decide +kernel
theorem d22_24 : decode method_3_code 24 = .ok (.iadd, 1) := by decide +kernel
theorem d22_25 : decode method_3_code 25 = .ok (.invokevirtual 25, 3) := by decide +kernel
theorem d22_28 : decode method_3_code 28 = .ok (.iload_n 3, 1) := by decide +kernel
theorem d22_29 : decode method_3_code 29 = .ok (.bipush 16, 2) := by decide +kernel
theorem d22_31 : decode method_3_code 31 = .ok (.irem, 1) := by decide +kernel
theorem d22_32 : decode method_3_code 32 = .ok (.invokestatic 29, 3) := by decide +kernel
theorem d22_35 : decode method_3_code 35 = .ok (.if_icmp .ne 7, 3) := by decide +kernel
theorem d22_38 : decode method_3_code 38 = .ok (.iconst 1, 1) := by decide +kernel
theorem d22_39 : decode method_3_code 39 = .ok (.goto 4, 3) := by decide +kernel
theorem d22_43 : decode method_3_code 43 = .ok (.ireturn, 1) := by decide +kernel
def Q22 (Z : State) (a0 : Addr) (p1 : Int32) (p2 : Int32) (vb : Addr) (kb : ClassId) (n : Int32) (vs : List Value) (cs : Int32) (fv : Value) (y1 : Int32) (y2 : Int32) (h0 : Heap) (n0 : Nat) (v : Option Value) (h : Heap) (L : List Loc) : Prop := v = some (.int (1 : Int32)) ∧ Fr n0 L ∧ h = h0
def P22 (Z : State) (a0 : Addr) (p1 : Int32) (p2 : Int32) (vb : Addr) (kb : ClassId) (n : Int32) (vs : List Value) (cs : Int32) (fv : Value) (y1 : Int32) (y2 : Int32) (h0 : Heap) (n0 : Nat) (s : State) (o : Outcome) (U' : State) : Prop := ∃ v L, o = .returned v ∧ Q22 Z a0 p1 p2 vb kb n vs cs fv y1 y2 h0 n0 v U'.heap L ∧ FrameEnd s o U' L ({ frames := 4, cells := 0, slots := 0, locals := 53 } : Room).cells ({ frames := 4, cells := 0, slots := 0, locals := 53 } : Room).slots
set_option maxRecDepth 65536 in
set_option maxHeartbeats 40000000 in
theorem rm22 (l : Launch) (Z : State) (aV : Array Value) (hw : ∀ d ∈ tables_1, d.before aV Z = true) (ws : List Jvm.Cond) (a0 : Addr) (p1 : Int32) (p2 : Int32) (vb : Addr) (kb : ClassId) (n : Int32) (vs : List Value) (cs : Int32) (fv : Value) (y1 : Int32) (y2 : Int32) (h0 : Heap) (n0 : Nat) (Z0 : n0 ≤ h0.size) (E_a0 : Exa Z h0 a0 "java/lang/String") (F_value_a0 : Fld Z h0 a0 "java/lang/String" "value" "[B" (.ref vb)) (F_coder_a0 : Fld Z h0 a0 "java/lang/String" "coder" "B" (.int (0 : Int32))) (V_vb : Arv Z h0 vb kb .byte n vs (.int (0 : Int32))) (S_COMPACT_STRINGS : Sta Z h0 "java/lang/String" "COMPACT_STRINGS" "Z" (.int cs)) (S_SIOOBE_FORMATTER : Sta Z h0 "jdk/internal/util/Preconditions" "SIOOBE_FORMATTER" "Ljava/util/function/BiFunction;" fv) (hcs : ¬ cs = 0) (hfv : fv.isRef = true) (hin1 : ¬ p1 < 0 ∧ p1 < n) (hev1 : vs.getD p1.toNatClampNeg (.int (0 : Int32)) = .int y1) (hin2 : ¬ (p1 + (1 : Int32)) < 0 ∧ (p1 + (1 : Int32)) < n) (hev2 : vs.getD (p1 + (1 : Int32)).toNatClampNeg (.int (0 : Int32)) = .int y2) (hd1 : (((y1 &&& (255 : Int32)).toUInt32.toUInt16.toUInt32.toInt32).toUInt32.toUInt16.toUInt32.toInt32) = own_dg ((p2 &&& (255 : Int32)) / (16 : Int32))) (hd2 : (((y2 &&& (255 : Int32)).toUInt32.toUInt16.toUInt32.toInt32).toUInt32.toUInt16.toUInt32.toInt32) = own_dg ((p2 &&& (255 : Int32)) % (16 : Int32))) :
    MetFree l (⟨"com/example/cartouche/cartouche/host/HexFormatPinLaw", "pairAt", "(Ljava/lang/String;IB)Z"⟩ : MethodName) (head1 (Jvm.Cond.code (⟨"com/example/cartouche/cartouche/host/HexFormatPinLaw", "pairAt", "(Ljava/lang/String;IB)Z"⟩ : MethodName) method_3_code 4 (some .boolean) :: ws) ({ frames := 4, cells := 0, slots := 0, locals := 53 } : Room)) (fun a U => a = #[(.ref a0), (.int p1), (.int p2)] ∧ Z.Warmed39 U.vm ∧ U.heap = h0) (fun _ _ _ _ _ => True) (fun _ U o U' => ∃ v L, o = .returned v ∧ Q22 Z a0 p1 p2 vb kb n vs cs fv y1 y2 h0 n0 v U'.heap L ∧ FrameEnd U o U' L ({ frames := 4, cells := 0, slots := 0, locals := 53 } : Room).cells ({ frames := 4, cells := 0, slots := 0, locals := 53 } : Room).slots) := by
  refine MetFree.of_bodySF (plainFor_of_name pn_com_example_cartouche_cartouche_host_HexFormatPinLaw) hisR ?_
  intro p e s m args below meth c s₁ Bd hml0 hP hK
  obtain ⟨rfl, hZ, hh⟩ := hP
  have hx := Bd.exec
  have hby := Bd.bytes
  have hml : c.maxLocals = 4 := hml0
  have hown : s.vm.findClass "com/example/cartouche/cartouche/host/HexFormatPinLaw" = some m.cls := findClass_of_methodNamed Bd.named
  have hnm := (name_of_methodNamed Bd.named Bd.method).1
  have X0 : Stand p l e ({ frames := 4, cells := 0, slots := 0, locals := 53 } : Room) s m #[(.ref a0), (.int p1), (.int p2)] below meth c s₁ [] 0 0 := Stand.of_body Bd
  have e0 : s₁.heap = h0 := by rw [← hh, Bd.state]; rfl
  have efx : entryFrame m #[(.ref a0), (.int p1), (.int p2)] 4 = mkF m 0 #[.val (.ref a0), .val (.int p1), .val (.int p2), .unset] [] := by first | (simp [entryFrame, mkF, argsToLocals, Value.category]; done) | rfl
  have N0 := Fr.nil n0
  have K0 : Keep h0 h0 [] := Keep.refl h0 _
  refine OGo.start (g' := mkF m 0 #[.val (.ref a0), .val (.int p1), .val (.int p2), .unset] []) (efx) ?_
  show OGo p.tables e below (P22 Z a0 p1 p2 vb kb n vs cs fv y1 y2 h0 n0 s) (s₁.setTop (mkF m 0 #[.val (.ref a0), .val (.int p1), .val (.int p2), .unset] []))
  refine OGo.go (B := s₁.setTop (mkF m 1 #[.val (.ref a0), .val (.int p1), .val (.int p2), .unset] [(.int p2)])) ?_ (fun tX kX => XS.iloadN X0.here hx rfl (hb hby d22_0) rfl kX)
  refine OGo.go (B := s₁.setTop (mkF m 4 #[.val (.ref a0), .val (.int p1), .val (.int p2), .unset] [(.int (255 : Int32)), (.int p2)])) ?_ (fun tX kX => XS.sipush X0.here hx rfl (hb hby d22_1) kX)
  refine OGo.go (B := s₁.setTop (mkF m 5 #[.val (.ref a0), .val (.int p1), .val (.int p2), .unset] [(.int (p2 &&& (255 : Int32)))])) ?_ (fun tX kX => XS.iand X0.here hx rfl (hb hby d22_4) rfl kX)
  refine OGo.go (B := s₁.setTop (mkF m 6 #[.val (.ref a0), .val (.int p1), .val (.int p2), .val (.int (p2 &&& (255 : Int32)))] [])) ?_ (fun tX kX => XS.istoreN X0.here hx rfl (hb hby d22_5) rfl (l' := #[.val (.ref a0), .val (.int p1), .val (.int p2), .val (.int (p2 &&& (255 : Int32)))]) rfl kX)
  refine OGo.go (B := s₁.setTop (mkF m 7 #[.val (.ref a0), .val (.int p1), .val (.int p2), .val (.int (p2 &&& (255 : Int32)))] [(.ref a0)])) ?_ (fun tX kX => XS.aloadN X0.here hx rfl (hb hby d22_6) rfl rfl kX)
  refine OGo.go (B := s₁.setTop (mkF m 8 #[.val (.ref a0), .val (.int p1), .val (.int p2), .val (.int (p2 &&& (255 : Int32)))] [(.int p1), (.ref a0)])) ?_ (fun tX kX => XS.iloadN X0.here hx rfl (hb hby d22_7) rfl kX)
  obtain ⟨cq1, kq1, q1a, q1b, q1c⟩ := isOf hZ e0 E_a0
  obtain ⟨_, _, ⟨T1, L1, k1, n1⟩, -, X1, ⟨Lc1, hQ1, l1, y1, z1⟩, st1⟩ := X0.virtualBack hx (y := (⟨"java/lang/String", "charAt", "(I)C"⟩ : MethodName)) (z := (⟨"java/lang/String", "charAt", "(I)C"⟩ : MethodName)) hown (mvT hZ (hw _ (List.mem_of_getElem? (i := 132) rfl))) (mvT hZ (hw _ (List.mem_of_getElem? (i := 133) rfl))) (notFace_of_selects (args := #[]) (mvT hZ (hw _ (List.mem_of_getElem? (i := 135) rfl)))) (mvT hZ (hw _ (List.mem_of_getElem? (i := 135) rfl))) (mvT hZ (hw _ (List.mem_of_getElem? (i := 134) rfl))) (by decide) (backOf (W := 0) (rm23 l Z aV hw [] a0 p1 vb kb n vs cs fv y1 h0 n0 Z0 E_a0 F_value_a0 F_coder_a0 V_vb S_COMPACT_STRINGS S_SIOOBE_FORMATTER hcs hfv hin1 hev1) hZ (hw _ (List.mem_of_getElem? (i := 136) rfl)) (hw _ (List.mem_of_getElem? (i := 21) rfl)) (by decide) (by decide)) q1a q1c (g := (mkF m 8 #[.val (.ref a0), .val (.int p1), .val (.int p2), .val (.int (p2 &&& (255 : Int32)))] [(.int p1), (.ref a0)])) rfl (by rw [hml]; rfl) (Steps.refl _) (argsL := [(.int p1)]) (rest := []) (lenOf pd__I_C rfl) rfl (by show 2 * 0 + _ ≤ _; exact Nat.le_of_eq rfl) (hb hby d22_8) (fun _ _ => ⟨rfl, e0, (by decide : 0 + 0 ≤ _), (by decide : 0 + 0 ≤ _)⟩)
  dsimp only [Pt.U, Pt.locs, Pt.cells, Pt.slots] at X1 l1 y1 z1 st1 hQ1
  subst l1 y1 z1
  obtain ⟨rfl, N1q, e1⟩ := hQ1
  have N1 := Fr.app N0 N1q
  refine OGo.go (B := T1.setTop (mkF m 11 #[.val (.ref a0), .val (.int p1), .val (.int p2), .val (.int (p2 &&& (255 : Int32)))] [(.int (((y1 &&& (255 : Int32)).toUInt32.toUInt16.toUInt32.toInt32).toUInt32.toUInt16.toUInt32.toInt32))])) ?_ (fun tX kX => st1.trans kX)
  refine OGo.go (B := T1.setTop (mkF m 12 #[.val (.ref a0), .val (.int p1), .val (.int p2), .val (.int (p2 &&& (255 : Int32)))] [(.int (p2 &&& (255 : Int32))), (.int (((y1 &&& (255 : Int32)).toUInt32.toUInt16.toUInt32.toInt32).toUInt32.toUInt16.toUInt32.toInt32))])) ?_ (fun tX kX => XS.iloadN X1.here hx rfl (hb hby d22_11) rfl kX)
  refine OGo.go (B := T1.setTop (mkF m 14 #[.val (.ref a0), .val (.int p1), .val (.int p2), .val (.int (p2 &&& (255 : Int32)))] [(.int (16 : Int32)), (.int (p2 &&& (255 : Int32))), (.int (((y1 &&& (255 : Int32)).toUInt32.toUInt16.toUInt32.toInt32).toUInt32.toUInt16.toUInt32.toInt32))])) ?_ (fun tX kX => XS.bipush X1.here hx rfl (hb hby d22_12) kX)
  refine OGo.go (B := T1.setTop (mkF m 15 #[.val (.ref a0), .val (.int p1), .val (.int p2), .val (.int (p2 &&& (255 : Int32)))] [(.int ((p2 &&& (255 : Int32)) / (16 : Int32))), (.int (((y1 &&& (255 : Int32)).toUInt32.toUInt16.toUInt32.toInt32).toUInt32.toUInt16.toUInt32.toInt32))])) ?_ (fun tX kX => XS.idiv X1.here hx rfl (hb hby d22_14) rfl (by decide) kX)
  obtain ⟨_, _, ⟨T2, L2, k2, n2⟩, -, X2, ⟨Lc2, hQ2, l2, y2, z2⟩, st2⟩ := Jvm.LawKit.callS X1 hx (y := (⟨"com/example/cartouche/cartouche/host/HexFormatPinLaw", "digit", "(I)C"⟩ : MethodName)) hown (mvT hZ (hw _ (List.mem_of_getElem? (i := 153) rfl))) (mvT hZ (hw _ (List.mem_of_getElem? (i := 154) rfl))) (mvT hZ (hw _ (List.mem_of_getElem? (i := 130) rfl))) (mvT hZ (hw _ (List.mem_of_getElem? (i := 155) rfl))) (by decide) (backOf (W := 1) (rm28 l Z aV hw [] ((p2 &&& (255 : Int32)) / (16 : Int32)) h0 n0 Z0) hZ (hw _ (List.mem_of_getElem? (i := 155) rfl)) (hw _ (List.mem_of_getElem? (i := 130) rfl)) (by decide) (by decide)) (g := (mkF m 15 #[.val (.ref a0), .val (.int p1), .val (.int p2), .val (.int (p2 &&& (255 : Int32)))] [(.int ((p2 &&& (255 : Int32)) / (16 : Int32))), (.int (((y1 &&& (255 : Int32)).toUInt32.toUInt16.toUInt32.toInt32).toUInt32.toUInt16.toUInt32.toInt32))])) rfl (by rw [hml]; rfl) (argsL := [(.int ((p2 &&& (255 : Int32)) / (16 : Int32)))]) (rest := [(.int (((y1 &&& (255 : Int32)).toUInt32.toUInt16.toUInt32.toInt32).toUInt32.toUInt16.toUInt32.toInt32))]) (lenOf pd__I_C rfl) rfl (by show 2 * 0 + _ ≤ _; exact Nat.le_of_eq rfl) (hb hby d22_15) (fun _ _ => ⟨rfl, e1, (by decide : 0 + 0 ≤ _), (by decide : 0 + 0 ≤ _)⟩)
  dsimp only [Pt.U, Pt.locs, Pt.cells, Pt.slots] at X2 l2 y2 z2 st2 hQ2
  subst l2 y2 z2
  obtain ⟨rfl, N2q, e2⟩ := hQ2
  have N2 := Fr.app N1 N2q
  refine OGo.go (B := T2.setTop (mkF m 18 #[.val (.ref a0), .val (.int p1), .val (.int p2), .val (.int (p2 &&& (255 : Int32)))] [(.int (own_dg ((p2 &&& (255 : Int32)) / (16 : Int32)))), (.int (((y1 &&& (255 : Int32)).toUInt32.toUInt16.toUInt32.toInt32).toUInt32.toUInt16.toUInt32.toInt32))])) ?_ st2
  refine OGo.go (B := T2.setTop (mkF m 21 #[.val (.ref a0), .val (.int p1), .val (.int p2), .val (.int (p2 &&& (255 : Int32)))] [])) ?_ (fun tX kX => XS.icmpNo X2.here hx rfl (hb hby d22_18) rfl (teq hd1).2 kX)
  refine OGo.go (B := T2.setTop (mkF m 22 #[.val (.ref a0), .val (.int p1), .val (.int p2), .val (.int (p2 &&& (255 : Int32)))] [(.ref a0)])) ?_ (fun tX kX => XS.aloadN X2.here hx rfl (hb hby d22_21) rfl rfl kX)
  refine OGo.go (B := T2.setTop (mkF m 23 #[.val (.ref a0), .val (.int p1), .val (.int p2), .val (.int (p2 &&& (255 : Int32)))] [(.int p1), (.ref a0)])) ?_ (fun tX kX => XS.iloadN X2.here hx rfl (hb hby d22_22) rfl kX)
  refine OGo.go (B := T2.setTop (mkF m 24 #[.val (.ref a0), .val (.int p1), .val (.int p2), .val (.int (p2 &&& (255 : Int32)))] [(.int (1 : Int32)), (.int p1), (.ref a0)])) ?_ (fun tX kX => XS.iconst X2.here hx rfl (hb hby d22_23) kX)
  refine OGo.go (B := T2.setTop (mkF m 25 #[.val (.ref a0), .val (.int p1), .val (.int p2), .val (.int (p2 &&& (255 : Int32)))] [(.int (p1 + (1 : Int32))), (.ref a0)])) ?_ (fun tX kX => XS.iadd X2.here hx rfl (hb hby d22_24) rfl kX)
  obtain ⟨cq3, kq3, q3a, q3b, q3c⟩ := isOf hZ e2 E_a0
  obtain ⟨_, _, ⟨T3, L3, k3, n3⟩, -, X3, ⟨Lc3, hQ3, l3, y3, z3⟩, st3⟩ := X2.virtualBack hx (y := (⟨"java/lang/String", "charAt", "(I)C"⟩ : MethodName)) (z := (⟨"java/lang/String", "charAt", "(I)C"⟩ : MethodName)) hown (mvT hZ (hw _ (List.mem_of_getElem? (i := 132) rfl))) (mvT hZ (hw _ (List.mem_of_getElem? (i := 133) rfl))) (notFace_of_selects (args := #[]) (mvT hZ (hw _ (List.mem_of_getElem? (i := 135) rfl)))) (mvT hZ (hw _ (List.mem_of_getElem? (i := 135) rfl))) (mvT hZ (hw _ (List.mem_of_getElem? (i := 134) rfl))) (by decide) (backOf (W := 0) (rm23 l Z aV hw [] a0 (p1 + (1 : Int32)) vb kb n vs cs fv y2 h0 n0 Z0 E_a0 F_value_a0 F_coder_a0 V_vb S_COMPACT_STRINGS S_SIOOBE_FORMATTER hcs hfv hin2 hev2) hZ (hw _ (List.mem_of_getElem? (i := 136) rfl)) (hw _ (List.mem_of_getElem? (i := 21) rfl)) (by decide) (by decide)) q3a q3c (g := (mkF m 25 #[.val (.ref a0), .val (.int p1), .val (.int p2), .val (.int (p2 &&& (255 : Int32)))] [(.int (p1 + (1 : Int32))), (.ref a0)])) rfl (by rw [hml]; rfl) (Steps.refl _) (argsL := [(.int (p1 + (1 : Int32)))]) (rest := []) (lenOf pd__I_C rfl) rfl (by show 2 * 0 + _ ≤ _; exact Nat.le_of_eq rfl) (hb hby d22_25) (fun _ _ => ⟨rfl, e2, (by decide : 0 + 0 ≤ _), (by decide : 0 + 0 ≤ _)⟩)
  dsimp only [Pt.U, Pt.locs, Pt.cells, Pt.slots] at X3 l3 y3 z3 st3 hQ3
  subst l3 y3 z3
  obtain ⟨rfl, N3q, e3⟩ := hQ3
  have N3 := Fr.app N2 N3q
  refine OGo.go (B := T3.setTop (mkF m 28 #[.val (.ref a0), .val (.int p1), .val (.int p2), .val (.int (p2 &&& (255 : Int32)))] [(.int (((y2 &&& (255 : Int32)).toUInt32.toUInt16.toUInt32.toInt32).toUInt32.toUInt16.toUInt32.toInt32))])) ?_ (fun tX kX => st3.trans kX)
  refine OGo.go (B := T3.setTop (mkF m 29 #[.val (.ref a0), .val (.int p1), .val (.int p2), .val (.int (p2 &&& (255 : Int32)))] [(.int (p2 &&& (255 : Int32))), (.int (((y2 &&& (255 : Int32)).toUInt32.toUInt16.toUInt32.toInt32).toUInt32.toUInt16.toUInt32.toInt32))])) ?_ (fun tX kX => XS.iloadN X3.here hx rfl (hb hby d22_28) rfl kX)
  refine OGo.go (B := T3.setTop (mkF m 31 #[.val (.ref a0), .val (.int p1), .val (.int p2), .val (.int (p2 &&& (255 : Int32)))] [(.int (16 : Int32)), (.int (p2 &&& (255 : Int32))), (.int (((y2 &&& (255 : Int32)).toUInt32.toUInt16.toUInt32.toInt32).toUInt32.toUInt16.toUInt32.toInt32))])) ?_ (fun tX kX => XS.bipush X3.here hx rfl (hb hby d22_29) kX)
  refine OGo.go (B := T3.setTop (mkF m 32 #[.val (.ref a0), .val (.int p1), .val (.int p2), .val (.int (p2 &&& (255 : Int32)))] [(.int ((p2 &&& (255 : Int32)) % (16 : Int32))), (.int (((y2 &&& (255 : Int32)).toUInt32.toUInt16.toUInt32.toInt32).toUInt32.toUInt16.toUInt32.toInt32))])) ?_ (fun tX kX => iremM X3 hx rfl (hb hby d22_31) rfl (by decide) kX)
  obtain ⟨_, _, ⟨T4, L4, k4, n4⟩, -, X4, ⟨Lc4, hQ4, l4, y4, z4⟩, st4⟩ := Jvm.LawKit.callS X3 hx (y := (⟨"com/example/cartouche/cartouche/host/HexFormatPinLaw", "digit", "(I)C"⟩ : MethodName)) hown (mvT hZ (hw _ (List.mem_of_getElem? (i := 153) rfl))) (mvT hZ (hw _ (List.mem_of_getElem? (i := 154) rfl))) (mvT hZ (hw _ (List.mem_of_getElem? (i := 130) rfl))) (mvT hZ (hw _ (List.mem_of_getElem? (i := 155) rfl))) (by decide) (backOf (W := 1) (rm28 l Z aV hw [] ((p2 &&& (255 : Int32)) % (16 : Int32)) h0 n0 Z0) hZ (hw _ (List.mem_of_getElem? (i := 155) rfl)) (hw _ (List.mem_of_getElem? (i := 130) rfl)) (by decide) (by decide)) (g := (mkF m 32 #[.val (.ref a0), .val (.int p1), .val (.int p2), .val (.int (p2 &&& (255 : Int32)))] [(.int ((p2 &&& (255 : Int32)) % (16 : Int32))), (.int (((y2 &&& (255 : Int32)).toUInt32.toUInt16.toUInt32.toInt32).toUInt32.toUInt16.toUInt32.toInt32))])) rfl (by rw [hml]; rfl) (argsL := [(.int ((p2 &&& (255 : Int32)) % (16 : Int32)))]) (rest := [(.int (((y2 &&& (255 : Int32)).toUInt32.toUInt16.toUInt32.toInt32).toUInt32.toUInt16.toUInt32.toInt32))]) (lenOf pd__I_C rfl) rfl (by show 2 * 0 + _ ≤ _; exact Nat.le_of_eq rfl) (hb hby d22_32) (fun _ _ => ⟨rfl, e3, (by decide : 0 + 0 ≤ _), (by decide : 0 + 0 ≤ _)⟩)
  dsimp only [Pt.U, Pt.locs, Pt.cells, Pt.slots] at X4 l4 y4 z4 st4 hQ4
  subst l4 y4 z4
  obtain ⟨rfl, N4q, e4⟩ := hQ4
  have N4 := Fr.app N3 N4q
  refine OGo.go (B := T4.setTop (mkF m 35 #[.val (.ref a0), .val (.int p1), .val (.int p2), .val (.int (p2 &&& (255 : Int32)))] [(.int (own_dg ((p2 &&& (255 : Int32)) % (16 : Int32)))), (.int (((y2 &&& (255 : Int32)).toUInt32.toUInt16.toUInt32.toInt32).toUInt32.toUInt16.toUInt32.toInt32))])) ?_ st4
  refine OGo.go (B := T4.setTop (mkF m 38 #[.val (.ref a0), .val (.int p1), .val (.int p2), .val (.int (p2 &&& (255 : Int32)))] [])) ?_ (fun tX kX => XS.icmpNo X4.here hx rfl (hb hby d22_35) rfl (teq hd2).2 kX)
  refine OGo.go (B := T4.setTop (mkF m 39 #[.val (.ref a0), .val (.int p1), .val (.int p2), .val (.int (p2 &&& (255 : Int32)))] [(.int (1 : Int32))])) ?_ (fun tX kX => XS.iconst X4.here hx rfl (hb hby d22_38) kX)
  refine OGo.go (B := T4.setTop (mkF m 43 #[.val (.ref a0), .val (.int p1), .val (.int p2), .val (.int (p2 &&& (255 : Int32)))] [(.int (1 : Int32))])) ?_ (fun tX kX => XS.goto X4.here hx rfl (pc0 := 39) (pc' := 43) rfl (hb hby d22_39) (by decide) (by decide) kX)
  refine OGo.ret X4 (v := (some (.int (1 : Int32)))) (fun h => by rw [Bd.returns] at h; cases h) (BodyLoose.notSynchronized Bd) (fun fs hr => retN X4 hx (t := .boolean) (z := (1 : Int32)) Bd.returns (by simp) (hb hby d22_43) hr) (Q := Q22 Z a0 p1 p2 vb kb n vs cs fv y1 y2 h0 n0) ?_ (by decide) (by decide)
  show Q22 Z a0 p1 p2 vb kb n vs cs fv y1 y2 h0 n0 _ T4.heap _
  rw [e4]
  exact ⟨rfl, N4, rfl⟩
theorem pd___B_Ljava_lang_String_ : parseMethodDescriptor "([B)Ljava/lang/String;" = some ⟨[(.array .byte)], some (.object "java/lang/String")⟩ := by decide +kernel
theorem pd__Ljava_lang_String_IB_Z : parseMethodDescriptor "(Ljava/lang/String;IB)Z" = some ⟨[(.object "java/lang/String"), .int, .byte], some .boolean⟩ := by decide +kernel
def Q0 (Z : State) (p0 : Int32) (p1 : Int32) (p2 : Int32) (p3 : Int32) (cs : Int32) (fv : Value) (ud : Addr) (kd : ClassId) (h0 : Heap) (n0 : Nat) (v : Option Value) (h : Heap) (L : List Loc) : Prop := v = some (.int (1 : Int32)) ∧ Fr n0 L
def P0 (Z : State) (p0 : Int32) (p1 : Int32) (p2 : Int32) (p3 : Int32) (cs : Int32) (fv : Value) (ud : Addr) (kd : ClassId) (h0 : Heap) (n0 : Nat) (s : State) (o : Outcome) (U' : State) : Prop := ∃ v L, o = .returned v ∧ Q0 Z p0 p1 p2 p3 cs fv ud kd h0 n0 v U'.heap L ∧ FrameEnd s o U' L room_1.cells room_1.slots
set_option maxRecDepth 65536 in
set_option maxHeartbeats 40000000 in
theorem rm0 (l : Launch) (Z : State) (aV : Array Value) (hw : ∀ d ∈ tables_1, d.before aV Z = true) (ws : List Jvm.Cond) (p0 : Int32) (p1 : Int32) (p2 : Int32) (p3 : Int32) (cs : Int32) (fv : Value) (ud : Addr) (kd : ClassId) (h0 : Heap) (n0 : Nat) (Z0 : n0 ≤ h0.size) (S_COMPACT_STRINGS : Sta Z h0 "java/lang/String" "COMPACT_STRINGS" "Z" (.int cs)) (S_SIOOBE_FORMATTER : Sta Z h0 "jdk/internal/util/Preconditions" "SIOOBE_FORMATTER" "Ljava/util/function/BiFunction;" fv) (S_DIGITS : Sta Z h0 "com/example/cartouche/cartouche/host/Hex" "DIGITS" "[C" (.ref ud)) (V_ud : Arv Z h0 ud kd .char (16 : Int32) own_D (.int (0 : Int32))) (hcs : ¬ cs = 0) (hfv : fv.isRef = true) :
    MetFree l x (head1 (Jvm.Cond.code x code maxLocals ret :: ws) room_1) (fun a U => a = #[(.int p0), (.int p1), (.int p2), (.int p3)] ∧ Z.Warmed39 U.vm ∧ U.heap = h0) (fun _ _ _ _ _ => True) (fun _ U o U' => ∃ v L, o = .returned v ∧ Q0 Z p0 p1 p2 p3 cs fv ud kd h0 n0 v U'.heap L ∧ FrameEnd U o U' L room_1.cells room_1.slots) := by
  refine MetFree.of_bodySF (plainFor_of_name pn_com_example_cartouche_cartouche_host_HexFormatPinLaw) hisR ?_
  intro p e s m args below meth c s₁ Bd hml0 hP hK
  obtain ⟨rfl, hZ, hh⟩ := hP
  have hx := Bd.exec
  have hby := Bd.bytes
  have hml : c.maxLocals = 12 := hml0
  have hown : s.vm.findClass "com/example/cartouche/cartouche/host/HexFormatPinLaw" = some m.cls := findClass_of_methodNamed Bd.named
  have hnm := (name_of_methodNamed Bd.named Bd.method).1
  have X0 : Stand p l e room_1 s m #[(.int p0), (.int p1), (.int p2), (.int p3)] below meth c s₁ [] 0 0 := Stand.of_body Bd
  have e0 : s₁.heap = h0 := by rw [← hh, Bd.state]; rfl
  have efx : entryFrame m #[(.int p0), (.int p1), (.int p2), (.int p3)] maxLocals = mkF m 0 #[.val (.int p0), .val (.int p1), .val (.int p2), .val (.int p3), .unset, .unset, .unset, .unset, .unset, .unset, .unset, .unset] [] := by first | (simp [entryFrame, mkF, argsToLocals, Value.category, maxLocals]; done) | rfl
  have N0 := Fr.nil n0
  have K0 : Keep h0 h0 [] := Keep.refl h0 _
  refine OGo.start (g' := mkF m 0 #[.val (.int p0), .val (.int p1), .val (.int p2), .val (.int p3), .unset, .unset, .unset, .unset, .unset, .unset, .unset, .unset] []) (efx) ?_
  show OGo p.tables e below (P0 Z p0 p1 p2 p3 cs fv ud kd h0 n0 s) (s₁.setTop (mkF m 0 #[.val (.int p0), .val (.int p1), .val (.int p2), .val (.int p3), .unset, .unset, .unset, .unset, .unset, .unset, .unset, .unset] []))
  refine OGo.go (B := s₁.setTop (mkF m 1 #[.val (.int p0), .val (.int p1), .val (.int p2), .val (.int p3), .unset, .unset, .unset, .unset, .unset, .unset, .unset, .unset] [(.int p0)])) ?_ (fun tX kX => XS.iloadN X0.here hx rfl (hb hby at_0) rfl kX)
  refine OGo.go (B := s₁.setTop (mkF m 2 #[.val (.int p0), .val (.int p1), .val (.int p2), .val (.int p3), .unset, .unset, .unset, .unset, .unset, .unset, .unset, .unset] [(.int (3 : Int32)), (.int p0)])) ?_ (fun tX kX => XS.iconst X0.here hx rfl (hb hby at_1) kX)
  refine OGo.go (B := s₁.setTop (mkF m 3 #[.val (.int p0), .val (.int p1), .val (.int p2), .val (.int p3), .unset, .unset, .unset, .unset, .unset, .unset, .unset, .unset] [(.int (p0 &&& (3 : Int32)))])) ?_ (fun tX kX => XS.iand X0.here hx rfl (hb hby at_2) rfl kX)
  refine OGo.go (B := s₁.setTop (mkF m 5 #[.val (.int p0), .val (.int p1), .val (.int p2), .val (.int p3), .val (.int (p0 &&& (3 : Int32))), .unset, .unset, .unset, .unset, .unset, .unset, .unset] [])) ?_ (fun tX kX => XS.istore X0.here hx rfl (hb hby at_3) rfl (l' := #[.val (.int p0), .val (.int p1), .val (.int p2), .val (.int p3), .val (.int (p0 &&& (3 : Int32))), .unset, .unset, .unset, .unset, .unset, .unset, .unset]) rfl kX)
  refine OGo.go (B := s₁.setTop (mkF m 6 #[.val (.int p0), .val (.int p1), .val (.int p2), .val (.int p3), .val (.int (p0 &&& (3 : Int32))), .unset, .unset, .unset, .unset, .unset, .unset, .unset] [(.int p1)])) ?_ (fun tX kX => XS.iloadN X0.here hx rfl (hb hby at_5) rfl kX)
  refine OGo.go (B := s₁.setTop (mkF m 7 #[.val (.int p0), .val (.int p1), .val (.int p2), .val (.int p3), .val (.int (p0 &&& (3 : Int32))), .unset, .unset, .unset, .unset, .unset, .unset, .unset] [(.int (p1.toInt8.toInt32))])) ?_ (fun tX kX => XS.i2b X0.here hx rfl (hb hby at_6) rfl kX)
  refine OGo.go (B := s₁.setTop (mkF m 9 #[.val (.int p0), .val (.int p1), .val (.int p2), .val (.int p3), .val (.int (p0 &&& (3 : Int32))), .val (.int (p1.toInt8.toInt32)), .unset, .unset, .unset, .unset, .unset, .unset] [])) ?_ (fun tX kX => XS.istore X0.here hx rfl (hb hby at_7) rfl (l' := #[.val (.int p0), .val (.int p1), .val (.int p2), .val (.int p3), .val (.int (p0 &&& (3 : Int32))), .val (.int (p1.toInt8.toInt32)), .unset, .unset, .unset, .unset, .unset, .unset]) rfl kX)
  refine OGo.go (B := s₁.setTop (mkF m 10 #[.val (.int p0), .val (.int p1), .val (.int p2), .val (.int p3), .val (.int (p0 &&& (3 : Int32))), .val (.int (p1.toInt8.toInt32)), .unset, .unset, .unset, .unset, .unset, .unset] [(.int p2)])) ?_ (fun tX kX => XS.iloadN X0.here hx rfl (hb hby at_9) rfl kX)
  refine OGo.go (B := s₁.setTop (mkF m 11 #[.val (.int p0), .val (.int p1), .val (.int p2), .val (.int p3), .val (.int (p0 &&& (3 : Int32))), .val (.int (p1.toInt8.toInt32)), .unset, .unset, .unset, .unset, .unset, .unset] [(.int (p2.toInt8.toInt32))])) ?_ (fun tX kX => XS.i2b X0.here hx rfl (hb hby at_10) rfl kX)
  refine OGo.go (B := s₁.setTop (mkF m 13 #[.val (.int p0), .val (.int p1), .val (.int p2), .val (.int p3), .val (.int (p0 &&& (3 : Int32))), .val (.int (p1.toInt8.toInt32)), .val (.int (p2.toInt8.toInt32)), .unset, .unset, .unset, .unset, .unset] [])) ?_ (fun tX kX => XS.istore X0.here hx rfl (hb hby at_11) rfl (l' := #[.val (.int p0), .val (.int p1), .val (.int p2), .val (.int p3), .val (.int (p0 &&& (3 : Int32))), .val (.int (p1.toInt8.toInt32)), .val (.int (p2.toInt8.toInt32)), .unset, .unset, .unset, .unset, .unset]) rfl kX)
  refine OGo.go (B := s₁.setTop (mkF m 14 #[.val (.int p0), .val (.int p1), .val (.int p2), .val (.int p3), .val (.int (p0 &&& (3 : Int32))), .val (.int (p1.toInt8.toInt32)), .val (.int (p2.toInt8.toInt32)), .unset, .unset, .unset, .unset, .unset] [(.int p3)])) ?_ (fun tX kX => XS.iloadN X0.here hx rfl (hb hby at_13) rfl kX)
  refine OGo.go (B := s₁.setTop (mkF m 15 #[.val (.int p0), .val (.int p1), .val (.int p2), .val (.int p3), .val (.int (p0 &&& (3 : Int32))), .val (.int (p1.toInt8.toInt32)), .val (.int (p2.toInt8.toInt32)), .unset, .unset, .unset, .unset, .unset] [(.int (p3.toInt8.toInt32))])) ?_ (fun tX kX => XS.i2b X0.here hx rfl (hb hby at_14) rfl kX)
  refine OGo.go (B := s₁.setTop (mkF m 17 #[.val (.int p0), .val (.int p1), .val (.int p2), .val (.int p3), .val (.int (p0 &&& (3 : Int32))), .val (.int (p1.toInt8.toInt32)), .val (.int (p2.toInt8.toInt32)), .val (.int (p3.toInt8.toInt32)), .unset, .unset, .unset, .unset] [])) ?_ (fun tX kX => XS.istore X0.here hx rfl (hb hby at_15) rfl (l' := #[.val (.int p0), .val (.int p1), .val (.int p2), .val (.int p3), .val (.int (p0 &&& (3 : Int32))), .val (.int (p1.toInt8.toInt32)), .val (.int (p2.toInt8.toInt32)), .val (.int (p3.toInt8.toInt32)), .unset, .unset, .unset, .unset]) rfl kX)
  rcases own_four p0 with h4 | h4 | h4 | h4
  ·
    rw [h4]
    refine OGo.go (B := s₁.setTop (mkF m 19 #[.val (.int p0), .val (.int p1), .val (.int p2), .val (.int p3), .val (.int (0 : Int32)), .val (.int (p1.toInt8.toInt32)), .val (.int (p2.toInt8.toInt32)), .val (.int (p3.toInt8.toInt32)), .unset, .unset, .unset, .unset] [(.int (0 : Int32))])) ?_ (fun tX kX => XS.iload X0.here hx rfl (hb hby at_17) rfl kX)
    refine OGo.go (B := s₁.setTop (mkF m 22 #[.val (.int p0), .val (.int p1), .val (.int p2), .val (.int p3), .val (.int (0 : Int32)), .val (.int (p1.toInt8.toInt32)), .val (.int (p2.toInt8.toInt32)), .val (.int (p3.toInt8.toInt32)), .unset, .unset, .unset, .unset] [])) ?_ (fun tX kX => XS.ifNo X0.here hx rfl (hb hby at_19) rfl ((if0 _ _).trans (teq (by decide)).2) kX)
    refine OGo.go (B := s₁.setTop (mkF m 23 #[.val (.int p0), .val (.int p1), .val (.int p2), .val (.int p3), .val (.int (0 : Int32)), .val (.int (p1.toInt8.toInt32)), .val (.int (p2.toInt8.toInt32)), .val (.int (p3.toInt8.toInt32)), .unset, .unset, .unset, .unset] [(.int (0 : Int32))])) ?_ (fun tX kX => XS.iconst X0.here hx rfl (hb hby at_22) kX)
    obtain ⟨T1, h1, k1, X1, e1, E1, A1, EA1, st1⟩ := newPE X0 hx hZ (hw _ (List.mem_of_getElem? (i := 0) rfl)) e0 (g := (mkF m 23 #[.val (.int p0), .val (.int p1), .val (.int p2), .val (.int p3), .val (.int (0 : Int32)), .val (.int (p1.toInt8.toInt32)), .val (.int (p2.toInt8.toInt32)), .val (.int (p3.toInt8.toInt32)), .unset, .unset, .unset, .unset] [(.int (0 : Int32))])) rfl (hb hby at_23) rfl (by decide) (cap := 0) (by decide) (by decide) (by decide) (by decide) (ad := "[B") (by decide)
    obtain ⟨b1, g1⟩ : ∃ z, z = h0.size := ⟨_, rfl⟩
    rw [← g1] at A1 EA1 st1
    have ne_ud_b1 : ud ≠ b1 := Nat.ne_of_lt (Nat.lt_of_lt_of_le V_ud.lt (Nat.le_of_eq g1.symm))
    have S_COMPACT_STRINGS := S_COMPACT_STRINGS.ext E1
    have S_SIOOBE_FORMATTER := S_SIOOBE_FORMATTER.ext E1
    have S_DIGITS := S_DIGITS.ext E1
    have V_ud := V_ud.ext E1
    have g_b1 : n0 ≤ b1 := Nat.le_trans Z0 (Nat.le_of_eq g1.symm)
    have sz_b1 : h0.size ≤ b1 := Nat.le_trans K0.1 (Nat.le_of_eq g1.symm)
    have zn1 : n0 ≤ h1.size := Nat.le_trans Z0 E1.1
    have K1 := K0.ext E1
    have E_b1 := EA1
    have V_b1 : Arv Z h1 b1 k1 .byte (0 : Int32) [] (.int (0 : Int32)) := Arv.new A1 (by decide)
    refine OGo.go (B := T1.setTop (mkF m 25 #[.val (.int p0), .val (.int p1), .val (.int p2), .val (.int p3), .val (.int (0 : Int32)), .val (.int (p1.toInt8.toInt32)), .val (.int (p2.toInt8.toInt32)), .val (.int (p3.toInt8.toInt32)), .unset, .unset, .unset, .unset] [(.ref b1)])) ?_ st1
    refine OGo.go (B := T1.setTop (mkF m 27 #[.val (.int p0), .val (.int p1), .val (.int p2), .val (.int p3), .val (.int (0 : Int32)), .val (.int (p1.toInt8.toInt32)), .val (.int (p2.toInt8.toInt32)), .val (.int (p3.toInt8.toInt32)), .val (.ref b1), .unset, .unset, .unset] [])) ?_ (fun tX kX => XS.astore X1.here hx rfl (hb hby at_25) rfl rfl (l' := #[.val (.int p0), .val (.int p1), .val (.int p2), .val (.int p3), .val (.int (0 : Int32)), .val (.int (p1.toInt8.toInt32)), .val (.int (p2.toInt8.toInt32)), .val (.int (p3.toInt8.toInt32)), .val (.ref b1), .unset, .unset, .unset]) rfl kX)
    refine OGo.go (B := T1.setTop (mkF m 93 #[.val (.int p0), .val (.int p1), .val (.int p2), .val (.int p3), .val (.int (0 : Int32)), .val (.int (p1.toInt8.toInt32)), .val (.int (p2.toInt8.toInt32)), .val (.int (p3.toInt8.toInt32)), .val (.ref b1), .unset, .unset, .unset] [])) ?_ (fun tX kX => XS.goto X1.here hx rfl (pc0 := 27) (pc' := 93) rfl (hb hby at_27) (by decide) (by decide) kX)
    refine OGo.go (B := T1.setTop (mkF m 95 #[.val (.int p0), .val (.int p1), .val (.int p2), .val (.int p3), .val (.int (0 : Int32)), .val (.int (p1.toInt8.toInt32)), .val (.int (p2.toInt8.toInt32)), .val (.int (p3.toInt8.toInt32)), .val (.ref b1), .unset, .unset, .unset] [(.ref b1)])) ?_ (fun tX kX => XS.aload X1.here hx rfl (hb hby at_93) rfl rfl kX)
    obtain ⟨_, _, ⟨T2, L2, k2, n2⟩, -, X2, ⟨Lc2, hQ2, l2, y2, z2⟩, st2⟩ := Jvm.LawKit.callS X1 hx (y := (⟨"com/example/cartouche/cartouche/host/Hex", "format", "([B)Ljava/lang/String;"⟩ : MethodName)) hown (mvT hZ (hw _ (List.mem_of_getElem? (i := 1) rfl))) (mvT hZ (hw _ (List.mem_of_getElem? (i := 2) rfl))) (mvT hZ (hw _ (List.mem_of_getElem? (i := 3) rfl))) (mvT hZ (hw _ (List.mem_of_getElem? (i := 4) rfl))) (by decide) (backOf (W := 0) (rm1n0 l Z aV hw [] b1 k1 cs ud kd h1 n0 zn1 V_b1 S_COMPACT_STRINGS S_DIGITS V_ud hcs) hZ (hw _ (List.mem_of_getElem? (i := 4) rfl)) (hw _ (List.mem_of_getElem? (i := 3) rfl)) (by decide) (by decide)) (g := (mkF m 95 #[.val (.int p0), .val (.int p1), .val (.int p2), .val (.int p3), .val (.int (0 : Int32)), .val (.int (p1.toInt8.toInt32)), .val (.int (p2.toInt8.toInt32)), .val (.int (p3.toInt8.toInt32)), .val (.ref b1), .unset, .unset, .unset] [(.ref b1)])) rfl (by rw [hml]; rfl) (argsL := [(.ref b1)]) (rest := []) (lenOf pd___B_Ljava_lang_String_ rfl) rfl (by show 2 * 0 + _ ≤ _; exact Nat.le_of_eq rfl) (hb hby at_95) (fun _ _ => ⟨rfl, e1, (by decide : 1 + 4 ≤ _), (by decide : 0 + 8 ≤ _)⟩)
    dsimp only [Pt.U, Pt.locs, Pt.cells, Pt.slots] at X2 l2 y2 z2 st2 hQ2
    subst l2 y2 z2
    obtain ⟨sr_2, nb_2, kn_2, rfl, N2q, Kq2, sz2_sr, sz2_nb, E_sr_2_p, F_value_sr_2_p, F_coder_sr_2_p, E_nb_2_p, V_nb_2_p⟩ := hQ2
    have N2 := Fr.app N0 N2q
    have ne_ud_sr_2 : ud ≠ sr_2 := Nat.ne_of_lt (Nat.lt_of_lt_of_le V_ud.lt sz2_sr)
    have ne_b1_sr_2 : b1 ≠ sr_2 := Nat.ne_of_lt (Nat.lt_of_lt_of_le E_b1.lt sz2_sr)
    have ne_ud_nb_2 : ud ≠ nb_2 := Nat.ne_of_lt (Nat.lt_of_lt_of_le V_ud.lt sz2_nb)
    have ne_b1_nb_2 : b1 ≠ nb_2 := Nat.ne_of_lt (Nat.lt_of_lt_of_le E_b1.lt sz2_nb)
    have S_COMPACT_STRINGS := Sta.keep0 S_COMPACT_STRINGS Kq2
    have S_SIOOBE_FORMATTER := Sta.keep0 S_SIOOBE_FORMATTER Kq2
    have S_DIGITS := Sta.keep0 S_DIGITS Kq2
    have V_ud := V_ud.keep Kq2 nin0
    have E_b1 := E_b1.keep Kq2
    have V_b1 := V_b1.keep Kq2 nin0
    have g_sr_2 : n0 ≤ sr_2 := Nat.le_trans zn1 sz2_sr
    have sz_sr_2 : h0.size ≤ sr_2 := Nat.le_trans K1.1 sz2_sr
    have g_nb_2 : n0 ≤ nb_2 := Nat.le_trans zn1 sz2_nb
    have sz_nb_2 : h0.size ≤ nb_2 := Nat.le_trans K1.1 sz2_nb
    have K2 := K1.trans Kq2 all0
    have zn2 : n0 ≤ T2.heap.size := Nat.le_trans zn1 Kq2.1
    have E_sr_2 := E_sr_2_p
    have F_value_sr_2 := F_value_sr_2_p
    have F_coder_sr_2 := F_coder_sr_2_p
    have E_nb_2 := E_nb_2_p
    have V_nb_2 := V_nb_2_p
    refine OGo.go (B := T2.setTop (mkF m 98 #[.val (.int p0), .val (.int p1), .val (.int p2), .val (.int p3), .val (.int (0 : Int32)), .val (.int (p1.toInt8.toInt32)), .val (.int (p2.toInt8.toInt32)), .val (.int (p3.toInt8.toInt32)), .val (.ref b1), .unset, .unset, .unset] [(.ref sr_2)])) ?_ st2
    refine OGo.go (B := T2.setTop (mkF m 100 #[.val (.int p0), .val (.int p1), .val (.int p2), .val (.int p3), .val (.int (0 : Int32)), .val (.int (p1.toInt8.toInt32)), .val (.int (p2.toInt8.toInt32)), .val (.int (p3.toInt8.toInt32)), .val (.ref b1), .val (.ref sr_2), .unset, .unset] [])) ?_ (fun tX kX => XS.astore X2.here hx rfl (hb hby at_98) rfl rfl (l' := #[.val (.int p0), .val (.int p1), .val (.int p2), .val (.int p3), .val (.int (0 : Int32)), .val (.int (p1.toInt8.toInt32)), .val (.int (p2.toInt8.toInt32)), .val (.int (p3.toInt8.toInt32)), .val (.ref b1), .val (.ref sr_2), .unset, .unset]) rfl kX)
    refine OGo.go (B := T2.setTop (mkF m 102 #[.val (.int p0), .val (.int p1), .val (.int p2), .val (.int p3), .val (.int (0 : Int32)), .val (.int (p1.toInt8.toInt32)), .val (.int (p2.toInt8.toInt32)), .val (.int (p3.toInt8.toInt32)), .val (.ref b1), .val (.ref sr_2), .unset, .unset] [(.int (0 : Int32))])) ?_ (fun tX kX => XS.iload X2.here hx rfl (hb hby at_100) rfl kX)
    refine OGo.go (B := T2.setTop (mkF m 105 #[.val (.int p0), .val (.int p1), .val (.int p2), .val (.int p3), .val (.int (0 : Int32)), .val (.int (p1.toInt8.toInt32)), .val (.int (p2.toInt8.toInt32)), .val (.int (p3.toInt8.toInt32)), .val (.ref b1), .val (.ref sr_2), .unset, .unset] [])) ?_ (fun tX kX => XS.ifNo X2.here hx rfl (hb hby at_102) rfl ((if0 _ _).trans (teq (by decide)).2) kX)
    refine OGo.go (B := T2.setTop (mkF m 106 #[.val (.int p0), .val (.int p1), .val (.int p2), .val (.int p3), .val (.int (0 : Int32)), .val (.int (p1.toInt8.toInt32)), .val (.int (p2.toInt8.toInt32)), .val (.int (p3.toInt8.toInt32)), .val (.ref b1), .val (.ref sr_2), .unset, .unset] [(.int (0 : Int32))])) ?_ (fun tX kX => XS.iconst X2.here hx rfl (hb hby at_105) kX)
    refine OGo.go (B := T2.setTop (mkF m 115 #[.val (.int p0), .val (.int p1), .val (.int p2), .val (.int p3), .val (.int (0 : Int32)), .val (.int (p1.toInt8.toInt32)), .val (.int (p2.toInt8.toInt32)), .val (.int (p3.toInt8.toInt32)), .val (.ref b1), .val (.ref sr_2), .unset, .unset] [(.int (0 : Int32))])) ?_ (fun tX kX => XS.goto X2.here hx rfl (pc0 := 106) (pc' := 115) rfl (hb hby at_106) (by decide) (by decide) kX)
    refine OGo.go (B := T2.setTop (mkF m 117 #[.val (.int p0), .val (.int p1), .val (.int p2), .val (.int p3), .val (.int (0 : Int32)), .val (.int (p1.toInt8.toInt32)), .val (.int (p2.toInt8.toInt32)), .val (.int (p3.toInt8.toInt32)), .val (.ref b1), .val (.ref sr_2), .val (.int (0 : Int32)), .unset] [])) ?_ (fun tX kX => XS.istore X2.here hx rfl (hb hby at_115) rfl (l' := #[.val (.int p0), .val (.int p1), .val (.int p2), .val (.int p3), .val (.int (0 : Int32)), .val (.int (p1.toInt8.toInt32)), .val (.int (p2.toInt8.toInt32)), .val (.int (p3.toInt8.toInt32)), .val (.ref b1), .val (.ref sr_2), .val (.int (0 : Int32)), .unset]) rfl kX)
    refine OGo.go (B := T2.setTop (mkF m 119 #[.val (.int p0), .val (.int p1), .val (.int p2), .val (.int p3), .val (.int (0 : Int32)), .val (.int (p1.toInt8.toInt32)), .val (.int (p2.toInt8.toInt32)), .val (.int (p3.toInt8.toInt32)), .val (.ref b1), .val (.ref sr_2), .val (.int (0 : Int32)), .unset] [(.ref sr_2)])) ?_ (fun tX kX => XS.aload X2.here hx rfl (hb hby at_117) rfl rfl kX)
    obtain ⟨cq3, kq3, q3a, q3b, q3c⟩ := isOf hZ rfl E_sr_2
    obtain ⟨_, _, ⟨T3, L3, k3, n3⟩, -, X3, ⟨Lc3, hQ3, l3, y3, z3⟩, st3⟩ := X2.virtualBack hx (y := (⟨"java/lang/String", "length", "()I"⟩ : MethodName)) (z := (⟨"java/lang/String", "length", "()I"⟩ : MethodName)) hown (mvT hZ (hw _ (List.mem_of_getElem? (i := 79) rfl))) (mvT hZ (hw _ (List.mem_of_getElem? (i := 80) rfl))) (notFace_of_selects (args := #[]) (mvT hZ (hw _ (List.mem_of_getElem? (i := 82) rfl)))) (mvT hZ (hw _ (List.mem_of_getElem? (i := 82) rfl))) (mvT hZ (hw _ (List.mem_of_getElem? (i := 81) rfl))) (by decide) (backOf (W := 0) (rm13 l Z aV hw [] sr_2 nb_2 kn_2 (0 : Int32) [] cs T2.heap n0 zn2 E_sr_2 F_value_sr_2 F_coder_sr_2 V_nb_2 S_COMPACT_STRINGS hcs) hZ (hw _ (List.mem_of_getElem? (i := 83) rfl)) (hw _ (List.mem_of_getElem? (i := 21) rfl)) (by decide) (by decide)) q3a q3c (g := (mkF m 119 #[.val (.int p0), .val (.int p1), .val (.int p2), .val (.int p3), .val (.int (0 : Int32)), .val (.int (p1.toInt8.toInt32)), .val (.int (p2.toInt8.toInt32)), .val (.int (p3.toInt8.toInt32)), .val (.ref b1), .val (.ref sr_2), .val (.int (0 : Int32)), .unset] [(.ref sr_2)])) rfl (by rw [hml]; rfl) (Steps.refl _) (argsL := []) (rest := []) (lenOf pd___I rfl) rfl (by show 2 * 0 + _ ≤ _; exact Nat.le_of_eq rfl) (hb hby at_119) (fun _ _ => ⟨rfl, rfl, (by decide : 5 + 0 ≤ _), (by decide : 8 + 0 ≤ _)⟩)
    dsimp only [Pt.U, Pt.locs, Pt.cells, Pt.slots] at X3 l3 y3 z3 st3 hQ3
    subst l3 y3 z3
    obtain ⟨rfl, N3q, e3⟩ := hQ3
    have N3 := Fr.app N2 N3q
    refine OGo.go (B := T3.setTop (mkF m 122 #[.val (.int p0), .val (.int p1), .val (.int p2), .val (.int p3), .val (.int (0 : Int32)), .val (.int (p1.toInt8.toInt32)), .val (.int (p2.toInt8.toInt32)), .val (.int (p3.toInt8.toInt32)), .val (.ref b1), .val (.ref sr_2), .val (.int (0 : Int32)), .unset] [(.int ((0 : Int32) >>> ((0 : Int32) &&& 31)))])) ?_ (fun tX kX => st3.trans kX)
    refine OGo.go (B := T3.setTop (mkF m 124 #[.val (.int p0), .val (.int p1), .val (.int p2), .val (.int p3), .val (.int (0 : Int32)), .val (.int (p1.toInt8.toInt32)), .val (.int (p2.toInt8.toInt32)), .val (.int (p3.toInt8.toInt32)), .val (.ref b1), .val (.ref sr_2), .val (.int (0 : Int32)), .unset] [(.int (0 : Int32)), (.int ((0 : Int32) >>> ((0 : Int32) &&& 31)))])) ?_ (fun tX kX => XS.iload X3.here hx rfl (hb hby at_122) rfl kX)
    refine OGo.go (B := T3.setTop (mkF m 129 #[.val (.int p0), .val (.int p1), .val (.int p2), .val (.int p3), .val (.int (0 : Int32)), .val (.int (p1.toInt8.toInt32)), .val (.int (p2.toInt8.toInt32)), .val (.int (p3.toInt8.toInt32)), .val (.ref b1), .val (.ref sr_2), .val (.int (0 : Int32)), .unset] [])) ?_ (fun tX kX => XS.icmpYes X3.here hx rfl (pc0 := 124) (pc' := 129) rfl (hb hby at_124) rfl (teq (by decide)).1 (by decide) (by decide) kX)
    refine OGo.go (B := T3.setTop (mkF m 130 #[.val (.int p0), .val (.int p1), .val (.int p2), .val (.int p3), .val (.int (0 : Int32)), .val (.int (p1.toInt8.toInt32)), .val (.int (p2.toInt8.toInt32)), .val (.int (p3.toInt8.toInt32)), .val (.ref b1), .val (.ref sr_2), .val (.int (0 : Int32)), .unset] [(.int (1 : Int32))])) ?_ (fun tX kX => XS.iconst X3.here hx rfl (hb hby at_129) kX)
    refine OGo.go (B := T3.setTop (mkF m 132 #[.val (.int p0), .val (.int p1), .val (.int p2), .val (.int p3), .val (.int (0 : Int32)), .val (.int (p1.toInt8.toInt32)), .val (.int (p2.toInt8.toInt32)), .val (.int (p3.toInt8.toInt32)), .val (.ref b1), .val (.ref sr_2), .val (.int (0 : Int32)), .val (.int (1 : Int32))] [])) ?_ (fun tX kX => XS.istore X3.here hx rfl (hb hby at_130) rfl (l' := #[.val (.int p0), .val (.int p1), .val (.int p2), .val (.int p3), .val (.int (0 : Int32)), .val (.int (p1.toInt8.toInt32)), .val (.int (p2.toInt8.toInt32)), .val (.int (p3.toInt8.toInt32)), .val (.ref b1), .val (.ref sr_2), .val (.int (0 : Int32)), .val (.int (1 : Int32))]) rfl kX)
    refine OGo.go (B := T3.setTop (mkF m 134 #[.val (.int p0), .val (.int p1), .val (.int p2), .val (.int p3), .val (.int (0 : Int32)), .val (.int (p1.toInt8.toInt32)), .val (.int (p2.toInt8.toInt32)), .val (.int (p3.toInt8.toInt32)), .val (.ref b1), .val (.ref sr_2), .val (.int (0 : Int32)), .val (.int (1 : Int32))] [(.int (0 : Int32))])) ?_ (fun tX kX => XS.iload X3.here hx rfl (hb hby at_132) rfl kX)
    refine OGo.go (B := T3.setTop (mkF m 135 #[.val (.int p0), .val (.int p1), .val (.int p2), .val (.int p3), .val (.int (0 : Int32)), .val (.int (p1.toInt8.toInt32)), .val (.int (p2.toInt8.toInt32)), .val (.int (p3.toInt8.toInt32)), .val (.ref b1), .val (.ref sr_2), .val (.int (0 : Int32)), .val (.int (1 : Int32))] [(.int (1 : Int32)), (.int (0 : Int32))])) ?_ (fun tX kX => XS.iconst X3.here hx rfl (hb hby at_134) kX)
    refine OGo.go (B := T3.setTop (mkF m 161 #[.val (.int p0), .val (.int p1), .val (.int p2), .val (.int p3), .val (.int (0 : Int32)), .val (.int (p1.toInt8.toInt32)), .val (.int (p2.toInt8.toInt32)), .val (.int (p3.toInt8.toInt32)), .val (.ref b1), .val (.ref sr_2), .val (.int (0 : Int32)), .val (.int (1 : Int32))] [])) ?_ (fun tX kX => XS.icmpYes X3.here hx rfl (pc0 := 135) (pc' := 161) rfl (hb hby at_135) rfl (tlt (by decide)).1 (by decide) (by decide) kX)
    refine OGo.go (B := T3.setTop (mkF m 163 #[.val (.int p0), .val (.int p1), .val (.int p2), .val (.int p3), .val (.int (0 : Int32)), .val (.int (p1.toInt8.toInt32)), .val (.int (p2.toInt8.toInt32)), .val (.int (p3.toInt8.toInt32)), .val (.ref b1), .val (.ref sr_2), .val (.int (0 : Int32)), .val (.int (1 : Int32))] [(.int (0 : Int32))])) ?_ (fun tX kX => XS.iload X3.here hx rfl (hb hby at_161) rfl kX)
    refine OGo.go (B := T3.setTop (mkF m 164 #[.val (.int p0), .val (.int p1), .val (.int p2), .val (.int p3), .val (.int (0 : Int32)), .val (.int (p1.toInt8.toInt32)), .val (.int (p2.toInt8.toInt32)), .val (.int (p3.toInt8.toInt32)), .val (.ref b1), .val (.ref sr_2), .val (.int (0 : Int32)), .val (.int (1 : Int32))] [(.int (2 : Int32)), (.int (0 : Int32))])) ?_ (fun tX kX => XS.iconst X3.here hx rfl (hb hby at_163) kX)
    refine OGo.go (B := T3.setTop (mkF m 201 #[.val (.int p0), .val (.int p1), .val (.int p2), .val (.int p3), .val (.int (0 : Int32)), .val (.int (p1.toInt8.toInt32)), .val (.int (p2.toInt8.toInt32)), .val (.int (p3.toInt8.toInt32)), .val (.ref b1), .val (.ref sr_2), .val (.int (0 : Int32)), .val (.int (1 : Int32))] [])) ?_ (fun tX kX => XS.icmpYes X3.here hx rfl (pc0 := 164) (pc' := 201) rfl (hb hby at_164) rfl (tlt (by decide)).1 (by decide) (by decide) kX)
    refine OGo.go (B := T3.setTop (mkF m 203 #[.val (.int p0), .val (.int p1), .val (.int p2), .val (.int p3), .val (.int (0 : Int32)), .val (.int (p1.toInt8.toInt32)), .val (.int (p2.toInt8.toInt32)), .val (.int (p3.toInt8.toInt32)), .val (.ref b1), .val (.ref sr_2), .val (.int (0 : Int32)), .val (.int (1 : Int32))] [(.int (0 : Int32))])) ?_ (fun tX kX => XS.iload X3.here hx rfl (hb hby at_201) rfl kX)
    refine OGo.go (B := T3.setTop (mkF m 204 #[.val (.int p0), .val (.int p1), .val (.int p2), .val (.int p3), .val (.int (0 : Int32)), .val (.int (p1.toInt8.toInt32)), .val (.int (p2.toInt8.toInt32)), .val (.int (p3.toInt8.toInt32)), .val (.ref b1), .val (.ref sr_2), .val (.int (0 : Int32)), .val (.int (1 : Int32))] [(.int (3 : Int32)), (.int (0 : Int32))])) ?_ (fun tX kX => XS.iconst X3.here hx rfl (hb hby at_203) kX)
    refine OGo.go (B := T3.setTop (mkF m 242 #[.val (.int p0), .val (.int p1), .val (.int p2), .val (.int p3), .val (.int (0 : Int32)), .val (.int (p1.toInt8.toInt32)), .val (.int (p2.toInt8.toInt32)), .val (.int (p3.toInt8.toInt32)), .val (.ref b1), .val (.ref sr_2), .val (.int (0 : Int32)), .val (.int (1 : Int32))] [])) ?_ (fun tX kX => XS.icmpYes X3.here hx rfl (pc0 := 204) (pc' := 242) rfl (hb hby at_204) rfl (tlt (by decide)).1 (by decide) (by decide) kX)
    refine OGo.go (B := T3.setTop (mkF m 244 #[.val (.int p0), .val (.int p1), .val (.int p2), .val (.int p3), .val (.int (0 : Int32)), .val (.int (p1.toInt8.toInt32)), .val (.int (p2.toInt8.toInt32)), .val (.int (p3.toInt8.toInt32)), .val (.ref b1), .val (.ref sr_2), .val (.int (0 : Int32)), .val (.int (1 : Int32))] [(.int (1 : Int32))])) ?_ (fun tX kX => XS.iload X3.here hx rfl (hb hby at_242) rfl kX)
    refine OGo.ret X3 (v := (some (.int (1 : Int32)))) (fun h => by rw [Bd.returns] at h; cases h) (BodyLoose.notSynchronized Bd) (fun fs hr => retN X3 hx (t := .boolean) (z := (1 : Int32)) Bd.returns (by simp) (hb hby at_244) hr) (Q := Q0 Z p0 p1 p2 p3 cs fv ud kd h0 n0) ?_ (by decide) (by decide)
    show Q0 Z p0 p1 p2 p3 cs fv ud kd h0 n0 _ T3.heap _
    rw [e3]
    exact ⟨rfl, N3⟩
  ·
    rw [h4]
    refine OGo.go (B := s₁.setTop (mkF m 19 #[.val (.int p0), .val (.int p1), .val (.int p2), .val (.int p3), .val (.int (1 : Int32)), .val (.int (p1.toInt8.toInt32)), .val (.int (p2.toInt8.toInt32)), .val (.int (p3.toInt8.toInt32)), .unset, .unset, .unset, .unset] [(.int (1 : Int32))])) ?_ (fun tX kX => XS.iload X0.here hx rfl (hb hby at_17) rfl kX)
    refine OGo.go (B := s₁.setTop (mkF m 30 #[.val (.int p0), .val (.int p1), .val (.int p2), .val (.int p3), .val (.int (1 : Int32)), .val (.int (p1.toInt8.toInt32)), .val (.int (p2.toInt8.toInt32)), .val (.int (p3.toInt8.toInt32)), .unset, .unset, .unset, .unset] [])) ?_ (fun tX kX => XS.ifYes X0.here hx rfl (pc0 := 19) (pc' := 30) rfl (hb hby at_19) rfl ((if0 _ _).trans (feq (by decide)).2) (by decide) (by decide) kX)
    refine OGo.go (B := s₁.setTop (mkF m 32 #[.val (.int p0), .val (.int p1), .val (.int p2), .val (.int p3), .val (.int (1 : Int32)), .val (.int (p1.toInt8.toInt32)), .val (.int (p2.toInt8.toInt32)), .val (.int (p3.toInt8.toInt32)), .unset, .unset, .unset, .unset] [(.int (1 : Int32))])) ?_ (fun tX kX => XS.iload X0.here hx rfl (hb hby at_30) rfl kX)
    refine OGo.go (B := s₁.setTop (mkF m 33 #[.val (.int p0), .val (.int p1), .val (.int p2), .val (.int p3), .val (.int (1 : Int32)), .val (.int (p1.toInt8.toInt32)), .val (.int (p2.toInt8.toInt32)), .val (.int (p3.toInt8.toInt32)), .unset, .unset, .unset, .unset] [(.int (1 : Int32)), (.int (1 : Int32))])) ?_ (fun tX kX => XS.iconst X0.here hx rfl (hb hby at_32) kX)
    refine OGo.go (B := s₁.setTop (mkF m 36 #[.val (.int p0), .val (.int p1), .val (.int p2), .val (.int p3), .val (.int (1 : Int32)), .val (.int (p1.toInt8.toInt32)), .val (.int (p2.toInt8.toInt32)), .val (.int (p3.toInt8.toInt32)), .unset, .unset, .unset, .unset] [])) ?_ (fun tX kX => XS.icmpNo X0.here hx rfl (hb hby at_33) rfl (teq (by decide)).2 kX)
    refine OGo.go (B := s₁.setTop (mkF m 37 #[.val (.int p0), .val (.int p1), .val (.int p2), .val (.int p3), .val (.int (1 : Int32)), .val (.int (p1.toInt8.toInt32)), .val (.int (p2.toInt8.toInt32)), .val (.int (p3.toInt8.toInt32)), .unset, .unset, .unset, .unset] [(.int (1 : Int32))])) ?_ (fun tX kX => XS.iconst X0.here hx rfl (hb hby at_36) kX)
    obtain ⟨T4, h4, k4, X4, e4, E4, A4, EA4, st4⟩ := newPE X0 hx hZ (hw _ (List.mem_of_getElem? (i := 0) rfl)) e0 (g := (mkF m 37 #[.val (.int p0), .val (.int p1), .val (.int p2), .val (.int p3), .val (.int (1 : Int32)), .val (.int (p1.toInt8.toInt32)), .val (.int (p2.toInt8.toInt32)), .val (.int (p3.toInt8.toInt32)), .unset, .unset, .unset, .unset] [(.int (1 : Int32))])) rfl (hb hby at_37) rfl (by decide) (cap := 1) (by decide) (by decide) (by decide) (by decide) (ad := "[B") (by decide)
    obtain ⟨b4, g4⟩ : ∃ z, z = h0.size := ⟨_, rfl⟩
    rw [← g4] at A4 EA4 st4
    have ne_ud_b4 : ud ≠ b4 := Nat.ne_of_lt (Nat.lt_of_lt_of_le V_ud.lt (Nat.le_of_eq g4.symm))
    have S_COMPACT_STRINGS := S_COMPACT_STRINGS.ext E4
    have S_SIOOBE_FORMATTER := S_SIOOBE_FORMATTER.ext E4
    have S_DIGITS := S_DIGITS.ext E4
    have V_ud := V_ud.ext E4
    have g_b4 : n0 ≤ b4 := Nat.le_trans Z0 (Nat.le_of_eq g4.symm)
    have sz_b4 : h0.size ≤ b4 := Nat.le_trans K0.1 (Nat.le_of_eq g4.symm)
    have zn4 : n0 ≤ h4.size := Nat.le_trans Z0 E4.1
    have K4 := K0.ext E4
    have E_b4 := EA4
    have V_b4 : Arv Z h4 b4 k4 .byte (1 : Int32) [(.int (0 : Int32))] (.int (0 : Int32)) := (Arv.new A4 (by decide)).pad (pad_rep [] (.int (0 : Int32)) 1)
    refine OGo.go (B := T4.setTop (mkF m 39 #[.val (.int p0), .val (.int p1), .val (.int p2), .val (.int p3), .val (.int (1 : Int32)), .val (.int (p1.toInt8.toInt32)), .val (.int (p2.toInt8.toInt32)), .val (.int (p3.toInt8.toInt32)), .unset, .unset, .unset, .unset] [(.ref b4)])) ?_ st4
    refine OGo.go (B := T4.setTop (mkF m 40 #[.val (.int p0), .val (.int p1), .val (.int p2), .val (.int p3), .val (.int (1 : Int32)), .val (.int (p1.toInt8.toInt32)), .val (.int (p2.toInt8.toInt32)), .val (.int (p3.toInt8.toInt32)), .unset, .unset, .unset, .unset] [(.ref b4), (.ref b4)])) ?_ (fun tX kX => XS.dup X4.here hx rfl (hb hby at_39) rfl rfl kX)
    refine OGo.go (B := T4.setTop (mkF m 41 #[.val (.int p0), .val (.int p1), .val (.int p2), .val (.int p3), .val (.int (1 : Int32)), .val (.int (p1.toInt8.toInt32)), .val (.int (p2.toInt8.toInt32)), .val (.int (p3.toInt8.toInt32)), .unset, .unset, .unset, .unset] [(.int (0 : Int32)), (.ref b4), (.ref b4)])) ?_ (fun tX kX => XS.iconst X4.here hx rfl (hb hby at_40) kX)
    refine OGo.go (B := T4.setTop (mkF m 43 #[.val (.int p0), .val (.int p1), .val (.int p2), .val (.int p3), .val (.int (1 : Int32)), .val (.int (p1.toInt8.toInt32)), .val (.int (p2.toInt8.toInt32)), .val (.int (p3.toInt8.toInt32)), .unset, .unset, .unset, .unset] [(.int (p1.toInt8.toInt32)), (.int (0 : Int32)), (.ref b4), (.ref b4)])) ?_ (fun tX kX => XS.iload X4.here hx rfl (hb hby at_41) rfl kX)
    obtain ⟨cl5, Ar5, qa5, S5, N5', H5, G5⟩ := id V_b4
    have hin5 := inb_of (j := (0 : Int32)) S5 ⟨by decide, by decide⟩
    obtain ⟨T5, h5, X5, e5, W5, st5⟩ := stB X4 hx hZ e4 Ar5 (j := (0 : Int32)) hin5 (g := (mkF m 43 #[.val (.int p0), .val (.int p1), .val (.int p2), .val (.int p3), .val (.int (1 : Int32)), .val (.int (p1.toInt8.toInt32)), .val (.int (p2.toInt8.toInt32)), .val (.int (p3.toInt8.toInt32)), .unset, .unset, .unset, .unset] [(.int (p1.toInt8.toInt32)), (.int (0 : Int32)), (.ref b4), (.ref b4)])) rfl rfl (hb hby at_43)
    have V_b4_5 := Arv.set Ar5 qa5 S5 N5' H5 G5 (fits_nar_byte _) W5 0 rfl (Nat.le_of_ble_eq_true rfl)
    have S_COMPACT_STRINGS := S_COMPACT_STRINGS.wr W5
    have S_SIOOBE_FORMATTER := S_SIOOBE_FORMATTER.wr W5
    have S_DIGITS := S_DIGITS.wr W5
    have V_ud := V_ud.other W5 ne_ud_b4
    have E_b4 := E_b4.wr W5
    have K5 := K4.wr W5 (Or.inr sz_b4)
    have zn5 : n0 ≤ h5.size := Nat.le_trans zn4 (Keep.of_wr W5).1
    have N5 := Fr.snoc X5 N0 g_b4
    have V_b4 : Arv Z h5 b4 k4 .byte (1 : Int32) [(.int ((p1.toInt8.toInt32).toInt8.toInt32))] (.int (0 : Int32)) := V_b4_5
    refine OGo.go (B := T5.setTop (mkF m 44 #[.val (.int p0), .val (.int p1), .val (.int p2), .val (.int p3), .val (.int (1 : Int32)), .val (.int (p1.toInt8.toInt32)), .val (.int (p2.toInt8.toInt32)), .val (.int (p3.toInt8.toInt32)), .unset, .unset, .unset, .unset] [(.ref b4)])) ?_ st5
    refine OGo.go (B := T5.setTop (mkF m 46 #[.val (.int p0), .val (.int p1), .val (.int p2), .val (.int p3), .val (.int (1 : Int32)), .val (.int (p1.toInt8.toInt32)), .val (.int (p2.toInt8.toInt32)), .val (.int (p3.toInt8.toInt32)), .val (.ref b4), .unset, .unset, .unset] [])) ?_ (fun tX kX => XS.astore X5.here hx rfl (hb hby at_44) rfl rfl (l' := #[.val (.int p0), .val (.int p1), .val (.int p2), .val (.int p3), .val (.int (1 : Int32)), .val (.int (p1.toInt8.toInt32)), .val (.int (p2.toInt8.toInt32)), .val (.int (p3.toInt8.toInt32)), .val (.ref b4), .unset, .unset, .unset]) rfl kX)
    refine OGo.go (B := T5.setTop (mkF m 93 #[.val (.int p0), .val (.int p1), .val (.int p2), .val (.int p3), .val (.int (1 : Int32)), .val (.int (p1.toInt8.toInt32)), .val (.int (p2.toInt8.toInt32)), .val (.int (p3.toInt8.toInt32)), .val (.ref b4), .unset, .unset, .unset] [])) ?_ (fun tX kX => XS.goto X5.here hx rfl (pc0 := 46) (pc' := 93) rfl (hb hby at_46) (by decide) (by decide) kX)
    have V_b4 : Arv Z h5 b4 k4 .byte (1 : Int32) [(.int (p1.toInt8.toInt32))] (.int (0 : Int32)) := by simpa only [own_ii] using V_b4
    refine OGo.go (B := T5.setTop (mkF m 95 #[.val (.int p0), .val (.int p1), .val (.int p2), .val (.int p3), .val (.int (1 : Int32)), .val (.int (p1.toInt8.toInt32)), .val (.int (p2.toInt8.toInt32)), .val (.int (p3.toInt8.toInt32)), .val (.ref b4), .unset, .unset, .unset] [(.ref b4)])) ?_ (fun tX kX => XS.aload X5.here hx rfl (hb hby at_93) rfl rfl kX)
    obtain ⟨_, _, ⟨T6, L6, k6, n6⟩, -, X6, ⟨Lc6, hQ6, l6, y6, z6⟩, st6⟩ := Jvm.LawKit.callS X5 hx (y := (⟨"com/example/cartouche/cartouche/host/Hex", "format", "([B)Ljava/lang/String;"⟩ : MethodName)) hown (mvT hZ (hw _ (List.mem_of_getElem? (i := 1) rfl))) (mvT hZ (hw _ (List.mem_of_getElem? (i := 2) rfl))) (mvT hZ (hw _ (List.mem_of_getElem? (i := 3) rfl))) (mvT hZ (hw _ (List.mem_of_getElem? (i := 4) rfl))) (by decide) (backOf (W := 0) (rm1n1 l Z aV hw [] b4 k4 cs ud kd (p1.toInt8.toInt32) h5 n0 zn5 V_b4 S_COMPACT_STRINGS S_DIGITS V_ud hcs) hZ (hw _ (List.mem_of_getElem? (i := 4) rfl)) (hw _ (List.mem_of_getElem? (i := 3) rfl)) (by decide) (by decide)) (g := (mkF m 95 #[.val (.int p0), .val (.int p1), .val (.int p2), .val (.int p3), .val (.int (1 : Int32)), .val (.int (p1.toInt8.toInt32)), .val (.int (p2.toInt8.toInt32)), .val (.int (p3.toInt8.toInt32)), .val (.ref b4), .unset, .unset, .unset] [(.ref b4)])) rfl (by rw [hml]; rfl) (argsL := [(.ref b4)]) (rest := []) (lenOf pd___B_Ljava_lang_String_ rfl) rfl (by show 2 * 0 + _ ≤ _; exact Nat.le_of_eq rfl) (hb hby at_95) (fun _ _ => ⟨rfl, e5, (by decide : 1 + 4 ≤ _), (by decide : 1 + 13 ≤ _)⟩)
    dsimp only [Pt.U, Pt.locs, Pt.cells, Pt.slots] at X6 l6 y6 z6 st6 hQ6
    subst l6 y6 z6
    obtain ⟨sr_6, nb_6, kn_6, rfl, N6q, Kq6, sz6_sr, sz6_nb, E_sr_6_p, F_value_sr_6_p, F_coder_sr_6_p, E_nb_6_p, V_nb_6_p⟩ := hQ6
    have N6 := Fr.app N5 N6q
    have ne_ud_sr_6 : ud ≠ sr_6 := Nat.ne_of_lt (Nat.lt_of_lt_of_le V_ud.lt sz6_sr)
    have ne_b4_sr_6 : b4 ≠ sr_6 := Nat.ne_of_lt (Nat.lt_of_lt_of_le E_b4.lt sz6_sr)
    have ne_ud_nb_6 : ud ≠ nb_6 := Nat.ne_of_lt (Nat.lt_of_lt_of_le V_ud.lt sz6_nb)
    have ne_b4_nb_6 : b4 ≠ nb_6 := Nat.ne_of_lt (Nat.lt_of_lt_of_le E_b4.lt sz6_nb)
    have S_COMPACT_STRINGS := Sta.keep0 S_COMPACT_STRINGS Kq6
    have S_SIOOBE_FORMATTER := Sta.keep0 S_SIOOBE_FORMATTER Kq6
    have S_DIGITS := Sta.keep0 S_DIGITS Kq6
    have V_ud := V_ud.keep Kq6 nin0
    have E_b4 := E_b4.keep Kq6
    have V_b4 := V_b4.keep Kq6 nin0
    have g_sr_6 : n0 ≤ sr_6 := Nat.le_trans zn5 sz6_sr
    have sz_sr_6 : h0.size ≤ sr_6 := Nat.le_trans K5.1 sz6_sr
    have g_nb_6 : n0 ≤ nb_6 := Nat.le_trans zn5 sz6_nb
    have sz_nb_6 : h0.size ≤ nb_6 := Nat.le_trans K5.1 sz6_nb
    have K6 := K5.trans Kq6 all0
    have zn6 : n0 ≤ T6.heap.size := Nat.le_trans zn5 Kq6.1
    have E_sr_6 := E_sr_6_p
    have F_value_sr_6 := F_value_sr_6_p
    have F_coder_sr_6 := F_coder_sr_6_p
    have E_nb_6 := E_nb_6_p
    have V_nb_6 := V_nb_6_p
    refine OGo.go (B := T6.setTop (mkF m 98 #[.val (.int p0), .val (.int p1), .val (.int p2), .val (.int p3), .val (.int (1 : Int32)), .val (.int (p1.toInt8.toInt32)), .val (.int (p2.toInt8.toInt32)), .val (.int (p3.toInt8.toInt32)), .val (.ref b4), .unset, .unset, .unset] [(.ref sr_6)])) ?_ st6
    refine OGo.go (B := T6.setTop (mkF m 100 #[.val (.int p0), .val (.int p1), .val (.int p2), .val (.int p3), .val (.int (1 : Int32)), .val (.int (p1.toInt8.toInt32)), .val (.int (p2.toInt8.toInt32)), .val (.int (p3.toInt8.toInt32)), .val (.ref b4), .val (.ref sr_6), .unset, .unset] [])) ?_ (fun tX kX => XS.astore X6.here hx rfl (hb hby at_98) rfl rfl (l' := #[.val (.int p0), .val (.int p1), .val (.int p2), .val (.int p3), .val (.int (1 : Int32)), .val (.int (p1.toInt8.toInt32)), .val (.int (p2.toInt8.toInt32)), .val (.int (p3.toInt8.toInt32)), .val (.ref b4), .val (.ref sr_6), .unset, .unset]) rfl kX)
    refine OGo.go (B := T6.setTop (mkF m 102 #[.val (.int p0), .val (.int p1), .val (.int p2), .val (.int p3), .val (.int (1 : Int32)), .val (.int (p1.toInt8.toInt32)), .val (.int (p2.toInt8.toInt32)), .val (.int (p3.toInt8.toInt32)), .val (.ref b4), .val (.ref sr_6), .unset, .unset] [(.int (1 : Int32))])) ?_ (fun tX kX => XS.iload X6.here hx rfl (hb hby at_100) rfl kX)
    refine OGo.go (B := T6.setTop (mkF m 109 #[.val (.int p0), .val (.int p1), .val (.int p2), .val (.int p3), .val (.int (1 : Int32)), .val (.int (p1.toInt8.toInt32)), .val (.int (p2.toInt8.toInt32)), .val (.int (p3.toInt8.toInt32)), .val (.ref b4), .val (.ref sr_6), .unset, .unset] [])) ?_ (fun tX kX => XS.ifYes X6.here hx rfl (pc0 := 102) (pc' := 109) rfl (hb hby at_102) rfl ((if0 _ _).trans (feq (by decide)).2) (by decide) (by decide) kX)
    refine OGo.go (B := T6.setTop (mkF m 110 #[.val (.int p0), .val (.int p1), .val (.int p2), .val (.int p3), .val (.int (1 : Int32)), .val (.int (p1.toInt8.toInt32)), .val (.int (p2.toInt8.toInt32)), .val (.int (p3.toInt8.toInt32)), .val (.ref b4), .val (.ref sr_6), .unset, .unset] [(.int (3 : Int32))])) ?_ (fun tX kX => XS.iconst X6.here hx rfl (hb hby at_109) kX)
    refine OGo.go (B := T6.setTop (mkF m 112 #[.val (.int p0), .val (.int p1), .val (.int p2), .val (.int p3), .val (.int (1 : Int32)), .val (.int (p1.toInt8.toInt32)), .val (.int (p2.toInt8.toInt32)), .val (.int (p3.toInt8.toInt32)), .val (.ref b4), .val (.ref sr_6), .unset, .unset] [(.int (1 : Int32)), (.int (3 : Int32))])) ?_ (fun tX kX => XS.iload X6.here hx rfl (hb hby at_110) rfl kX)
    refine OGo.go (B := T6.setTop (mkF m 113 #[.val (.int p0), .val (.int p1), .val (.int p2), .val (.int p3), .val (.int (1 : Int32)), .val (.int (p1.toInt8.toInt32)), .val (.int (p2.toInt8.toInt32)), .val (.int (p3.toInt8.toInt32)), .val (.ref b4), .val (.ref sr_6), .unset, .unset] [(.int (3 : Int32))])) ?_ (fun tX kX => XS.imul X6.here hx rfl (hb hby at_112) rfl kX)
    refine OGo.go (B := T6.setTop (mkF m 114 #[.val (.int p0), .val (.int p1), .val (.int p2), .val (.int p3), .val (.int (1 : Int32)), .val (.int (p1.toInt8.toInt32)), .val (.int (p2.toInt8.toInt32)), .val (.int (p3.toInt8.toInt32)), .val (.ref b4), .val (.ref sr_6), .unset, .unset] [(.int (1 : Int32)), (.int (3 : Int32))])) ?_ (fun tX kX => XS.iconst X6.here hx rfl (hb hby at_113) kX)
    refine OGo.go (B := T6.setTop (mkF m 115 #[.val (.int p0), .val (.int p1), .val (.int p2), .val (.int p3), .val (.int (1 : Int32)), .val (.int (p1.toInt8.toInt32)), .val (.int (p2.toInt8.toInt32)), .val (.int (p3.toInt8.toInt32)), .val (.ref b4), .val (.ref sr_6), .unset, .unset] [(.int (2 : Int32))])) ?_ (fun tX kX => XS.isub X6.here hx rfl (hb hby at_114) rfl kX)
    refine OGo.go (B := T6.setTop (mkF m 117 #[.val (.int p0), .val (.int p1), .val (.int p2), .val (.int p3), .val (.int (1 : Int32)), .val (.int (p1.toInt8.toInt32)), .val (.int (p2.toInt8.toInt32)), .val (.int (p3.toInt8.toInt32)), .val (.ref b4), .val (.ref sr_6), .val (.int (2 : Int32)), .unset] [])) ?_ (fun tX kX => XS.istore X6.here hx rfl (hb hby at_115) rfl (l' := #[.val (.int p0), .val (.int p1), .val (.int p2), .val (.int p3), .val (.int (1 : Int32)), .val (.int (p1.toInt8.toInt32)), .val (.int (p2.toInt8.toInt32)), .val (.int (p3.toInt8.toInt32)), .val (.ref b4), .val (.ref sr_6), .val (.int (2 : Int32)), .unset]) rfl kX)
    refine OGo.go (B := T6.setTop (mkF m 119 #[.val (.int p0), .val (.int p1), .val (.int p2), .val (.int p3), .val (.int (1 : Int32)), .val (.int (p1.toInt8.toInt32)), .val (.int (p2.toInt8.toInt32)), .val (.int (p3.toInt8.toInt32)), .val (.ref b4), .val (.ref sr_6), .val (.int (2 : Int32)), .unset] [(.ref sr_6)])) ?_ (fun tX kX => XS.aload X6.here hx rfl (hb hby at_117) rfl rfl kX)
    obtain ⟨cq7, kq7, q7a, q7b, q7c⟩ := isOf hZ rfl E_sr_6
    obtain ⟨_, _, ⟨T7, L7, k7, n7⟩, -, X7, ⟨Lc7, hQ7, l7, y7, z7⟩, st7⟩ := X6.virtualBack hx (y := (⟨"java/lang/String", "length", "()I"⟩ : MethodName)) (z := (⟨"java/lang/String", "length", "()I"⟩ : MethodName)) hown (mvT hZ (hw _ (List.mem_of_getElem? (i := 79) rfl))) (mvT hZ (hw _ (List.mem_of_getElem? (i := 80) rfl))) (notFace_of_selects (args := #[]) (mvT hZ (hw _ (List.mem_of_getElem? (i := 82) rfl)))) (mvT hZ (hw _ (List.mem_of_getElem? (i := 82) rfl))) (mvT hZ (hw _ (List.mem_of_getElem? (i := 81) rfl))) (by decide) (backOf (W := 0) (rm13 l Z aV hw [] sr_6 nb_6 kn_6 (2 : Int32) [(.int (((own_dig (((p1.toInt8.toInt32) >>> ((4 : Int32) &&& 31)) &&& (15 : Int32))).toInt8.toInt32).toInt8.toInt32)), (.int (((own_dig ((p1.toInt8.toInt32) &&& (15 : Int32))).toInt8.toInt32).toInt8.toInt32))] cs T6.heap n0 zn6 E_sr_6 F_value_sr_6 F_coder_sr_6 V_nb_6 S_COMPACT_STRINGS hcs) hZ (hw _ (List.mem_of_getElem? (i := 83) rfl)) (hw _ (List.mem_of_getElem? (i := 21) rfl)) (by decide) (by decide)) q7a q7c (g := (mkF m 119 #[.val (.int p0), .val (.int p1), .val (.int p2), .val (.int p3), .val (.int (1 : Int32)), .val (.int (p1.toInt8.toInt32)), .val (.int (p2.toInt8.toInt32)), .val (.int (p3.toInt8.toInt32)), .val (.ref b4), .val (.ref sr_6), .val (.int (2 : Int32)), .unset] [(.ref sr_6)])) rfl (by rw [hml]; rfl) (Steps.refl _) (argsL := []) (rest := []) (lenOf pd___I rfl) rfl (by show 2 * 0 + _ ≤ _; exact Nat.le_of_eq rfl) (hb hby at_119) (fun _ _ => ⟨rfl, rfl, (by decide : 5 + 0 ≤ _), (by decide : 14 + 0 ≤ _)⟩)
    dsimp only [Pt.U, Pt.locs, Pt.cells, Pt.slots] at X7 l7 y7 z7 st7 hQ7
    subst l7 y7 z7
    obtain ⟨rfl, N7q, e7⟩ := hQ7
    have N7 := Fr.app N6 N7q
    refine OGo.go (B := T7.setTop (mkF m 122 #[.val (.int p0), .val (.int p1), .val (.int p2), .val (.int p3), .val (.int (1 : Int32)), .val (.int (p1.toInt8.toInt32)), .val (.int (p2.toInt8.toInt32)), .val (.int (p3.toInt8.toInt32)), .val (.ref b4), .val (.ref sr_6), .val (.int (2 : Int32)), .unset] [(.int ((2 : Int32) >>> ((0 : Int32) &&& 31)))])) ?_ (fun tX kX => st7.trans kX)
    refine OGo.go (B := T7.setTop (mkF m 124 #[.val (.int p0), .val (.int p1), .val (.int p2), .val (.int p3), .val (.int (1 : Int32)), .val (.int (p1.toInt8.toInt32)), .val (.int (p2.toInt8.toInt32)), .val (.int (p3.toInt8.toInt32)), .val (.ref b4), .val (.ref sr_6), .val (.int (2 : Int32)), .unset] [(.int (2 : Int32)), (.int ((2 : Int32) >>> ((0 : Int32) &&& 31)))])) ?_ (fun tX kX => XS.iload X7.here hx rfl (hb hby at_122) rfl kX)
    refine OGo.go (B := T7.setTop (mkF m 129 #[.val (.int p0), .val (.int p1), .val (.int p2), .val (.int p3), .val (.int (1 : Int32)), .val (.int (p1.toInt8.toInt32)), .val (.int (p2.toInt8.toInt32)), .val (.int (p3.toInt8.toInt32)), .val (.ref b4), .val (.ref sr_6), .val (.int (2 : Int32)), .unset] [])) ?_ (fun tX kX => XS.icmpYes X7.here hx rfl (pc0 := 124) (pc' := 129) rfl (hb hby at_124) rfl (teq (by decide)).1 (by decide) (by decide) kX)
    refine OGo.go (B := T7.setTop (mkF m 130 #[.val (.int p0), .val (.int p1), .val (.int p2), .val (.int p3), .val (.int (1 : Int32)), .val (.int (p1.toInt8.toInt32)), .val (.int (p2.toInt8.toInt32)), .val (.int (p3.toInt8.toInt32)), .val (.ref b4), .val (.ref sr_6), .val (.int (2 : Int32)), .unset] [(.int (1 : Int32))])) ?_ (fun tX kX => XS.iconst X7.here hx rfl (hb hby at_129) kX)
    refine OGo.go (B := T7.setTop (mkF m 132 #[.val (.int p0), .val (.int p1), .val (.int p2), .val (.int p3), .val (.int (1 : Int32)), .val (.int (p1.toInt8.toInt32)), .val (.int (p2.toInt8.toInt32)), .val (.int (p3.toInt8.toInt32)), .val (.ref b4), .val (.ref sr_6), .val (.int (2 : Int32)), .val (.int (1 : Int32))] [])) ?_ (fun tX kX => XS.istore X7.here hx rfl (hb hby at_130) rfl (l' := #[.val (.int p0), .val (.int p1), .val (.int p2), .val (.int p3), .val (.int (1 : Int32)), .val (.int (p1.toInt8.toInt32)), .val (.int (p2.toInt8.toInt32)), .val (.int (p3.toInt8.toInt32)), .val (.ref b4), .val (.ref sr_6), .val (.int (2 : Int32)), .val (.int (1 : Int32))]) rfl kX)
    refine OGo.go (B := T7.setTop (mkF m 134 #[.val (.int p0), .val (.int p1), .val (.int p2), .val (.int p3), .val (.int (1 : Int32)), .val (.int (p1.toInt8.toInt32)), .val (.int (p2.toInt8.toInt32)), .val (.int (p3.toInt8.toInt32)), .val (.ref b4), .val (.ref sr_6), .val (.int (2 : Int32)), .val (.int (1 : Int32))] [(.int (1 : Int32))])) ?_ (fun tX kX => XS.iload X7.here hx rfl (hb hby at_132) rfl kX)
    refine OGo.go (B := T7.setTop (mkF m 135 #[.val (.int p0), .val (.int p1), .val (.int p2), .val (.int p3), .val (.int (1 : Int32)), .val (.int (p1.toInt8.toInt32)), .val (.int (p2.toInt8.toInt32)), .val (.int (p3.toInt8.toInt32)), .val (.ref b4), .val (.ref sr_6), .val (.int (2 : Int32)), .val (.int (1 : Int32))] [(.int (1 : Int32)), (.int (1 : Int32))])) ?_ (fun tX kX => XS.iconst X7.here hx rfl (hb hby at_134) kX)
    refine OGo.go (B := T7.setTop (mkF m 138 #[.val (.int p0), .val (.int p1), .val (.int p2), .val (.int p3), .val (.int (1 : Int32)), .val (.int (p1.toInt8.toInt32)), .val (.int (p2.toInt8.toInt32)), .val (.int (p3.toInt8.toInt32)), .val (.ref b4), .val (.ref sr_6), .val (.int (2 : Int32)), .val (.int (1 : Int32))] [])) ?_ (fun tX kX => XS.icmpNo X7.here hx rfl (hb hby at_135) rfl (flt (by decide)).1 kX)
    refine OGo.go (B := T7.setTop (mkF m 140 #[.val (.int p0), .val (.int p1), .val (.int p2), .val (.int p3), .val (.int (1 : Int32)), .val (.int (p1.toInt8.toInt32)), .val (.int (p2.toInt8.toInt32)), .val (.int (p3.toInt8.toInt32)), .val (.ref b4), .val (.ref sr_6), .val (.int (2 : Int32)), .val (.int (1 : Int32))] [(.int (1 : Int32))])) ?_ (fun tX kX => XS.iload X7.here hx rfl (hb hby at_138) rfl kX)
    refine OGo.go (B := T7.setTop (mkF m 143 #[.val (.int p0), .val (.int p1), .val (.int p2), .val (.int p3), .val (.int (1 : Int32)), .val (.int (p1.toInt8.toInt32)), .val (.int (p2.toInt8.toInt32)), .val (.int (p3.toInt8.toInt32)), .val (.ref b4), .val (.ref sr_6), .val (.int (2 : Int32)), .val (.int (1 : Int32))] [])) ?_ (fun tX kX => XS.ifNo X7.here hx rfl (hb hby at_140) rfl ((if0 _ _).trans (feq (by decide)).1) kX)
    refine OGo.go (B := T7.setTop (mkF m 145 #[.val (.int p0), .val (.int p1), .val (.int p2), .val (.int p3), .val (.int (1 : Int32)), .val (.int (p1.toInt8.toInt32)), .val (.int (p2.toInt8.toInt32)), .val (.int (p3.toInt8.toInt32)), .val (.ref b4), .val (.ref sr_6), .val (.int (2 : Int32)), .val (.int (1 : Int32))] [(.ref sr_6)])) ?_ (fun tX kX => XS.aload X7.here hx rfl (hb hby at_143) rfl rfl kX)
    refine OGo.go (B := T7.setTop (mkF m 146 #[.val (.int p0), .val (.int p1), .val (.int p2), .val (.int p3), .val (.int (1 : Int32)), .val (.int (p1.toInt8.toInt32)), .val (.int (p2.toInt8.toInt32)), .val (.int (p3.toInt8.toInt32)), .val (.ref b4), .val (.ref sr_6), .val (.int (2 : Int32)), .val (.int (1 : Int32))] [(.int (0 : Int32)), (.ref sr_6)])) ?_ (fun tX kX => XS.iconst X7.here hx rfl (hb hby at_145) kX)
    refine OGo.go (B := T7.setTop (mkF m 148 #[.val (.int p0), .val (.int p1), .val (.int p2), .val (.int p3), .val (.int (1 : Int32)), .val (.int (p1.toInt8.toInt32)), .val (.int (p2.toInt8.toInt32)), .val (.int (p3.toInt8.toInt32)), .val (.ref b4), .val (.ref sr_6), .val (.int (2 : Int32)), .val (.int (1 : Int32))] [(.int (p1.toInt8.toInt32)), (.int (0 : Int32)), (.ref sr_6)])) ?_ (fun tX kX => XS.iload X7.here hx rfl (hb hby at_146) rfl kX)
    obtain ⟨_, _, ⟨T8, L8, k8, n8⟩, -, X8, ⟨Lc8, hQ8, l8, y8, z8⟩, st8⟩ := Jvm.LawKit.callS X7 hx (y := (⟨"com/example/cartouche/cartouche/host/HexFormatPinLaw", "pairAt", "(Ljava/lang/String;IB)Z"⟩ : MethodName)) hown (mvT hZ (hw _ (List.mem_of_getElem? (i := 128) rfl))) (mvT hZ (hw _ (List.mem_of_getElem? (i := 129) rfl))) (mvT hZ (hw _ (List.mem_of_getElem? (i := 130) rfl))) (mvT hZ (hw _ (List.mem_of_getElem? (i := 131) rfl))) (by decide) (backOf (W := 0) (rm22 l Z aV hw [] sr_6 (0 : Int32) (p1.toInt8.toInt32) nb_6 kn_6 (2 : Int32) [(.int (((own_dig (((p1.toInt8.toInt32) >>> ((4 : Int32) &&& 31)) &&& (15 : Int32))).toInt8.toInt32).toInt8.toInt32)), (.int (((own_dig ((p1.toInt8.toInt32) &&& (15 : Int32))).toInt8.toInt32).toInt8.toInt32))] cs fv (((own_dig (((p1.toInt8.toInt32) >>> ((4 : Int32) &&& 31)) &&& (15 : Int32))).toInt8.toInt32).toInt8.toInt32) (((own_dig ((p1.toInt8.toInt32) &&& (15 : Int32))).toInt8.toInt32).toInt8.toInt32) T6.heap n0 zn6 E_sr_6 F_value_sr_6 F_coder_sr_6 V_nb_6 S_COMPACT_STRINGS S_SIOOBE_FORMATTER hcs hfv ⟨by decide, by decide⟩ rfl ⟨by decide, by decide⟩ rfl (own_hi' _) (own_lo' _)) hZ (hw _ (List.mem_of_getElem? (i := 131) rfl)) (hw _ (List.mem_of_getElem? (i := 130) rfl)) (by decide) (by decide)) (g := (mkF m 148 #[.val (.int p0), .val (.int p1), .val (.int p2), .val (.int p3), .val (.int (1 : Int32)), .val (.int (p1.toInt8.toInt32)), .val (.int (p2.toInt8.toInt32)), .val (.int (p3.toInt8.toInt32)), .val (.ref b4), .val (.ref sr_6), .val (.int (2 : Int32)), .val (.int (1 : Int32))] [(.int (p1.toInt8.toInt32)), (.int (0 : Int32)), (.ref sr_6)])) rfl (by rw [hml]; rfl) (argsL := [(.ref sr_6), (.int (0 : Int32)), (.int (p1.toInt8.toInt32))]) (rest := []) (lenOf pd__Ljava_lang_String_IB_Z rfl) rfl (by show 2 * 0 + _ ≤ _; exact Nat.le_of_eq rfl) (hb hby at_148) (fun _ _ => ⟨rfl, e7, (by decide : 5 + 0 ≤ _), (by decide : 14 + 0 ≤ _)⟩)
    dsimp only [Pt.U, Pt.locs, Pt.cells, Pt.slots] at X8 l8 y8 z8 st8 hQ8
    subst l8 y8 z8
    obtain ⟨rfl, N8q, e8⟩ := hQ8
    have N8 := Fr.app N7 N8q
    refine OGo.go (B := T8.setTop (mkF m 151 #[.val (.int p0), .val (.int p1), .val (.int p2), .val (.int p3), .val (.int (1 : Int32)), .val (.int (p1.toInt8.toInt32)), .val (.int (p2.toInt8.toInt32)), .val (.int (p3.toInt8.toInt32)), .val (.ref b4), .val (.ref sr_6), .val (.int (2 : Int32)), .val (.int (1 : Int32))] [(.int (1 : Int32))])) ?_ st8
    refine OGo.go (B := T8.setTop (mkF m 154 #[.val (.int p0), .val (.int p1), .val (.int p2), .val (.int p3), .val (.int (1 : Int32)), .val (.int (p1.toInt8.toInt32)), .val (.int (p2.toInt8.toInt32)), .val (.int (p3.toInt8.toInt32)), .val (.ref b4), .val (.ref sr_6), .val (.int (2 : Int32)), .val (.int (1 : Int32))] [])) ?_ (fun tX kX => XS.ifNo X8.here hx rfl (hb hby at_151) rfl ((if0 _ _).trans (feq (by decide)).1) kX)
    refine OGo.go (B := T8.setTop (mkF m 155 #[.val (.int p0), .val (.int p1), .val (.int p2), .val (.int p3), .val (.int (1 : Int32)), .val (.int (p1.toInt8.toInt32)), .val (.int (p2.toInt8.toInt32)), .val (.int (p3.toInt8.toInt32)), .val (.ref b4), .val (.ref sr_6), .val (.int (2 : Int32)), .val (.int (1 : Int32))] [(.int (1 : Int32))])) ?_ (fun tX kX => XS.iconst X8.here hx rfl (hb hby at_154) kX)
    refine OGo.go (B := T8.setTop (mkF m 159 #[.val (.int p0), .val (.int p1), .val (.int p2), .val (.int p3), .val (.int (1 : Int32)), .val (.int (p1.toInt8.toInt32)), .val (.int (p2.toInt8.toInt32)), .val (.int (p3.toInt8.toInt32)), .val (.ref b4), .val (.ref sr_6), .val (.int (2 : Int32)), .val (.int (1 : Int32))] [(.int (1 : Int32))])) ?_ (fun tX kX => XS.goto X8.here hx rfl (pc0 := 155) (pc' := 159) rfl (hb hby at_155) (by decide) (by decide) kX)
    refine OGo.go (B := T8.setTop (mkF m 161 #[.val (.int p0), .val (.int p1), .val (.int p2), .val (.int p3), .val (.int (1 : Int32)), .val (.int (p1.toInt8.toInt32)), .val (.int (p2.toInt8.toInt32)), .val (.int (p3.toInt8.toInt32)), .val (.ref b4), .val (.ref sr_6), .val (.int (2 : Int32)), .val (.int (1 : Int32))] [])) ?_ (fun tX kX => XS.istore X8.here hx rfl (hb hby at_159) rfl (l' := #[.val (.int p0), .val (.int p1), .val (.int p2), .val (.int p3), .val (.int (1 : Int32)), .val (.int (p1.toInt8.toInt32)), .val (.int (p2.toInt8.toInt32)), .val (.int (p3.toInt8.toInt32)), .val (.ref b4), .val (.ref sr_6), .val (.int (2 : Int32)), .val (.int (1 : Int32))]) rfl kX)
    refine OGo.go (B := T8.setTop (mkF m 163 #[.val (.int p0), .val (.int p1), .val (.int p2), .val (.int p3), .val (.int (1 : Int32)), .val (.int (p1.toInt8.toInt32)), .val (.int (p2.toInt8.toInt32)), .val (.int (p3.toInt8.toInt32)), .val (.ref b4), .val (.ref sr_6), .val (.int (2 : Int32)), .val (.int (1 : Int32))] [(.int (1 : Int32))])) ?_ (fun tX kX => XS.iload X8.here hx rfl (hb hby at_161) rfl kX)
    refine OGo.go (B := T8.setTop (mkF m 164 #[.val (.int p0), .val (.int p1), .val (.int p2), .val (.int p3), .val (.int (1 : Int32)), .val (.int (p1.toInt8.toInt32)), .val (.int (p2.toInt8.toInt32)), .val (.int (p3.toInt8.toInt32)), .val (.ref b4), .val (.ref sr_6), .val (.int (2 : Int32)), .val (.int (1 : Int32))] [(.int (2 : Int32)), (.int (1 : Int32))])) ?_ (fun tX kX => XS.iconst X8.here hx rfl (hb hby at_163) kX)
    refine OGo.go (B := T8.setTop (mkF m 201 #[.val (.int p0), .val (.int p1), .val (.int p2), .val (.int p3), .val (.int (1 : Int32)), .val (.int (p1.toInt8.toInt32)), .val (.int (p2.toInt8.toInt32)), .val (.int (p3.toInt8.toInt32)), .val (.ref b4), .val (.ref sr_6), .val (.int (2 : Int32)), .val (.int (1 : Int32))] [])) ?_ (fun tX kX => XS.icmpYes X8.here hx rfl (pc0 := 164) (pc' := 201) rfl (hb hby at_164) rfl (tlt (by decide)).1 (by decide) (by decide) kX)
    refine OGo.go (B := T8.setTop (mkF m 203 #[.val (.int p0), .val (.int p1), .val (.int p2), .val (.int p3), .val (.int (1 : Int32)), .val (.int (p1.toInt8.toInt32)), .val (.int (p2.toInt8.toInt32)), .val (.int (p3.toInt8.toInt32)), .val (.ref b4), .val (.ref sr_6), .val (.int (2 : Int32)), .val (.int (1 : Int32))] [(.int (1 : Int32))])) ?_ (fun tX kX => XS.iload X8.here hx rfl (hb hby at_201) rfl kX)
    refine OGo.go (B := T8.setTop (mkF m 204 #[.val (.int p0), .val (.int p1), .val (.int p2), .val (.int p3), .val (.int (1 : Int32)), .val (.int (p1.toInt8.toInt32)), .val (.int (p2.toInt8.toInt32)), .val (.int (p3.toInt8.toInt32)), .val (.ref b4), .val (.ref sr_6), .val (.int (2 : Int32)), .val (.int (1 : Int32))] [(.int (3 : Int32)), (.int (1 : Int32))])) ?_ (fun tX kX => XS.iconst X8.here hx rfl (hb hby at_203) kX)
    refine OGo.go (B := T8.setTop (mkF m 242 #[.val (.int p0), .val (.int p1), .val (.int p2), .val (.int p3), .val (.int (1 : Int32)), .val (.int (p1.toInt8.toInt32)), .val (.int (p2.toInt8.toInt32)), .val (.int (p3.toInt8.toInt32)), .val (.ref b4), .val (.ref sr_6), .val (.int (2 : Int32)), .val (.int (1 : Int32))] [])) ?_ (fun tX kX => XS.icmpYes X8.here hx rfl (pc0 := 204) (pc' := 242) rfl (hb hby at_204) rfl (tlt (by decide)).1 (by decide) (by decide) kX)
    refine OGo.go (B := T8.setTop (mkF m 244 #[.val (.int p0), .val (.int p1), .val (.int p2), .val (.int p3), .val (.int (1 : Int32)), .val (.int (p1.toInt8.toInt32)), .val (.int (p2.toInt8.toInt32)), .val (.int (p3.toInt8.toInt32)), .val (.ref b4), .val (.ref sr_6), .val (.int (2 : Int32)), .val (.int (1 : Int32))] [(.int (1 : Int32))])) ?_ (fun tX kX => XS.iload X8.here hx rfl (hb hby at_242) rfl kX)
    refine OGo.ret X8 (v := (some (.int (1 : Int32)))) (fun h => by rw [Bd.returns] at h; cases h) (BodyLoose.notSynchronized Bd) (fun fs hr => retN X8 hx (t := .boolean) (z := (1 : Int32)) Bd.returns (by simp) (hb hby at_244) hr) (Q := Q0 Z p0 p1 p2 p3 cs fv ud kd h0 n0) ?_ (by decide) (by decide)
    show Q0 Z p0 p1 p2 p3 cs fv ud kd h0 n0 _ T8.heap _
    rw [e8]
    exact ⟨rfl, N8⟩
  ·
    rw [h4]
    refine OGo.go (B := s₁.setTop (mkF m 19 #[.val (.int p0), .val (.int p1), .val (.int p2), .val (.int p3), .val (.int (2 : Int32)), .val (.int (p1.toInt8.toInt32)), .val (.int (p2.toInt8.toInt32)), .val (.int (p3.toInt8.toInt32)), .unset, .unset, .unset, .unset] [(.int (2 : Int32))])) ?_ (fun tX kX => XS.iload X0.here hx rfl (hb hby at_17) rfl kX)
    refine OGo.go (B := s₁.setTop (mkF m 30 #[.val (.int p0), .val (.int p1), .val (.int p2), .val (.int p3), .val (.int (2 : Int32)), .val (.int (p1.toInt8.toInt32)), .val (.int (p2.toInt8.toInt32)), .val (.int (p3.toInt8.toInt32)), .unset, .unset, .unset, .unset] [])) ?_ (fun tX kX => XS.ifYes X0.here hx rfl (pc0 := 19) (pc' := 30) rfl (hb hby at_19) rfl ((if0 _ _).trans (feq (by decide)).2) (by decide) (by decide) kX)
    refine OGo.go (B := s₁.setTop (mkF m 32 #[.val (.int p0), .val (.int p1), .val (.int p2), .val (.int p3), .val (.int (2 : Int32)), .val (.int (p1.toInt8.toInt32)), .val (.int (p2.toInt8.toInt32)), .val (.int (p3.toInt8.toInt32)), .unset, .unset, .unset, .unset] [(.int (2 : Int32))])) ?_ (fun tX kX => XS.iload X0.here hx rfl (hb hby at_30) rfl kX)
    refine OGo.go (B := s₁.setTop (mkF m 33 #[.val (.int p0), .val (.int p1), .val (.int p2), .val (.int p3), .val (.int (2 : Int32)), .val (.int (p1.toInt8.toInt32)), .val (.int (p2.toInt8.toInt32)), .val (.int (p3.toInt8.toInt32)), .unset, .unset, .unset, .unset] [(.int (1 : Int32)), (.int (2 : Int32))])) ?_ (fun tX kX => XS.iconst X0.here hx rfl (hb hby at_32) kX)
    refine OGo.go (B := s₁.setTop (mkF m 49 #[.val (.int p0), .val (.int p1), .val (.int p2), .val (.int p3), .val (.int (2 : Int32)), .val (.int (p1.toInt8.toInt32)), .val (.int (p2.toInt8.toInt32)), .val (.int (p3.toInt8.toInt32)), .unset, .unset, .unset, .unset] [])) ?_ (fun tX kX => XS.icmpYes X0.here hx rfl (pc0 := 33) (pc' := 49) rfl (hb hby at_33) rfl (feq (by decide)).2 (by decide) (by decide) kX)
    refine OGo.go (B := s₁.setTop (mkF m 51 #[.val (.int p0), .val (.int p1), .val (.int p2), .val (.int p3), .val (.int (2 : Int32)), .val (.int (p1.toInt8.toInt32)), .val (.int (p2.toInt8.toInt32)), .val (.int (p3.toInt8.toInt32)), .unset, .unset, .unset, .unset] [(.int (2 : Int32))])) ?_ (fun tX kX => XS.iload X0.here hx rfl (hb hby at_49) rfl kX)
    refine OGo.go (B := s₁.setTop (mkF m 52 #[.val (.int p0), .val (.int p1), .val (.int p2), .val (.int p3), .val (.int (2 : Int32)), .val (.int (p1.toInt8.toInt32)), .val (.int (p2.toInt8.toInt32)), .val (.int (p3.toInt8.toInt32)), .unset, .unset, .unset, .unset] [(.int (2 : Int32)), (.int (2 : Int32))])) ?_ (fun tX kX => XS.iconst X0.here hx rfl (hb hby at_51) kX)
    refine OGo.go (B := s₁.setTop (mkF m 55 #[.val (.int p0), .val (.int p1), .val (.int p2), .val (.int p3), .val (.int (2 : Int32)), .val (.int (p1.toInt8.toInt32)), .val (.int (p2.toInt8.toInt32)), .val (.int (p3.toInt8.toInt32)), .unset, .unset, .unset, .unset] [])) ?_ (fun tX kX => XS.icmpNo X0.here hx rfl (hb hby at_52) rfl (teq (by decide)).2 kX)
    refine OGo.go (B := s₁.setTop (mkF m 56 #[.val (.int p0), .val (.int p1), .val (.int p2), .val (.int p3), .val (.int (2 : Int32)), .val (.int (p1.toInt8.toInt32)), .val (.int (p2.toInt8.toInt32)), .val (.int (p3.toInt8.toInt32)), .unset, .unset, .unset, .unset] [(.int (2 : Int32))])) ?_ (fun tX kX => XS.iconst X0.here hx rfl (hb hby at_55) kX)
    obtain ⟨T9, h9, k9, X9, e9, E9, A9, EA9, st9⟩ := newPE X0 hx hZ (hw _ (List.mem_of_getElem? (i := 0) rfl)) e0 (g := (mkF m 56 #[.val (.int p0), .val (.int p1), .val (.int p2), .val (.int p3), .val (.int (2 : Int32)), .val (.int (p1.toInt8.toInt32)), .val (.int (p2.toInt8.toInt32)), .val (.int (p3.toInt8.toInt32)), .unset, .unset, .unset, .unset] [(.int (2 : Int32))])) rfl (hb hby at_56) rfl (by decide) (cap := 2) (by decide) (by decide) (by decide) (by decide) (ad := "[B") (by decide)
    obtain ⟨b9, g9⟩ : ∃ z, z = h0.size := ⟨_, rfl⟩
    rw [← g9] at A9 EA9 st9
    have ne_ud_b9 : ud ≠ b9 := Nat.ne_of_lt (Nat.lt_of_lt_of_le V_ud.lt (Nat.le_of_eq g9.symm))
    have S_COMPACT_STRINGS := S_COMPACT_STRINGS.ext E9
    have S_SIOOBE_FORMATTER := S_SIOOBE_FORMATTER.ext E9
    have S_DIGITS := S_DIGITS.ext E9
    have V_ud := V_ud.ext E9
    have g_b9 : n0 ≤ b9 := Nat.le_trans Z0 (Nat.le_of_eq g9.symm)
    have sz_b9 : h0.size ≤ b9 := Nat.le_trans K0.1 (Nat.le_of_eq g9.symm)
    have zn9 : n0 ≤ h9.size := Nat.le_trans Z0 E9.1
    have K9 := K0.ext E9
    have E_b9 := EA9
    have V_b9 : Arv Z h9 b9 k9 .byte (2 : Int32) [(.int (0 : Int32)), (.int (0 : Int32))] (.int (0 : Int32)) := (Arv.new A9 (by decide)).pad (pad_rep [] (.int (0 : Int32)) 2)
    refine OGo.go (B := T9.setTop (mkF m 58 #[.val (.int p0), .val (.int p1), .val (.int p2), .val (.int p3), .val (.int (2 : Int32)), .val (.int (p1.toInt8.toInt32)), .val (.int (p2.toInt8.toInt32)), .val (.int (p3.toInt8.toInt32)), .unset, .unset, .unset, .unset] [(.ref b9)])) ?_ st9
    refine OGo.go (B := T9.setTop (mkF m 59 #[.val (.int p0), .val (.int p1), .val (.int p2), .val (.int p3), .val (.int (2 : Int32)), .val (.int (p1.toInt8.toInt32)), .val (.int (p2.toInt8.toInt32)), .val (.int (p3.toInt8.toInt32)), .unset, .unset, .unset, .unset] [(.ref b9), (.ref b9)])) ?_ (fun tX kX => XS.dup X9.here hx rfl (hb hby at_58) rfl rfl kX)
    refine OGo.go (B := T9.setTop (mkF m 60 #[.val (.int p0), .val (.int p1), .val (.int p2), .val (.int p3), .val (.int (2 : Int32)), .val (.int (p1.toInt8.toInt32)), .val (.int (p2.toInt8.toInt32)), .val (.int (p3.toInt8.toInt32)), .unset, .unset, .unset, .unset] [(.int (0 : Int32)), (.ref b9), (.ref b9)])) ?_ (fun tX kX => XS.iconst X9.here hx rfl (hb hby at_59) kX)
    refine OGo.go (B := T9.setTop (mkF m 62 #[.val (.int p0), .val (.int p1), .val (.int p2), .val (.int p3), .val (.int (2 : Int32)), .val (.int (p1.toInt8.toInt32)), .val (.int (p2.toInt8.toInt32)), .val (.int (p3.toInt8.toInt32)), .unset, .unset, .unset, .unset] [(.int (p1.toInt8.toInt32)), (.int (0 : Int32)), (.ref b9), (.ref b9)])) ?_ (fun tX kX => XS.iload X9.here hx rfl (hb hby at_60) rfl kX)
    obtain ⟨cl10, Ar10, qa10, S10, N10', H10, G10⟩ := id V_b9
    have hin10 := inb_of (j := (0 : Int32)) S10 ⟨by decide, by decide⟩
    obtain ⟨T10, h10, X10, e10, W10, st10⟩ := stB X9 hx hZ e9 Ar10 (j := (0 : Int32)) hin10 (g := (mkF m 62 #[.val (.int p0), .val (.int p1), .val (.int p2), .val (.int p3), .val (.int (2 : Int32)), .val (.int (p1.toInt8.toInt32)), .val (.int (p2.toInt8.toInt32)), .val (.int (p3.toInt8.toInt32)), .unset, .unset, .unset, .unset] [(.int (p1.toInt8.toInt32)), (.int (0 : Int32)), (.ref b9), (.ref b9)])) rfl rfl (hb hby at_62)
    have V_b9_10 := Arv.set Ar10 qa10 S10 N10' H10 G10 (fits_nar_byte _) W10 0 rfl (Nat.le_of_ble_eq_true rfl)
    have S_COMPACT_STRINGS := S_COMPACT_STRINGS.wr W10
    have S_SIOOBE_FORMATTER := S_SIOOBE_FORMATTER.wr W10
    have S_DIGITS := S_DIGITS.wr W10
    have V_ud := V_ud.other W10 ne_ud_b9
    have E_b9 := E_b9.wr W10
    have K10 := K9.wr W10 (Or.inr sz_b9)
    have zn10 : n0 ≤ h10.size := Nat.le_trans zn9 (Keep.of_wr W10).1
    have N10 := Fr.snoc X10 N0 g_b9
    have V_b9 : Arv Z h10 b9 k9 .byte (2 : Int32) [(.int ((p1.toInt8.toInt32).toInt8.toInt32)), (.int (0 : Int32))] (.int (0 : Int32)) := V_b9_10
    refine OGo.go (B := T10.setTop (mkF m 63 #[.val (.int p0), .val (.int p1), .val (.int p2), .val (.int p3), .val (.int (2 : Int32)), .val (.int (p1.toInt8.toInt32)), .val (.int (p2.toInt8.toInt32)), .val (.int (p3.toInt8.toInt32)), .unset, .unset, .unset, .unset] [(.ref b9)])) ?_ st10
    refine OGo.go (B := T10.setTop (mkF m 64 #[.val (.int p0), .val (.int p1), .val (.int p2), .val (.int p3), .val (.int (2 : Int32)), .val (.int (p1.toInt8.toInt32)), .val (.int (p2.toInt8.toInt32)), .val (.int (p3.toInt8.toInt32)), .unset, .unset, .unset, .unset] [(.ref b9), (.ref b9)])) ?_ (fun tX kX => XS.dup X10.here hx rfl (hb hby at_63) rfl rfl kX)
    refine OGo.go (B := T10.setTop (mkF m 65 #[.val (.int p0), .val (.int p1), .val (.int p2), .val (.int p3), .val (.int (2 : Int32)), .val (.int (p1.toInt8.toInt32)), .val (.int (p2.toInt8.toInt32)), .val (.int (p3.toInt8.toInt32)), .unset, .unset, .unset, .unset] [(.int (1 : Int32)), (.ref b9), (.ref b9)])) ?_ (fun tX kX => XS.iconst X10.here hx rfl (hb hby at_64) kX)
    refine OGo.go (B := T10.setTop (mkF m 67 #[.val (.int p0), .val (.int p1), .val (.int p2), .val (.int p3), .val (.int (2 : Int32)), .val (.int (p1.toInt8.toInt32)), .val (.int (p2.toInt8.toInt32)), .val (.int (p3.toInt8.toInt32)), .unset, .unset, .unset, .unset] [(.int (p2.toInt8.toInt32)), (.int (1 : Int32)), (.ref b9), (.ref b9)])) ?_ (fun tX kX => XS.iload X10.here hx rfl (hb hby at_65) rfl kX)
    obtain ⟨cl11, Ar11, qa11, S11, N11', H11, G11⟩ := id V_b9
    have hin11 := inb_of (j := (1 : Int32)) S11 ⟨by decide, by decide⟩
    obtain ⟨T11, h11, X11, e11, W11, st11⟩ := stB X10 hx hZ e10 Ar11 (j := (1 : Int32)) hin11 (g := (mkF m 67 #[.val (.int p0), .val (.int p1), .val (.int p2), .val (.int p3), .val (.int (2 : Int32)), .val (.int (p1.toInt8.toInt32)), .val (.int (p2.toInt8.toInt32)), .val (.int (p3.toInt8.toInt32)), .unset, .unset, .unset, .unset] [(.int (p2.toInt8.toInt32)), (.int (1 : Int32)), (.ref b9), (.ref b9)])) rfl rfl (hb hby at_67)
    have V_b9_11 := Arv.set Ar11 qa11 S11 N11' H11 G11 (fits_nar_byte _) W11 1 rfl (Nat.le_of_ble_eq_true rfl)
    have S_COMPACT_STRINGS := S_COMPACT_STRINGS.wr W11
    have S_SIOOBE_FORMATTER := S_SIOOBE_FORMATTER.wr W11
    have S_DIGITS := S_DIGITS.wr W11
    have V_ud := V_ud.other W11 ne_ud_b9
    have E_b9 := E_b9.wr W11
    have K11 := K10.wr W11 (Or.inr sz_b9)
    have zn11 : n0 ≤ h11.size := Nat.le_trans zn10 (Keep.of_wr W11).1
    have N11 := Fr.snoc X11 N10 g_b9
    have V_b9 : Arv Z h11 b9 k9 .byte (2 : Int32) [(.int ((p1.toInt8.toInt32).toInt8.toInt32)), (.int ((p2.toInt8.toInt32).toInt8.toInt32))] (.int (0 : Int32)) := V_b9_11
    refine OGo.go (B := T11.setTop (mkF m 68 #[.val (.int p0), .val (.int p1), .val (.int p2), .val (.int p3), .val (.int (2 : Int32)), .val (.int (p1.toInt8.toInt32)), .val (.int (p2.toInt8.toInt32)), .val (.int (p3.toInt8.toInt32)), .unset, .unset, .unset, .unset] [(.ref b9)])) ?_ st11
    refine OGo.go (B := T11.setTop (mkF m 70 #[.val (.int p0), .val (.int p1), .val (.int p2), .val (.int p3), .val (.int (2 : Int32)), .val (.int (p1.toInt8.toInt32)), .val (.int (p2.toInt8.toInt32)), .val (.int (p3.toInt8.toInt32)), .val (.ref b9), .unset, .unset, .unset] [])) ?_ (fun tX kX => XS.astore X11.here hx rfl (hb hby at_68) rfl rfl (l' := #[.val (.int p0), .val (.int p1), .val (.int p2), .val (.int p3), .val (.int (2 : Int32)), .val (.int (p1.toInt8.toInt32)), .val (.int (p2.toInt8.toInt32)), .val (.int (p3.toInt8.toInt32)), .val (.ref b9), .unset, .unset, .unset]) rfl kX)
    refine OGo.go (B := T11.setTop (mkF m 93 #[.val (.int p0), .val (.int p1), .val (.int p2), .val (.int p3), .val (.int (2 : Int32)), .val (.int (p1.toInt8.toInt32)), .val (.int (p2.toInt8.toInt32)), .val (.int (p3.toInt8.toInt32)), .val (.ref b9), .unset, .unset, .unset] [])) ?_ (fun tX kX => XS.goto X11.here hx rfl (pc0 := 70) (pc' := 93) rfl (hb hby at_70) (by decide) (by decide) kX)
    have V_b9 : Arv Z h11 b9 k9 .byte (2 : Int32) [(.int (p1.toInt8.toInt32)), (.int (p2.toInt8.toInt32))] (.int (0 : Int32)) := by simpa only [own_ii] using V_b9
    refine OGo.go (B := T11.setTop (mkF m 95 #[.val (.int p0), .val (.int p1), .val (.int p2), .val (.int p3), .val (.int (2 : Int32)), .val (.int (p1.toInt8.toInt32)), .val (.int (p2.toInt8.toInt32)), .val (.int (p3.toInt8.toInt32)), .val (.ref b9), .unset, .unset, .unset] [(.ref b9)])) ?_ (fun tX kX => XS.aload X11.here hx rfl (hb hby at_93) rfl rfl kX)
    obtain ⟨_, _, ⟨T12, L12, k12, n12⟩, -, X12, ⟨Lc12, hQ12, l12, y12, z12⟩, st12⟩ := Jvm.LawKit.callS X11 hx (y := (⟨"com/example/cartouche/cartouche/host/Hex", "format", "([B)Ljava/lang/String;"⟩ : MethodName)) hown (mvT hZ (hw _ (List.mem_of_getElem? (i := 1) rfl))) (mvT hZ (hw _ (List.mem_of_getElem? (i := 2) rfl))) (mvT hZ (hw _ (List.mem_of_getElem? (i := 3) rfl))) (mvT hZ (hw _ (List.mem_of_getElem? (i := 4) rfl))) (by decide) (backOf (W := 0) (rm1n2 l Z aV hw [] b9 k9 cs ud kd (p1.toInt8.toInt32) (p2.toInt8.toInt32) h11 n0 zn11 V_b9 S_COMPACT_STRINGS S_DIGITS V_ud hcs) hZ (hw _ (List.mem_of_getElem? (i := 4) rfl)) (hw _ (List.mem_of_getElem? (i := 3) rfl)) (by decide) (by decide)) (g := (mkF m 95 #[.val (.int p0), .val (.int p1), .val (.int p2), .val (.int p3), .val (.int (2 : Int32)), .val (.int (p1.toInt8.toInt32)), .val (.int (p2.toInt8.toInt32)), .val (.int (p3.toInt8.toInt32)), .val (.ref b9), .unset, .unset, .unset] [(.ref b9)])) rfl (by rw [hml]; rfl) (argsL := [(.ref b9)]) (rest := []) (lenOf pd___B_Ljava_lang_String_ rfl) rfl (by show 2 * 0 + _ ≤ _; exact Nat.le_of_eq rfl) (hb hby at_95) (fun _ _ => ⟨rfl, e11, (by decide : 1 + 4 ≤ _), (by decide : 2 + 19 ≤ _)⟩)
    dsimp only [Pt.U, Pt.locs, Pt.cells, Pt.slots] at X12 l12 y12 z12 st12 hQ12
    subst l12 y12 z12
    obtain ⟨sr_12, nb_12, kn_12, rfl, N12q, Kq12, sz12_sr, sz12_nb, E_sr_12_p, F_value_sr_12_p, F_coder_sr_12_p, E_nb_12_p, V_nb_12_p⟩ := hQ12
    have N12 := Fr.app N11 N12q
    have ne_ud_sr_12 : ud ≠ sr_12 := Nat.ne_of_lt (Nat.lt_of_lt_of_le V_ud.lt sz12_sr)
    have ne_b9_sr_12 : b9 ≠ sr_12 := Nat.ne_of_lt (Nat.lt_of_lt_of_le E_b9.lt sz12_sr)
    have ne_ud_nb_12 : ud ≠ nb_12 := Nat.ne_of_lt (Nat.lt_of_lt_of_le V_ud.lt sz12_nb)
    have ne_b9_nb_12 : b9 ≠ nb_12 := Nat.ne_of_lt (Nat.lt_of_lt_of_le E_b9.lt sz12_nb)
    have S_COMPACT_STRINGS := Sta.keep0 S_COMPACT_STRINGS Kq12
    have S_SIOOBE_FORMATTER := Sta.keep0 S_SIOOBE_FORMATTER Kq12
    have S_DIGITS := Sta.keep0 S_DIGITS Kq12
    have V_ud := V_ud.keep Kq12 nin0
    have E_b9 := E_b9.keep Kq12
    have V_b9 := V_b9.keep Kq12 nin0
    have g_sr_12 : n0 ≤ sr_12 := Nat.le_trans zn11 sz12_sr
    have sz_sr_12 : h0.size ≤ sr_12 := Nat.le_trans K11.1 sz12_sr
    have g_nb_12 : n0 ≤ nb_12 := Nat.le_trans zn11 sz12_nb
    have sz_nb_12 : h0.size ≤ nb_12 := Nat.le_trans K11.1 sz12_nb
    have K12 := K11.trans Kq12 all0
    have zn12 : n0 ≤ T12.heap.size := Nat.le_trans zn11 Kq12.1
    have E_sr_12 := E_sr_12_p
    have F_value_sr_12 := F_value_sr_12_p
    have F_coder_sr_12 := F_coder_sr_12_p
    have E_nb_12 := E_nb_12_p
    have V_nb_12 := V_nb_12_p
    refine OGo.go (B := T12.setTop (mkF m 98 #[.val (.int p0), .val (.int p1), .val (.int p2), .val (.int p3), .val (.int (2 : Int32)), .val (.int (p1.toInt8.toInt32)), .val (.int (p2.toInt8.toInt32)), .val (.int (p3.toInt8.toInt32)), .val (.ref b9), .unset, .unset, .unset] [(.ref sr_12)])) ?_ st12
    refine OGo.go (B := T12.setTop (mkF m 100 #[.val (.int p0), .val (.int p1), .val (.int p2), .val (.int p3), .val (.int (2 : Int32)), .val (.int (p1.toInt8.toInt32)), .val (.int (p2.toInt8.toInt32)), .val (.int (p3.toInt8.toInt32)), .val (.ref b9), .val (.ref sr_12), .unset, .unset] [])) ?_ (fun tX kX => XS.astore X12.here hx rfl (hb hby at_98) rfl rfl (l' := #[.val (.int p0), .val (.int p1), .val (.int p2), .val (.int p3), .val (.int (2 : Int32)), .val (.int (p1.toInt8.toInt32)), .val (.int (p2.toInt8.toInt32)), .val (.int (p3.toInt8.toInt32)), .val (.ref b9), .val (.ref sr_12), .unset, .unset]) rfl kX)
    refine OGo.go (B := T12.setTop (mkF m 102 #[.val (.int p0), .val (.int p1), .val (.int p2), .val (.int p3), .val (.int (2 : Int32)), .val (.int (p1.toInt8.toInt32)), .val (.int (p2.toInt8.toInt32)), .val (.int (p3.toInt8.toInt32)), .val (.ref b9), .val (.ref sr_12), .unset, .unset] [(.int (2 : Int32))])) ?_ (fun tX kX => XS.iload X12.here hx rfl (hb hby at_100) rfl kX)
    refine OGo.go (B := T12.setTop (mkF m 109 #[.val (.int p0), .val (.int p1), .val (.int p2), .val (.int p3), .val (.int (2 : Int32)), .val (.int (p1.toInt8.toInt32)), .val (.int (p2.toInt8.toInt32)), .val (.int (p3.toInt8.toInt32)), .val (.ref b9), .val (.ref sr_12), .unset, .unset] [])) ?_ (fun tX kX => XS.ifYes X12.here hx rfl (pc0 := 102) (pc' := 109) rfl (hb hby at_102) rfl ((if0 _ _).trans (feq (by decide)).2) (by decide) (by decide) kX)
    refine OGo.go (B := T12.setTop (mkF m 110 #[.val (.int p0), .val (.int p1), .val (.int p2), .val (.int p3), .val (.int (2 : Int32)), .val (.int (p1.toInt8.toInt32)), .val (.int (p2.toInt8.toInt32)), .val (.int (p3.toInt8.toInt32)), .val (.ref b9), .val (.ref sr_12), .unset, .unset] [(.int (3 : Int32))])) ?_ (fun tX kX => XS.iconst X12.here hx rfl (hb hby at_109) kX)
    refine OGo.go (B := T12.setTop (mkF m 112 #[.val (.int p0), .val (.int p1), .val (.int p2), .val (.int p3), .val (.int (2 : Int32)), .val (.int (p1.toInt8.toInt32)), .val (.int (p2.toInt8.toInt32)), .val (.int (p3.toInt8.toInt32)), .val (.ref b9), .val (.ref sr_12), .unset, .unset] [(.int (2 : Int32)), (.int (3 : Int32))])) ?_ (fun tX kX => XS.iload X12.here hx rfl (hb hby at_110) rfl kX)
    refine OGo.go (B := T12.setTop (mkF m 113 #[.val (.int p0), .val (.int p1), .val (.int p2), .val (.int p3), .val (.int (2 : Int32)), .val (.int (p1.toInt8.toInt32)), .val (.int (p2.toInt8.toInt32)), .val (.int (p3.toInt8.toInt32)), .val (.ref b9), .val (.ref sr_12), .unset, .unset] [(.int (6 : Int32))])) ?_ (fun tX kX => XS.imul X12.here hx rfl (hb hby at_112) rfl kX)
    refine OGo.go (B := T12.setTop (mkF m 114 #[.val (.int p0), .val (.int p1), .val (.int p2), .val (.int p3), .val (.int (2 : Int32)), .val (.int (p1.toInt8.toInt32)), .val (.int (p2.toInt8.toInt32)), .val (.int (p3.toInt8.toInt32)), .val (.ref b9), .val (.ref sr_12), .unset, .unset] [(.int (1 : Int32)), (.int (6 : Int32))])) ?_ (fun tX kX => XS.iconst X12.here hx rfl (hb hby at_113) kX)
    refine OGo.go (B := T12.setTop (mkF m 115 #[.val (.int p0), .val (.int p1), .val (.int p2), .val (.int p3), .val (.int (2 : Int32)), .val (.int (p1.toInt8.toInt32)), .val (.int (p2.toInt8.toInt32)), .val (.int (p3.toInt8.toInt32)), .val (.ref b9), .val (.ref sr_12), .unset, .unset] [(.int (5 : Int32))])) ?_ (fun tX kX => XS.isub X12.here hx rfl (hb hby at_114) rfl kX)
    refine OGo.go (B := T12.setTop (mkF m 117 #[.val (.int p0), .val (.int p1), .val (.int p2), .val (.int p3), .val (.int (2 : Int32)), .val (.int (p1.toInt8.toInt32)), .val (.int (p2.toInt8.toInt32)), .val (.int (p3.toInt8.toInt32)), .val (.ref b9), .val (.ref sr_12), .val (.int (5 : Int32)), .unset] [])) ?_ (fun tX kX => XS.istore X12.here hx rfl (hb hby at_115) rfl (l' := #[.val (.int p0), .val (.int p1), .val (.int p2), .val (.int p3), .val (.int (2 : Int32)), .val (.int (p1.toInt8.toInt32)), .val (.int (p2.toInt8.toInt32)), .val (.int (p3.toInt8.toInt32)), .val (.ref b9), .val (.ref sr_12), .val (.int (5 : Int32)), .unset]) rfl kX)
    refine OGo.go (B := T12.setTop (mkF m 119 #[.val (.int p0), .val (.int p1), .val (.int p2), .val (.int p3), .val (.int (2 : Int32)), .val (.int (p1.toInt8.toInt32)), .val (.int (p2.toInt8.toInt32)), .val (.int (p3.toInt8.toInt32)), .val (.ref b9), .val (.ref sr_12), .val (.int (5 : Int32)), .unset] [(.ref sr_12)])) ?_ (fun tX kX => XS.aload X12.here hx rfl (hb hby at_117) rfl rfl kX)
    obtain ⟨cq13, kq13, q13a, q13b, q13c⟩ := isOf hZ rfl E_sr_12
    obtain ⟨_, _, ⟨T13, L13, k13, n13⟩, -, X13, ⟨Lc13, hQ13, l13, y13, z13⟩, st13⟩ := X12.virtualBack hx (y := (⟨"java/lang/String", "length", "()I"⟩ : MethodName)) (z := (⟨"java/lang/String", "length", "()I"⟩ : MethodName)) hown (mvT hZ (hw _ (List.mem_of_getElem? (i := 79) rfl))) (mvT hZ (hw _ (List.mem_of_getElem? (i := 80) rfl))) (notFace_of_selects (args := #[]) (mvT hZ (hw _ (List.mem_of_getElem? (i := 82) rfl)))) (mvT hZ (hw _ (List.mem_of_getElem? (i := 82) rfl))) (mvT hZ (hw _ (List.mem_of_getElem? (i := 81) rfl))) (by decide) (backOf (W := 0) (rm13 l Z aV hw [] sr_12 nb_12 kn_12 (5 : Int32) [(.int (((own_dig (((p1.toInt8.toInt32) >>> ((4 : Int32) &&& 31)) &&& (15 : Int32))).toInt8.toInt32).toInt8.toInt32)), (.int (((own_dig ((p1.toInt8.toInt32) &&& (15 : Int32))).toInt8.toInt32).toInt8.toInt32)), (.int (((32 : Int32).toInt8.toInt32).toInt8.toInt32)), (.int (((own_dig (((p2.toInt8.toInt32) >>> ((4 : Int32) &&& 31)) &&& (15 : Int32))).toInt8.toInt32).toInt8.toInt32)), (.int (((own_dig ((p2.toInt8.toInt32) &&& (15 : Int32))).toInt8.toInt32).toInt8.toInt32))] cs T12.heap n0 zn12 E_sr_12 F_value_sr_12 F_coder_sr_12 V_nb_12 S_COMPACT_STRINGS hcs) hZ (hw _ (List.mem_of_getElem? (i := 83) rfl)) (hw _ (List.mem_of_getElem? (i := 21) rfl)) (by decide) (by decide)) q13a q13c (g := (mkF m 119 #[.val (.int p0), .val (.int p1), .val (.int p2), .val (.int p3), .val (.int (2 : Int32)), .val (.int (p1.toInt8.toInt32)), .val (.int (p2.toInt8.toInt32)), .val (.int (p3.toInt8.toInt32)), .val (.ref b9), .val (.ref sr_12), .val (.int (5 : Int32)), .unset] [(.ref sr_12)])) rfl (by rw [hml]; rfl) (Steps.refl _) (argsL := []) (rest := []) (lenOf pd___I rfl) rfl (by show 2 * 0 + _ ≤ _; exact Nat.le_of_eq rfl) (hb hby at_119) (fun _ _ => ⟨rfl, rfl, (by decide : 5 + 0 ≤ _), (by decide : 21 + 0 ≤ _)⟩)
    dsimp only [Pt.U, Pt.locs, Pt.cells, Pt.slots] at X13 l13 y13 z13 st13 hQ13
    subst l13 y13 z13
    obtain ⟨rfl, N13q, e13⟩ := hQ13
    have N13 := Fr.app N12 N13q
    refine OGo.go (B := T13.setTop (mkF m 122 #[.val (.int p0), .val (.int p1), .val (.int p2), .val (.int p3), .val (.int (2 : Int32)), .val (.int (p1.toInt8.toInt32)), .val (.int (p2.toInt8.toInt32)), .val (.int (p3.toInt8.toInt32)), .val (.ref b9), .val (.ref sr_12), .val (.int (5 : Int32)), .unset] [(.int ((5 : Int32) >>> ((0 : Int32) &&& 31)))])) ?_ (fun tX kX => st13.trans kX)
    refine OGo.go (B := T13.setTop (mkF m 124 #[.val (.int p0), .val (.int p1), .val (.int p2), .val (.int p3), .val (.int (2 : Int32)), .val (.int (p1.toInt8.toInt32)), .val (.int (p2.toInt8.toInt32)), .val (.int (p3.toInt8.toInt32)), .val (.ref b9), .val (.ref sr_12), .val (.int (5 : Int32)), .unset] [(.int (5 : Int32)), (.int ((5 : Int32) >>> ((0 : Int32) &&& 31)))])) ?_ (fun tX kX => XS.iload X13.here hx rfl (hb hby at_122) rfl kX)
    refine OGo.go (B := T13.setTop (mkF m 129 #[.val (.int p0), .val (.int p1), .val (.int p2), .val (.int p3), .val (.int (2 : Int32)), .val (.int (p1.toInt8.toInt32)), .val (.int (p2.toInt8.toInt32)), .val (.int (p3.toInt8.toInt32)), .val (.ref b9), .val (.ref sr_12), .val (.int (5 : Int32)), .unset] [])) ?_ (fun tX kX => XS.icmpYes X13.here hx rfl (pc0 := 124) (pc' := 129) rfl (hb hby at_124) rfl (teq (by decide)).1 (by decide) (by decide) kX)
    refine OGo.go (B := T13.setTop (mkF m 130 #[.val (.int p0), .val (.int p1), .val (.int p2), .val (.int p3), .val (.int (2 : Int32)), .val (.int (p1.toInt8.toInt32)), .val (.int (p2.toInt8.toInt32)), .val (.int (p3.toInt8.toInt32)), .val (.ref b9), .val (.ref sr_12), .val (.int (5 : Int32)), .unset] [(.int (1 : Int32))])) ?_ (fun tX kX => XS.iconst X13.here hx rfl (hb hby at_129) kX)
    refine OGo.go (B := T13.setTop (mkF m 132 #[.val (.int p0), .val (.int p1), .val (.int p2), .val (.int p3), .val (.int (2 : Int32)), .val (.int (p1.toInt8.toInt32)), .val (.int (p2.toInt8.toInt32)), .val (.int (p3.toInt8.toInt32)), .val (.ref b9), .val (.ref sr_12), .val (.int (5 : Int32)), .val (.int (1 : Int32))] [])) ?_ (fun tX kX => XS.istore X13.here hx rfl (hb hby at_130) rfl (l' := #[.val (.int p0), .val (.int p1), .val (.int p2), .val (.int p3), .val (.int (2 : Int32)), .val (.int (p1.toInt8.toInt32)), .val (.int (p2.toInt8.toInt32)), .val (.int (p3.toInt8.toInt32)), .val (.ref b9), .val (.ref sr_12), .val (.int (5 : Int32)), .val (.int (1 : Int32))]) rfl kX)
    refine OGo.go (B := T13.setTop (mkF m 134 #[.val (.int p0), .val (.int p1), .val (.int p2), .val (.int p3), .val (.int (2 : Int32)), .val (.int (p1.toInt8.toInt32)), .val (.int (p2.toInt8.toInt32)), .val (.int (p3.toInt8.toInt32)), .val (.ref b9), .val (.ref sr_12), .val (.int (5 : Int32)), .val (.int (1 : Int32))] [(.int (2 : Int32))])) ?_ (fun tX kX => XS.iload X13.here hx rfl (hb hby at_132) rfl kX)
    refine OGo.go (B := T13.setTop (mkF m 135 #[.val (.int p0), .val (.int p1), .val (.int p2), .val (.int p3), .val (.int (2 : Int32)), .val (.int (p1.toInt8.toInt32)), .val (.int (p2.toInt8.toInt32)), .val (.int (p3.toInt8.toInt32)), .val (.ref b9), .val (.ref sr_12), .val (.int (5 : Int32)), .val (.int (1 : Int32))] [(.int (1 : Int32)), (.int (2 : Int32))])) ?_ (fun tX kX => XS.iconst X13.here hx rfl (hb hby at_134) kX)
    refine OGo.go (B := T13.setTop (mkF m 138 #[.val (.int p0), .val (.int p1), .val (.int p2), .val (.int p3), .val (.int (2 : Int32)), .val (.int (p1.toInt8.toInt32)), .val (.int (p2.toInt8.toInt32)), .val (.int (p3.toInt8.toInt32)), .val (.ref b9), .val (.ref sr_12), .val (.int (5 : Int32)), .val (.int (1 : Int32))] [])) ?_ (fun tX kX => XS.icmpNo X13.here hx rfl (hb hby at_135) rfl (flt (by decide)).1 kX)
    refine OGo.go (B := T13.setTop (mkF m 140 #[.val (.int p0), .val (.int p1), .val (.int p2), .val (.int p3), .val (.int (2 : Int32)), .val (.int (p1.toInt8.toInt32)), .val (.int (p2.toInt8.toInt32)), .val (.int (p3.toInt8.toInt32)), .val (.ref b9), .val (.ref sr_12), .val (.int (5 : Int32)), .val (.int (1 : Int32))] [(.int (1 : Int32))])) ?_ (fun tX kX => XS.iload X13.here hx rfl (hb hby at_138) rfl kX)
    refine OGo.go (B := T13.setTop (mkF m 143 #[.val (.int p0), .val (.int p1), .val (.int p2), .val (.int p3), .val (.int (2 : Int32)), .val (.int (p1.toInt8.toInt32)), .val (.int (p2.toInt8.toInt32)), .val (.int (p3.toInt8.toInt32)), .val (.ref b9), .val (.ref sr_12), .val (.int (5 : Int32)), .val (.int (1 : Int32))] [])) ?_ (fun tX kX => XS.ifNo X13.here hx rfl (hb hby at_140) rfl ((if0 _ _).trans (feq (by decide)).1) kX)
    refine OGo.go (B := T13.setTop (mkF m 145 #[.val (.int p0), .val (.int p1), .val (.int p2), .val (.int p3), .val (.int (2 : Int32)), .val (.int (p1.toInt8.toInt32)), .val (.int (p2.toInt8.toInt32)), .val (.int (p3.toInt8.toInt32)), .val (.ref b9), .val (.ref sr_12), .val (.int (5 : Int32)), .val (.int (1 : Int32))] [(.ref sr_12)])) ?_ (fun tX kX => XS.aload X13.here hx rfl (hb hby at_143) rfl rfl kX)
    refine OGo.go (B := T13.setTop (mkF m 146 #[.val (.int p0), .val (.int p1), .val (.int p2), .val (.int p3), .val (.int (2 : Int32)), .val (.int (p1.toInt8.toInt32)), .val (.int (p2.toInt8.toInt32)), .val (.int (p3.toInt8.toInt32)), .val (.ref b9), .val (.ref sr_12), .val (.int (5 : Int32)), .val (.int (1 : Int32))] [(.int (0 : Int32)), (.ref sr_12)])) ?_ (fun tX kX => XS.iconst X13.here hx rfl (hb hby at_145) kX)
    refine OGo.go (B := T13.setTop (mkF m 148 #[.val (.int p0), .val (.int p1), .val (.int p2), .val (.int p3), .val (.int (2 : Int32)), .val (.int (p1.toInt8.toInt32)), .val (.int (p2.toInt8.toInt32)), .val (.int (p3.toInt8.toInt32)), .val (.ref b9), .val (.ref sr_12), .val (.int (5 : Int32)), .val (.int (1 : Int32))] [(.int (p1.toInt8.toInt32)), (.int (0 : Int32)), (.ref sr_12)])) ?_ (fun tX kX => XS.iload X13.here hx rfl (hb hby at_146) rfl kX)
    obtain ⟨_, _, ⟨T14, L14, k14, n14⟩, -, X14, ⟨Lc14, hQ14, l14, y14, z14⟩, st14⟩ := Jvm.LawKit.callS X13 hx (y := (⟨"com/example/cartouche/cartouche/host/HexFormatPinLaw", "pairAt", "(Ljava/lang/String;IB)Z"⟩ : MethodName)) hown (mvT hZ (hw _ (List.mem_of_getElem? (i := 128) rfl))) (mvT hZ (hw _ (List.mem_of_getElem? (i := 129) rfl))) (mvT hZ (hw _ (List.mem_of_getElem? (i := 130) rfl))) (mvT hZ (hw _ (List.mem_of_getElem? (i := 131) rfl))) (by decide) (backOf (W := 0) (rm22 l Z aV hw [] sr_12 (0 : Int32) (p1.toInt8.toInt32) nb_12 kn_12 (5 : Int32) [(.int (((own_dig (((p1.toInt8.toInt32) >>> ((4 : Int32) &&& 31)) &&& (15 : Int32))).toInt8.toInt32).toInt8.toInt32)), (.int (((own_dig ((p1.toInt8.toInt32) &&& (15 : Int32))).toInt8.toInt32).toInt8.toInt32)), (.int (((32 : Int32).toInt8.toInt32).toInt8.toInt32)), (.int (((own_dig (((p2.toInt8.toInt32) >>> ((4 : Int32) &&& 31)) &&& (15 : Int32))).toInt8.toInt32).toInt8.toInt32)), (.int (((own_dig ((p2.toInt8.toInt32) &&& (15 : Int32))).toInt8.toInt32).toInt8.toInt32))] cs fv (((own_dig (((p1.toInt8.toInt32) >>> ((4 : Int32) &&& 31)) &&& (15 : Int32))).toInt8.toInt32).toInt8.toInt32) (((own_dig ((p1.toInt8.toInt32) &&& (15 : Int32))).toInt8.toInt32).toInt8.toInt32) T12.heap n0 zn12 E_sr_12 F_value_sr_12 F_coder_sr_12 V_nb_12 S_COMPACT_STRINGS S_SIOOBE_FORMATTER hcs hfv ⟨by decide, by decide⟩ rfl ⟨by decide, by decide⟩ rfl (own_hi' _) (own_lo' _)) hZ (hw _ (List.mem_of_getElem? (i := 131) rfl)) (hw _ (List.mem_of_getElem? (i := 130) rfl)) (by decide) (by decide)) (g := (mkF m 148 #[.val (.int p0), .val (.int p1), .val (.int p2), .val (.int p3), .val (.int (2 : Int32)), .val (.int (p1.toInt8.toInt32)), .val (.int (p2.toInt8.toInt32)), .val (.int (p3.toInt8.toInt32)), .val (.ref b9), .val (.ref sr_12), .val (.int (5 : Int32)), .val (.int (1 : Int32))] [(.int (p1.toInt8.toInt32)), (.int (0 : Int32)), (.ref sr_12)])) rfl (by rw [hml]; rfl) (argsL := [(.ref sr_12), (.int (0 : Int32)), (.int (p1.toInt8.toInt32))]) (rest := []) (lenOf pd__Ljava_lang_String_IB_Z rfl) rfl (by show 2 * 0 + _ ≤ _; exact Nat.le_of_eq rfl) (hb hby at_148) (fun _ _ => ⟨rfl, e13, (by decide : 5 + 0 ≤ _), (by decide : 21 + 0 ≤ _)⟩)
    dsimp only [Pt.U, Pt.locs, Pt.cells, Pt.slots] at X14 l14 y14 z14 st14 hQ14
    subst l14 y14 z14
    obtain ⟨rfl, N14q, e14⟩ := hQ14
    have N14 := Fr.app N13 N14q
    refine OGo.go (B := T14.setTop (mkF m 151 #[.val (.int p0), .val (.int p1), .val (.int p2), .val (.int p3), .val (.int (2 : Int32)), .val (.int (p1.toInt8.toInt32)), .val (.int (p2.toInt8.toInt32)), .val (.int (p3.toInt8.toInt32)), .val (.ref b9), .val (.ref sr_12), .val (.int (5 : Int32)), .val (.int (1 : Int32))] [(.int (1 : Int32))])) ?_ st14
    refine OGo.go (B := T14.setTop (mkF m 154 #[.val (.int p0), .val (.int p1), .val (.int p2), .val (.int p3), .val (.int (2 : Int32)), .val (.int (p1.toInt8.toInt32)), .val (.int (p2.toInt8.toInt32)), .val (.int (p3.toInt8.toInt32)), .val (.ref b9), .val (.ref sr_12), .val (.int (5 : Int32)), .val (.int (1 : Int32))] [])) ?_ (fun tX kX => XS.ifNo X14.here hx rfl (hb hby at_151) rfl ((if0 _ _).trans (feq (by decide)).1) kX)
    refine OGo.go (B := T14.setTop (mkF m 155 #[.val (.int p0), .val (.int p1), .val (.int p2), .val (.int p3), .val (.int (2 : Int32)), .val (.int (p1.toInt8.toInt32)), .val (.int (p2.toInt8.toInt32)), .val (.int (p3.toInt8.toInt32)), .val (.ref b9), .val (.ref sr_12), .val (.int (5 : Int32)), .val (.int (1 : Int32))] [(.int (1 : Int32))])) ?_ (fun tX kX => XS.iconst X14.here hx rfl (hb hby at_154) kX)
    refine OGo.go (B := T14.setTop (mkF m 159 #[.val (.int p0), .val (.int p1), .val (.int p2), .val (.int p3), .val (.int (2 : Int32)), .val (.int (p1.toInt8.toInt32)), .val (.int (p2.toInt8.toInt32)), .val (.int (p3.toInt8.toInt32)), .val (.ref b9), .val (.ref sr_12), .val (.int (5 : Int32)), .val (.int (1 : Int32))] [(.int (1 : Int32))])) ?_ (fun tX kX => XS.goto X14.here hx rfl (pc0 := 155) (pc' := 159) rfl (hb hby at_155) (by decide) (by decide) kX)
    refine OGo.go (B := T14.setTop (mkF m 161 #[.val (.int p0), .val (.int p1), .val (.int p2), .val (.int p3), .val (.int (2 : Int32)), .val (.int (p1.toInt8.toInt32)), .val (.int (p2.toInt8.toInt32)), .val (.int (p3.toInt8.toInt32)), .val (.ref b9), .val (.ref sr_12), .val (.int (5 : Int32)), .val (.int (1 : Int32))] [])) ?_ (fun tX kX => XS.istore X14.here hx rfl (hb hby at_159) rfl (l' := #[.val (.int p0), .val (.int p1), .val (.int p2), .val (.int p3), .val (.int (2 : Int32)), .val (.int (p1.toInt8.toInt32)), .val (.int (p2.toInt8.toInt32)), .val (.int (p3.toInt8.toInt32)), .val (.ref b9), .val (.ref sr_12), .val (.int (5 : Int32)), .val (.int (1 : Int32))]) rfl kX)
    refine OGo.go (B := T14.setTop (mkF m 163 #[.val (.int p0), .val (.int p1), .val (.int p2), .val (.int p3), .val (.int (2 : Int32)), .val (.int (p1.toInt8.toInt32)), .val (.int (p2.toInt8.toInt32)), .val (.int (p3.toInt8.toInt32)), .val (.ref b9), .val (.ref sr_12), .val (.int (5 : Int32)), .val (.int (1 : Int32))] [(.int (2 : Int32))])) ?_ (fun tX kX => XS.iload X14.here hx rfl (hb hby at_161) rfl kX)
    refine OGo.go (B := T14.setTop (mkF m 164 #[.val (.int p0), .val (.int p1), .val (.int p2), .val (.int p3), .val (.int (2 : Int32)), .val (.int (p1.toInt8.toInt32)), .val (.int (p2.toInt8.toInt32)), .val (.int (p3.toInt8.toInt32)), .val (.ref b9), .val (.ref sr_12), .val (.int (5 : Int32)), .val (.int (1 : Int32))] [(.int (2 : Int32)), (.int (2 : Int32))])) ?_ (fun tX kX => XS.iconst X14.here hx rfl (hb hby at_163) kX)
    refine OGo.go (B := T14.setTop (mkF m 167 #[.val (.int p0), .val (.int p1), .val (.int p2), .val (.int p3), .val (.int (2 : Int32)), .val (.int (p1.toInt8.toInt32)), .val (.int (p2.toInt8.toInt32)), .val (.int (p3.toInt8.toInt32)), .val (.ref b9), .val (.ref sr_12), .val (.int (5 : Int32)), .val (.int (1 : Int32))] [])) ?_ (fun tX kX => XS.icmpNo X14.here hx rfl (hb hby at_164) rfl (flt (by decide)).1 kX)
    refine OGo.go (B := T14.setTop (mkF m 169 #[.val (.int p0), .val (.int p1), .val (.int p2), .val (.int p3), .val (.int (2 : Int32)), .val (.int (p1.toInt8.toInt32)), .val (.int (p2.toInt8.toInt32)), .val (.int (p3.toInt8.toInt32)), .val (.ref b9), .val (.ref sr_12), .val (.int (5 : Int32)), .val (.int (1 : Int32))] [(.int (1 : Int32))])) ?_ (fun tX kX => XS.iload X14.here hx rfl (hb hby at_167) rfl kX)
    refine OGo.go (B := T14.setTop (mkF m 172 #[.val (.int p0), .val (.int p1), .val (.int p2), .val (.int p3), .val (.int (2 : Int32)), .val (.int (p1.toInt8.toInt32)), .val (.int (p2.toInt8.toInt32)), .val (.int (p3.toInt8.toInt32)), .val (.ref b9), .val (.ref sr_12), .val (.int (5 : Int32)), .val (.int (1 : Int32))] [])) ?_ (fun tX kX => XS.ifNo X14.here hx rfl (hb hby at_169) rfl ((if0 _ _).trans (feq (by decide)).1) kX)
    refine OGo.go (B := T14.setTop (mkF m 174 #[.val (.int p0), .val (.int p1), .val (.int p2), .val (.int p3), .val (.int (2 : Int32)), .val (.int (p1.toInt8.toInt32)), .val (.int (p2.toInt8.toInt32)), .val (.int (p3.toInt8.toInt32)), .val (.ref b9), .val (.ref sr_12), .val (.int (5 : Int32)), .val (.int (1 : Int32))] [(.ref sr_12)])) ?_ (fun tX kX => XS.aload X14.here hx rfl (hb hby at_172) rfl rfl kX)
    refine OGo.go (B := T14.setTop (mkF m 175 #[.val (.int p0), .val (.int p1), .val (.int p2), .val (.int p3), .val (.int (2 : Int32)), .val (.int (p1.toInt8.toInt32)), .val (.int (p2.toInt8.toInt32)), .val (.int (p3.toInt8.toInt32)), .val (.ref b9), .val (.ref sr_12), .val (.int (5 : Int32)), .val (.int (1 : Int32))] [(.int (2 : Int32)), (.ref sr_12)])) ?_ (fun tX kX => XS.iconst X14.here hx rfl (hb hby at_174) kX)
    obtain ⟨cq15, kq15, q15a, q15b, q15c⟩ := isOf hZ e14 E_sr_12
    obtain ⟨_, _, ⟨T15, L15, k15, n15⟩, -, X15, ⟨Lc15, hQ15, l15, y15, z15⟩, st15⟩ := X14.virtualBack hx (y := (⟨"java/lang/String", "charAt", "(I)C"⟩ : MethodName)) (z := (⟨"java/lang/String", "charAt", "(I)C"⟩ : MethodName)) hown (mvT hZ (hw _ (List.mem_of_getElem? (i := 132) rfl))) (mvT hZ (hw _ (List.mem_of_getElem? (i := 133) rfl))) (notFace_of_selects (args := #[]) (mvT hZ (hw _ (List.mem_of_getElem? (i := 135) rfl)))) (mvT hZ (hw _ (List.mem_of_getElem? (i := 135) rfl))) (mvT hZ (hw _ (List.mem_of_getElem? (i := 134) rfl))) (by decide) (backOf (W := 0) (rm23 l Z aV hw [] sr_12 (2 : Int32) nb_12 kn_12 (5 : Int32) [(.int (((own_dig (((p1.toInt8.toInt32) >>> ((4 : Int32) &&& 31)) &&& (15 : Int32))).toInt8.toInt32).toInt8.toInt32)), (.int (((own_dig ((p1.toInt8.toInt32) &&& (15 : Int32))).toInt8.toInt32).toInt8.toInt32)), (.int (((32 : Int32).toInt8.toInt32).toInt8.toInt32)), (.int (((own_dig (((p2.toInt8.toInt32) >>> ((4 : Int32) &&& 31)) &&& (15 : Int32))).toInt8.toInt32).toInt8.toInt32)), (.int (((own_dig ((p2.toInt8.toInt32) &&& (15 : Int32))).toInt8.toInt32).toInt8.toInt32))] cs fv (((32 : Int32).toInt8.toInt32).toInt8.toInt32) T12.heap n0 zn12 E_sr_12 F_value_sr_12 F_coder_sr_12 V_nb_12 S_COMPACT_STRINGS S_SIOOBE_FORMATTER hcs hfv ⟨by decide, by decide⟩ rfl) hZ (hw _ (List.mem_of_getElem? (i := 136) rfl)) (hw _ (List.mem_of_getElem? (i := 21) rfl)) (by decide) (by decide)) q15a q15c (g := (mkF m 175 #[.val (.int p0), .val (.int p1), .val (.int p2), .val (.int p3), .val (.int (2 : Int32)), .val (.int (p1.toInt8.toInt32)), .val (.int (p2.toInt8.toInt32)), .val (.int (p3.toInt8.toInt32)), .val (.ref b9), .val (.ref sr_12), .val (.int (5 : Int32)), .val (.int (1 : Int32))] [(.int (2 : Int32)), (.ref sr_12)])) rfl (by rw [hml]; rfl) (Steps.refl _) (argsL := [(.int (2 : Int32))]) (rest := []) (lenOf pd__I_C rfl) rfl (by show 2 * 0 + _ ≤ _; exact Nat.le_of_eq rfl) (hb hby at_175) (fun _ _ => ⟨rfl, e14, (by decide : 5 + 0 ≤ _), (by decide : 21 + 0 ≤ _)⟩)
    dsimp only [Pt.U, Pt.locs, Pt.cells, Pt.slots] at X15 l15 y15 z15 st15 hQ15
    subst l15 y15 z15
    obtain ⟨rfl, N15q, e15⟩ := hQ15
    have N15 := Fr.app N14 N15q
    refine OGo.go (B := T15.setTop (mkF m 178 #[.val (.int p0), .val (.int p1), .val (.int p2), .val (.int p3), .val (.int (2 : Int32)), .val (.int (p1.toInt8.toInt32)), .val (.int (p2.toInt8.toInt32)), .val (.int (p3.toInt8.toInt32)), .val (.ref b9), .val (.ref sr_12), .val (.int (5 : Int32)), .val (.int (1 : Int32))] [(.int ((((((32 : Int32).toInt8.toInt32).toInt8.toInt32) &&& (255 : Int32)).toUInt32.toUInt16.toUInt32.toInt32).toUInt32.toUInt16.toUInt32.toInt32))])) ?_ (fun tX kX => st15.trans kX)
    refine OGo.go (B := T15.setTop (mkF m 180 #[.val (.int p0), .val (.int p1), .val (.int p2), .val (.int p3), .val (.int (2 : Int32)), .val (.int (p1.toInt8.toInt32)), .val (.int (p2.toInt8.toInt32)), .val (.int (p3.toInt8.toInt32)), .val (.ref b9), .val (.ref sr_12), .val (.int (5 : Int32)), .val (.int (1 : Int32))] [(.int (32 : Int32)), (.int ((((((32 : Int32).toInt8.toInt32).toInt8.toInt32) &&& (255 : Int32)).toUInt32.toUInt16.toUInt32.toInt32).toUInt32.toUInt16.toUInt32.toInt32))])) ?_ (fun tX kX => XS.bipush X15.here hx rfl (hb hby at_178) kX)
    refine OGo.go (B := T15.setTop (mkF m 183 #[.val (.int p0), .val (.int p1), .val (.int p2), .val (.int p3), .val (.int (2 : Int32)), .val (.int (p1.toInt8.toInt32)), .val (.int (p2.toInt8.toInt32)), .val (.int (p3.toInt8.toInt32)), .val (.ref b9), .val (.ref sr_12), .val (.int (5 : Int32)), .val (.int (1 : Int32))] [])) ?_ (fun tX kX => XS.icmpNo X15.here hx rfl (hb hby at_180) rfl (teq (by decide)).2 kX)
    refine OGo.go (B := T15.setTop (mkF m 185 #[.val (.int p0), .val (.int p1), .val (.int p2), .val (.int p3), .val (.int (2 : Int32)), .val (.int (p1.toInt8.toInt32)), .val (.int (p2.toInt8.toInt32)), .val (.int (p3.toInt8.toInt32)), .val (.ref b9), .val (.ref sr_12), .val (.int (5 : Int32)), .val (.int (1 : Int32))] [(.ref sr_12)])) ?_ (fun tX kX => XS.aload X15.here hx rfl (hb hby at_183) rfl rfl kX)
    refine OGo.go (B := T15.setTop (mkF m 186 #[.val (.int p0), .val (.int p1), .val (.int p2), .val (.int p3), .val (.int (2 : Int32)), .val (.int (p1.toInt8.toInt32)), .val (.int (p2.toInt8.toInt32)), .val (.int (p3.toInt8.toInt32)), .val (.ref b9), .val (.ref sr_12), .val (.int (5 : Int32)), .val (.int (1 : Int32))] [(.int (3 : Int32)), (.ref sr_12)])) ?_ (fun tX kX => XS.iconst X15.here hx rfl (hb hby at_185) kX)
    refine OGo.go (B := T15.setTop (mkF m 188 #[.val (.int p0), .val (.int p1), .val (.int p2), .val (.int p3), .val (.int (2 : Int32)), .val (.int (p1.toInt8.toInt32)), .val (.int (p2.toInt8.toInt32)), .val (.int (p3.toInt8.toInt32)), .val (.ref b9), .val (.ref sr_12), .val (.int (5 : Int32)), .val (.int (1 : Int32))] [(.int (p2.toInt8.toInt32)), (.int (3 : Int32)), (.ref sr_12)])) ?_ (fun tX kX => XS.iload X15.here hx rfl (hb hby at_186) rfl kX)
    obtain ⟨_, _, ⟨T16, L16, k16, n16⟩, -, X16, ⟨Lc16, hQ16, l16, y16, z16⟩, st16⟩ := Jvm.LawKit.callS X15 hx (y := (⟨"com/example/cartouche/cartouche/host/HexFormatPinLaw", "pairAt", "(Ljava/lang/String;IB)Z"⟩ : MethodName)) hown (mvT hZ (hw _ (List.mem_of_getElem? (i := 128) rfl))) (mvT hZ (hw _ (List.mem_of_getElem? (i := 129) rfl))) (mvT hZ (hw _ (List.mem_of_getElem? (i := 130) rfl))) (mvT hZ (hw _ (List.mem_of_getElem? (i := 131) rfl))) (by decide) (backOf (W := 0) (rm22 l Z aV hw [] sr_12 (3 : Int32) (p2.toInt8.toInt32) nb_12 kn_12 (5 : Int32) [(.int (((own_dig (((p1.toInt8.toInt32) >>> ((4 : Int32) &&& 31)) &&& (15 : Int32))).toInt8.toInt32).toInt8.toInt32)), (.int (((own_dig ((p1.toInt8.toInt32) &&& (15 : Int32))).toInt8.toInt32).toInt8.toInt32)), (.int (((32 : Int32).toInt8.toInt32).toInt8.toInt32)), (.int (((own_dig (((p2.toInt8.toInt32) >>> ((4 : Int32) &&& 31)) &&& (15 : Int32))).toInt8.toInt32).toInt8.toInt32)), (.int (((own_dig ((p2.toInt8.toInt32) &&& (15 : Int32))).toInt8.toInt32).toInt8.toInt32))] cs fv (((own_dig (((p2.toInt8.toInt32) >>> ((4 : Int32) &&& 31)) &&& (15 : Int32))).toInt8.toInt32).toInt8.toInt32) (((own_dig ((p2.toInt8.toInt32) &&& (15 : Int32))).toInt8.toInt32).toInt8.toInt32) T12.heap n0 zn12 E_sr_12 F_value_sr_12 F_coder_sr_12 V_nb_12 S_COMPACT_STRINGS S_SIOOBE_FORMATTER hcs hfv ⟨by decide, by decide⟩ rfl ⟨by decide, by decide⟩ rfl (own_hi' _) (own_lo' _)) hZ (hw _ (List.mem_of_getElem? (i := 131) rfl)) (hw _ (List.mem_of_getElem? (i := 130) rfl)) (by decide) (by decide)) (g := (mkF m 188 #[.val (.int p0), .val (.int p1), .val (.int p2), .val (.int p3), .val (.int (2 : Int32)), .val (.int (p1.toInt8.toInt32)), .val (.int (p2.toInt8.toInt32)), .val (.int (p3.toInt8.toInt32)), .val (.ref b9), .val (.ref sr_12), .val (.int (5 : Int32)), .val (.int (1 : Int32))] [(.int (p2.toInt8.toInt32)), (.int (3 : Int32)), (.ref sr_12)])) rfl (by rw [hml]; rfl) (argsL := [(.ref sr_12), (.int (3 : Int32)), (.int (p2.toInt8.toInt32))]) (rest := []) (lenOf pd__Ljava_lang_String_IB_Z rfl) rfl (by show 2 * 0 + _ ≤ _; exact Nat.le_of_eq rfl) (hb hby at_188) (fun _ _ => ⟨rfl, e15, (by decide : 5 + 0 ≤ _), (by decide : 21 + 0 ≤ _)⟩)
    dsimp only [Pt.U, Pt.locs, Pt.cells, Pt.slots] at X16 l16 y16 z16 st16 hQ16
    subst l16 y16 z16
    obtain ⟨rfl, N16q, e16⟩ := hQ16
    have N16 := Fr.app N15 N16q
    refine OGo.go (B := T16.setTop (mkF m 191 #[.val (.int p0), .val (.int p1), .val (.int p2), .val (.int p3), .val (.int (2 : Int32)), .val (.int (p1.toInt8.toInt32)), .val (.int (p2.toInt8.toInt32)), .val (.int (p3.toInt8.toInt32)), .val (.ref b9), .val (.ref sr_12), .val (.int (5 : Int32)), .val (.int (1 : Int32))] [(.int (1 : Int32))])) ?_ st16
    refine OGo.go (B := T16.setTop (mkF m 194 #[.val (.int p0), .val (.int p1), .val (.int p2), .val (.int p3), .val (.int (2 : Int32)), .val (.int (p1.toInt8.toInt32)), .val (.int (p2.toInt8.toInt32)), .val (.int (p3.toInt8.toInt32)), .val (.ref b9), .val (.ref sr_12), .val (.int (5 : Int32)), .val (.int (1 : Int32))] [])) ?_ (fun tX kX => XS.ifNo X16.here hx rfl (hb hby at_191) rfl ((if0 _ _).trans (feq (by decide)).1) kX)
    refine OGo.go (B := T16.setTop (mkF m 195 #[.val (.int p0), .val (.int p1), .val (.int p2), .val (.int p3), .val (.int (2 : Int32)), .val (.int (p1.toInt8.toInt32)), .val (.int (p2.toInt8.toInt32)), .val (.int (p3.toInt8.toInt32)), .val (.ref b9), .val (.ref sr_12), .val (.int (5 : Int32)), .val (.int (1 : Int32))] [(.int (1 : Int32))])) ?_ (fun tX kX => XS.iconst X16.here hx rfl (hb hby at_194) kX)
    refine OGo.go (B := T16.setTop (mkF m 199 #[.val (.int p0), .val (.int p1), .val (.int p2), .val (.int p3), .val (.int (2 : Int32)), .val (.int (p1.toInt8.toInt32)), .val (.int (p2.toInt8.toInt32)), .val (.int (p3.toInt8.toInt32)), .val (.ref b9), .val (.ref sr_12), .val (.int (5 : Int32)), .val (.int (1 : Int32))] [(.int (1 : Int32))])) ?_ (fun tX kX => XS.goto X16.here hx rfl (pc0 := 195) (pc' := 199) rfl (hb hby at_195) (by decide) (by decide) kX)
    refine OGo.go (B := T16.setTop (mkF m 201 #[.val (.int p0), .val (.int p1), .val (.int p2), .val (.int p3), .val (.int (2 : Int32)), .val (.int (p1.toInt8.toInt32)), .val (.int (p2.toInt8.toInt32)), .val (.int (p3.toInt8.toInt32)), .val (.ref b9), .val (.ref sr_12), .val (.int (5 : Int32)), .val (.int (1 : Int32))] [])) ?_ (fun tX kX => XS.istore X16.here hx rfl (hb hby at_199) rfl (l' := #[.val (.int p0), .val (.int p1), .val (.int p2), .val (.int p3), .val (.int (2 : Int32)), .val (.int (p1.toInt8.toInt32)), .val (.int (p2.toInt8.toInt32)), .val (.int (p3.toInt8.toInt32)), .val (.ref b9), .val (.ref sr_12), .val (.int (5 : Int32)), .val (.int (1 : Int32))]) rfl kX)
    refine OGo.go (B := T16.setTop (mkF m 203 #[.val (.int p0), .val (.int p1), .val (.int p2), .val (.int p3), .val (.int (2 : Int32)), .val (.int (p1.toInt8.toInt32)), .val (.int (p2.toInt8.toInt32)), .val (.int (p3.toInt8.toInt32)), .val (.ref b9), .val (.ref sr_12), .val (.int (5 : Int32)), .val (.int (1 : Int32))] [(.int (2 : Int32))])) ?_ (fun tX kX => XS.iload X16.here hx rfl (hb hby at_201) rfl kX)
    refine OGo.go (B := T16.setTop (mkF m 204 #[.val (.int p0), .val (.int p1), .val (.int p2), .val (.int p3), .val (.int (2 : Int32)), .val (.int (p1.toInt8.toInt32)), .val (.int (p2.toInt8.toInt32)), .val (.int (p3.toInt8.toInt32)), .val (.ref b9), .val (.ref sr_12), .val (.int (5 : Int32)), .val (.int (1 : Int32))] [(.int (3 : Int32)), (.int (2 : Int32))])) ?_ (fun tX kX => XS.iconst X16.here hx rfl (hb hby at_203) kX)
    refine OGo.go (B := T16.setTop (mkF m 242 #[.val (.int p0), .val (.int p1), .val (.int p2), .val (.int p3), .val (.int (2 : Int32)), .val (.int (p1.toInt8.toInt32)), .val (.int (p2.toInt8.toInt32)), .val (.int (p3.toInt8.toInt32)), .val (.ref b9), .val (.ref sr_12), .val (.int (5 : Int32)), .val (.int (1 : Int32))] [])) ?_ (fun tX kX => XS.icmpYes X16.here hx rfl (pc0 := 204) (pc' := 242) rfl (hb hby at_204) rfl (tlt (by decide)).1 (by decide) (by decide) kX)
    refine OGo.go (B := T16.setTop (mkF m 244 #[.val (.int p0), .val (.int p1), .val (.int p2), .val (.int p3), .val (.int (2 : Int32)), .val (.int (p1.toInt8.toInt32)), .val (.int (p2.toInt8.toInt32)), .val (.int (p3.toInt8.toInt32)), .val (.ref b9), .val (.ref sr_12), .val (.int (5 : Int32)), .val (.int (1 : Int32))] [(.int (1 : Int32))])) ?_ (fun tX kX => XS.iload X16.here hx rfl (hb hby at_242) rfl kX)
    refine OGo.ret X16 (v := (some (.int (1 : Int32)))) (fun h => by rw [Bd.returns] at h; cases h) (BodyLoose.notSynchronized Bd) (fun fs hr => retN X16 hx (t := .boolean) (z := (1 : Int32)) Bd.returns (by simp) (hb hby at_244) hr) (Q := Q0 Z p0 p1 p2 p3 cs fv ud kd h0 n0) ?_ (by decide) (by decide)
    show Q0 Z p0 p1 p2 p3 cs fv ud kd h0 n0 _ T16.heap _
    rw [e16]
    exact ⟨rfl, N16⟩
  ·
    rw [h4]
    refine OGo.go (B := s₁.setTop (mkF m 19 #[.val (.int p0), .val (.int p1), .val (.int p2), .val (.int p3), .val (.int (3 : Int32)), .val (.int (p1.toInt8.toInt32)), .val (.int (p2.toInt8.toInt32)), .val (.int (p3.toInt8.toInt32)), .unset, .unset, .unset, .unset] [(.int (3 : Int32))])) ?_ (fun tX kX => XS.iload X0.here hx rfl (hb hby at_17) rfl kX)
    refine OGo.go (B := s₁.setTop (mkF m 30 #[.val (.int p0), .val (.int p1), .val (.int p2), .val (.int p3), .val (.int (3 : Int32)), .val (.int (p1.toInt8.toInt32)), .val (.int (p2.toInt8.toInt32)), .val (.int (p3.toInt8.toInt32)), .unset, .unset, .unset, .unset] [])) ?_ (fun tX kX => XS.ifYes X0.here hx rfl (pc0 := 19) (pc' := 30) rfl (hb hby at_19) rfl ((if0 _ _).trans (feq (by decide)).2) (by decide) (by decide) kX)
    refine OGo.go (B := s₁.setTop (mkF m 32 #[.val (.int p0), .val (.int p1), .val (.int p2), .val (.int p3), .val (.int (3 : Int32)), .val (.int (p1.toInt8.toInt32)), .val (.int (p2.toInt8.toInt32)), .val (.int (p3.toInt8.toInt32)), .unset, .unset, .unset, .unset] [(.int (3 : Int32))])) ?_ (fun tX kX => XS.iload X0.here hx rfl (hb hby at_30) rfl kX)
    refine OGo.go (B := s₁.setTop (mkF m 33 #[.val (.int p0), .val (.int p1), .val (.int p2), .val (.int p3), .val (.int (3 : Int32)), .val (.int (p1.toInt8.toInt32)), .val (.int (p2.toInt8.toInt32)), .val (.int (p3.toInt8.toInt32)), .unset, .unset, .unset, .unset] [(.int (1 : Int32)), (.int (3 : Int32))])) ?_ (fun tX kX => XS.iconst X0.here hx rfl (hb hby at_32) kX)
    refine OGo.go (B := s₁.setTop (mkF m 49 #[.val (.int p0), .val (.int p1), .val (.int p2), .val (.int p3), .val (.int (3 : Int32)), .val (.int (p1.toInt8.toInt32)), .val (.int (p2.toInt8.toInt32)), .val (.int (p3.toInt8.toInt32)), .unset, .unset, .unset, .unset] [])) ?_ (fun tX kX => XS.icmpYes X0.here hx rfl (pc0 := 33) (pc' := 49) rfl (hb hby at_33) rfl (feq (by decide)).2 (by decide) (by decide) kX)
    refine OGo.go (B := s₁.setTop (mkF m 51 #[.val (.int p0), .val (.int p1), .val (.int p2), .val (.int p3), .val (.int (3 : Int32)), .val (.int (p1.toInt8.toInt32)), .val (.int (p2.toInt8.toInt32)), .val (.int (p3.toInt8.toInt32)), .unset, .unset, .unset, .unset] [(.int (3 : Int32))])) ?_ (fun tX kX => XS.iload X0.here hx rfl (hb hby at_49) rfl kX)
    refine OGo.go (B := s₁.setTop (mkF m 52 #[.val (.int p0), .val (.int p1), .val (.int p2), .val (.int p3), .val (.int (3 : Int32)), .val (.int (p1.toInt8.toInt32)), .val (.int (p2.toInt8.toInt32)), .val (.int (p3.toInt8.toInt32)), .unset, .unset, .unset, .unset] [(.int (2 : Int32)), (.int (3 : Int32))])) ?_ (fun tX kX => XS.iconst X0.here hx rfl (hb hby at_51) kX)
    refine OGo.go (B := s₁.setTop (mkF m 73 #[.val (.int p0), .val (.int p1), .val (.int p2), .val (.int p3), .val (.int (3 : Int32)), .val (.int (p1.toInt8.toInt32)), .val (.int (p2.toInt8.toInt32)), .val (.int (p3.toInt8.toInt32)), .unset, .unset, .unset, .unset] [])) ?_ (fun tX kX => XS.icmpYes X0.here hx rfl (pc0 := 52) (pc' := 73) rfl (hb hby at_52) rfl (feq (by decide)).2 (by decide) (by decide) kX)
    refine OGo.go (B := s₁.setTop (mkF m 74 #[.val (.int p0), .val (.int p1), .val (.int p2), .val (.int p3), .val (.int (3 : Int32)), .val (.int (p1.toInt8.toInt32)), .val (.int (p2.toInt8.toInt32)), .val (.int (p3.toInt8.toInt32)), .unset, .unset, .unset, .unset] [(.int (3 : Int32))])) ?_ (fun tX kX => XS.iconst X0.here hx rfl (hb hby at_73) kX)
    obtain ⟨T17, h17, k17, X17, e17, E17, A17, EA17, st17⟩ := newPE X0 hx hZ (hw _ (List.mem_of_getElem? (i := 0) rfl)) e0 (g := (mkF m 74 #[.val (.int p0), .val (.int p1), .val (.int p2), .val (.int p3), .val (.int (3 : Int32)), .val (.int (p1.toInt8.toInt32)), .val (.int (p2.toInt8.toInt32)), .val (.int (p3.toInt8.toInt32)), .unset, .unset, .unset, .unset] [(.int (3 : Int32))])) rfl (hb hby at_74) rfl (by decide) (cap := 3) (by decide) (by decide) (by decide) (by decide) (ad := "[B") (by decide)
    obtain ⟨b17, g17⟩ : ∃ z, z = h0.size := ⟨_, rfl⟩
    rw [← g17] at A17 EA17 st17
    have ne_ud_b17 : ud ≠ b17 := Nat.ne_of_lt (Nat.lt_of_lt_of_le V_ud.lt (Nat.le_of_eq g17.symm))
    have S_COMPACT_STRINGS := S_COMPACT_STRINGS.ext E17
    have S_SIOOBE_FORMATTER := S_SIOOBE_FORMATTER.ext E17
    have S_DIGITS := S_DIGITS.ext E17
    have V_ud := V_ud.ext E17
    have g_b17 : n0 ≤ b17 := Nat.le_trans Z0 (Nat.le_of_eq g17.symm)
    have sz_b17 : h0.size ≤ b17 := Nat.le_trans K0.1 (Nat.le_of_eq g17.symm)
    have zn17 : n0 ≤ h17.size := Nat.le_trans Z0 E17.1
    have K17 := K0.ext E17
    have E_b17 := EA17
    have V_b17 : Arv Z h17 b17 k17 .byte (3 : Int32) [(.int (0 : Int32)), (.int (0 : Int32)), (.int (0 : Int32))] (.int (0 : Int32)) := (Arv.new A17 (by decide)).pad (pad_rep [] (.int (0 : Int32)) 3)
    refine OGo.go (B := T17.setTop (mkF m 76 #[.val (.int p0), .val (.int p1), .val (.int p2), .val (.int p3), .val (.int (3 : Int32)), .val (.int (p1.toInt8.toInt32)), .val (.int (p2.toInt8.toInt32)), .val (.int (p3.toInt8.toInt32)), .unset, .unset, .unset, .unset] [(.ref b17)])) ?_ st17
    refine OGo.go (B := T17.setTop (mkF m 77 #[.val (.int p0), .val (.int p1), .val (.int p2), .val (.int p3), .val (.int (3 : Int32)), .val (.int (p1.toInt8.toInt32)), .val (.int (p2.toInt8.toInt32)), .val (.int (p3.toInt8.toInt32)), .unset, .unset, .unset, .unset] [(.ref b17), (.ref b17)])) ?_ (fun tX kX => XS.dup X17.here hx rfl (hb hby at_76) rfl rfl kX)
    refine OGo.go (B := T17.setTop (mkF m 78 #[.val (.int p0), .val (.int p1), .val (.int p2), .val (.int p3), .val (.int (3 : Int32)), .val (.int (p1.toInt8.toInt32)), .val (.int (p2.toInt8.toInt32)), .val (.int (p3.toInt8.toInt32)), .unset, .unset, .unset, .unset] [(.int (0 : Int32)), (.ref b17), (.ref b17)])) ?_ (fun tX kX => XS.iconst X17.here hx rfl (hb hby at_77) kX)
    refine OGo.go (B := T17.setTop (mkF m 80 #[.val (.int p0), .val (.int p1), .val (.int p2), .val (.int p3), .val (.int (3 : Int32)), .val (.int (p1.toInt8.toInt32)), .val (.int (p2.toInt8.toInt32)), .val (.int (p3.toInt8.toInt32)), .unset, .unset, .unset, .unset] [(.int (p1.toInt8.toInt32)), (.int (0 : Int32)), (.ref b17), (.ref b17)])) ?_ (fun tX kX => XS.iload X17.here hx rfl (hb hby at_78) rfl kX)
    obtain ⟨cl18, Ar18, qa18, S18, N18', H18, G18⟩ := id V_b17
    have hin18 := inb_of (j := (0 : Int32)) S18 ⟨by decide, by decide⟩
    obtain ⟨T18, h18, X18, e18, W18, st18⟩ := stB X17 hx hZ e17 Ar18 (j := (0 : Int32)) hin18 (g := (mkF m 80 #[.val (.int p0), .val (.int p1), .val (.int p2), .val (.int p3), .val (.int (3 : Int32)), .val (.int (p1.toInt8.toInt32)), .val (.int (p2.toInt8.toInt32)), .val (.int (p3.toInt8.toInt32)), .unset, .unset, .unset, .unset] [(.int (p1.toInt8.toInt32)), (.int (0 : Int32)), (.ref b17), (.ref b17)])) rfl rfl (hb hby at_80)
    have V_b17_18 := Arv.set Ar18 qa18 S18 N18' H18 G18 (fits_nar_byte _) W18 0 rfl (Nat.le_of_ble_eq_true rfl)
    have S_COMPACT_STRINGS := S_COMPACT_STRINGS.wr W18
    have S_SIOOBE_FORMATTER := S_SIOOBE_FORMATTER.wr W18
    have S_DIGITS := S_DIGITS.wr W18
    have V_ud := V_ud.other W18 ne_ud_b17
    have E_b17 := E_b17.wr W18
    have K18 := K17.wr W18 (Or.inr sz_b17)
    have zn18 : n0 ≤ h18.size := Nat.le_trans zn17 (Keep.of_wr W18).1
    have N18 := Fr.snoc X18 N0 g_b17
    have V_b17 : Arv Z h18 b17 k17 .byte (3 : Int32) [(.int ((p1.toInt8.toInt32).toInt8.toInt32)), (.int (0 : Int32)), (.int (0 : Int32))] (.int (0 : Int32)) := V_b17_18
    refine OGo.go (B := T18.setTop (mkF m 81 #[.val (.int p0), .val (.int p1), .val (.int p2), .val (.int p3), .val (.int (3 : Int32)), .val (.int (p1.toInt8.toInt32)), .val (.int (p2.toInt8.toInt32)), .val (.int (p3.toInt8.toInt32)), .unset, .unset, .unset, .unset] [(.ref b17)])) ?_ st18
    refine OGo.go (B := T18.setTop (mkF m 82 #[.val (.int p0), .val (.int p1), .val (.int p2), .val (.int p3), .val (.int (3 : Int32)), .val (.int (p1.toInt8.toInt32)), .val (.int (p2.toInt8.toInt32)), .val (.int (p3.toInt8.toInt32)), .unset, .unset, .unset, .unset] [(.ref b17), (.ref b17)])) ?_ (fun tX kX => XS.dup X18.here hx rfl (hb hby at_81) rfl rfl kX)
    refine OGo.go (B := T18.setTop (mkF m 83 #[.val (.int p0), .val (.int p1), .val (.int p2), .val (.int p3), .val (.int (3 : Int32)), .val (.int (p1.toInt8.toInt32)), .val (.int (p2.toInt8.toInt32)), .val (.int (p3.toInt8.toInt32)), .unset, .unset, .unset, .unset] [(.int (1 : Int32)), (.ref b17), (.ref b17)])) ?_ (fun tX kX => XS.iconst X18.here hx rfl (hb hby at_82) kX)
    refine OGo.go (B := T18.setTop (mkF m 85 #[.val (.int p0), .val (.int p1), .val (.int p2), .val (.int p3), .val (.int (3 : Int32)), .val (.int (p1.toInt8.toInt32)), .val (.int (p2.toInt8.toInt32)), .val (.int (p3.toInt8.toInt32)), .unset, .unset, .unset, .unset] [(.int (p2.toInt8.toInt32)), (.int (1 : Int32)), (.ref b17), (.ref b17)])) ?_ (fun tX kX => XS.iload X18.here hx rfl (hb hby at_83) rfl kX)
    obtain ⟨cl19, Ar19, qa19, S19, N19', H19, G19⟩ := id V_b17
    have hin19 := inb_of (j := (1 : Int32)) S19 ⟨by decide, by decide⟩
    obtain ⟨T19, h19, X19, e19, W19, st19⟩ := stB X18 hx hZ e18 Ar19 (j := (1 : Int32)) hin19 (g := (mkF m 85 #[.val (.int p0), .val (.int p1), .val (.int p2), .val (.int p3), .val (.int (3 : Int32)), .val (.int (p1.toInt8.toInt32)), .val (.int (p2.toInt8.toInt32)), .val (.int (p3.toInt8.toInt32)), .unset, .unset, .unset, .unset] [(.int (p2.toInt8.toInt32)), (.int (1 : Int32)), (.ref b17), (.ref b17)])) rfl rfl (hb hby at_85)
    have V_b17_19 := Arv.set Ar19 qa19 S19 N19' H19 G19 (fits_nar_byte _) W19 1 rfl (Nat.le_of_ble_eq_true rfl)
    have S_COMPACT_STRINGS := S_COMPACT_STRINGS.wr W19
    have S_SIOOBE_FORMATTER := S_SIOOBE_FORMATTER.wr W19
    have S_DIGITS := S_DIGITS.wr W19
    have V_ud := V_ud.other W19 ne_ud_b17
    have E_b17 := E_b17.wr W19
    have K19 := K18.wr W19 (Or.inr sz_b17)
    have zn19 : n0 ≤ h19.size := Nat.le_trans zn18 (Keep.of_wr W19).1
    have N19 := Fr.snoc X19 N18 g_b17
    have V_b17 : Arv Z h19 b17 k17 .byte (3 : Int32) [(.int ((p1.toInt8.toInt32).toInt8.toInt32)), (.int ((p2.toInt8.toInt32).toInt8.toInt32)), (.int (0 : Int32))] (.int (0 : Int32)) := V_b17_19
    refine OGo.go (B := T19.setTop (mkF m 86 #[.val (.int p0), .val (.int p1), .val (.int p2), .val (.int p3), .val (.int (3 : Int32)), .val (.int (p1.toInt8.toInt32)), .val (.int (p2.toInt8.toInt32)), .val (.int (p3.toInt8.toInt32)), .unset, .unset, .unset, .unset] [(.ref b17)])) ?_ st19
    refine OGo.go (B := T19.setTop (mkF m 87 #[.val (.int p0), .val (.int p1), .val (.int p2), .val (.int p3), .val (.int (3 : Int32)), .val (.int (p1.toInt8.toInt32)), .val (.int (p2.toInt8.toInt32)), .val (.int (p3.toInt8.toInt32)), .unset, .unset, .unset, .unset] [(.ref b17), (.ref b17)])) ?_ (fun tX kX => XS.dup X19.here hx rfl (hb hby at_86) rfl rfl kX)
    refine OGo.go (B := T19.setTop (mkF m 88 #[.val (.int p0), .val (.int p1), .val (.int p2), .val (.int p3), .val (.int (3 : Int32)), .val (.int (p1.toInt8.toInt32)), .val (.int (p2.toInt8.toInt32)), .val (.int (p3.toInt8.toInt32)), .unset, .unset, .unset, .unset] [(.int (2 : Int32)), (.ref b17), (.ref b17)])) ?_ (fun tX kX => XS.iconst X19.here hx rfl (hb hby at_87) kX)
    refine OGo.go (B := T19.setTop (mkF m 90 #[.val (.int p0), .val (.int p1), .val (.int p2), .val (.int p3), .val (.int (3 : Int32)), .val (.int (p1.toInt8.toInt32)), .val (.int (p2.toInt8.toInt32)), .val (.int (p3.toInt8.toInt32)), .unset, .unset, .unset, .unset] [(.int (p3.toInt8.toInt32)), (.int (2 : Int32)), (.ref b17), (.ref b17)])) ?_ (fun tX kX => XS.iload X19.here hx rfl (hb hby at_88) rfl kX)
    obtain ⟨cl20, Ar20, qa20, S20, N20', H20, G20⟩ := id V_b17
    have hin20 := inb_of (j := (2 : Int32)) S20 ⟨by decide, by decide⟩
    obtain ⟨T20, h20, X20, e20, W20, st20⟩ := stB X19 hx hZ e19 Ar20 (j := (2 : Int32)) hin20 (g := (mkF m 90 #[.val (.int p0), .val (.int p1), .val (.int p2), .val (.int p3), .val (.int (3 : Int32)), .val (.int (p1.toInt8.toInt32)), .val (.int (p2.toInt8.toInt32)), .val (.int (p3.toInt8.toInt32)), .unset, .unset, .unset, .unset] [(.int (p3.toInt8.toInt32)), (.int (2 : Int32)), (.ref b17), (.ref b17)])) rfl rfl (hb hby at_90)
    have V_b17_20 := Arv.set Ar20 qa20 S20 N20' H20 G20 (fits_nar_byte _) W20 2 rfl (Nat.le_of_ble_eq_true rfl)
    have S_COMPACT_STRINGS := S_COMPACT_STRINGS.wr W20
    have S_SIOOBE_FORMATTER := S_SIOOBE_FORMATTER.wr W20
    have S_DIGITS := S_DIGITS.wr W20
    have V_ud := V_ud.other W20 ne_ud_b17
    have E_b17 := E_b17.wr W20
    have K20 := K19.wr W20 (Or.inr sz_b17)
    have zn20 : n0 ≤ h20.size := Nat.le_trans zn19 (Keep.of_wr W20).1
    have N20 := Fr.snoc X20 N19 g_b17
    have V_b17 : Arv Z h20 b17 k17 .byte (3 : Int32) [(.int ((p1.toInt8.toInt32).toInt8.toInt32)), (.int ((p2.toInt8.toInt32).toInt8.toInt32)), (.int ((p3.toInt8.toInt32).toInt8.toInt32))] (.int (0 : Int32)) := V_b17_20
    refine OGo.go (B := T20.setTop (mkF m 91 #[.val (.int p0), .val (.int p1), .val (.int p2), .val (.int p3), .val (.int (3 : Int32)), .val (.int (p1.toInt8.toInt32)), .val (.int (p2.toInt8.toInt32)), .val (.int (p3.toInt8.toInt32)), .unset, .unset, .unset, .unset] [(.ref b17)])) ?_ st20
    refine OGo.go (B := T20.setTop (mkF m 93 #[.val (.int p0), .val (.int p1), .val (.int p2), .val (.int p3), .val (.int (3 : Int32)), .val (.int (p1.toInt8.toInt32)), .val (.int (p2.toInt8.toInt32)), .val (.int (p3.toInt8.toInt32)), .val (.ref b17), .unset, .unset, .unset] [])) ?_ (fun tX kX => XS.astore X20.here hx rfl (hb hby at_91) rfl rfl (l' := #[.val (.int p0), .val (.int p1), .val (.int p2), .val (.int p3), .val (.int (3 : Int32)), .val (.int (p1.toInt8.toInt32)), .val (.int (p2.toInt8.toInt32)), .val (.int (p3.toInt8.toInt32)), .val (.ref b17), .unset, .unset, .unset]) rfl kX)
    have V_b17 : Arv Z h20 b17 k17 .byte (3 : Int32) [(.int (p1.toInt8.toInt32)), (.int (p2.toInt8.toInt32)), (.int (p3.toInt8.toInt32))] (.int (0 : Int32)) := by simpa only [own_ii] using V_b17
    refine OGo.go (B := T20.setTop (mkF m 95 #[.val (.int p0), .val (.int p1), .val (.int p2), .val (.int p3), .val (.int (3 : Int32)), .val (.int (p1.toInt8.toInt32)), .val (.int (p2.toInt8.toInt32)), .val (.int (p3.toInt8.toInt32)), .val (.ref b17), .unset, .unset, .unset] [(.ref b17)])) ?_ (fun tX kX => XS.aload X20.here hx rfl (hb hby at_93) rfl rfl kX)
    obtain ⟨_, _, ⟨T21, L21, k21, n21⟩, -, X21, ⟨Lc21, hQ21, l21, y21, z21⟩, st21⟩ := Jvm.LawKit.callS X20 hx (y := (⟨"com/example/cartouche/cartouche/host/Hex", "format", "([B)Ljava/lang/String;"⟩ : MethodName)) hown (mvT hZ (hw _ (List.mem_of_getElem? (i := 1) rfl))) (mvT hZ (hw _ (List.mem_of_getElem? (i := 2) rfl))) (mvT hZ (hw _ (List.mem_of_getElem? (i := 3) rfl))) (mvT hZ (hw _ (List.mem_of_getElem? (i := 4) rfl))) (by decide) (backOf (W := 0) (rm1n3 l Z aV hw [] b17 k17 cs ud kd (p1.toInt8.toInt32) (p2.toInt8.toInt32) (p3.toInt8.toInt32) h20 n0 zn20 V_b17 S_COMPACT_STRINGS S_DIGITS V_ud hcs) hZ (hw _ (List.mem_of_getElem? (i := 4) rfl)) (hw _ (List.mem_of_getElem? (i := 3) rfl)) (by decide) (by decide)) (g := (mkF m 95 #[.val (.int p0), .val (.int p1), .val (.int p2), .val (.int p3), .val (.int (3 : Int32)), .val (.int (p1.toInt8.toInt32)), .val (.int (p2.toInt8.toInt32)), .val (.int (p3.toInt8.toInt32)), .val (.ref b17), .unset, .unset, .unset] [(.ref b17)])) rfl (by rw [hml]; rfl) (argsL := [(.ref b17)]) (rest := []) (lenOf pd___B_Ljava_lang_String_ rfl) rfl (by show 2 * 0 + _ ≤ _; exact Nat.le_of_eq rfl) (hb hby at_95) (fun _ _ => ⟨rfl, e20, (by decide : 1 + 4 ≤ _), (by decide : 3 + 25 ≤ _)⟩)
    dsimp only [Pt.U, Pt.locs, Pt.cells, Pt.slots] at X21 l21 y21 z21 st21 hQ21
    subst l21 y21 z21
    obtain ⟨sr_21, nb_21, kn_21, rfl, N21q, Kq21, sz21_sr, sz21_nb, E_sr_21_p, F_value_sr_21_p, F_coder_sr_21_p, E_nb_21_p, V_nb_21_p⟩ := hQ21
    have N21 := Fr.app N20 N21q
    have ne_ud_sr_21 : ud ≠ sr_21 := Nat.ne_of_lt (Nat.lt_of_lt_of_le V_ud.lt sz21_sr)
    have ne_b17_sr_21 : b17 ≠ sr_21 := Nat.ne_of_lt (Nat.lt_of_lt_of_le E_b17.lt sz21_sr)
    have ne_ud_nb_21 : ud ≠ nb_21 := Nat.ne_of_lt (Nat.lt_of_lt_of_le V_ud.lt sz21_nb)
    have ne_b17_nb_21 : b17 ≠ nb_21 := Nat.ne_of_lt (Nat.lt_of_lt_of_le E_b17.lt sz21_nb)
    have S_COMPACT_STRINGS := Sta.keep0 S_COMPACT_STRINGS Kq21
    have S_SIOOBE_FORMATTER := Sta.keep0 S_SIOOBE_FORMATTER Kq21
    have S_DIGITS := Sta.keep0 S_DIGITS Kq21
    have V_ud := V_ud.keep Kq21 nin0
    have E_b17 := E_b17.keep Kq21
    have V_b17 := V_b17.keep Kq21 nin0
    have g_sr_21 : n0 ≤ sr_21 := Nat.le_trans zn20 sz21_sr
    have sz_sr_21 : h0.size ≤ sr_21 := Nat.le_trans K20.1 sz21_sr
    have g_nb_21 : n0 ≤ nb_21 := Nat.le_trans zn20 sz21_nb
    have sz_nb_21 : h0.size ≤ nb_21 := Nat.le_trans K20.1 sz21_nb
    have K21 := K20.trans Kq21 all0
    have zn21 : n0 ≤ T21.heap.size := Nat.le_trans zn20 Kq21.1
    have E_sr_21 := E_sr_21_p
    have F_value_sr_21 := F_value_sr_21_p
    have F_coder_sr_21 := F_coder_sr_21_p
    have E_nb_21 := E_nb_21_p
    have V_nb_21 := V_nb_21_p
    refine OGo.go (B := T21.setTop (mkF m 98 #[.val (.int p0), .val (.int p1), .val (.int p2), .val (.int p3), .val (.int (3 : Int32)), .val (.int (p1.toInt8.toInt32)), .val (.int (p2.toInt8.toInt32)), .val (.int (p3.toInt8.toInt32)), .val (.ref b17), .unset, .unset, .unset] [(.ref sr_21)])) ?_ st21
    refine OGo.go (B := T21.setTop (mkF m 100 #[.val (.int p0), .val (.int p1), .val (.int p2), .val (.int p3), .val (.int (3 : Int32)), .val (.int (p1.toInt8.toInt32)), .val (.int (p2.toInt8.toInt32)), .val (.int (p3.toInt8.toInt32)), .val (.ref b17), .val (.ref sr_21), .unset, .unset] [])) ?_ (fun tX kX => XS.astore X21.here hx rfl (hb hby at_98) rfl rfl (l' := #[.val (.int p0), .val (.int p1), .val (.int p2), .val (.int p3), .val (.int (3 : Int32)), .val (.int (p1.toInt8.toInt32)), .val (.int (p2.toInt8.toInt32)), .val (.int (p3.toInt8.toInt32)), .val (.ref b17), .val (.ref sr_21), .unset, .unset]) rfl kX)
    refine OGo.go (B := T21.setTop (mkF m 102 #[.val (.int p0), .val (.int p1), .val (.int p2), .val (.int p3), .val (.int (3 : Int32)), .val (.int (p1.toInt8.toInt32)), .val (.int (p2.toInt8.toInt32)), .val (.int (p3.toInt8.toInt32)), .val (.ref b17), .val (.ref sr_21), .unset, .unset] [(.int (3 : Int32))])) ?_ (fun tX kX => XS.iload X21.here hx rfl (hb hby at_100) rfl kX)
    refine OGo.go (B := T21.setTop (mkF m 109 #[.val (.int p0), .val (.int p1), .val (.int p2), .val (.int p3), .val (.int (3 : Int32)), .val (.int (p1.toInt8.toInt32)), .val (.int (p2.toInt8.toInt32)), .val (.int (p3.toInt8.toInt32)), .val (.ref b17), .val (.ref sr_21), .unset, .unset] [])) ?_ (fun tX kX => XS.ifYes X21.here hx rfl (pc0 := 102) (pc' := 109) rfl (hb hby at_102) rfl ((if0 _ _).trans (feq (by decide)).2) (by decide) (by decide) kX)
    refine OGo.go (B := T21.setTop (mkF m 110 #[.val (.int p0), .val (.int p1), .val (.int p2), .val (.int p3), .val (.int (3 : Int32)), .val (.int (p1.toInt8.toInt32)), .val (.int (p2.toInt8.toInt32)), .val (.int (p3.toInt8.toInt32)), .val (.ref b17), .val (.ref sr_21), .unset, .unset] [(.int (3 : Int32))])) ?_ (fun tX kX => XS.iconst X21.here hx rfl (hb hby at_109) kX)
    refine OGo.go (B := T21.setTop (mkF m 112 #[.val (.int p0), .val (.int p1), .val (.int p2), .val (.int p3), .val (.int (3 : Int32)), .val (.int (p1.toInt8.toInt32)), .val (.int (p2.toInt8.toInt32)), .val (.int (p3.toInt8.toInt32)), .val (.ref b17), .val (.ref sr_21), .unset, .unset] [(.int (3 : Int32)), (.int (3 : Int32))])) ?_ (fun tX kX => XS.iload X21.here hx rfl (hb hby at_110) rfl kX)
    refine OGo.go (B := T21.setTop (mkF m 113 #[.val (.int p0), .val (.int p1), .val (.int p2), .val (.int p3), .val (.int (3 : Int32)), .val (.int (p1.toInt8.toInt32)), .val (.int (p2.toInt8.toInt32)), .val (.int (p3.toInt8.toInt32)), .val (.ref b17), .val (.ref sr_21), .unset, .unset] [(.int (9 : Int32))])) ?_ (fun tX kX => XS.imul X21.here hx rfl (hb hby at_112) rfl kX)
    refine OGo.go (B := T21.setTop (mkF m 114 #[.val (.int p0), .val (.int p1), .val (.int p2), .val (.int p3), .val (.int (3 : Int32)), .val (.int (p1.toInt8.toInt32)), .val (.int (p2.toInt8.toInt32)), .val (.int (p3.toInt8.toInt32)), .val (.ref b17), .val (.ref sr_21), .unset, .unset] [(.int (1 : Int32)), (.int (9 : Int32))])) ?_ (fun tX kX => XS.iconst X21.here hx rfl (hb hby at_113) kX)
    refine OGo.go (B := T21.setTop (mkF m 115 #[.val (.int p0), .val (.int p1), .val (.int p2), .val (.int p3), .val (.int (3 : Int32)), .val (.int (p1.toInt8.toInt32)), .val (.int (p2.toInt8.toInt32)), .val (.int (p3.toInt8.toInt32)), .val (.ref b17), .val (.ref sr_21), .unset, .unset] [(.int (8 : Int32))])) ?_ (fun tX kX => XS.isub X21.here hx rfl (hb hby at_114) rfl kX)
    refine OGo.go (B := T21.setTop (mkF m 117 #[.val (.int p0), .val (.int p1), .val (.int p2), .val (.int p3), .val (.int (3 : Int32)), .val (.int (p1.toInt8.toInt32)), .val (.int (p2.toInt8.toInt32)), .val (.int (p3.toInt8.toInt32)), .val (.ref b17), .val (.ref sr_21), .val (.int (8 : Int32)), .unset] [])) ?_ (fun tX kX => XS.istore X21.here hx rfl (hb hby at_115) rfl (l' := #[.val (.int p0), .val (.int p1), .val (.int p2), .val (.int p3), .val (.int (3 : Int32)), .val (.int (p1.toInt8.toInt32)), .val (.int (p2.toInt8.toInt32)), .val (.int (p3.toInt8.toInt32)), .val (.ref b17), .val (.ref sr_21), .val (.int (8 : Int32)), .unset]) rfl kX)
    refine OGo.go (B := T21.setTop (mkF m 119 #[.val (.int p0), .val (.int p1), .val (.int p2), .val (.int p3), .val (.int (3 : Int32)), .val (.int (p1.toInt8.toInt32)), .val (.int (p2.toInt8.toInt32)), .val (.int (p3.toInt8.toInt32)), .val (.ref b17), .val (.ref sr_21), .val (.int (8 : Int32)), .unset] [(.ref sr_21)])) ?_ (fun tX kX => XS.aload X21.here hx rfl (hb hby at_117) rfl rfl kX)
    obtain ⟨cq22, kq22, q22a, q22b, q22c⟩ := isOf hZ rfl E_sr_21
    obtain ⟨_, _, ⟨T22, L22, k22, n22⟩, -, X22, ⟨Lc22, hQ22, l22, y22, z22⟩, st22⟩ := X21.virtualBack hx (y := (⟨"java/lang/String", "length", "()I"⟩ : MethodName)) (z := (⟨"java/lang/String", "length", "()I"⟩ : MethodName)) hown (mvT hZ (hw _ (List.mem_of_getElem? (i := 79) rfl))) (mvT hZ (hw _ (List.mem_of_getElem? (i := 80) rfl))) (notFace_of_selects (args := #[]) (mvT hZ (hw _ (List.mem_of_getElem? (i := 82) rfl)))) (mvT hZ (hw _ (List.mem_of_getElem? (i := 82) rfl))) (mvT hZ (hw _ (List.mem_of_getElem? (i := 81) rfl))) (by decide) (backOf (W := 0) (rm13 l Z aV hw [] sr_21 nb_21 kn_21 (8 : Int32) [(.int (((own_dig (((p1.toInt8.toInt32) >>> ((4 : Int32) &&& 31)) &&& (15 : Int32))).toInt8.toInt32).toInt8.toInt32)), (.int (((own_dig ((p1.toInt8.toInt32) &&& (15 : Int32))).toInt8.toInt32).toInt8.toInt32)), (.int (((32 : Int32).toInt8.toInt32).toInt8.toInt32)), (.int (((own_dig (((p2.toInt8.toInt32) >>> ((4 : Int32) &&& 31)) &&& (15 : Int32))).toInt8.toInt32).toInt8.toInt32)), (.int (((own_dig ((p2.toInt8.toInt32) &&& (15 : Int32))).toInt8.toInt32).toInt8.toInt32)), (.int (((32 : Int32).toInt8.toInt32).toInt8.toInt32)), (.int (((own_dig (((p3.toInt8.toInt32) >>> ((4 : Int32) &&& 31)) &&& (15 : Int32))).toInt8.toInt32).toInt8.toInt32)), (.int (((own_dig ((p3.toInt8.toInt32) &&& (15 : Int32))).toInt8.toInt32).toInt8.toInt32))] cs T21.heap n0 zn21 E_sr_21 F_value_sr_21 F_coder_sr_21 V_nb_21 S_COMPACT_STRINGS hcs) hZ (hw _ (List.mem_of_getElem? (i := 83) rfl)) (hw _ (List.mem_of_getElem? (i := 21) rfl)) (by decide) (by decide)) q22a q22c (g := (mkF m 119 #[.val (.int p0), .val (.int p1), .val (.int p2), .val (.int p3), .val (.int (3 : Int32)), .val (.int (p1.toInt8.toInt32)), .val (.int (p2.toInt8.toInt32)), .val (.int (p3.toInt8.toInt32)), .val (.ref b17), .val (.ref sr_21), .val (.int (8 : Int32)), .unset] [(.ref sr_21)])) rfl (by rw [hml]; rfl) (Steps.refl _) (argsL := []) (rest := []) (lenOf pd___I rfl) rfl (by show 2 * 0 + _ ≤ _; exact Nat.le_of_eq rfl) (hb hby at_119) (fun _ _ => ⟨rfl, rfl, (by decide : 5 + 0 ≤ _), (by decide : 28 + 0 ≤ _)⟩)
    dsimp only [Pt.U, Pt.locs, Pt.cells, Pt.slots] at X22 l22 y22 z22 st22 hQ22
    subst l22 y22 z22
    obtain ⟨rfl, N22q, e22⟩ := hQ22
    have N22 := Fr.app N21 N22q
    refine OGo.go (B := T22.setTop (mkF m 122 #[.val (.int p0), .val (.int p1), .val (.int p2), .val (.int p3), .val (.int (3 : Int32)), .val (.int (p1.toInt8.toInt32)), .val (.int (p2.toInt8.toInt32)), .val (.int (p3.toInt8.toInt32)), .val (.ref b17), .val (.ref sr_21), .val (.int (8 : Int32)), .unset] [(.int ((8 : Int32) >>> ((0 : Int32) &&& 31)))])) ?_ (fun tX kX => st22.trans kX)
    refine OGo.go (B := T22.setTop (mkF m 124 #[.val (.int p0), .val (.int p1), .val (.int p2), .val (.int p3), .val (.int (3 : Int32)), .val (.int (p1.toInt8.toInt32)), .val (.int (p2.toInt8.toInt32)), .val (.int (p3.toInt8.toInt32)), .val (.ref b17), .val (.ref sr_21), .val (.int (8 : Int32)), .unset] [(.int (8 : Int32)), (.int ((8 : Int32) >>> ((0 : Int32) &&& 31)))])) ?_ (fun tX kX => XS.iload X22.here hx rfl (hb hby at_122) rfl kX)
    refine OGo.go (B := T22.setTop (mkF m 129 #[.val (.int p0), .val (.int p1), .val (.int p2), .val (.int p3), .val (.int (3 : Int32)), .val (.int (p1.toInt8.toInt32)), .val (.int (p2.toInt8.toInt32)), .val (.int (p3.toInt8.toInt32)), .val (.ref b17), .val (.ref sr_21), .val (.int (8 : Int32)), .unset] [])) ?_ (fun tX kX => XS.icmpYes X22.here hx rfl (pc0 := 124) (pc' := 129) rfl (hb hby at_124) rfl (teq (by decide)).1 (by decide) (by decide) kX)
    refine OGo.go (B := T22.setTop (mkF m 130 #[.val (.int p0), .val (.int p1), .val (.int p2), .val (.int p3), .val (.int (3 : Int32)), .val (.int (p1.toInt8.toInt32)), .val (.int (p2.toInt8.toInt32)), .val (.int (p3.toInt8.toInt32)), .val (.ref b17), .val (.ref sr_21), .val (.int (8 : Int32)), .unset] [(.int (1 : Int32))])) ?_ (fun tX kX => XS.iconst X22.here hx rfl (hb hby at_129) kX)
    refine OGo.go (B := T22.setTop (mkF m 132 #[.val (.int p0), .val (.int p1), .val (.int p2), .val (.int p3), .val (.int (3 : Int32)), .val (.int (p1.toInt8.toInt32)), .val (.int (p2.toInt8.toInt32)), .val (.int (p3.toInt8.toInt32)), .val (.ref b17), .val (.ref sr_21), .val (.int (8 : Int32)), .val (.int (1 : Int32))] [])) ?_ (fun tX kX => XS.istore X22.here hx rfl (hb hby at_130) rfl (l' := #[.val (.int p0), .val (.int p1), .val (.int p2), .val (.int p3), .val (.int (3 : Int32)), .val (.int (p1.toInt8.toInt32)), .val (.int (p2.toInt8.toInt32)), .val (.int (p3.toInt8.toInt32)), .val (.ref b17), .val (.ref sr_21), .val (.int (8 : Int32)), .val (.int (1 : Int32))]) rfl kX)
    refine OGo.go (B := T22.setTop (mkF m 134 #[.val (.int p0), .val (.int p1), .val (.int p2), .val (.int p3), .val (.int (3 : Int32)), .val (.int (p1.toInt8.toInt32)), .val (.int (p2.toInt8.toInt32)), .val (.int (p3.toInt8.toInt32)), .val (.ref b17), .val (.ref sr_21), .val (.int (8 : Int32)), .val (.int (1 : Int32))] [(.int (3 : Int32))])) ?_ (fun tX kX => XS.iload X22.here hx rfl (hb hby at_132) rfl kX)
    refine OGo.go (B := T22.setTop (mkF m 135 #[.val (.int p0), .val (.int p1), .val (.int p2), .val (.int p3), .val (.int (3 : Int32)), .val (.int (p1.toInt8.toInt32)), .val (.int (p2.toInt8.toInt32)), .val (.int (p3.toInt8.toInt32)), .val (.ref b17), .val (.ref sr_21), .val (.int (8 : Int32)), .val (.int (1 : Int32))] [(.int (1 : Int32)), (.int (3 : Int32))])) ?_ (fun tX kX => XS.iconst X22.here hx rfl (hb hby at_134) kX)
    refine OGo.go (B := T22.setTop (mkF m 138 #[.val (.int p0), .val (.int p1), .val (.int p2), .val (.int p3), .val (.int (3 : Int32)), .val (.int (p1.toInt8.toInt32)), .val (.int (p2.toInt8.toInt32)), .val (.int (p3.toInt8.toInt32)), .val (.ref b17), .val (.ref sr_21), .val (.int (8 : Int32)), .val (.int (1 : Int32))] [])) ?_ (fun tX kX => XS.icmpNo X22.here hx rfl (hb hby at_135) rfl (flt (by decide)).1 kX)
    refine OGo.go (B := T22.setTop (mkF m 140 #[.val (.int p0), .val (.int p1), .val (.int p2), .val (.int p3), .val (.int (3 : Int32)), .val (.int (p1.toInt8.toInt32)), .val (.int (p2.toInt8.toInt32)), .val (.int (p3.toInt8.toInt32)), .val (.ref b17), .val (.ref sr_21), .val (.int (8 : Int32)), .val (.int (1 : Int32))] [(.int (1 : Int32))])) ?_ (fun tX kX => XS.iload X22.here hx rfl (hb hby at_138) rfl kX)
    refine OGo.go (B := T22.setTop (mkF m 143 #[.val (.int p0), .val (.int p1), .val (.int p2), .val (.int p3), .val (.int (3 : Int32)), .val (.int (p1.toInt8.toInt32)), .val (.int (p2.toInt8.toInt32)), .val (.int (p3.toInt8.toInt32)), .val (.ref b17), .val (.ref sr_21), .val (.int (8 : Int32)), .val (.int (1 : Int32))] [])) ?_ (fun tX kX => XS.ifNo X22.here hx rfl (hb hby at_140) rfl ((if0 _ _).trans (feq (by decide)).1) kX)
    refine OGo.go (B := T22.setTop (mkF m 145 #[.val (.int p0), .val (.int p1), .val (.int p2), .val (.int p3), .val (.int (3 : Int32)), .val (.int (p1.toInt8.toInt32)), .val (.int (p2.toInt8.toInt32)), .val (.int (p3.toInt8.toInt32)), .val (.ref b17), .val (.ref sr_21), .val (.int (8 : Int32)), .val (.int (1 : Int32))] [(.ref sr_21)])) ?_ (fun tX kX => XS.aload X22.here hx rfl (hb hby at_143) rfl rfl kX)
    refine OGo.go (B := T22.setTop (mkF m 146 #[.val (.int p0), .val (.int p1), .val (.int p2), .val (.int p3), .val (.int (3 : Int32)), .val (.int (p1.toInt8.toInt32)), .val (.int (p2.toInt8.toInt32)), .val (.int (p3.toInt8.toInt32)), .val (.ref b17), .val (.ref sr_21), .val (.int (8 : Int32)), .val (.int (1 : Int32))] [(.int (0 : Int32)), (.ref sr_21)])) ?_ (fun tX kX => XS.iconst X22.here hx rfl (hb hby at_145) kX)
    refine OGo.go (B := T22.setTop (mkF m 148 #[.val (.int p0), .val (.int p1), .val (.int p2), .val (.int p3), .val (.int (3 : Int32)), .val (.int (p1.toInt8.toInt32)), .val (.int (p2.toInt8.toInt32)), .val (.int (p3.toInt8.toInt32)), .val (.ref b17), .val (.ref sr_21), .val (.int (8 : Int32)), .val (.int (1 : Int32))] [(.int (p1.toInt8.toInt32)), (.int (0 : Int32)), (.ref sr_21)])) ?_ (fun tX kX => XS.iload X22.here hx rfl (hb hby at_146) rfl kX)
    obtain ⟨_, _, ⟨T23, L23, k23, n23⟩, -, X23, ⟨Lc23, hQ23, l23, y23, z23⟩, st23⟩ := Jvm.LawKit.callS X22 hx (y := (⟨"com/example/cartouche/cartouche/host/HexFormatPinLaw", "pairAt", "(Ljava/lang/String;IB)Z"⟩ : MethodName)) hown (mvT hZ (hw _ (List.mem_of_getElem? (i := 128) rfl))) (mvT hZ (hw _ (List.mem_of_getElem? (i := 129) rfl))) (mvT hZ (hw _ (List.mem_of_getElem? (i := 130) rfl))) (mvT hZ (hw _ (List.mem_of_getElem? (i := 131) rfl))) (by decide) (backOf (W := 0) (rm22 l Z aV hw [] sr_21 (0 : Int32) (p1.toInt8.toInt32) nb_21 kn_21 (8 : Int32) [(.int (((own_dig (((p1.toInt8.toInt32) >>> ((4 : Int32) &&& 31)) &&& (15 : Int32))).toInt8.toInt32).toInt8.toInt32)), (.int (((own_dig ((p1.toInt8.toInt32) &&& (15 : Int32))).toInt8.toInt32).toInt8.toInt32)), (.int (((32 : Int32).toInt8.toInt32).toInt8.toInt32)), (.int (((own_dig (((p2.toInt8.toInt32) >>> ((4 : Int32) &&& 31)) &&& (15 : Int32))).toInt8.toInt32).toInt8.toInt32)), (.int (((own_dig ((p2.toInt8.toInt32) &&& (15 : Int32))).toInt8.toInt32).toInt8.toInt32)), (.int (((32 : Int32).toInt8.toInt32).toInt8.toInt32)), (.int (((own_dig (((p3.toInt8.toInt32) >>> ((4 : Int32) &&& 31)) &&& (15 : Int32))).toInt8.toInt32).toInt8.toInt32)), (.int (((own_dig ((p3.toInt8.toInt32) &&& (15 : Int32))).toInt8.toInt32).toInt8.toInt32))] cs fv (((own_dig (((p1.toInt8.toInt32) >>> ((4 : Int32) &&& 31)) &&& (15 : Int32))).toInt8.toInt32).toInt8.toInt32) (((own_dig ((p1.toInt8.toInt32) &&& (15 : Int32))).toInt8.toInt32).toInt8.toInt32) T21.heap n0 zn21 E_sr_21 F_value_sr_21 F_coder_sr_21 V_nb_21 S_COMPACT_STRINGS S_SIOOBE_FORMATTER hcs hfv ⟨by decide, by decide⟩ rfl ⟨by decide, by decide⟩ rfl (own_hi' _) (own_lo' _)) hZ (hw _ (List.mem_of_getElem? (i := 131) rfl)) (hw _ (List.mem_of_getElem? (i := 130) rfl)) (by decide) (by decide)) (g := (mkF m 148 #[.val (.int p0), .val (.int p1), .val (.int p2), .val (.int p3), .val (.int (3 : Int32)), .val (.int (p1.toInt8.toInt32)), .val (.int (p2.toInt8.toInt32)), .val (.int (p3.toInt8.toInt32)), .val (.ref b17), .val (.ref sr_21), .val (.int (8 : Int32)), .val (.int (1 : Int32))] [(.int (p1.toInt8.toInt32)), (.int (0 : Int32)), (.ref sr_21)])) rfl (by rw [hml]; rfl) (argsL := [(.ref sr_21), (.int (0 : Int32)), (.int (p1.toInt8.toInt32))]) (rest := []) (lenOf pd__Ljava_lang_String_IB_Z rfl) rfl (by show 2 * 0 + _ ≤ _; exact Nat.le_of_eq rfl) (hb hby at_148) (fun _ _ => ⟨rfl, e22, (by decide : 5 + 0 ≤ _), (by decide : 28 + 0 ≤ _)⟩)
    dsimp only [Pt.U, Pt.locs, Pt.cells, Pt.slots] at X23 l23 y23 z23 st23 hQ23
    subst l23 y23 z23
    obtain ⟨rfl, N23q, e23⟩ := hQ23
    have N23 := Fr.app N22 N23q
    refine OGo.go (B := T23.setTop (mkF m 151 #[.val (.int p0), .val (.int p1), .val (.int p2), .val (.int p3), .val (.int (3 : Int32)), .val (.int (p1.toInt8.toInt32)), .val (.int (p2.toInt8.toInt32)), .val (.int (p3.toInt8.toInt32)), .val (.ref b17), .val (.ref sr_21), .val (.int (8 : Int32)), .val (.int (1 : Int32))] [(.int (1 : Int32))])) ?_ st23
    refine OGo.go (B := T23.setTop (mkF m 154 #[.val (.int p0), .val (.int p1), .val (.int p2), .val (.int p3), .val (.int (3 : Int32)), .val (.int (p1.toInt8.toInt32)), .val (.int (p2.toInt8.toInt32)), .val (.int (p3.toInt8.toInt32)), .val (.ref b17), .val (.ref sr_21), .val (.int (8 : Int32)), .val (.int (1 : Int32))] [])) ?_ (fun tX kX => XS.ifNo X23.here hx rfl (hb hby at_151) rfl ((if0 _ _).trans (feq (by decide)).1) kX)
    refine OGo.go (B := T23.setTop (mkF m 155 #[.val (.int p0), .val (.int p1), .val (.int p2), .val (.int p3), .val (.int (3 : Int32)), .val (.int (p1.toInt8.toInt32)), .val (.int (p2.toInt8.toInt32)), .val (.int (p3.toInt8.toInt32)), .val (.ref b17), .val (.ref sr_21), .val (.int (8 : Int32)), .val (.int (1 : Int32))] [(.int (1 : Int32))])) ?_ (fun tX kX => XS.iconst X23.here hx rfl (hb hby at_154) kX)
    refine OGo.go (B := T23.setTop (mkF m 159 #[.val (.int p0), .val (.int p1), .val (.int p2), .val (.int p3), .val (.int (3 : Int32)), .val (.int (p1.toInt8.toInt32)), .val (.int (p2.toInt8.toInt32)), .val (.int (p3.toInt8.toInt32)), .val (.ref b17), .val (.ref sr_21), .val (.int (8 : Int32)), .val (.int (1 : Int32))] [(.int (1 : Int32))])) ?_ (fun tX kX => XS.goto X23.here hx rfl (pc0 := 155) (pc' := 159) rfl (hb hby at_155) (by decide) (by decide) kX)
    refine OGo.go (B := T23.setTop (mkF m 161 #[.val (.int p0), .val (.int p1), .val (.int p2), .val (.int p3), .val (.int (3 : Int32)), .val (.int (p1.toInt8.toInt32)), .val (.int (p2.toInt8.toInt32)), .val (.int (p3.toInt8.toInt32)), .val (.ref b17), .val (.ref sr_21), .val (.int (8 : Int32)), .val (.int (1 : Int32))] [])) ?_ (fun tX kX => XS.istore X23.here hx rfl (hb hby at_159) rfl (l' := #[.val (.int p0), .val (.int p1), .val (.int p2), .val (.int p3), .val (.int (3 : Int32)), .val (.int (p1.toInt8.toInt32)), .val (.int (p2.toInt8.toInt32)), .val (.int (p3.toInt8.toInt32)), .val (.ref b17), .val (.ref sr_21), .val (.int (8 : Int32)), .val (.int (1 : Int32))]) rfl kX)
    refine OGo.go (B := T23.setTop (mkF m 163 #[.val (.int p0), .val (.int p1), .val (.int p2), .val (.int p3), .val (.int (3 : Int32)), .val (.int (p1.toInt8.toInt32)), .val (.int (p2.toInt8.toInt32)), .val (.int (p3.toInt8.toInt32)), .val (.ref b17), .val (.ref sr_21), .val (.int (8 : Int32)), .val (.int (1 : Int32))] [(.int (3 : Int32))])) ?_ (fun tX kX => XS.iload X23.here hx rfl (hb hby at_161) rfl kX)
    refine OGo.go (B := T23.setTop (mkF m 164 #[.val (.int p0), .val (.int p1), .val (.int p2), .val (.int p3), .val (.int (3 : Int32)), .val (.int (p1.toInt8.toInt32)), .val (.int (p2.toInt8.toInt32)), .val (.int (p3.toInt8.toInt32)), .val (.ref b17), .val (.ref sr_21), .val (.int (8 : Int32)), .val (.int (1 : Int32))] [(.int (2 : Int32)), (.int (3 : Int32))])) ?_ (fun tX kX => XS.iconst X23.here hx rfl (hb hby at_163) kX)
    refine OGo.go (B := T23.setTop (mkF m 167 #[.val (.int p0), .val (.int p1), .val (.int p2), .val (.int p3), .val (.int (3 : Int32)), .val (.int (p1.toInt8.toInt32)), .val (.int (p2.toInt8.toInt32)), .val (.int (p3.toInt8.toInt32)), .val (.ref b17), .val (.ref sr_21), .val (.int (8 : Int32)), .val (.int (1 : Int32))] [])) ?_ (fun tX kX => XS.icmpNo X23.here hx rfl (hb hby at_164) rfl (flt (by decide)).1 kX)
    refine OGo.go (B := T23.setTop (mkF m 169 #[.val (.int p0), .val (.int p1), .val (.int p2), .val (.int p3), .val (.int (3 : Int32)), .val (.int (p1.toInt8.toInt32)), .val (.int (p2.toInt8.toInt32)), .val (.int (p3.toInt8.toInt32)), .val (.ref b17), .val (.ref sr_21), .val (.int (8 : Int32)), .val (.int (1 : Int32))] [(.int (1 : Int32))])) ?_ (fun tX kX => XS.iload X23.here hx rfl (hb hby at_167) rfl kX)
    refine OGo.go (B := T23.setTop (mkF m 172 #[.val (.int p0), .val (.int p1), .val (.int p2), .val (.int p3), .val (.int (3 : Int32)), .val (.int (p1.toInt8.toInt32)), .val (.int (p2.toInt8.toInt32)), .val (.int (p3.toInt8.toInt32)), .val (.ref b17), .val (.ref sr_21), .val (.int (8 : Int32)), .val (.int (1 : Int32))] [])) ?_ (fun tX kX => XS.ifNo X23.here hx rfl (hb hby at_169) rfl ((if0 _ _).trans (feq (by decide)).1) kX)
    refine OGo.go (B := T23.setTop (mkF m 174 #[.val (.int p0), .val (.int p1), .val (.int p2), .val (.int p3), .val (.int (3 : Int32)), .val (.int (p1.toInt8.toInt32)), .val (.int (p2.toInt8.toInt32)), .val (.int (p3.toInt8.toInt32)), .val (.ref b17), .val (.ref sr_21), .val (.int (8 : Int32)), .val (.int (1 : Int32))] [(.ref sr_21)])) ?_ (fun tX kX => XS.aload X23.here hx rfl (hb hby at_172) rfl rfl kX)
    refine OGo.go (B := T23.setTop (mkF m 175 #[.val (.int p0), .val (.int p1), .val (.int p2), .val (.int p3), .val (.int (3 : Int32)), .val (.int (p1.toInt8.toInt32)), .val (.int (p2.toInt8.toInt32)), .val (.int (p3.toInt8.toInt32)), .val (.ref b17), .val (.ref sr_21), .val (.int (8 : Int32)), .val (.int (1 : Int32))] [(.int (2 : Int32)), (.ref sr_21)])) ?_ (fun tX kX => XS.iconst X23.here hx rfl (hb hby at_174) kX)
    obtain ⟨cq24, kq24, q24a, q24b, q24c⟩ := isOf hZ e23 E_sr_21
    obtain ⟨_, _, ⟨T24, L24, k24, n24⟩, -, X24, ⟨Lc24, hQ24, l24, y24, z24⟩, st24⟩ := X23.virtualBack hx (y := (⟨"java/lang/String", "charAt", "(I)C"⟩ : MethodName)) (z := (⟨"java/lang/String", "charAt", "(I)C"⟩ : MethodName)) hown (mvT hZ (hw _ (List.mem_of_getElem? (i := 132) rfl))) (mvT hZ (hw _ (List.mem_of_getElem? (i := 133) rfl))) (notFace_of_selects (args := #[]) (mvT hZ (hw _ (List.mem_of_getElem? (i := 135) rfl)))) (mvT hZ (hw _ (List.mem_of_getElem? (i := 135) rfl))) (mvT hZ (hw _ (List.mem_of_getElem? (i := 134) rfl))) (by decide) (backOf (W := 0) (rm23 l Z aV hw [] sr_21 (2 : Int32) nb_21 kn_21 (8 : Int32) [(.int (((own_dig (((p1.toInt8.toInt32) >>> ((4 : Int32) &&& 31)) &&& (15 : Int32))).toInt8.toInt32).toInt8.toInt32)), (.int (((own_dig ((p1.toInt8.toInt32) &&& (15 : Int32))).toInt8.toInt32).toInt8.toInt32)), (.int (((32 : Int32).toInt8.toInt32).toInt8.toInt32)), (.int (((own_dig (((p2.toInt8.toInt32) >>> ((4 : Int32) &&& 31)) &&& (15 : Int32))).toInt8.toInt32).toInt8.toInt32)), (.int (((own_dig ((p2.toInt8.toInt32) &&& (15 : Int32))).toInt8.toInt32).toInt8.toInt32)), (.int (((32 : Int32).toInt8.toInt32).toInt8.toInt32)), (.int (((own_dig (((p3.toInt8.toInt32) >>> ((4 : Int32) &&& 31)) &&& (15 : Int32))).toInt8.toInt32).toInt8.toInt32)), (.int (((own_dig ((p3.toInt8.toInt32) &&& (15 : Int32))).toInt8.toInt32).toInt8.toInt32))] cs fv (((32 : Int32).toInt8.toInt32).toInt8.toInt32) T21.heap n0 zn21 E_sr_21 F_value_sr_21 F_coder_sr_21 V_nb_21 S_COMPACT_STRINGS S_SIOOBE_FORMATTER hcs hfv ⟨by decide, by decide⟩ rfl) hZ (hw _ (List.mem_of_getElem? (i := 136) rfl)) (hw _ (List.mem_of_getElem? (i := 21) rfl)) (by decide) (by decide)) q24a q24c (g := (mkF m 175 #[.val (.int p0), .val (.int p1), .val (.int p2), .val (.int p3), .val (.int (3 : Int32)), .val (.int (p1.toInt8.toInt32)), .val (.int (p2.toInt8.toInt32)), .val (.int (p3.toInt8.toInt32)), .val (.ref b17), .val (.ref sr_21), .val (.int (8 : Int32)), .val (.int (1 : Int32))] [(.int (2 : Int32)), (.ref sr_21)])) rfl (by rw [hml]; rfl) (Steps.refl _) (argsL := [(.int (2 : Int32))]) (rest := []) (lenOf pd__I_C rfl) rfl (by show 2 * 0 + _ ≤ _; exact Nat.le_of_eq rfl) (hb hby at_175) (fun _ _ => ⟨rfl, e23, (by decide : 5 + 0 ≤ _), (by decide : 28 + 0 ≤ _)⟩)
    dsimp only [Pt.U, Pt.locs, Pt.cells, Pt.slots] at X24 l24 y24 z24 st24 hQ24
    subst l24 y24 z24
    obtain ⟨rfl, N24q, e24⟩ := hQ24
    have N24 := Fr.app N23 N24q
    refine OGo.go (B := T24.setTop (mkF m 178 #[.val (.int p0), .val (.int p1), .val (.int p2), .val (.int p3), .val (.int (3 : Int32)), .val (.int (p1.toInt8.toInt32)), .val (.int (p2.toInt8.toInt32)), .val (.int (p3.toInt8.toInt32)), .val (.ref b17), .val (.ref sr_21), .val (.int (8 : Int32)), .val (.int (1 : Int32))] [(.int ((((((32 : Int32).toInt8.toInt32).toInt8.toInt32) &&& (255 : Int32)).toUInt32.toUInt16.toUInt32.toInt32).toUInt32.toUInt16.toUInt32.toInt32))])) ?_ (fun tX kX => st24.trans kX)
    refine OGo.go (B := T24.setTop (mkF m 180 #[.val (.int p0), .val (.int p1), .val (.int p2), .val (.int p3), .val (.int (3 : Int32)), .val (.int (p1.toInt8.toInt32)), .val (.int (p2.toInt8.toInt32)), .val (.int (p3.toInt8.toInt32)), .val (.ref b17), .val (.ref sr_21), .val (.int (8 : Int32)), .val (.int (1 : Int32))] [(.int (32 : Int32)), (.int ((((((32 : Int32).toInt8.toInt32).toInt8.toInt32) &&& (255 : Int32)).toUInt32.toUInt16.toUInt32.toInt32).toUInt32.toUInt16.toUInt32.toInt32))])) ?_ (fun tX kX => XS.bipush X24.here hx rfl (hb hby at_178) kX)
    refine OGo.go (B := T24.setTop (mkF m 183 #[.val (.int p0), .val (.int p1), .val (.int p2), .val (.int p3), .val (.int (3 : Int32)), .val (.int (p1.toInt8.toInt32)), .val (.int (p2.toInt8.toInt32)), .val (.int (p3.toInt8.toInt32)), .val (.ref b17), .val (.ref sr_21), .val (.int (8 : Int32)), .val (.int (1 : Int32))] [])) ?_ (fun tX kX => XS.icmpNo X24.here hx rfl (hb hby at_180) rfl (teq (by decide)).2 kX)
    refine OGo.go (B := T24.setTop (mkF m 185 #[.val (.int p0), .val (.int p1), .val (.int p2), .val (.int p3), .val (.int (3 : Int32)), .val (.int (p1.toInt8.toInt32)), .val (.int (p2.toInt8.toInt32)), .val (.int (p3.toInt8.toInt32)), .val (.ref b17), .val (.ref sr_21), .val (.int (8 : Int32)), .val (.int (1 : Int32))] [(.ref sr_21)])) ?_ (fun tX kX => XS.aload X24.here hx rfl (hb hby at_183) rfl rfl kX)
    refine OGo.go (B := T24.setTop (mkF m 186 #[.val (.int p0), .val (.int p1), .val (.int p2), .val (.int p3), .val (.int (3 : Int32)), .val (.int (p1.toInt8.toInt32)), .val (.int (p2.toInt8.toInt32)), .val (.int (p3.toInt8.toInt32)), .val (.ref b17), .val (.ref sr_21), .val (.int (8 : Int32)), .val (.int (1 : Int32))] [(.int (3 : Int32)), (.ref sr_21)])) ?_ (fun tX kX => XS.iconst X24.here hx rfl (hb hby at_185) kX)
    refine OGo.go (B := T24.setTop (mkF m 188 #[.val (.int p0), .val (.int p1), .val (.int p2), .val (.int p3), .val (.int (3 : Int32)), .val (.int (p1.toInt8.toInt32)), .val (.int (p2.toInt8.toInt32)), .val (.int (p3.toInt8.toInt32)), .val (.ref b17), .val (.ref sr_21), .val (.int (8 : Int32)), .val (.int (1 : Int32))] [(.int (p2.toInt8.toInt32)), (.int (3 : Int32)), (.ref sr_21)])) ?_ (fun tX kX => XS.iload X24.here hx rfl (hb hby at_186) rfl kX)
    obtain ⟨_, _, ⟨T25, L25, k25, n25⟩, -, X25, ⟨Lc25, hQ25, l25, y25, z25⟩, st25⟩ := Jvm.LawKit.callS X24 hx (y := (⟨"com/example/cartouche/cartouche/host/HexFormatPinLaw", "pairAt", "(Ljava/lang/String;IB)Z"⟩ : MethodName)) hown (mvT hZ (hw _ (List.mem_of_getElem? (i := 128) rfl))) (mvT hZ (hw _ (List.mem_of_getElem? (i := 129) rfl))) (mvT hZ (hw _ (List.mem_of_getElem? (i := 130) rfl))) (mvT hZ (hw _ (List.mem_of_getElem? (i := 131) rfl))) (by decide) (backOf (W := 0) (rm22 l Z aV hw [] sr_21 (3 : Int32) (p2.toInt8.toInt32) nb_21 kn_21 (8 : Int32) [(.int (((own_dig (((p1.toInt8.toInt32) >>> ((4 : Int32) &&& 31)) &&& (15 : Int32))).toInt8.toInt32).toInt8.toInt32)), (.int (((own_dig ((p1.toInt8.toInt32) &&& (15 : Int32))).toInt8.toInt32).toInt8.toInt32)), (.int (((32 : Int32).toInt8.toInt32).toInt8.toInt32)), (.int (((own_dig (((p2.toInt8.toInt32) >>> ((4 : Int32) &&& 31)) &&& (15 : Int32))).toInt8.toInt32).toInt8.toInt32)), (.int (((own_dig ((p2.toInt8.toInt32) &&& (15 : Int32))).toInt8.toInt32).toInt8.toInt32)), (.int (((32 : Int32).toInt8.toInt32).toInt8.toInt32)), (.int (((own_dig (((p3.toInt8.toInt32) >>> ((4 : Int32) &&& 31)) &&& (15 : Int32))).toInt8.toInt32).toInt8.toInt32)), (.int (((own_dig ((p3.toInt8.toInt32) &&& (15 : Int32))).toInt8.toInt32).toInt8.toInt32))] cs fv (((own_dig (((p2.toInt8.toInt32) >>> ((4 : Int32) &&& 31)) &&& (15 : Int32))).toInt8.toInt32).toInt8.toInt32) (((own_dig ((p2.toInt8.toInt32) &&& (15 : Int32))).toInt8.toInt32).toInt8.toInt32) T21.heap n0 zn21 E_sr_21 F_value_sr_21 F_coder_sr_21 V_nb_21 S_COMPACT_STRINGS S_SIOOBE_FORMATTER hcs hfv ⟨by decide, by decide⟩ rfl ⟨by decide, by decide⟩ rfl (own_hi' _) (own_lo' _)) hZ (hw _ (List.mem_of_getElem? (i := 131) rfl)) (hw _ (List.mem_of_getElem? (i := 130) rfl)) (by decide) (by decide)) (g := (mkF m 188 #[.val (.int p0), .val (.int p1), .val (.int p2), .val (.int p3), .val (.int (3 : Int32)), .val (.int (p1.toInt8.toInt32)), .val (.int (p2.toInt8.toInt32)), .val (.int (p3.toInt8.toInt32)), .val (.ref b17), .val (.ref sr_21), .val (.int (8 : Int32)), .val (.int (1 : Int32))] [(.int (p2.toInt8.toInt32)), (.int (3 : Int32)), (.ref sr_21)])) rfl (by rw [hml]; rfl) (argsL := [(.ref sr_21), (.int (3 : Int32)), (.int (p2.toInt8.toInt32))]) (rest := []) (lenOf pd__Ljava_lang_String_IB_Z rfl) rfl (by show 2 * 0 + _ ≤ _; exact Nat.le_of_eq rfl) (hb hby at_188) (fun _ _ => ⟨rfl, e24, (by decide : 5 + 0 ≤ _), (by decide : 28 + 0 ≤ _)⟩)
    dsimp only [Pt.U, Pt.locs, Pt.cells, Pt.slots] at X25 l25 y25 z25 st25 hQ25
    subst l25 y25 z25
    obtain ⟨rfl, N25q, e25⟩ := hQ25
    have N25 := Fr.app N24 N25q
    refine OGo.go (B := T25.setTop (mkF m 191 #[.val (.int p0), .val (.int p1), .val (.int p2), .val (.int p3), .val (.int (3 : Int32)), .val (.int (p1.toInt8.toInt32)), .val (.int (p2.toInt8.toInt32)), .val (.int (p3.toInt8.toInt32)), .val (.ref b17), .val (.ref sr_21), .val (.int (8 : Int32)), .val (.int (1 : Int32))] [(.int (1 : Int32))])) ?_ st25
    refine OGo.go (B := T25.setTop (mkF m 194 #[.val (.int p0), .val (.int p1), .val (.int p2), .val (.int p3), .val (.int (3 : Int32)), .val (.int (p1.toInt8.toInt32)), .val (.int (p2.toInt8.toInt32)), .val (.int (p3.toInt8.toInt32)), .val (.ref b17), .val (.ref sr_21), .val (.int (8 : Int32)), .val (.int (1 : Int32))] [])) ?_ (fun tX kX => XS.ifNo X25.here hx rfl (hb hby at_191) rfl ((if0 _ _).trans (feq (by decide)).1) kX)
    refine OGo.go (B := T25.setTop (mkF m 195 #[.val (.int p0), .val (.int p1), .val (.int p2), .val (.int p3), .val (.int (3 : Int32)), .val (.int (p1.toInt8.toInt32)), .val (.int (p2.toInt8.toInt32)), .val (.int (p3.toInt8.toInt32)), .val (.ref b17), .val (.ref sr_21), .val (.int (8 : Int32)), .val (.int (1 : Int32))] [(.int (1 : Int32))])) ?_ (fun tX kX => XS.iconst X25.here hx rfl (hb hby at_194) kX)
    refine OGo.go (B := T25.setTop (mkF m 199 #[.val (.int p0), .val (.int p1), .val (.int p2), .val (.int p3), .val (.int (3 : Int32)), .val (.int (p1.toInt8.toInt32)), .val (.int (p2.toInt8.toInt32)), .val (.int (p3.toInt8.toInt32)), .val (.ref b17), .val (.ref sr_21), .val (.int (8 : Int32)), .val (.int (1 : Int32))] [(.int (1 : Int32))])) ?_ (fun tX kX => XS.goto X25.here hx rfl (pc0 := 195) (pc' := 199) rfl (hb hby at_195) (by decide) (by decide) kX)
    refine OGo.go (B := T25.setTop (mkF m 201 #[.val (.int p0), .val (.int p1), .val (.int p2), .val (.int p3), .val (.int (3 : Int32)), .val (.int (p1.toInt8.toInt32)), .val (.int (p2.toInt8.toInt32)), .val (.int (p3.toInt8.toInt32)), .val (.ref b17), .val (.ref sr_21), .val (.int (8 : Int32)), .val (.int (1 : Int32))] [])) ?_ (fun tX kX => XS.istore X25.here hx rfl (hb hby at_199) rfl (l' := #[.val (.int p0), .val (.int p1), .val (.int p2), .val (.int p3), .val (.int (3 : Int32)), .val (.int (p1.toInt8.toInt32)), .val (.int (p2.toInt8.toInt32)), .val (.int (p3.toInt8.toInt32)), .val (.ref b17), .val (.ref sr_21), .val (.int (8 : Int32)), .val (.int (1 : Int32))]) rfl kX)
    refine OGo.go (B := T25.setTop (mkF m 203 #[.val (.int p0), .val (.int p1), .val (.int p2), .val (.int p3), .val (.int (3 : Int32)), .val (.int (p1.toInt8.toInt32)), .val (.int (p2.toInt8.toInt32)), .val (.int (p3.toInt8.toInt32)), .val (.ref b17), .val (.ref sr_21), .val (.int (8 : Int32)), .val (.int (1 : Int32))] [(.int (3 : Int32))])) ?_ (fun tX kX => XS.iload X25.here hx rfl (hb hby at_201) rfl kX)
    refine OGo.go (B := T25.setTop (mkF m 204 #[.val (.int p0), .val (.int p1), .val (.int p2), .val (.int p3), .val (.int (3 : Int32)), .val (.int (p1.toInt8.toInt32)), .val (.int (p2.toInt8.toInt32)), .val (.int (p3.toInt8.toInt32)), .val (.ref b17), .val (.ref sr_21), .val (.int (8 : Int32)), .val (.int (1 : Int32))] [(.int (3 : Int32)), (.int (3 : Int32))])) ?_ (fun tX kX => XS.iconst X25.here hx rfl (hb hby at_203) kX)
    refine OGo.go (B := T25.setTop (mkF m 207 #[.val (.int p0), .val (.int p1), .val (.int p2), .val (.int p3), .val (.int (3 : Int32)), .val (.int (p1.toInt8.toInt32)), .val (.int (p2.toInt8.toInt32)), .val (.int (p3.toInt8.toInt32)), .val (.ref b17), .val (.ref sr_21), .val (.int (8 : Int32)), .val (.int (1 : Int32))] [])) ?_ (fun tX kX => XS.icmpNo X25.here hx rfl (hb hby at_204) rfl (flt (by decide)).1 kX)
    refine OGo.go (B := T25.setTop (mkF m 209 #[.val (.int p0), .val (.int p1), .val (.int p2), .val (.int p3), .val (.int (3 : Int32)), .val (.int (p1.toInt8.toInt32)), .val (.int (p2.toInt8.toInt32)), .val (.int (p3.toInt8.toInt32)), .val (.ref b17), .val (.ref sr_21), .val (.int (8 : Int32)), .val (.int (1 : Int32))] [(.int (1 : Int32))])) ?_ (fun tX kX => XS.iload X25.here hx rfl (hb hby at_207) rfl kX)
    refine OGo.go (B := T25.setTop (mkF m 212 #[.val (.int p0), .val (.int p1), .val (.int p2), .val (.int p3), .val (.int (3 : Int32)), .val (.int (p1.toInt8.toInt32)), .val (.int (p2.toInt8.toInt32)), .val (.int (p3.toInt8.toInt32)), .val (.ref b17), .val (.ref sr_21), .val (.int (8 : Int32)), .val (.int (1 : Int32))] [])) ?_ (fun tX kX => XS.ifNo X25.here hx rfl (hb hby at_209) rfl ((if0 _ _).trans (feq (by decide)).1) kX)
    refine OGo.go (B := T25.setTop (mkF m 214 #[.val (.int p0), .val (.int p1), .val (.int p2), .val (.int p3), .val (.int (3 : Int32)), .val (.int (p1.toInt8.toInt32)), .val (.int (p2.toInt8.toInt32)), .val (.int (p3.toInt8.toInt32)), .val (.ref b17), .val (.ref sr_21), .val (.int (8 : Int32)), .val (.int (1 : Int32))] [(.ref sr_21)])) ?_ (fun tX kX => XS.aload X25.here hx rfl (hb hby at_212) rfl rfl kX)
    refine OGo.go (B := T25.setTop (mkF m 215 #[.val (.int p0), .val (.int p1), .val (.int p2), .val (.int p3), .val (.int (3 : Int32)), .val (.int (p1.toInt8.toInt32)), .val (.int (p2.toInt8.toInt32)), .val (.int (p3.toInt8.toInt32)), .val (.ref b17), .val (.ref sr_21), .val (.int (8 : Int32)), .val (.int (1 : Int32))] [(.int (5 : Int32)), (.ref sr_21)])) ?_ (fun tX kX => XS.iconst X25.here hx rfl (hb hby at_214) kX)
    obtain ⟨cq26, kq26, q26a, q26b, q26c⟩ := isOf hZ e25 E_sr_21
    obtain ⟨_, _, ⟨T26, L26, k26, n26⟩, -, X26, ⟨Lc26, hQ26, l26, y26, z26⟩, st26⟩ := X25.virtualBack hx (y := (⟨"java/lang/String", "charAt", "(I)C"⟩ : MethodName)) (z := (⟨"java/lang/String", "charAt", "(I)C"⟩ : MethodName)) hown (mvT hZ (hw _ (List.mem_of_getElem? (i := 132) rfl))) (mvT hZ (hw _ (List.mem_of_getElem? (i := 133) rfl))) (notFace_of_selects (args := #[]) (mvT hZ (hw _ (List.mem_of_getElem? (i := 135) rfl)))) (mvT hZ (hw _ (List.mem_of_getElem? (i := 135) rfl))) (mvT hZ (hw _ (List.mem_of_getElem? (i := 134) rfl))) (by decide) (backOf (W := 0) (rm23 l Z aV hw [] sr_21 (5 : Int32) nb_21 kn_21 (8 : Int32) [(.int (((own_dig (((p1.toInt8.toInt32) >>> ((4 : Int32) &&& 31)) &&& (15 : Int32))).toInt8.toInt32).toInt8.toInt32)), (.int (((own_dig ((p1.toInt8.toInt32) &&& (15 : Int32))).toInt8.toInt32).toInt8.toInt32)), (.int (((32 : Int32).toInt8.toInt32).toInt8.toInt32)), (.int (((own_dig (((p2.toInt8.toInt32) >>> ((4 : Int32) &&& 31)) &&& (15 : Int32))).toInt8.toInt32).toInt8.toInt32)), (.int (((own_dig ((p2.toInt8.toInt32) &&& (15 : Int32))).toInt8.toInt32).toInt8.toInt32)), (.int (((32 : Int32).toInt8.toInt32).toInt8.toInt32)), (.int (((own_dig (((p3.toInt8.toInt32) >>> ((4 : Int32) &&& 31)) &&& (15 : Int32))).toInt8.toInt32).toInt8.toInt32)), (.int (((own_dig ((p3.toInt8.toInt32) &&& (15 : Int32))).toInt8.toInt32).toInt8.toInt32))] cs fv (((32 : Int32).toInt8.toInt32).toInt8.toInt32) T21.heap n0 zn21 E_sr_21 F_value_sr_21 F_coder_sr_21 V_nb_21 S_COMPACT_STRINGS S_SIOOBE_FORMATTER hcs hfv ⟨by decide, by decide⟩ rfl) hZ (hw _ (List.mem_of_getElem? (i := 136) rfl)) (hw _ (List.mem_of_getElem? (i := 21) rfl)) (by decide) (by decide)) q26a q26c (g := (mkF m 215 #[.val (.int p0), .val (.int p1), .val (.int p2), .val (.int p3), .val (.int (3 : Int32)), .val (.int (p1.toInt8.toInt32)), .val (.int (p2.toInt8.toInt32)), .val (.int (p3.toInt8.toInt32)), .val (.ref b17), .val (.ref sr_21), .val (.int (8 : Int32)), .val (.int (1 : Int32))] [(.int (5 : Int32)), (.ref sr_21)])) rfl (by rw [hml]; rfl) (Steps.refl _) (argsL := [(.int (5 : Int32))]) (rest := []) (lenOf pd__I_C rfl) rfl (by show 2 * 0 + _ ≤ _; exact Nat.le_of_eq rfl) (hb hby at_215) (fun _ _ => ⟨rfl, e25, (by decide : 5 + 0 ≤ _), (by decide : 28 + 0 ≤ _)⟩)
    dsimp only [Pt.U, Pt.locs, Pt.cells, Pt.slots] at X26 l26 y26 z26 st26 hQ26
    subst l26 y26 z26
    obtain ⟨rfl, N26q, e26⟩ := hQ26
    have N26 := Fr.app N25 N26q
    refine OGo.go (B := T26.setTop (mkF m 218 #[.val (.int p0), .val (.int p1), .val (.int p2), .val (.int p3), .val (.int (3 : Int32)), .val (.int (p1.toInt8.toInt32)), .val (.int (p2.toInt8.toInt32)), .val (.int (p3.toInt8.toInt32)), .val (.ref b17), .val (.ref sr_21), .val (.int (8 : Int32)), .val (.int (1 : Int32))] [(.int ((((((32 : Int32).toInt8.toInt32).toInt8.toInt32) &&& (255 : Int32)).toUInt32.toUInt16.toUInt32.toInt32).toUInt32.toUInt16.toUInt32.toInt32))])) ?_ (fun tX kX => st26.trans kX)
    refine OGo.go (B := T26.setTop (mkF m 220 #[.val (.int p0), .val (.int p1), .val (.int p2), .val (.int p3), .val (.int (3 : Int32)), .val (.int (p1.toInt8.toInt32)), .val (.int (p2.toInt8.toInt32)), .val (.int (p3.toInt8.toInt32)), .val (.ref b17), .val (.ref sr_21), .val (.int (8 : Int32)), .val (.int (1 : Int32))] [(.int (32 : Int32)), (.int ((((((32 : Int32).toInt8.toInt32).toInt8.toInt32) &&& (255 : Int32)).toUInt32.toUInt16.toUInt32.toInt32).toUInt32.toUInt16.toUInt32.toInt32))])) ?_ (fun tX kX => XS.bipush X26.here hx rfl (hb hby at_218) kX)
    refine OGo.go (B := T26.setTop (mkF m 223 #[.val (.int p0), .val (.int p1), .val (.int p2), .val (.int p3), .val (.int (3 : Int32)), .val (.int (p1.toInt8.toInt32)), .val (.int (p2.toInt8.toInt32)), .val (.int (p3.toInt8.toInt32)), .val (.ref b17), .val (.ref sr_21), .val (.int (8 : Int32)), .val (.int (1 : Int32))] [])) ?_ (fun tX kX => XS.icmpNo X26.here hx rfl (hb hby at_220) rfl (teq (by decide)).2 kX)
    refine OGo.go (B := T26.setTop (mkF m 225 #[.val (.int p0), .val (.int p1), .val (.int p2), .val (.int p3), .val (.int (3 : Int32)), .val (.int (p1.toInt8.toInt32)), .val (.int (p2.toInt8.toInt32)), .val (.int (p3.toInt8.toInt32)), .val (.ref b17), .val (.ref sr_21), .val (.int (8 : Int32)), .val (.int (1 : Int32))] [(.ref sr_21)])) ?_ (fun tX kX => XS.aload X26.here hx rfl (hb hby at_223) rfl rfl kX)
    refine OGo.go (B := T26.setTop (mkF m 227 #[.val (.int p0), .val (.int p1), .val (.int p2), .val (.int p3), .val (.int (3 : Int32)), .val (.int (p1.toInt8.toInt32)), .val (.int (p2.toInt8.toInt32)), .val (.int (p3.toInt8.toInt32)), .val (.ref b17), .val (.ref sr_21), .val (.int (8 : Int32)), .val (.int (1 : Int32))] [(.int (6 : Int32)), (.ref sr_21)])) ?_ (fun tX kX => XS.bipush X26.here hx rfl (hb hby at_225) kX)
    refine OGo.go (B := T26.setTop (mkF m 229 #[.val (.int p0), .val (.int p1), .val (.int p2), .val (.int p3), .val (.int (3 : Int32)), .val (.int (p1.toInt8.toInt32)), .val (.int (p2.toInt8.toInt32)), .val (.int (p3.toInt8.toInt32)), .val (.ref b17), .val (.ref sr_21), .val (.int (8 : Int32)), .val (.int (1 : Int32))] [(.int (p3.toInt8.toInt32)), (.int (6 : Int32)), (.ref sr_21)])) ?_ (fun tX kX => XS.iload X26.here hx rfl (hb hby at_227) rfl kX)
    obtain ⟨_, _, ⟨T27, L27, k27, n27⟩, -, X27, ⟨Lc27, hQ27, l27, y27, z27⟩, st27⟩ := Jvm.LawKit.callS X26 hx (y := (⟨"com/example/cartouche/cartouche/host/HexFormatPinLaw", "pairAt", "(Ljava/lang/String;IB)Z"⟩ : MethodName)) hown (mvT hZ (hw _ (List.mem_of_getElem? (i := 128) rfl))) (mvT hZ (hw _ (List.mem_of_getElem? (i := 129) rfl))) (mvT hZ (hw _ (List.mem_of_getElem? (i := 130) rfl))) (mvT hZ (hw _ (List.mem_of_getElem? (i := 131) rfl))) (by decide) (backOf (W := 0) (rm22 l Z aV hw [] sr_21 (6 : Int32) (p3.toInt8.toInt32) nb_21 kn_21 (8 : Int32) [(.int (((own_dig (((p1.toInt8.toInt32) >>> ((4 : Int32) &&& 31)) &&& (15 : Int32))).toInt8.toInt32).toInt8.toInt32)), (.int (((own_dig ((p1.toInt8.toInt32) &&& (15 : Int32))).toInt8.toInt32).toInt8.toInt32)), (.int (((32 : Int32).toInt8.toInt32).toInt8.toInt32)), (.int (((own_dig (((p2.toInt8.toInt32) >>> ((4 : Int32) &&& 31)) &&& (15 : Int32))).toInt8.toInt32).toInt8.toInt32)), (.int (((own_dig ((p2.toInt8.toInt32) &&& (15 : Int32))).toInt8.toInt32).toInt8.toInt32)), (.int (((32 : Int32).toInt8.toInt32).toInt8.toInt32)), (.int (((own_dig (((p3.toInt8.toInt32) >>> ((4 : Int32) &&& 31)) &&& (15 : Int32))).toInt8.toInt32).toInt8.toInt32)), (.int (((own_dig ((p3.toInt8.toInt32) &&& (15 : Int32))).toInt8.toInt32).toInt8.toInt32))] cs fv (((own_dig (((p3.toInt8.toInt32) >>> ((4 : Int32) &&& 31)) &&& (15 : Int32))).toInt8.toInt32).toInt8.toInt32) (((own_dig ((p3.toInt8.toInt32) &&& (15 : Int32))).toInt8.toInt32).toInt8.toInt32) T21.heap n0 zn21 E_sr_21 F_value_sr_21 F_coder_sr_21 V_nb_21 S_COMPACT_STRINGS S_SIOOBE_FORMATTER hcs hfv ⟨by decide, by decide⟩ rfl ⟨by decide, by decide⟩ rfl (own_hi' _) (own_lo' _)) hZ (hw _ (List.mem_of_getElem? (i := 131) rfl)) (hw _ (List.mem_of_getElem? (i := 130) rfl)) (by decide) (by decide)) (g := (mkF m 229 #[.val (.int p0), .val (.int p1), .val (.int p2), .val (.int p3), .val (.int (3 : Int32)), .val (.int (p1.toInt8.toInt32)), .val (.int (p2.toInt8.toInt32)), .val (.int (p3.toInt8.toInt32)), .val (.ref b17), .val (.ref sr_21), .val (.int (8 : Int32)), .val (.int (1 : Int32))] [(.int (p3.toInt8.toInt32)), (.int (6 : Int32)), (.ref sr_21)])) rfl (by rw [hml]; rfl) (argsL := [(.ref sr_21), (.int (6 : Int32)), (.int (p3.toInt8.toInt32))]) (rest := []) (lenOf pd__Ljava_lang_String_IB_Z rfl) rfl (by show 2 * 0 + _ ≤ _; exact Nat.le_of_eq rfl) (hb hby at_229) (fun _ _ => ⟨rfl, e26, (by decide : 5 + 0 ≤ _), (by decide : 28 + 0 ≤ _)⟩)
    dsimp only [Pt.U, Pt.locs, Pt.cells, Pt.slots] at X27 l27 y27 z27 st27 hQ27
    subst l27 y27 z27
    obtain ⟨rfl, N27q, e27⟩ := hQ27
    have N27 := Fr.app N26 N27q
    refine OGo.go (B := T27.setTop (mkF m 232 #[.val (.int p0), .val (.int p1), .val (.int p2), .val (.int p3), .val (.int (3 : Int32)), .val (.int (p1.toInt8.toInt32)), .val (.int (p2.toInt8.toInt32)), .val (.int (p3.toInt8.toInt32)), .val (.ref b17), .val (.ref sr_21), .val (.int (8 : Int32)), .val (.int (1 : Int32))] [(.int (1 : Int32))])) ?_ st27
    refine OGo.go (B := T27.setTop (mkF m 235 #[.val (.int p0), .val (.int p1), .val (.int p2), .val (.int p3), .val (.int (3 : Int32)), .val (.int (p1.toInt8.toInt32)), .val (.int (p2.toInt8.toInt32)), .val (.int (p3.toInt8.toInt32)), .val (.ref b17), .val (.ref sr_21), .val (.int (8 : Int32)), .val (.int (1 : Int32))] [])) ?_ (fun tX kX => XS.ifNo X27.here hx rfl (hb hby at_232) rfl ((if0 _ _).trans (feq (by decide)).1) kX)
    refine OGo.go (B := T27.setTop (mkF m 236 #[.val (.int p0), .val (.int p1), .val (.int p2), .val (.int p3), .val (.int (3 : Int32)), .val (.int (p1.toInt8.toInt32)), .val (.int (p2.toInt8.toInt32)), .val (.int (p3.toInt8.toInt32)), .val (.ref b17), .val (.ref sr_21), .val (.int (8 : Int32)), .val (.int (1 : Int32))] [(.int (1 : Int32))])) ?_ (fun tX kX => XS.iconst X27.here hx rfl (hb hby at_235) kX)
    refine OGo.go (B := T27.setTop (mkF m 240 #[.val (.int p0), .val (.int p1), .val (.int p2), .val (.int p3), .val (.int (3 : Int32)), .val (.int (p1.toInt8.toInt32)), .val (.int (p2.toInt8.toInt32)), .val (.int (p3.toInt8.toInt32)), .val (.ref b17), .val (.ref sr_21), .val (.int (8 : Int32)), .val (.int (1 : Int32))] [(.int (1 : Int32))])) ?_ (fun tX kX => XS.goto X27.here hx rfl (pc0 := 236) (pc' := 240) rfl (hb hby at_236) (by decide) (by decide) kX)
    refine OGo.go (B := T27.setTop (mkF m 242 #[.val (.int p0), .val (.int p1), .val (.int p2), .val (.int p3), .val (.int (3 : Int32)), .val (.int (p1.toInt8.toInt32)), .val (.int (p2.toInt8.toInt32)), .val (.int (p3.toInt8.toInt32)), .val (.ref b17), .val (.ref sr_21), .val (.int (8 : Int32)), .val (.int (1 : Int32))] [])) ?_ (fun tX kX => XS.istore X27.here hx rfl (hb hby at_240) rfl (l' := #[.val (.int p0), .val (.int p1), .val (.int p2), .val (.int p3), .val (.int (3 : Int32)), .val (.int (p1.toInt8.toInt32)), .val (.int (p2.toInt8.toInt32)), .val (.int (p3.toInt8.toInt32)), .val (.ref b17), .val (.ref sr_21), .val (.int (8 : Int32)), .val (.int (1 : Int32))]) rfl kX)
    refine OGo.go (B := T27.setTop (mkF m 244 #[.val (.int p0), .val (.int p1), .val (.int p2), .val (.int p3), .val (.int (3 : Int32)), .val (.int (p1.toInt8.toInt32)), .val (.int (p2.toInt8.toInt32)), .val (.int (p3.toInt8.toInt32)), .val (.ref b17), .val (.ref sr_21), .val (.int (8 : Int32)), .val (.int (1 : Int32))] [(.int (1 : Int32))])) ?_ (fun tX kX => XS.iload X27.here hx rfl (hb hby at_242) rfl kX)
    refine OGo.ret X27 (v := (some (.int (1 : Int32)))) (fun h => by rw [Bd.returns] at h; cases h) (BodyLoose.notSynchronized Bd) (fun fs hr => retN X27 hx (t := .boolean) (z := (1 : Int32)) Bd.returns (by simp) (hb hby at_244) hr) (Q := Q0 Z p0 p1 p2 p3 cs fv ud kd h0 n0) ?_ (by decide) (by decide)
    show Q0 Z p0 p1 p2 p3 cs fv ud kd h0 n0 _ T27.heap _
    rw [e27]
    exact ⟨rfl, N27⟩
theorem own_sz16 {n : Nat} (h : n.toInt32 = (16 : Int32) ∧ n < 2 ^ 31) : n = 16 := by
  have a := len_toInt h.2
  have z : (16 : Int32).toInt = 16 := by decide
  rw [h.1, z] at a; omega
theorem own_dig1 {args : Array Value} {s : State} {C n d : String} {u : Addr} {cl : Cell} (ev : (Term.static C n d).eval args s none [] s = some (.ref u)) (A : Arr s s.heap u cl .char) (hfit : Fit s) (hl : cl.slots.size = 16) {G : Jvm.Cond} {c0 : Int64}
    (h : (Jvm.Cond.all (Term.static C n d) (Jvm.Cond.or G (Jvm.Cond.eq (Term.op1 .i2l (Term.elem (Term.static C n d) (Term.index 0))) (Term.op2 .ladd (Term.op1 .i2l (Term.index 0)) (Term.long c0))))).value args s none s [] = some true)
    (k : Nat) (hk : k < 16) (hG : G.value args s none s [k] = some false) (v : Int32) (hv : k.toInt32.toInt64 + c0 = v.toInt64) : cl.slots[k]? = some (.int v) := by
  have ha : s.arrayAt? u = some cl := A.fin (Vm.Alike.refl _)
  have h1 := Cond.all_elim ev ha h k (by rw [hl]; exact hk)
  rw [Cond.or_of_right hG] at h1
  have ev' : (Term.static C n d).eval args s none [k] s = some (.ref u) := ev
  have e1 : k.toInt32.toNatClampNeg = k := by simp only [Int32.toNatClampNeg, len_toInt (show k < 2 ^ 31 by omega)]; rfl
  have hn : ¬ k.toInt32 < 0 := by
    have z0 : (0 : Int32).toInt = 0 := by decide
    rw [Int32.lt_iff_toInt_lt, len_toInt (show k < 2 ^ 31 by omega), z0]; omega
  have he : (Term.elem (Term.static C n d) (Term.index 0)).eval args s none [k] s = cl.slots[k]? := by rw [elem_f ev' (Term.index_eval k) ha hn, e1]
  obtain ⟨w, hw⟩ : ∃ w, cl.slots[k]? = some w := ⟨_, Array.getElem?_eq_getElem (by rw [hl]; exact hk)⟩
  have fw : fits .char w = true := elem_fits (j := k.toInt32) hfit A (fun q => q.elim hn (fun q => by rw [e1, hl] at q; omega)) (by rw [e1]; exact hw)
  cases w with
  | int z =>
    have hL : (Term.op1 .i2l (Term.elem (Term.static C n d) (Term.index 0))).eval args s none [k] s = some (.long z.toInt64) := (op1_f (he.trans hw)).trans rfl
    have hR : (Term.op2 .ladd (Term.op1 .i2l (Term.index 0)) (Term.long c0)).eval args s none [k] s = some (.long (k.toInt32.toInt64 + c0)) := (op2_f ((op1_f (Term.index_eval k)).trans rfl) rfl).trans rfl
    have e := gotT (eq_L hL hR) h1
    rw [hv] at e
    have q : z = v := Int32.toInt_inj.mp (by rw [← c_i2l z, ← c_i2l v, e])
    rw [hw, q]
  | _ => simp [fits] at fw
set_option maxRecDepth 65536 in
set_option maxHeartbeats 40000000 in
theorem comes_1 {Post : Tables → Env → Array Value → State → Outcome → State → Prop} (hpost : ∀ tb e args s v u, (limb_1_1.after args s (.returned v) u = true ∧ limb_1_2.after args s (.returned v) u = true ∧ True) → FrameEnd s (.returned v) u (Jvm.fieldLocs frame_1_writes args s ++ Jvm.arrayLocs frame_1_arrays args s ++ Jvm.staticLocs frame_1_statics s) 24 128 → Post tb e args s (.returned v) u) :
    ArmFor flags0 classFile x code maxLocals ret World_1 tables_1 room_1 Calls_1 rest_1 Pre_1 Post := by
  intro l hfl _ _ p e ha hc hk s m args below hf hA hF happ hP
  obtain ⟨hcalls, hrest, hpre⟩ := hP
  obtain ⟨-, -, -, hnamed, -, -, -, hat⟩ := (Spec.applies_iff hf).mp happ
  obtain ⟨hg, hn⟩ := and_e (Cond.before_iff.mp (show (Jvm.Cond.and given_1 narrow_1).before args s = true from hpre))
  obtain ⟨gc0, gr0⟩ := and_e hg
  obtain ⟨gc1, gr1⟩ := and_e gr0
  obtain ⟨gc2, gr2⟩ := and_e gr1
  obtain ⟨gc3, gr3⟩ := and_e gr2
  obtain ⟨w0, w1, w2, w3, rfl⟩ : ∃ w0 w1 w2 w3 : Value, args = #[w0, w1, w2, w3] := by
    have hs : args.size = 4 := by simpa [Cond.value, given_1] using gc0
    obtain ⟨L⟩ := args
    match L, hs with
    | [w0, w1, w2, w3], _ => exact ⟨w0, w1, w2, w3, rfl⟩
  have hw := fun d (hd : d ∈ tables_1) => atoms_spec (ws := Jvm.Cond.code x code maxLocals ret :: tables_1) hat d (List.mem_cons_of_mem _ hd)
  have hfit : Fit s := fun {y c} hc i hi => by
    obtain ⟨ha, rfl⟩ := Array.getElem?_eq_some_iff.mp hc
    have q := List.all_eq_true.mp ((Array.all_eq_true_iff_forall_mem.mp hF) _ (Array.getElem_mem ha)) i (List.mem_range.mpr hi)
    simpa [Array.getElem?_eq_getElem hi] using q
  obtain ⟨hsets, hown0⟩ := atoms_of _ (rest_1_c_eq ▸ (show rest_1_c.before _ s = true from hrest))
  have hset := fun k (hk : k ∈ jdkStatics_1) => Cond.before_iff.mp (hsets k hk)
  obtain ⟨i0, ei0⟩ := is_v gc1
  obtain rfl : w0 = (.int i0) := Option.some.inj ei0
  obtain ⟨i1, ei1⟩ := is_v gc2
  obtain rfl : w1 = (.int i1) := Option.some.inj ei1
  obtain ⟨i2, ei2⟩ := is_v gc3
  obtain rfl : w2 = (.int i2) := Option.some.inj ei2
  obtain ⟨i3, ei3⟩ := is_v gr3
  obtain rfl : w3 = (.int i3) := Option.some.inj ei3
  obtain ⟨nc0, nr0⟩ := and_e hn
  obtain ⟨nc1, nr1⟩ := and_e nr0
  obtain ⟨nc2, nr2⟩ := and_e nr1
  have nc3 := nr2
  obtain ⟨u_DIGITS, ev_DIGITS⟩ := arr_v nc0
  have S_DIGITS := Sta.start ev_DIGITS (Or.inr ⟨(hw _ (List.mem_of_getElem? (i := 3) rfl)), (hw _ (List.mem_of_getElem? (i := 94) rfl))⟩)
  obtain ⟨cl_DIGITS, Ar_DIGITS⟩ := Arr.start ev_DIGITS nc0
  have ln_DIGITS := lenI ev_DIGITS Ar_DIGITS nc1
  -- nc2: (Jvm.Cond.all (Jvm.Term.static "com/example/cartouche/cartouche/host/Hex" "DIGITS" "[C") (Jvm.Cond.or (Jvm.Cond.le (Jvm.Term.int (10 : Int32)) (Jvm.Te
  -- nc3: (Jvm.Cond.all (Jvm.Term.static "com/example/cartouche/cartouche/host/Hex" "DIGITS" "[C") (Jvm.Cond.or (Jvm.Cond.lt (Jvm.Term.index (0 : Nat)) (Jvm.Ter
  obtain ⟨cs, evcs⟩ := is_v (hset _ (List.mem_of_getElem? (i := 1) rfl))
  have hcs : ¬ cs = 0 := fun q => by have z := not_v (hset _ (List.mem_of_getElem? (i := 2) rfl)); rw [eq_i evcs (Term.int_eval 0) (by rw [q])] at z; cases z
  have SCS := Sta.start evcs (Or.inl (hsets _ (List.mem_of_getElem? (i := 0) rfl)))
  obtain ⟨fv, evfv, hfv⟩ := isR_v (hset _ (List.mem_of_getElem? (i := 8) rfl))
  have SFM := Sta.start evfv (Or.inl (hsets _ (List.mem_of_getElem? (i := 7) rfl)))
  have sz16 := own_sz16 ln_DIGITS
  have VD : Arv s s.heap u_DIGITS cl_DIGITS.cls .char (16 : Int32) own_D (.int (0 : Int32)) := Arv.start hfit Ar_DIGITS ln_DIGITS.2 ln_DIGITS.1 (by decide) rfl ⟨own_dig1 ev_DIGITS Ar_DIGITS hfit sz16 nc2 0 (by decide) rfl (48 : Int32) (by decide), own_dig1 ev_DIGITS Ar_DIGITS hfit sz16 nc2 1 (by decide) rfl (49 : Int32) (by decide), own_dig1 ev_DIGITS Ar_DIGITS hfit sz16 nc2 2 (by decide) rfl (50 : Int32) (by decide), own_dig1 ev_DIGITS Ar_DIGITS hfit sz16 nc2 3 (by decide) rfl (51 : Int32) (by decide), own_dig1 ev_DIGITS Ar_DIGITS hfit sz16 nc2 4 (by decide) rfl (52 : Int32) (by decide), own_dig1 ev_DIGITS Ar_DIGITS hfit sz16 nc2 5 (by decide) rfl (53 : Int32) (by decide), own_dig1 ev_DIGITS Ar_DIGITS hfit sz16 nc2 6 (by decide) rfl (54 : Int32) (by decide), own_dig1 ev_DIGITS Ar_DIGITS hfit sz16 nc2 7 (by decide) rfl (55 : Int32) (by decide), own_dig1 ev_DIGITS Ar_DIGITS hfit sz16 nc2 8 (by decide) rfl (56 : Int32) (by decide), own_dig1 ev_DIGITS Ar_DIGITS hfit sz16 nc2 9 (by decide) rfl (57 : Int32) (by decide), own_dig1 ev_DIGITS Ar_DIGITS hfit sz16 nc3 10 (by decide) rfl (65 : Int32) (by decide), own_dig1 ev_DIGITS Ar_DIGITS hfit sz16 nc3 11 (by decide) rfl (66 : Int32) (by decide), own_dig1 ev_DIGITS Ar_DIGITS hfit sz16 nc3 12 (by decide) rfl (67 : Int32) (by decide), own_dig1 ev_DIGITS Ar_DIGITS hfit sz16 nc3 13 (by decide) rfl (68 : Int32) (by decide), own_dig1 ev_DIGITS Ar_DIGITS hfit sz16 nc3 14 (by decide) rfl (69 : Int32) (by decide), own_dig1 ev_DIGITS Ar_DIGITS hfit sz16 nc3 15 (by decide) rfl (70 : Int32) (by decide), trivial⟩
  obtain ⟨n, o, h1, h2, h3, _, L, rfl, ⟨rfl, N⟩, hq⟩ := rm0 l s _ hw tables_1 i0 i1 i2 i3 cs fv u_DIGITS cl_DIGITS.cls s.heap s.heap.size (Nat.le_refl _) SCS SFM S_DIGITS VD hcs hfv p e ha hc hk s m _ below hf ((Spec.applies_iff_loose hf).mp happ).1 ⟨rfl, State.Warmed39.refl s, rfl⟩ trivial
  refine ⟨n, _, h1, h2, h3, hpost _ _ _ _ _ _ ⟨Cond.after_iff.mpr rfl, Cond.after_iff.mpr (eq_i res_at (Term.int_eval (1)) rfl), trivial⟩ ⟨hq.1, hq.2.1, (hq.2.2.sift fun y hy => Or.inr (N y hy)).mono (by decide) (by decide)⟩⟩
theorem main_1_1 : Claimed_1_1 := comes_1 fun _ _ _ _ _ _ h hF => ⟨h.1, hF⟩
theorem main_1_2 : Claimed_1_2 := comes_1 fun _ _ _ _ _ _ h hF => ⟨h.2.1, hF⟩
end Jvm.Pilot.@@N@@
namespace Jvm.Pilot.@@N@@
open Jvm Jvm.ClassFile Sem Op Lib Jvm.Free Jvm.Stand Jvm.Pilot.@@N@@.Jvm.D
/-! MADE BY PROGRAM (witnessworld.py) out of the Statement's table words and the real class files: 25 classes; the members and pool entries that the words name. The judged class is class 1, her method 1. -/
namespace start1
open Jvm.ClassFile
def u (s : String) : CpInfo := .utf8 (stringToUtf16 s)
/-- a pool by its gaps: so many unusable entries, then the entry; so many at the end -/
def gap : Nat → List CpInfo → List CpInfo
  | 0, r => r
  | n + 1, r => .unusable :: gap n r
def poolList (es : List (Nat × CpInfo)) (last : Nat) : List CpInfo := es.foldr (fun e r => gap e.1 (e.2 :: r)) (gap last [])
def pool (es : List (Nat × CpInfo)) (last : Nat) : Array CpInfo := ⟨poolList es last⟩
def fileOf (pool : Array CpInfo) (this : Nat) (attrs : Array Attribute := #[]) (ms : Array MethodInfo := #[]) (fl : Nat := 33) (sup : Nat := 0) (ifs : Array Nat := #[]) (fds : Array FieldInfo := #[]) : ClassFile where
  minorVersion := 0
  majorVersion := 65
  constantPool := pool
  accessFlags := fl
  thisClass := this
  superClass := sup
  interfaces := ifs
  fields := fds
  methods := ms
  attributes := attrs
def plain (name : String) (sup : Option ClassId) : Class where
  name := name
  kind := .ordinary
  loader := none
  accessFlags := 33
  super := sup
  interfaces := #[]
  cf := none
  fields := #[]
  methods := #[]
  instanceTypes := #[]
  staticTypes := #[]
  resolved := #[]
  callSites := []
  init := .initialized
  statics := none
  mirror := none

def pool0 : Array CpInfo := pool [(5, u "<init>"), (0, u "()V"), (1, .class_ 10), (1, u "java/lang/Object"), (85, u "clone"), (0, u "()Ljava/lang/Object;")] 26

def k0c0 : Code := { maxStack := 0, maxLocals := 1, code := object_method_1_code, exceptionTable := #[], attributes := #[] }
def k0m0 : Method := { name := "<init>", desc := "()V", sig := { parameters := [], returnType := none }, accessFlags := 1, code := some k0c0 }
def k0m1 : Method := { name := "clone", desc := "()Ljava/lang/Object;", sig := { parameters := [], returnType := some (.object "java/lang/Object") }, accessFlags := 260, code := none }
/-- java/lang/Object -/
def k0 : Class := { plain "java/lang/Object" none with
  accessFlags := 33
  interfaces := #[]
  cf := some (fileOf pool0 8 #[] #[{ accessFlags := 1, nameIndex := 5, descriptorIndex := 6, attributes := #[] }, { accessFlags := 260, nameIndex := 96, descriptorIndex := 97, attributes := #[] }] 33 0 #[] #[])
  fields := #[]
  methods := #[k0m0, k0m1]
  instanceTypes := #[]
  staticTypes := #[]
  resolved := Array.replicate 124 none
  statics := none }

def pool1 : Array CpInfo := pool [(2, .class_ 4), (1, u "java/lang/Object"), (0, u "<init>"), (0, u "()V"), (0, .methodref 8 9), (0, .class_ 10), (0, .nameAndType 11 12), (0, u "com/example/cartouche/cartouche/host/Hex"), (0, u "format"), (0, u "([B)Ljava/lang/String;"), (0, .methodref 14 15), (0, .class_ 16), (0, .nameAndType 17 18), (0, u "java/lang/String"), (0, u "length"), (0, u "()I"), (0, .methodref 20 21), (0, .class_ 22), (0, .nameAndType 23 24), (0, u "com/example/cartouche/cartouche/host/HexFormatPinLaw"), (0, u "pairAt"), (0, u "(Ljava/lang/String;IB)Z"), (0, .methodref 14 26), (0, .nameAndType 27 28), (0, u "charAt"), (0, u "(I)C"), (0, .methodref 20 30), (0, .nameAndType 31 28), (0, u "digit"), (2, u "law"), (0, u "(IIII)Z")] 5

def k1m0 : Method := { name := "<init>", desc := "()V", sig := { parameters := [], returnType := none }, accessFlags := 1, code := none }
def k1c1 : Code := { maxStack := 4, maxLocals := 12, code := code, exceptionTable := #[], attributes := #[] }
def k1m1 : Method := { name := "law", desc := "(IIII)Z", sig := { parameters := [.int, .int, .int, .int], returnType := some .boolean }, accessFlags := 9, code := some k1c1 }
def k1c2 : Code := { maxStack := 3, maxLocals := 4, code := method_3_code, exceptionTable := #[], attributes := #[] }
def k1m2 : Method := { name := "pairAt", desc := "(Ljava/lang/String;IB)Z", sig := { parameters := [(.object "java/lang/String"), .int, .byte], returnType := some .boolean }, accessFlags := 10, code := some k1c2 }
def k1c3 : Code := { maxStack := 3, maxLocals := 1, code := method_4_code, exceptionTable := #[], attributes := #[] }
def k1m3 : Method := { name := "digit", desc := "(I)C", sig := { parameters := [.int], returnType := some .char }, accessFlags := 10, code := some k1c3 }
/-- com/example/cartouche/cartouche/host/HexFormatPinLaw -/
def k1 : Class := { plain "com/example/cartouche/cartouche/host/HexFormatPinLaw" (some 0) with
  accessFlags := 49
  interfaces := #[]
  cf := some (fileOf pool1 20 #[] #[{ accessFlags := 1, nameIndex := 5, descriptorIndex := 6, attributes := #[] }, { accessFlags := 9, nameIndex := 34, descriptorIndex := 35, attributes := #[] }, { accessFlags := 10, nameIndex := 23, descriptorIndex := 24, attributes := #[] }, { accessFlags := 10, nameIndex := 31, descriptorIndex := 28, attributes := #[] }] 49 2 #[] #[])
  fields := #[]
  methods := #[k1m0, k1m1, k1m2, k1m3]
  instanceTypes := #[]
  staticTypes := #[]
  resolved := Array.replicate 41 none
  statics := none }

def pool2 : Array CpInfo := pool [(2, .class_ 4), (1, u "java/lang/Object"), (0, u "<init>"), (0, u "()V"), (0, .class_ 8), (0, u "java/lang/StringBuilder"), (0, .methodref 7 10), (0, .nameAndType 5 11), (0, u "(I)V"), (0, .methodref 7 13), (0, .nameAndType 14 15), (0, u "length"), (0, u "()I"), (0, .methodref 7 17), (0, .nameAndType 18 19), (0, u "append"), (0, u "(C)Ljava/lang/StringBuilder;"), (0, .fieldref 21 22), (0, .class_ 23), (0, .nameAndType 24 25), (0, u "com/example/cartouche/cartouche/host/Hex"), (0, u "DIGITS"), (0, u "[C"), (0, .methodref 7 27), (0, .nameAndType 28 29), (0, u "toString"), (0, u "()Ljava/lang/String;"), (54, u "format"), (0, u "([B)Ljava/lang/String;")] 23

def k2m0 : Method := { name := "<init>", desc := "()V", sig := { parameters := [], returnType := none }, accessFlags := 2, code := none }
def k2c1 : Code := { maxStack := 4, maxLocals := 6, code := prog_1_method_2_code, exceptionTable := #[], attributes := #[] }
def k2m1 : Method := { name := "format", desc := "([B)Ljava/lang/String;", sig := { parameters := [(.array .byte)], returnType := some (.object "java/lang/String") }, accessFlags := 9, code := some k2c1 }
/-- com/example/cartouche/cartouche/host/Hex -/
def k2 : Class := { plain "com/example/cartouche/cartouche/host/Hex" (some 0) with
  accessFlags := 49
  interfaces := #[]
  cf := some (fileOf pool2 21 #[] #[{ accessFlags := 2, nameIndex := 5, descriptorIndex := 6, attributes := #[] }, { accessFlags := 9, nameIndex := 84, descriptorIndex := 85, attributes := #[] }] 49 2 #[] #[{ accessFlags := 26, nameIndex := 24, descriptorIndex := 25, attributes := #[] }])
  fields := #[{ name := "DIGITS", type := (.array .char), accessFlags := 26, slot := 0, constantValue := 0 }]
  methods := #[k2m0, k2m1]
  instanceTypes := #[]
  staticTypes := #[(.array .char)]
  resolved := Array.replicate 109 none
  statics := some 0 }

def pool3 : Array CpInfo := pool [(1, .class_ 2), (0, u "java/lang/Appendable"), (0, .class_ 4), (0, u "java/lang/Object")] 9

/-- java/lang/Appendable -/
def k3 : Class := { plain "java/lang/Appendable" (some 0) with
  accessFlags := 1537
  interfaces := #[]
  cf := some (fileOf pool3 1 #[] #[] 1537 3 #[] #[])
  fields := #[]
  methods := #[]
  instanceTypes := #[]
  staticTypes := #[]
  resolved := Array.replicate 14 none
  statics := none }

def pool4 : Array CpInfo := pool [(2, .class_ 4), (1, u "java/lang/CharSequence"), (42, .class_ 48), (0, u "java/lang/CharSequence$1CodePointIterator"), (10, .class_ 60), (0, u "java/lang/CharSequence$1CharIterator"), (5, .class_ 67), (0, u "java/lang/Object")] 63

/-- java/lang/CharSequence -/
def k4 : Class := { plain "java/lang/CharSequence" (some 0) with
  accessFlags := 1537
  interfaces := #[]
  cf := some (fileOf pool4 2 #[.nestMembers #[47, 59]] #[] 1537 66 #[] #[])
  fields := #[]
  methods := #[]
  instanceTypes := #[]
  staticTypes := #[]
  resolved := Array.replicate 131 none
  statics := none }

def pool5 : Array CpInfo := pool [(1, .class_ 2), (0, u "java/lang/String"), (0, .methodref 4 5), (0, .class_ 6), (0, .nameAndType 7 8), (0, u "java/lang/Object"), (0, u "<init>"), (0, u "()V"), (1, .class_ 12), (1, u "java/lang/AbstractStringBuilder"), (0, u "EMPTYVALUE"), (0, u "[B"), (0, .fieldref 10 16), (0, .nameAndType 17 14), (0, u "value"), (0, .fieldref 1 19), (0, .nameAndType 20 21), (0, u "COMPACT_STRINGS"), (0, u "Z"), (0, .fieldref 10 23), (0, .nameAndType 24 25), (0, u "coder"), (0, u "B"), (8, u "length"), (0, u "()I"), (9, u "append"), (2, .class_ 49), (0, u "java/lang/CharSequence"), (25, u "maybeLatin1"), (3, .fieldref 10 80), (0, .nameAndType 81 82), (0, u "count"), (0, u "I"), (0, .methodref 10 84), (0, .nameAndType 85 86), (0, u "isLatin1"), (0, u "()Z"), (1, .class_ 90), (1, u "java/lang/StringLatin1"), (9, .methodref 10 101), (0, .nameAndType 102 103), (0, u "ensureCapacityInternal"), (0, u "(I)V"), (87, .methodref 88 192), (0, .nameAndType 193 194), (0, u "canEncode"), (0, u "(C)Z"), (97, u "(C)Ljava/lang/AbstractStringBuilder;"), (110, u "()[B"), (40, .class_ 445), (0, u "java/lang/Appendable"), (106, u "getValue")] 56

def k5m0 : Method := { name := "<init>", desc := "()V", sig := { parameters := [], returnType := none }, accessFlags := 0, code := none }
def k5c1 : Code := { maxStack := 2, maxLocals := 2, code := jdk_68_method_2_code, exceptionTable := #[], attributes := #[] }
def k5m1 : Method := { name := "<init>", desc := "(I)V", sig := { parameters := [.int], returnType := none }, accessFlags := 0, code := some k5c1 }
def k5c2 : Code := { maxStack := 1, maxLocals := 1, code := jdk_68_method_6_code, exceptionTable := #[], attributes := #[] }
def k5m2 : Method := { name := "length", desc := "()I", sig := { parameters := [], returnType := some .int }, accessFlags := 1, code := some k5c2 }
def k5c3 : Code := { maxStack := 4, maxLocals := 3, code := jdk_68_method_9_code, exceptionTable := #[], attributes := #[] }
def k5m3 : Method := { name := "ensureCapacityInternal", desc := "(I)V", sig := { parameters := [.int], returnType := none }, accessFlags := 2, code := some k5c3 }
def k5c4 : Code := { maxStack := 5, maxLocals := 2, code := jdk_68_method_31_code, exceptionTable := #[], attributes := #[] }
def k5m4 : Method := { name := "append", desc := "(C)Ljava/lang/AbstractStringBuilder;", sig := { parameters := [.char], returnType := some (.object "java/lang/AbstractStringBuilder") }, accessFlags := 1, code := some k5c4 }
def k5c5 : Code := { maxStack := 1, maxLocals := 1, code := jdk_68_method_64_code, exceptionTable := #[], attributes := #[] }
def k5m5 : Method := { name := "getValue", desc := "()[B", sig := { parameters := [], returnType := some (.array .byte) }, accessFlags := 16, code := some k5c5 }
def k5c6 : Code := { maxStack := 1, maxLocals := 1, code := jdk_68_method_68_code, exceptionTable := #[], attributes := #[] }
def k5m6 : Method := { name := "isLatin1", desc := "()Z", sig := { parameters := [], returnType := some .boolean }, accessFlags := 16, code := some k5c6 }
/-- java/lang/AbstractStringBuilder -/
def k5 : Class := { plain "java/lang/AbstractStringBuilder" (some 0) with
  accessFlags := 1056
  interfaces := #[3, 4]
  cf := some (fileOf pool5 10 #[] #[{ accessFlags := 0, nameIndex := 7, descriptorIndex := 8, attributes := #[] }, { accessFlags := 0, nameIndex := 7, descriptorIndex := 103, attributes := #[] }, { accessFlags := 1, nameIndex := 34, descriptorIndex := 35, attributes := #[] }, { accessFlags := 2, nameIndex := 102, descriptorIndex := 103, attributes := #[] }, { accessFlags := 1, nameIndex := 45, descriptorIndex := 292, attributes := #[] }, { accessFlags := 16, nameIndex := 552, descriptorIndex := 403, attributes := #[] }, { accessFlags := 16, nameIndex := 85, descriptorIndex := 86, attributes := #[] }] 1056 4 #[444, 48] #[{ accessFlags := 0, nameIndex := 17, descriptorIndex := 14, attributes := #[] }, { accessFlags := 0, nameIndex := 24, descriptorIndex := 25, attributes := #[] }, { accessFlags := 0, nameIndex := 75, descriptorIndex := 21, attributes := #[] }, { accessFlags := 0, nameIndex := 81, descriptorIndex := 82, attributes := #[] }, { accessFlags := 26, nameIndex := 13, descriptorIndex := 14, attributes := #[] }])
  fields := #[{ name := "value", type := (.array .byte), accessFlags := 0, slot := 0, constantValue := 0 }, { name := "coder", type := .byte, accessFlags := 0, slot := 1, constantValue := 0 }, { name := "maybeLatin1", type := .boolean, accessFlags := 0, slot := 2, constantValue := 0 }, { name := "count", type := .int, accessFlags := 0, slot := 3, constantValue := 0 }, { name := "EMPTYVALUE", type := (.array .byte), accessFlags := 26, slot := 0, constantValue := 0 }]
  methods := #[k5m0, k5m1, k5m2, k5m3, k5m4, k5m5, k5m6]
  instanceTypes := #[(.array .byte), .byte, .boolean, .int]
  staticTypes := #[(.array .byte)]
  resolved := Array.replicate 609 none
  statics := none }

def pool6 : Array CpInfo := pool [(1, .class_ 2), (0, u "java/io/Serializable"), (0, .class_ 4), (0, u "java/lang/Object")] 2

/-- java/io/Serializable -/
def k6 : Class := { plain "java/io/Serializable" (some 0) with
  accessFlags := 1537
  interfaces := #[]
  cf := some (fileOf pool6 1 #[] #[] 1537 3 #[] #[])
  fields := #[]
  methods := #[]
  instanceTypes := #[]
  staticTypes := #[]
  resolved := Array.replicate 7 none
  statics := none }

def pool7 : Array CpInfo := pool [(1, .class_ 2), (0, u "java/lang/Comparable"), (0, .class_ 4), (0, u "java/lang/Object")] 7

/-- java/lang/Comparable -/
def k7 : Class := { plain "java/lang/Comparable" (some 0) with
  accessFlags := 1537
  interfaces := #[]
  cf := some (fileOf pool7 1 #[] #[] 1537 3 #[] #[])
  fields := #[]
  methods := #[]
  instanceTypes := #[]
  staticTypes := #[]
  resolved := Array.replicate 12 none
  statics := none }

def pool8 : Array CpInfo := pool [(1, .methodref 2 3), (0, .class_ 4), (0, .nameAndType 5 6), (0, u "java/lang/AbstractStringBuilder"), (0, u "<init>"), (0, u "(I)V"), (11, .class_ 20), (1, u "java/lang/String"), (3, .class_ 26), (1, u "java/lang/StringBuilder"), (0, u "append"), (22, .methodref 2 51), (0, .nameAndType 27 52), (0, u "(C)Ljava/lang/AbstractStringBuilder;"), (84, .methodref 18 138), (0, .nameAndType 5 139), (0, u "(Ljava/lang/StringBuilder;)V"), (5, u "()V"), (10, u "()I"), (129, u "(C)Ljava/lang/StringBuilder;"), (56, .methodref 2 344), (0, .nameAndType 345 156), (0, u "length"), (3, .class_ 350), (0, u "java/lang/Appendable"), (0, .class_ 352), (0, u "java/io/Serializable"), (0, .class_ 354), (0, u "java/lang/Comparable"), (0, .class_ 356), (0, u "java/lang/CharSequence"), (0, u "serialVersionUID"), (0, u "J"), (40, u "toString"), (0, u "()Ljava/lang/String;")] 21

def k8m0 : Method := { name := "<init>", desc := "()V", sig := { parameters := [], returnType := none }, accessFlags := 1, code := none }
def k8c1 : Code := { maxStack := 2, maxLocals := 2, code := jdk_67_method_2_code, exceptionTable := #[], attributes := #[] }
def k8m1 : Method := { name := "<init>", desc := "(I)V", sig := { parameters := [.int], returnType := none }, accessFlags := 1, code := some k8c1 }
def k8c2 : Code := { maxStack := 2, maxLocals := 2, code := jdk_67_method_14_code, exceptionTable := #[], attributes := #[] }
def k8m2 : Method := { name := "append", desc := "(C)Ljava/lang/StringBuilder;", sig := { parameters := [.char], returnType := some (.object "java/lang/StringBuilder") }, accessFlags := 1, code := some k8c2 }
def k8c3 : Code := { maxStack := 3, maxLocals := 1, code := jdk_67_method_42_code, exceptionTable := #[], attributes := #[] }
def k8m3 : Method := { name := "toString", desc := "()Ljava/lang/String;", sig := { parameters := [], returnType := some (.object "java/lang/String") }, accessFlags := 1, code := some k8c3 }
def k8c4 : Code := { maxStack := 1, maxLocals := 1, code := jdk_67_method_93_code, exceptionTable := #[], attributes := #[] }
def k8m4 : Method := { name := "length", desc := "()I", sig := { parameters := [], returnType := some .int }, accessFlags := 4161, code := some k8c4 }
/-- java/lang/StringBuilder -/
def k8 : Class := { plain "java/lang/StringBuilder" (some 5) with
  accessFlags := 49
  interfaces := #[3, 6, 7, 4]
  cf := some (fileOf pool8 24 #[] #[{ accessFlags := 1, nameIndex := 5, descriptorIndex := 145, attributes := #[] }, { accessFlags := 1, nameIndex := 5, descriptorIndex := 6, attributes := #[] }, { accessFlags := 1, nameIndex := 27, descriptorIndex := 286, attributes := #[] }, { accessFlags := 1, nameIndex := 399, descriptorIndex := 400, attributes := #[] }, { accessFlags := 4161, nameIndex := 345, descriptorIndex := 156, attributes := #[] }] 49 2 #[349, 351, 353, 355] #[{ accessFlags := 24, nameIndex := 357, descriptorIndex := 358, attributes := #[] }])
  fields := #[{ name := "serialVersionUID", type := .long, accessFlags := 24, slot := 0, constantValue := 0 }]
  methods := #[k8m0, k8m1, k8m2, k8m3, k8m4]
  instanceTypes := #[(.array .byte), .byte, .boolean, .int]
  staticTypes := #[.long]
  resolved := Array.replicate 422 none
  statics := none }

def pool9 : Array CpInfo := pool [(1, .class_ 2), (0, u "java/lang/constant/Constable"), (0, .class_ 4), (0, u "java/lang/Object")] 6

/-- java/lang/constant/Constable -/
def k9 : Class := { plain "java/lang/constant/Constable" (some 0) with
  accessFlags := 1537
  interfaces := #[]
  cf := some (fileOf pool9 1 #[] #[] 1537 3 #[] #[])
  fields := #[]
  methods := #[]
  instanceTypes := #[]
  staticTypes := #[]
  resolved := Array.replicate 11 none
  statics := none }

def pool10 : Array CpInfo := pool [(1, .class_ 2), (0, u "java/lang/constant/ConstantDesc"), (0, .class_ 4), (0, u "java/lang/Object")] 32

/-- java/lang/constant/ConstantDesc -/
def k10 : Class := { plain "java/lang/constant/ConstantDesc" (some 0) with
  accessFlags := 1537
  interfaces := #[]
  cf := some (fileOf pool10 1 #[] #[] 1537 3 #[] #[])
  fields := #[]
  methods := #[]
  instanceTypes := #[]
  staticTypes := #[]
  resolved := Array.replicate 37 none
  statics := none }

def pool11 : Array CpInfo := pool [(1, .methodref 2 3), (0, .class_ 4), (0, .nameAndType 5 6), (0, u "java/lang/Object"), (0, u "<init>"), (0, u "()V"), (2, .fieldref 10 11), (0, .class_ 12), (0, .nameAndType 13 14), (0, u "java/lang/String"), (0, u "value"), (0, u "[B"), (0, .fieldref 10 16), (0, .nameAndType 17 18), (0, u "coder"), (0, u "B"), (2, u "hash"), (0, u "I"), (2, u "hashIsZero"), (0, u "Z"), (11, .fieldref 10 39), (0, .nameAndType 40 26), (0, u "COMPACT_STRINGS"), (13, .methodref 55 56), (0, .class_ 57), (0, .nameAndType 58 59), (0, u "java/util/Arrays"), (0, u "copyOfRange"), (0, u "([BII)[B"), (47, .class_ 109), (1, u "java/lang/StringLatin1"), (32, u "()Z"), (191, u "()I"), (0, .methodref 10 336), (0, .nameAndType 17 337), (0, u "()B"), (2, u "()[B"), (22, u "([BI)C"), (27, u "(II)V"), (35, u "(I)C"), (61, .methodref 10 490), (0, .nameAndType 5 491), (0, u "(Ljava/lang/AbstractStringBuilder;Ljava/lang/Void;)V"), (0, .methodref 10 493), (0, .nameAndType 494 142), (0, u "isLatin1"), (0, .methodref 107 496), (0, .nameAndType 497 363), (0, u "charAt"), (3, u "checkIndex"), (4, .nameAndType 507 334), (0, u "length"), (41, .methodref 550 506), (0, .class_ 551), (0, u "java/lang/AbstractStringBuilder"), (0, .methodref 550 553), (0, .nameAndType 554 340), (0, u "getValue"), (20, .class_ 576), (0, u "java/lang/CharSequence"), (22, u "CASE_INSENSITIVE_ORDER"), (0, u "Ljava/util/Comparator;"), (446, .methodref 550 493), (5, .fieldref 1054 1055), (0, .class_ 1056), (0, .nameAndType 1057 1058), (0, u "jdk/internal/util/Preconditions"), (0, u "SIOOBE_FORMATTER"), (0, u "Ljava/util/function/BiFunction;"), (0, .methodref 1054 1060), (0, .nameAndType 501 1061), (0, u "(IILjava/util/function/BiFunction;)I"), (39, u "serialPersistentFields"), (0, u "[Ljava/io/ObjectStreamField;"), (0, .class_ 1104), (0, u "java/lang/String$CaseInsensitiveComparator"), (1, .class_ 1107), (0, u "java/io/Serializable"), (0, .class_ 1109), (0, u "java/lang/Comparable"), (0, .class_ 1111), (0, u "java/lang/constant/Constable"), (0, .class_ 1113), (0, u "java/lang/constant/ConstantDesc"), (2, u "serialVersionUID"), (0, u "J"), (3, u "REPL"), (0, u "C"), (2, u "LATIN1"), (1, u "UTF16"), (105, u "(Ljava/lang/StringBuilder;)V")] 217

def k11m0 : Method := { name := "<init>", desc := "()V", sig := { parameters := [], returnType := none }, accessFlags := 1, code := none }
def k11c1 : Code := { maxStack := 3, maxLocals := 2, code := jdk_42_method_53_code, exceptionTable := #[], attributes := #[] }
def k11m1 : Method := { name := "<init>", desc := "(Ljava/lang/StringBuilder;)V", sig := { parameters := [(.object "java/lang/StringBuilder")], returnType := none }, accessFlags := 1, code := some k11c1 }
def k11c2 : Code := { maxStack := 2, maxLocals := 1, code := jdk_42_method_54_code, exceptionTable := #[], attributes := #[] }
def k11m2 : Method := { name := "length", desc := "()I", sig := { parameters := [], returnType := some .int }, accessFlags := 1, code := some k11c2 }
def k11c3 : Code := { maxStack := 2, maxLocals := 2, code := jdk_42_method_56_code, exceptionTable := #[], attributes := #[] }
def k11m3 : Method := { name := "charAt", desc := "(I)C", sig := { parameters := [.int], returnType := some .char }, accessFlags := 1, code := some k11c3 }
def k11c4 : Code := { maxStack := 5, maxLocals := 5, code := jdk_42_method_150_code, exceptionTable := #[], attributes := #[] }
def k11m4 : Method := { name := "<init>", desc := "(Ljava/lang/AbstractStringBuilder;Ljava/lang/Void;)V", sig := { parameters := [(.object "java/lang/AbstractStringBuilder"), (.object "java/lang/Void")], returnType := none }, accessFlags := 0, code := some k11c4 }
def k11c5 : Code := { maxStack := 1, maxLocals := 1, code := jdk_42_method_152_code, exceptionTable := #[], attributes := #[] }
def k11m5 : Method := { name := "coder", desc := "()B", sig := { parameters := [], returnType := some .byte }, accessFlags := 0, code := some k11c5 }
def k11c6 : Code := { maxStack := 1, maxLocals := 1, code := jdk_42_method_154_code, exceptionTable := #[], attributes := #[] }
def k11m6 : Method := { name := "isLatin1", desc := "()Z", sig := { parameters := [], returnType := some .boolean }, accessFlags := 0, code := some k11c6 }
def k11c7 : Code := { maxStack := 3, maxLocals := 2, code := jdk_42_method_155_code, exceptionTable := #[], attributes := #[] }
def k11m7 : Method := { name := "checkIndex", desc := "(II)V", sig := { parameters := [.int, .int], returnType := none }, accessFlags := 8, code := some k11c7 }
/-- java/lang/String -/
def k11 : Class := { plain "java/lang/String" (some 0) with
  accessFlags := 49
  interfaces := #[6, 7, 4, 9, 10]
  cf := some (fileOf pool11 10 #[.nestMembers #[1103]] #[{ accessFlags := 1, nameIndex := 5, descriptorIndex := 6, attributes := #[] }, { accessFlags := 1, nameIndex := 5, descriptorIndex := 1233, attributes := #[] }, { accessFlags := 1, nameIndex := 507, descriptorIndex := 334, attributes := #[] }, { accessFlags := 1, nameIndex := 497, descriptorIndex := 427, attributes := #[] }, { accessFlags := 0, nameIndex := 5, descriptorIndex := 491, attributes := #[] }, { accessFlags := 0, nameIndex := 17, descriptorIndex := 337, attributes := #[] }, { accessFlags := 0, nameIndex := 494, descriptorIndex := 142, attributes := #[] }, { accessFlags := 8, nameIndex := 501, descriptorIndex := 391, attributes := #[] }] 49 2 #[1106, 1108, 575, 1110, 1112] #[{ accessFlags := 18, nameIndex := 13, descriptorIndex := 14, attributes := #[] }, { accessFlags := 18, nameIndex := 17, descriptorIndex := 18, attributes := #[] }, { accessFlags := 2, nameIndex := 21, descriptorIndex := 22, attributes := #[] }, { accessFlags := 2, nameIndex := 25, descriptorIndex := 26, attributes := #[] }, { accessFlags := 26, nameIndex := 1116, descriptorIndex := 1117, attributes := #[] }, { accessFlags := 24, nameIndex := 40, descriptorIndex := 26, attributes := #[] }, { accessFlags := 26, nameIndex := 1101, descriptorIndex := 1102, attributes := #[] }, { accessFlags := 26, nameIndex := 1121, descriptorIndex := 1122, attributes := #[] }, { accessFlags := 25, nameIndex := 599, descriptorIndex := 600, attributes := #[] }, { accessFlags := 24, nameIndex := 1125, descriptorIndex := 18, attributes := #[] }, { accessFlags := 24, nameIndex := 1127, descriptorIndex := 18, attributes := #[] }])
  fields := #[{ name := "value", type := (.array .byte), accessFlags := 18, slot := 0, constantValue := 0 }, { name := "coder", type := .byte, accessFlags := 18, slot := 1, constantValue := 0 }, { name := "hash", type := .int, accessFlags := 2, slot := 2, constantValue := 0 }, { name := "hashIsZero", type := .boolean, accessFlags := 2, slot := 3, constantValue := 0 }, { name := "serialVersionUID", type := .long, accessFlags := 26, slot := 0, constantValue := 0 }, { name := "COMPACT_STRINGS", type := .boolean, accessFlags := 24, slot := 1, constantValue := 0 }, { name := "serialPersistentFields", type := (.array (.object "java/io/ObjectStreamField")), accessFlags := 26, slot := 2, constantValue := 0 }, { name := "REPL", type := .char, accessFlags := 26, slot := 3, constantValue := 0 }, { name := "CASE_INSENSITIVE_ORDER", type := (.object "java/util/Comparator"), accessFlags := 25, slot := 4, constantValue := 0 }, { name := "LATIN1", type := .byte, accessFlags := 24, slot := 5, constantValue := 0 }, { name := "UTF16", type := .byte, accessFlags := 24, slot := 6, constantValue := 0 }]
  methods := #[k11m0, k11m1, k11m2, k11m3, k11m4, k11m5, k11m6, k11m7]
  instanceTypes := #[(.array .byte), .byte, .int, .boolean]
  staticTypes := #[.long, .boolean, (.array (.object "java/io/ObjectStreamField")), .char, (.object "java/util/Comparator"), .byte, .byte]
  resolved := Array.replicate 1451 none
  statics := some 1 }

def pool12 : Array CpInfo := pool [(2, .class_ 4), (1, u "java/lang/Object"), (0, u "<init>"), (0, u "()V"), (7, .class_ 16), (1, u "java/util/Arrays"), (57, .class_ 76), (1, u "java/util/Arrays$NaturalOrder"), (32, u "()Ljava/lang/Object;"), (3, .class_ 115), (1, u "java/util/Arrays$LegacyMergeSort"), (1, u "Z"), (10, .nameAndType 129 109), (0, u "clone"), (9, u "copyOfRange"), (10, .methodref 151 152), (0, .class_ 153), (0, .nameAndType 154 155), (0, u "java/lang/System"), (0, u "arraycopy"), (0, u "(Ljava/lang/Object;ILjava/lang/Object;II)V"), (148, .methodref 305 306), (0, .class_ 307), (0, .nameAndType 308 309), (0, u "java/lang/Math"), (0, u "min"), (0, u "(II)I"), (0, .methodref 311 128), (0, .class_ 312), (0, u "[B"), (26, .methodref 14 340), (0, .nameAndType 341 342), (0, u "copyOfRangeByte"), (0, u "([BII)[B"), (0, .methodref 14 344), (0, .nameAndType 345 346), (0, u "checkLength"), (0, u "(II)V"), (28, .class_ 376), (0, u "java/util/Arrays$ArrayList"), (68, u "$assertionsDisabled"), (269, u "MIN_ARRAY_SORT_GRAN"), (0, u "I"), (2, u "INSERTIONSORT_THRESHOLD"), (255, .class_ 976), (0, u "java/util/Arrays$ArrayItr")] 52

def k12m0 : Method := { name := "<init>", desc := "()V", sig := { parameters := [], returnType := none }, accessFlags := 2, code := none }
def k12c1 : Code := { maxStack := 4, maxLocals := 2, code := jdk_65_method_131_code, exceptionTable := #[], attributes := #[] }
def k12m1 : Method := { name := "checkLength", desc := "(II)V", sig := { parameters := [.int, .int], returnType := none }, accessFlags := 10, code := some k12c1 }
def k12c2 : Code := { maxStack := 3, maxLocals := 3, code := jdk_65_method_132_code, exceptionTable := #[], attributes := #[] }
def k12m2 : Method := { name := "copyOfRange", desc := "([BII)[B", sig := { parameters := [(.array .byte), .int, .int], returnType := some (.array .byte) }, accessFlags := 9, code := some k12c2 }
def k12c3 : Code := { maxStack := 6, maxLocals := 5, code := jdk_65_method_133_code, exceptionTable := #[], attributes := #[] }
def k12m3 : Method := { name := "copyOfRangeByte", desc := "([BII)[B", sig := { parameters := [(.array .byte), .int, .int], returnType := some (.array .byte) }, accessFlags := 10, code := some k12c3 }
/-- java/util/Arrays -/
def k12 : Class := { plain "java/util/Arrays" (some 0) with
  accessFlags := 49
  interfaces := #[]
  cf := some (fileOf pool12 14 #[.nestMembers #[975, 375, 113, 74]] #[{ accessFlags := 2, nameIndex := 5, descriptorIndex := 6, attributes := #[] }, { accessFlags := 10, nameIndex := 345, descriptorIndex := 346, attributes := #[] }, { accessFlags := 9, nameIndex := 139, descriptorIndex := 342, attributes := #[] }, { accessFlags := 10, nameIndex := 341, descriptorIndex := 342, attributes := #[] }] 49 2 #[] #[{ accessFlags := 26, nameIndex := 715, descriptorIndex := 716, attributes := #[] }, { accessFlags := 26, nameIndex := 719, descriptorIndex := 716, attributes := #[] }, { accessFlags := 4120, nameIndex := 445, descriptorIndex := 117, attributes := #[] }])
  fields := #[{ name := "MIN_ARRAY_SORT_GRAN", type := .int, accessFlags := 26, slot := 0, constantValue := 0 }, { name := "INSERTIONSORT_THRESHOLD", type := .int, accessFlags := 26, slot := 1, constantValue := 0 }, { name := "$assertionsDisabled", type := .boolean, accessFlags := 4120, slot := 2, constantValue := 0 }]
  methods := #[k12m0, k12m1, k12m2, k12m3]
  instanceTypes := #[]
  staticTypes := #[.int, .int, .boolean]
  resolved := Array.replicate 1029 none
  statics := none }

def pool13 : Array CpInfo := pool [(1, .class_ 2), (0, u "java/lang/Cloneable"), (0, .class_ 4), (0, u "java/lang/Object")] 2

/-- java/lang/Cloneable -/
def k13 : Class := { plain "java/lang/Cloneable" (some 0) with
  accessFlags := 1537
  interfaces := #[]
  cf := some (fileOf pool13 1 #[] #[] 1537 3 #[] #[])
  fields := #[]
  methods := #[]
  instanceTypes := #[]
  staticTypes := #[]
  resolved := Array.replicate 7 none
  statics := none }

def pool14 : Array CpInfo := pool [(1, .class_ 2), (0, u "java/lang/String"), (1, .class_ 6), (1, u "java/lang/Object"), (0, u "<init>"), (0, u "()V"), (0, .methodref 1 10), (0, .nameAndType 11 12), (0, u "checkIndex"), (0, u "(II)V"), (1, .class_ 16), (1, u "java/lang/StringLatin1"), (36, u "([BI)C"), (36, u "canEncode"), (14, u "(C)Z"), (15, u "$assertionsDisabled"), (0, u "Z"), (98, .class_ 223), (1, u "java/lang/StringLatin1$LinesSpliterator"), (28, u "charAt"), (137, .class_ 391), (0, u "java/lang/StringLatin1$CharsSpliterator")] 3

def k14m0 : Method := { name := "<init>", desc := "()V", sig := { parameters := [], returnType := none }, accessFlags := 0, code := none }
def k14c1 : Code := { maxStack := 2, maxLocals := 2, code := jdk_43_method_2_code, exceptionTable := #[], attributes := #[] }
def k14m1 : Method := { name := "charAt", desc := "([BI)C", sig := { parameters := [(.array .byte), .int], returnType := some .char }, accessFlags := 9, code := some k14c1 }
def k14c2 : Code := { maxStack := 2, maxLocals := 1, code := jdk_43_method_3_code, exceptionTable := #[], attributes := #[] }
def k14m2 : Method := { name := "canEncode", desc := "(C)Z", sig := { parameters := [.char], returnType := some .boolean }, accessFlags := 9, code := some k14c2 }
/-- java/lang/StringLatin1 -/
def k14 : Class := { plain "java/lang/StringLatin1" (some 0) with
  accessFlags := 48
  interfaces := #[]
  cf := some (fileOf pool14 14 #[.nestMembers #[390, 221]] #[{ accessFlags := 0, nameIndex := 7, descriptorIndex := 8, attributes := #[] }, { accessFlags := 9, nameIndex := 252, descriptorIndex := 53, attributes := #[] }, { accessFlags := 9, nameIndex := 90, descriptorIndex := 105, attributes := #[] }] 48 4 #[] #[{ accessFlags := 4120, nameIndex := 121, descriptorIndex := 122, attributes := #[] }])
  fields := #[{ name := "$assertionsDisabled", type := .boolean, accessFlags := 4120, slot := 0, constantValue := 0 }]
  methods := #[k14m0, k14m1, k14m2]
  instanceTypes := #[]
  staticTypes := #[.boolean]
  resolved := Array.replicate 395 none
  statics := none }

def pool15 : Array CpInfo := pool [(1, .class_ 2), (0, u "java/lang/Math"), (1, .class_ 6), (1, u "java/lang/Object"), (0, u "<init>"), (0, u "()V"), (89, .class_ 100), (1, u "java/lang/Math$RandomNumberGeneratorHolder"), (71, u "negativeZeroFloatBits"), (0, u "J"), (2, u "negativeZeroDoubleBits"), (24, u "min"), (43, u "$assertionsDisabled"), (0, u "Z"), (88, u "(II)I"), (2, u "twoToTheDoubleScaleDown"), (0, u "D"), (4, u "twoToTheDoubleScaleUp"), (9, u "E"), (3, u "PI"), (2, u "TAU"), (2, u "DEGREES_TO_RADIANS"), (0, u "RADIANS_TO_DEGREES")] 94

def k15m0 : Method := { name := "<init>", desc := "()V", sig := { parameters := [], returnType := none }, accessFlags := 2, code := none }
def k15c1 : Code := { maxStack := 2, maxLocals := 2, code := jdk_29_method_69_code, exceptionTable := #[], attributes := #[] }
def k15m1 : Method := { name := "min", desc := "(II)I", sig := { parameters := [.int, .int], returnType := some .int }, accessFlags := 9, code := some k15c1 }
/-- java/lang/Math -/
def k15 : Class := { plain "java/lang/Math" (some 0) with
  accessFlags := 49
  interfaces := #[]
  cf := some (fileOf pool15 1 #[.nestMembers #[98]] #[{ accessFlags := 2, nameIndex := 7, descriptorIndex := 8, attributes := #[] }, { accessFlags := 9, nameIndex := 201, descriptorIndex := 335, attributes := #[] }] 49 4 #[] #[{ accessFlags := 25, nameIndex := 354, descriptorIndex := 339, attributes := #[] }, { accessFlags := 25, nameIndex := 358, descriptorIndex := 339, attributes := #[] }, { accessFlags := 25, nameIndex := 361, descriptorIndex := 339, attributes := #[] }, { accessFlags := 26, nameIndex := 364, descriptorIndex := 339, attributes := #[] }, { accessFlags := 26, nameIndex := 365, descriptorIndex := 339, attributes := #[] }, { accessFlags := 26, nameIndex := 172, descriptorIndex := 173, attributes := #[] }, { accessFlags := 26, nameIndex := 176, descriptorIndex := 173, attributes := #[] }, { accessFlags := 8, nameIndex := 344, descriptorIndex := 339, attributes := #[] }, { accessFlags := 8, nameIndex := 338, descriptorIndex := 339, attributes := #[] }, { accessFlags := 4120, nameIndex := 245, descriptorIndex := 246, attributes := #[] }])
  fields := #[{ name := "E", type := .double, accessFlags := 25, slot := 0, constantValue := 0 }, { name := "PI", type := .double, accessFlags := 25, slot := 1, constantValue := 0 }, { name := "TAU", type := .double, accessFlags := 25, slot := 2, constantValue := 0 }, { name := "DEGREES_TO_RADIANS", type := .double, accessFlags := 26, slot := 3, constantValue := 0 }, { name := "RADIANS_TO_DEGREES", type := .double, accessFlags := 26, slot := 4, constantValue := 0 }, { name := "negativeZeroFloatBits", type := .long, accessFlags := 26, slot := 5, constantValue := 0 }, { name := "negativeZeroDoubleBits", type := .long, accessFlags := 26, slot := 6, constantValue := 0 }, { name := "twoToTheDoubleScaleUp", type := .double, accessFlags := 8, slot := 7, constantValue := 0 }, { name := "twoToTheDoubleScaleDown", type := .double, accessFlags := 8, slot := 8, constantValue := 0 }, { name := "$assertionsDisabled", type := .boolean, accessFlags := 4120, slot := 9, constantValue := 0 }]
  methods := #[k15m0, k15m1]
  instanceTypes := #[]
  staticTypes := #[.double, .double, .double, .double, .double, .long, .long, .double, .double, .boolean]
  resolved := Array.replicate 460 none
  statics := none }

def pool16 : Array CpInfo := pool [(2, .class_ 4), (1, u "java/lang/Object"), (0, u "<init>"), (0, u "()V"), (1, .class_ 10), (1, u "java/lang/System"), (0, u "allowSecurityManager"), (0, u "I"), (16, u "cons"), (0, u "Ljava/io/Console;"), (77, .class_ 110), (1, u "java/lang/System$CallersHolder"), (43, u "initialErrStream"), (0, u "Ljava/io/PrintStream;"), (19, u "security"), (0, u "Ljava/lang/SecurityManager;"), (31, .class_ 209), (0, u "java/lang/System$1"), (7, u "props"), (0, u "Ljava/util/Properties;"), (2, u "lineSeparator"), (0, u "Ljava/lang/String;"), (96, .class_ 321), (1, u "java/lang/System$LoggerFinder"), (5, .class_ 328), (0, u "java/lang/System$Logger"), (67, u "err"), (2, u "out"), (91, u "notSupportedJnuEncoding"), (15, u "in"), (17, u "initialIn"), (0, u "Ljava/io/InputStream;"), (35, u "bootLayer"), (0, u "Ljava/lang/ModuleLayer;"), (99, .class_ 664), (0, u "java/lang/System$2"), (9, u "NEVER"), (2, u "MAYBE"), (49, u "arraycopy"), (0, u "(Ljava/lang/Object;ILjava/lang/Object;II)V"), (72, .class_ 802), (0, u "java/lang/System$Logger$Level")] 31

def k16m0 : Method := { name := "<init>", desc := "()V", sig := { parameters := [], returnType := none }, accessFlags := 2, code := none }
def k16m1 : Method := { name := "arraycopy", desc := "(Ljava/lang/Object;ILjava/lang/Object;II)V", sig := { parameters := [(.object "java/lang/Object"), .int, (.object "java/lang/Object"), .int, .int], returnType := none }, accessFlags := 265, code := none }
/-- java/lang/System -/
def k16 : Class := { plain "java/lang/System" (some 0) with
  accessFlags := 49
  interfaces := #[]
  cf := some (fileOf pool16 8 #[.nestMembers #[319, 327, 801, 108, 663, 208]] #[{ accessFlags := 2, nameIndex := 5, descriptorIndex := 6, attributes := #[] }, { accessFlags := 265, nameIndex := 727, descriptorIndex := 728, attributes := #[] }] 49 2 #[] #[{ accessFlags := 25, nameIndex := 507, descriptorIndex := 526, attributes := #[] }, { accessFlags := 25, nameIndex := 399, descriptorIndex := 155, attributes := #[] }, { accessFlags := 25, nameIndex := 396, descriptorIndex := 155, attributes := #[] }, { accessFlags := 10, nameIndex := 525, descriptorIndex := 526, attributes := #[] }, { accessFlags := 26, nameIndex := 674, descriptorIndex := 12, attributes := #[] }, { accessFlags := 26, nameIndex := 677, descriptorIndex := 12, attributes := #[] }, { accessFlags := 10, nameIndex := 11, descriptorIndex := 12, attributes := #[] }, { accessFlags := 74, nameIndex := 175, descriptorIndex := 176, attributes := #[] }, { accessFlags := 10, nameIndex := 491, descriptorIndex := 222, attributes := #[] }, { accessFlags := 74, nameIndex := 29, descriptorIndex := 30, attributes := #[] }, { accessFlags := 74, nameIndex := 154, descriptorIndex := 155, attributes := #[] }, { accessFlags := 10, nameIndex := 217, descriptorIndex := 218, attributes := #[] }, { accessFlags := 10, nameIndex := 221, descriptorIndex := 222, attributes := #[] }, { accessFlags := 8, nameIndex := 562, descriptorIndex := 563, attributes := #[] }])
  fields := #[{ name := "in", type := (.object "java/io/InputStream"), accessFlags := 25, slot := 0, constantValue := 0 }, { name := "out", type := (.object "java/io/PrintStream"), accessFlags := 25, slot := 1, constantValue := 0 }, { name := "err", type := (.object "java/io/PrintStream"), accessFlags := 25, slot := 2, constantValue := 0 }, { name := "initialIn", type := (.object "java/io/InputStream"), accessFlags := 10, slot := 3, constantValue := 0 }, { name := "NEVER", type := .int, accessFlags := 26, slot := 4, constantValue := 0 }, { name := "MAYBE", type := .int, accessFlags := 26, slot := 5, constantValue := 0 }, { name := "allowSecurityManager", type := .int, accessFlags := 10, slot := 6, constantValue := 0 }, { name := "security", type := (.object "java/lang/SecurityManager"), accessFlags := 74, slot := 7, constantValue := 0 }, { name := "notSupportedJnuEncoding", type := (.object "java/lang/String"), accessFlags := 10, slot := 8, constantValue := 0 }, { name := "cons", type := (.object "java/io/Console"), accessFlags := 74, slot := 9, constantValue := 0 }, { name := "initialErrStream", type := (.object "java/io/PrintStream"), accessFlags := 74, slot := 10, constantValue := 0 }, { name := "props", type := (.object "java/util/Properties"), accessFlags := 10, slot := 11, constantValue := 0 }, { name := "lineSeparator", type := (.object "java/lang/String"), accessFlags := 10, slot := 12, constantValue := 0 }, { name := "bootLayer", type := (.object "java/lang/ModuleLayer"), accessFlags := 8, slot := 13, constantValue := 0 }]
  methods := #[k16m0, k16m1]
  instanceTypes := #[]
  staticTypes := #[(.object "java/io/InputStream"), (.object "java/io/PrintStream"), (.object "java/io/PrintStream"), (.object "java/io/InputStream"), .int, .int, .int, (.object "java/lang/SecurityManager"), (.object "java/lang/String"), (.object "java/io/Console"), (.object "java/io/PrintStream"), (.object "java/util/Properties"), (.object "java/lang/String"), (.object "java/lang/ModuleLayer")]
  resolved := Array.replicate 834 none
  statics := none }

def pool17 : Array CpInfo := pool [(2, .class_ 4), (1, u "java/lang/Object"), (0, u "<init>"), (0, u "()V"), (17, .class_ 26), (1, u "jdk/internal/util/Preconditions"), (6, u "checkIndex"), (21, .class_ 56), (0, u "jdk/internal/util/Preconditions$4"), (57, .class_ 115), (0, u "jdk/internal/util/Preconditions$1"), (7, u "SIOOBE_FORMATTER"), (0, u "Ljava/util/function/BiFunction;"), (0, .class_ 126), (0, u "jdk/internal/util/Preconditions$2"), (3, u "AIOOBE_FORMATTER"), (0, .class_ 132), (0, u "jdk/internal/util/Preconditions$3"), (3, u "IOOBE_FORMATTER"), (41, u "(IILjava/util/function/BiFunction;)I")] 15

def k17m0 : Method := { name := "<init>", desc := "()V", sig := { parameters := [], returnType := none }, accessFlags := 1, code := none }
def k17c1 : Code := { maxStack := 3, maxLocals := 3, code := jdk_41_method_11_code, exceptionTable := #[], attributes := #[] }
def k17m1 : Method := { name := "checkIndex", desc := "(IILjava/util/function/BiFunction;)I", sig := { parameters := [.int, .int, (.object "java/util/function/BiFunction")], returnType := some .int }, accessFlags := 9, code := some k17c1 }
/-- jdk/internal/util/Preconditions -/
def k17 : Class := { plain "jdk/internal/util/Preconditions" (some 0) with
  accessFlags := 33
  interfaces := #[]
  cf := some (fileOf pool17 24 #[.nestMembers #[55, 131, 125, 114]] #[{ accessFlags := 1, nameIndex := 5, descriptorIndex := 6, attributes := #[] }, { accessFlags := 9, nameIndex := 33, descriptorIndex := 178, attributes := #[] }] 33 2 #[] #[{ accessFlags := 25, nameIndex := 123, descriptorIndex := 124, attributes := #[] }, { accessFlags := 25, nameIndex := 130, descriptorIndex := 124, attributes := #[] }, { accessFlags := 25, nameIndex := 136, descriptorIndex := 124, attributes := #[] }])
  fields := #[{ name := "SIOOBE_FORMATTER", type := (.object "java/util/function/BiFunction"), accessFlags := 25, slot := 0, constantValue := 0 }, { name := "AIOOBE_FORMATTER", type := (.object "java/util/function/BiFunction"), accessFlags := 25, slot := 1, constantValue := 0 }, { name := "IOOBE_FORMATTER", type := (.object "java/util/function/BiFunction"), accessFlags := 25, slot := 2, constantValue := 0 }]
  methods := #[k17m0, k17m1]
  instanceTypes := #[]
  staticTypes := #[(.object "java/util/function/BiFunction"), (.object "java/util/function/BiFunction"), (.object "java/util/function/BiFunction")]
  resolved := Array.replicate 194 none
  statics := some 2 }

def pool18 : Array CpInfo := pool [(9, u "<init>"), (6, .class_ 18), (1, u "java/lang/Object"), (0, u "()V"), (1, .class_ 23), (1, u "jdk/internal/util/ArraysSupport"), (0, u "LOG2_ARRAY_LONG_INDEX_SCALE"), (0, u "I"), (2, u "U"), (0, u "Ljdk/internal/misc/Unsafe;"), (8, u "BIG_ENDIAN"), (0, u "Z"), (8, u "LOG2_BYTE_BIT_SIZE"), (4, u "LOG2_ARRAY_INT_INDEX_SCALE"), (54, u "JLA"), (0, u "Ljdk/internal/access/JavaLangAccess;"), (11, u "LOG2_ARRAY_BOOLEAN_INDEX_SCALE"), (9, u "LOG2_ARRAY_BYTE_INDEX_SCALE"), (5, u "LOG2_ARRAY_CHAR_INDEX_SCALE"), (5, u "LOG2_ARRAY_SHORT_INDEX_SCALE"), (18, u "LOG2_ARRAY_FLOAT_INDEX_SCALE"), (24, u "LOG2_ARRAY_DOUBLE_INDEX_SCALE"), (89, u "T_BOOLEAN"), (2, u "T_CHAR"), (1, u "T_FLOAT"), (1, u "T_DOUBLE"), (1, u "T_BYTE"), (1, u "T_SHORT"), (1, u "T_INT"), (1, u "T_LONG"), (1, u "SOFT_MAX_ARRAY_LENGTH")] 83

def k18m0 : Method := { name := "<init>", desc := "()V", sig := { parameters := [], returnType := none }, accessFlags := 2, code := none }
/-- jdk/internal/util/ArraysSupport -/
def k18 : Class := { plain "jdk/internal/util/ArraysSupport" (some 0) with
  accessFlags := 33
  interfaces := #[]
  cf := some (fileOf pool18 21 #[] #[{ accessFlags := 2, nameIndex := 9, descriptorIndex := 19, attributes := #[] }] 33 16 #[] #[{ accessFlags := 24, nameIndex := 28, descriptorIndex := 29, attributes := #[] }, { accessFlags := 26, nameIndex := 38, descriptorIndex := 39, attributes := #[] }, { accessFlags := 25, nameIndex := 121, descriptorIndex := 25, attributes := #[] }, { accessFlags := 25, nameIndex := 131, descriptorIndex := 25, attributes := #[] }, { accessFlags := 25, nameIndex := 137, descriptorIndex := 25, attributes := #[] }, { accessFlags := 25, nameIndex := 143, descriptorIndex := 25, attributes := #[] }, { accessFlags := 25, nameIndex := 53, descriptorIndex := 25, attributes := #[] }, { accessFlags := 25, nameIndex := 24, descriptorIndex := 25, attributes := #[] }, { accessFlags := 25, nameIndex := 162, descriptorIndex := 25, attributes := #[] }, { accessFlags := 25, nameIndex := 187, descriptorIndex := 25, attributes := #[] }, { accessFlags := 26, nameIndex := 48, descriptorIndex := 25, attributes := #[] }, { accessFlags := 25, nameIndex := 277, descriptorIndex := 25, attributes := #[] }, { accessFlags := 25, nameIndex := 280, descriptorIndex := 25, attributes := #[] }, { accessFlags := 25, nameIndex := 282, descriptorIndex := 25, attributes := #[] }, { accessFlags := 25, nameIndex := 284, descriptorIndex := 25, attributes := #[] }, { accessFlags := 25, nameIndex := 286, descriptorIndex := 25, attributes := #[] }, { accessFlags := 25, nameIndex := 288, descriptorIndex := 25, attributes := #[] }, { accessFlags := 25, nameIndex := 290, descriptorIndex := 25, attributes := #[] }, { accessFlags := 25, nameIndex := 292, descriptorIndex := 25, attributes := #[] }, { accessFlags := 26, nameIndex := 108, descriptorIndex := 109, attributes := #[] }, { accessFlags := 25, nameIndex := 294, descriptorIndex := 25, attributes := #[] }])
  fields := #[{ name := "U", type := (.object "jdk/internal/misc/Unsafe"), accessFlags := 24, slot := 0, constantValue := 0 }, { name := "BIG_ENDIAN", type := .boolean, accessFlags := 26, slot := 1, constantValue := 0 }, { name := "LOG2_ARRAY_BOOLEAN_INDEX_SCALE", type := .int, accessFlags := 25, slot := 2, constantValue := 0 }, { name := "LOG2_ARRAY_BYTE_INDEX_SCALE", type := .int, accessFlags := 25, slot := 3, constantValue := 0 }, { name := "LOG2_ARRAY_CHAR_INDEX_SCALE", type := .int, accessFlags := 25, slot := 4, constantValue := 0 }, { name := "LOG2_ARRAY_SHORT_INDEX_SCALE", type := .int, accessFlags := 25, slot := 5, constantValue := 0 }, { name := "LOG2_ARRAY_INT_INDEX_SCALE", type := .int, accessFlags := 25, slot := 6, constantValue := 0 }, { name := "LOG2_ARRAY_LONG_INDEX_SCALE", type := .int, accessFlags := 25, slot := 7, constantValue := 0 }, { name := "LOG2_ARRAY_FLOAT_INDEX_SCALE", type := .int, accessFlags := 25, slot := 8, constantValue := 0 }, { name := "LOG2_ARRAY_DOUBLE_INDEX_SCALE", type := .int, accessFlags := 25, slot := 9, constantValue := 0 }, { name := "LOG2_BYTE_BIT_SIZE", type := .int, accessFlags := 26, slot := 10, constantValue := 0 }, { name := "T_BOOLEAN", type := .int, accessFlags := 25, slot := 11, constantValue := 0 }, { name := "T_CHAR", type := .int, accessFlags := 25, slot := 12, constantValue := 0 }, { name := "T_FLOAT", type := .int, accessFlags := 25, slot := 13, constantValue := 0 }, { name := "T_DOUBLE", type := .int, accessFlags := 25, slot := 14, constantValue := 0 }, { name := "T_BYTE", type := .int, accessFlags := 25, slot := 15, constantValue := 0 }, { name := "T_SHORT", type := .int, accessFlags := 25, slot := 16, constantValue := 0 }, { name := "T_INT", type := .int, accessFlags := 25, slot := 17, constantValue := 0 }, { name := "T_LONG", type := .int, accessFlags := 25, slot := 18, constantValue := 0 }, { name := "JLA", type := (.object "jdk/internal/access/JavaLangAccess"), accessFlags := 26, slot := 19, constantValue := 0 }, { name := "SOFT_MAX_ARRAY_LENGTH", type := .int, accessFlags := 25, slot := 20, constantValue := 0 }]
  methods := #[k18m0]
  instanceTypes := #[]
  staticTypes := #[(.object "jdk/internal/misc/Unsafe"), .boolean, .int, .int, .int, .int, .int, .int, .int, .int, .int, .int, .int, .int, .int, .int, .int, .int, .int, (.object "jdk/internal/access/JavaLangAccess"), .int]
  resolved := Array.replicate 378 none
  statics := none }

/-- the primitive byte -/
def k19 : Class := { plain "byte" none with kind := .primitive 'B', accessFlags := 0x411 }
/-- [B -/
def k20 : Class := { plain "[B" (some 0) with kind := .array 19 .byte, interfaces := #[13, 6], accessFlags := 1041 }

/-- the primitive char -/
def k21 : Class := { plain "char" none with kind := .primitive 'C', accessFlags := 0x411 }
/-- [C -/
def k22 : Class := { plain "[C" (some 0) with kind := .array 21 .char, interfaces := #[13, 6], accessFlags := 1041 }

/-- the primitive int -/
def k23 : Class := { plain "int" none with kind := .primitive 'I', accessFlags := 0x411 }
/-- [I -/
def k24 : Class := { plain "[I" (some 0) with kind := .array 23 .int, interfaces := #[13, 6], accessFlags := 1041 }

def heap : Heap := #[{ cls := 2, slots := #[.ref 3], vm := .statics 2 },
  { cls := 11, slots := #[.long 0, .int 1, .null, .int 0, .null, .int 0, .int 0], vm := .statics 11 },
  { cls := 17, slots := #[.null, .null, .null], vm := .statics 17 },
  { cls := 22, slots := #[.int 48, .int 49, .int 50, .int 51, .int 52, .int 53, .int 54, .int 55, .int 56, .int 57, .int 65, .int 66, .int 67, .int 68, .int 69, .int 70], vm := .none }]
def classes : Array Class := #[k0, k1, k2, k3, k4, k5, k6, k7, k8, k9, k10, k11, k12, k13, k14, k15, k16, k17, k18, k19, k20, k21, k22, k23, k24]
def interned : List (Array UInt16 × Addr) := []
def slotsUsed : Nat := 27
def theMethod : MethodId := ⟨1, 1⟩
def args0 : Array Value := #[.int 2, .int 5, .int 6, .int 7]
def aboutOver (below : List Frame) : State where
  vm := { classes := classes, interned := interned.toArray }
  heap := heap
  slotsUsed := slotsUsed
  threads := #[{ frames := .invoking theMethod args0 :: below }]
def below0 : List Frame := [.native { method := ⟨0, 0⟩, args := #[] }]
def about1 : State := aboutOver below0
def p0 : Program := .bare "" "" ""
def e0 : Env := launch0.env 0 0 0
theorem w_frames : about1.frames = Frame.invoking theMethod args0 :: below0 := rfl
set_option maxRecDepth 65536 in
theorem w_args : argsFit about1.vm theMethod args0 = true := by decide +kernel
set_option maxRecDepth 65536 in
theorem w_heap : heapFits about1 = true := by decide +kernel
set_option maxRecDepth 65536 in
theorem w_runnable : about1.curStatus? = some .runnable := by decide +kernel
set_option maxRecDepth 65536 in
theorem w_alone : about1.alone = true := by decide +kernel
set_option maxRecDepth 65536 in
theorem w_named : about1.methodNamed? x = some theMethod := by decide +kernel
set_option maxRecDepth 65536 in
theorem w_hears : about1.hears theMethod below0 = true := by decide +kernel
set_option maxRecDepth 65536 in
theorem w_ripe : about1.ripe theMethod args0 below0 = true := by decide +kernel
theorem w_running : about1.status = .running := rfl
set_option maxRecDepth 65536 in
theorem w_room : about1.hasRoom e0.platform room_1 = true :=
  launch0.hasRoom_least _ room_1 (by decide +kernel) (by decide +kernel) (by decide +kernel) (by decide +kernel) (by decide +kernel) (by decide +kernel)
theorem allAtoms_all (ts : List Jvm.Cond) (a : Array Jvm.Value) (st : Jvm.State) : (allAtoms ts).before a st = ts.all (fun c => c.before a st) := by
  induction ts with
  | nil => rfl
  | cons c t ih =>
    show (Jvm.Cond.and c (allAtoms t)).before a st = _
    rw [Jvm.Cond.before_and, ih, List.all_cons]
def words1 : List Jvm.Cond := Jvm.Cond.code x code maxLocals ret :: tables_1
/-- a 'code' word, met by the world's own term for the bytes: nothing is compared byte by byte -/
theorem code_word {y : MethodName} {bytes : ByteArray} {mx : Nat} {rt : Option FieldType} {a : Array Value} {s : State} {m : MethodId} {meth : Method} {c : Code} (h1 : s.methodNamed? y = some m) (h2 : s.vm.method? m = some meth) (h3 : meth.code = some c) (h4 : c.code = bytes)
    (h5 : (c.maxLocals == mx && c.exceptionTable.isEmpty && decide (c.maxStack ≤ mostOperands) && decide (meth.sig.returnType = rt) && !meth.locks && decide (parseMethodDescriptor y.desc = some meth.sig)) = true) : (Jvm.Cond.code y bytes mx rt).before a s = true := by
  simp only [Bool.and_eq_true, beq_iff_eq, Bool.not_eq_true', decide_eq_true_eq] at h5
  obtain ⟨⟨⟨⟨⟨g1, g2⟩, g3⟩, g4⟩, g5⟩, g6⟩ := h5
  simp [Cond.before, Cond.holds, Cond.value, h1, h2, h3, h4, g1, g2, g3, g4, g5, g6]
def isCode : Jvm.Cond → Bool
  | .code _ _ _ _ => true
  | _ => false
theorem all_split {L : List Jvm.Cond} {P : Jvm.Cond → Bool} (h1 : L.all (fun c => isCode c || P c) = true) (h2 : ∀ c ∈ L.filter isCode, P c = true) : L.all P = true := by
  refine List.all_eq_true.mpr fun c hc => ?_
  have h := List.all_eq_true.mp h1 c hc
  rcases Bool.eq_false_or_eq_true (isCode c) with hi | hi
  · exact h2 c (List.mem_filter.mpr ⟨hc, hi⟩)
  · simpa [hi] using h
set_option maxRecDepth 65536 in
theorem w_c0 : (Jvm.Cond.code x code maxLocals ret).before args0 about1 = true := code_word (m := ⟨1, 1⟩) (meth := k1m1) (c := k1c1) (by decide +kernel) rfl rfl rfl (by decide +kernel)
set_option maxRecDepth 65536 in
theorem w_c1 : (Jvm.Cond.code ({ cls := "com/example/cartouche/cartouche/host/Hex", name := "format", desc := "([B)Ljava/lang/String;" } : Jvm.MethodName) prog_1_method_2_code (6 : Nat) (Option.some (Jvm.ClassFile.FieldType.object "java/lang/String"))).before args0 about1 = true := code_word (m := ⟨2, 1⟩) (meth := k2m1) (c := k2c1) (by decide +kernel) rfl rfl rfl (by decide +kernel)
set_option maxRecDepth 65536 in
theorem w_c2 : (Jvm.Cond.code ({ cls := "java/lang/StringBuilder", name := "<init>", desc := "(I)V" } : Jvm.MethodName) jdk_67_method_2_code (2 : Nat) (Option.none : Option Jvm.ClassFile.FieldType)).before args0 about1 = true := code_word (m := ⟨8, 1⟩) (meth := k8m1) (c := k8c1) (by decide +kernel) rfl rfl rfl (by decide +kernel)
set_option maxRecDepth 65536 in
theorem w_c3 : (Jvm.Cond.code ({ cls := "java/lang/AbstractStringBuilder", name := "<init>", desc := "(I)V" } : Jvm.MethodName) jdk_68_method_2_code (2 : Nat) (Option.none : Option Jvm.ClassFile.FieldType)).before args0 about1 = true := code_word (m := ⟨5, 1⟩) (meth := k5m1) (c := k5c1) (by decide +kernel) rfl rfl rfl (by decide +kernel)
set_option maxRecDepth 65536 in
theorem w_c4 : (Jvm.Cond.code ({ cls := "java/lang/Object", name := "<init>", desc := "()V" } : Jvm.MethodName) object_method_1_code (1 : Nat) (Option.none : Option Jvm.ClassFile.FieldType)).before args0 about1 = true := code_word (m := ⟨0, 0⟩) (meth := k0m0) (c := k0c0) (by decide +kernel) rfl rfl rfl (by decide +kernel)
set_option maxRecDepth 65536 in
theorem w_c5 : (Jvm.Cond.code ({ cls := "java/lang/StringBuilder", name := "toString", desc := "()Ljava/lang/String;" } : Jvm.MethodName) jdk_67_method_42_code (1 : Nat) (Option.some (Jvm.ClassFile.FieldType.object "java/lang/String"))).before args0 about1 = true := code_word (m := ⟨8, 3⟩) (meth := k8m3) (c := k8c3) (by decide +kernel) rfl rfl rfl (by decide +kernel)
set_option maxRecDepth 65536 in
theorem w_c6 : (Jvm.Cond.code ({ cls := "java/lang/String", name := "<init>", desc := "(Ljava/lang/StringBuilder;)V" } : Jvm.MethodName) jdk_42_method_53_code (2 : Nat) (Option.none : Option Jvm.ClassFile.FieldType)).before args0 about1 = true := code_word (m := ⟨11, 1⟩) (meth := k11m1) (c := k11c1) (by decide +kernel) rfl rfl rfl (by decide +kernel)
set_option maxRecDepth 65536 in
theorem w_c7 : (Jvm.Cond.code ({ cls := "java/lang/String", name := "<init>", desc := "(Ljava/lang/AbstractStringBuilder;Ljava/lang/Void;)V" } : Jvm.MethodName) jdk_42_method_150_code (5 : Nat) (Option.none : Option Jvm.ClassFile.FieldType)).before args0 about1 = true := code_word (m := ⟨11, 4⟩) (meth := k11m4) (c := k11c4) (by decide +kernel) rfl rfl rfl (by decide +kernel)
set_option maxRecDepth 65536 in
theorem w_c8 : (Jvm.Cond.code ({ cls := "java/lang/AbstractStringBuilder", name := "getValue", desc := "()[B" } : Jvm.MethodName) jdk_68_method_64_code (1 : Nat) (Option.some (Jvm.ClassFile.FieldType.array Jvm.ClassFile.FieldType.byte))).before args0 about1 = true := code_word (m := ⟨5, 5⟩) (meth := k5m5) (c := k5c5) (by decide +kernel) rfl rfl rfl (by decide +kernel)
set_option maxRecDepth 65536 in
theorem w_c9 : (Jvm.Cond.code ({ cls := "java/lang/StringBuilder", name := "length", desc := "()I" } : Jvm.MethodName) jdk_67_method_93_code (1 : Nat) (Option.some Jvm.ClassFile.FieldType.int)).before args0 about1 = true := code_word (m := ⟨8, 4⟩) (meth := k8m4) (c := k8c4) (by decide +kernel) rfl rfl rfl (by decide +kernel)
set_option maxRecDepth 65536 in
theorem w_c10 : (Jvm.Cond.code ({ cls := "java/lang/AbstractStringBuilder", name := "length", desc := "()I" } : Jvm.MethodName) jdk_68_method_6_code (1 : Nat) (Option.some Jvm.ClassFile.FieldType.int)).before args0 about1 = true := code_word (m := ⟨5, 2⟩) (meth := k5m2) (c := k5c2) (by decide +kernel) rfl rfl rfl (by decide +kernel)
set_option maxRecDepth 65536 in
theorem w_c11 : (Jvm.Cond.code ({ cls := "java/lang/AbstractStringBuilder", name := "isLatin1", desc := "()Z" } : Jvm.MethodName) jdk_68_method_68_code (1 : Nat) (Option.some Jvm.ClassFile.FieldType.boolean)).before args0 about1 = true := code_word (m := ⟨5, 6⟩) (meth := k5m6) (c := k5c6) (by decide +kernel) rfl rfl rfl (by decide +kernel)
set_option maxRecDepth 65536 in
theorem w_c12 : (Jvm.Cond.code ({ cls := "java/util/Arrays", name := "copyOfRange", desc := "([BII)[B" } : Jvm.MethodName) jdk_65_method_132_code (3 : Nat) (Option.some (Jvm.ClassFile.FieldType.array Jvm.ClassFile.FieldType.byte))).before args0 about1 = true := code_word (m := ⟨12, 2⟩) (meth := k12m2) (c := k12c2) (by decide +kernel) rfl rfl rfl (by decide +kernel)
set_option maxRecDepth 65536 in
theorem w_c13 : (Jvm.Cond.code ({ cls := "java/lang/String", name := "length", desc := "()I" } : Jvm.MethodName) jdk_42_method_54_code (1 : Nat) (Option.some Jvm.ClassFile.FieldType.int)).before args0 about1 = true := code_word (m := ⟨11, 2⟩) (meth := k11m2) (c := k11c2) (by decide +kernel) rfl rfl rfl (by decide +kernel)
set_option maxRecDepth 65536 in
theorem w_c14 : (Jvm.Cond.code ({ cls := "java/lang/String", name := "coder", desc := "()B" } : Jvm.MethodName) jdk_42_method_152_code (1 : Nat) (Option.some Jvm.ClassFile.FieldType.byte)).before args0 about1 = true := code_word (m := ⟨11, 5⟩) (meth := k11m5) (c := k11c5) (by decide +kernel) rfl rfl rfl (by decide +kernel)
set_option maxRecDepth 65536 in
theorem w_c15 : (Jvm.Cond.code ({ cls := "java/lang/StringBuilder", name := "append", desc := "(C)Ljava/lang/StringBuilder;" } : Jvm.MethodName) jdk_67_method_14_code (2 : Nat) (Option.some (Jvm.ClassFile.FieldType.object "java/lang/StringBuilder"))).before args0 about1 = true := code_word (m := ⟨8, 2⟩) (meth := k8m2) (c := k8c2) (by decide +kernel) rfl rfl rfl (by decide +kernel)
set_option maxRecDepth 65536 in
theorem w_c16 : (Jvm.Cond.code ({ cls := "java/lang/AbstractStringBuilder", name := "append", desc := "(C)Ljava/lang/AbstractStringBuilder;" } : Jvm.MethodName) jdk_68_method_31_code (2 : Nat) (Option.some (Jvm.ClassFile.FieldType.object "java/lang/AbstractStringBuilder"))).before args0 about1 = true := code_word (m := ⟨5, 4⟩) (meth := k5m4) (c := k5c4) (by decide +kernel) rfl rfl rfl (by decide +kernel)
set_option maxRecDepth 65536 in
theorem w_c17 : (Jvm.Cond.code ({ cls := "java/lang/AbstractStringBuilder", name := "ensureCapacityInternal", desc := "(I)V" } : Jvm.MethodName) jdk_68_method_9_code (3 : Nat) (Option.none : Option Jvm.ClassFile.FieldType)).before args0 about1 = true := code_word (m := ⟨5, 3⟩) (meth := k5m3) (c := k5c3) (by decide +kernel) rfl rfl rfl (by decide +kernel)
set_option maxRecDepth 65536 in
theorem w_c18 : (Jvm.Cond.code ({ cls := "java/lang/StringLatin1", name := "canEncode", desc := "(C)Z" } : Jvm.MethodName) jdk_43_method_3_code (1 : Nat) (Option.some Jvm.ClassFile.FieldType.boolean)).before args0 about1 = true := code_word (m := ⟨14, 2⟩) (meth := k14m2) (c := k14c2) (by decide +kernel) rfl rfl rfl (by decide +kernel)
set_option maxRecDepth 65536 in
theorem w_c19 : (Jvm.Cond.code ({ cls := "java/util/Arrays", name := "copyOfRangeByte", desc := "([BII)[B" } : Jvm.MethodName) jdk_65_method_133_code (5 : Nat) (Option.some (Jvm.ClassFile.FieldType.array Jvm.ClassFile.FieldType.byte))).before args0 about1 = true := code_word (m := ⟨12, 3⟩) (meth := k12m3) (c := k12c3) (by decide +kernel) rfl rfl rfl (by decide +kernel)
set_option maxRecDepth 65536 in
theorem w_c20 : (Jvm.Cond.code ({ cls := "java/util/Arrays", name := "checkLength", desc := "(II)V" } : Jvm.MethodName) jdk_65_method_131_code (2 : Nat) (Option.none : Option Jvm.ClassFile.FieldType)).before args0 about1 = true := code_word (m := ⟨12, 1⟩) (meth := k12m1) (c := k12c1) (by decide +kernel) rfl rfl rfl (by decide +kernel)
set_option maxRecDepth 65536 in
theorem w_c21 : (Jvm.Cond.code ({ cls := "java/lang/Math", name := "min", desc := "(II)I" } : Jvm.MethodName) jdk_29_method_69_code (2 : Nat) (Option.some Jvm.ClassFile.FieldType.int)).before args0 about1 = true := code_word (m := ⟨15, 1⟩) (meth := k15m1) (c := k15c1) (by decide +kernel) rfl rfl rfl (by decide +kernel)
set_option maxRecDepth 65536 in
theorem w_c22 : (Jvm.Cond.code ({ cls := "com/example/cartouche/cartouche/host/HexFormatPinLaw", name := "pairAt", desc := "(Ljava/lang/String;IB)Z" } : Jvm.MethodName) method_3_code (4 : Nat) (Option.some Jvm.ClassFile.FieldType.boolean)).before args0 about1 = true := code_word (m := ⟨1, 2⟩) (meth := k1m2) (c := k1c2) (by decide +kernel) rfl rfl rfl (by decide +kernel)
set_option maxRecDepth 65536 in
theorem w_c23 : (Jvm.Cond.code ({ cls := "java/lang/String", name := "charAt", desc := "(I)C" } : Jvm.MethodName) jdk_42_method_56_code (2 : Nat) (Option.some Jvm.ClassFile.FieldType.char)).before args0 about1 = true := code_word (m := ⟨11, 3⟩) (meth := k11m3) (c := k11c3) (by decide +kernel) rfl rfl rfl (by decide +kernel)
set_option maxRecDepth 65536 in
theorem w_c24 : (Jvm.Cond.code ({ cls := "java/lang/String", name := "isLatin1", desc := "()Z" } : Jvm.MethodName) jdk_42_method_154_code (1 : Nat) (Option.some Jvm.ClassFile.FieldType.boolean)).before args0 about1 = true := code_word (m := ⟨11, 6⟩) (meth := k11m6) (c := k11c6) (by decide +kernel) rfl rfl rfl (by decide +kernel)
set_option maxRecDepth 65536 in
theorem w_c25 : (Jvm.Cond.code ({ cls := "java/lang/StringLatin1", name := "charAt", desc := "([BI)C" } : Jvm.MethodName) jdk_43_method_2_code (2 : Nat) (Option.some Jvm.ClassFile.FieldType.char)).before args0 about1 = true := code_word (m := ⟨14, 1⟩) (meth := k14m1) (c := k14c1) (by decide +kernel) rfl rfl rfl (by decide +kernel)
set_option maxRecDepth 65536 in
theorem w_c26 : (Jvm.Cond.code ({ cls := "java/lang/String", name := "checkIndex", desc := "(II)V" } : Jvm.MethodName) jdk_42_method_155_code (2 : Nat) (Option.none : Option Jvm.ClassFile.FieldType)).before args0 about1 = true := code_word (m := ⟨11, 7⟩) (meth := k11m7) (c := k11c7) (by decide +kernel) rfl rfl rfl (by decide +kernel)
set_option maxRecDepth 65536 in
theorem w_c27 : (Jvm.Cond.code ({ cls := "jdk/internal/util/Preconditions", name := "checkIndex", desc := "(IILjava/util/function/BiFunction;)I" } : Jvm.MethodName) jdk_41_method_11_code (3 : Nat) (Option.some Jvm.ClassFile.FieldType.int)).before args0 about1 = true := code_word (m := ⟨17, 1⟩) (meth := k17m1) (c := k17c1) (by decide +kernel) rfl rfl rfl (by decide +kernel)
set_option maxRecDepth 65536 in
theorem w_c28 : (Jvm.Cond.code ({ cls := "com/example/cartouche/cartouche/host/HexFormatPinLaw", name := "digit", desc := "(I)C" } : Jvm.MethodName) method_4_code (1 : Nat) (Option.some Jvm.ClassFile.FieldType.char)).before args0 about1 = true := code_word (m := ⟨1, 3⟩) (meth := k1m3) (c := k1c3) (by decide +kernel) rfl rfl rfl (by decide +kernel)
def codes1 : List Jvm.Cond := [Jvm.Cond.code x code maxLocals ret, Jvm.Cond.code ({ cls := "com/example/cartouche/cartouche/host/Hex", name := "format", desc := "([B)Ljava/lang/String;" } : Jvm.MethodName) prog_1_method_2_code (6 : Nat) (Option.some (Jvm.ClassFile.FieldType.object "java/lang/String")), Jvm.Cond.code ({ cls := "java/lang/StringBuilder", name := "<init>", desc := "(I)V" } : Jvm.MethodName) jdk_67_method_2_code (2 : Nat) (Option.none : Option Jvm.ClassFile.FieldType), Jvm.Cond.code ({ cls := "java/lang/AbstractStringBuilder", name := "<init>", desc := "(I)V" } : Jvm.MethodName) jdk_68_method_2_code (2 : Nat) (Option.none : Option Jvm.ClassFile.FieldType), Jvm.Cond.code ({ cls := "java/lang/Object", name := "<init>", desc := "()V" } : Jvm.MethodName) object_method_1_code (1 : Nat) (Option.none : Option Jvm.ClassFile.FieldType), Jvm.Cond.code ({ cls := "java/lang/StringBuilder", name := "toString", desc := "()Ljava/lang/String;" } : Jvm.MethodName) jdk_67_method_42_code (1 : Nat) (Option.some (Jvm.ClassFile.FieldType.object "java/lang/String")), Jvm.Cond.code ({ cls := "java/lang/String", name := "<init>", desc := "(Ljava/lang/StringBuilder;)V" } : Jvm.MethodName) jdk_42_method_53_code (2 : Nat) (Option.none : Option Jvm.ClassFile.FieldType), Jvm.Cond.code ({ cls := "java/lang/String", name := "<init>", desc := "(Ljava/lang/AbstractStringBuilder;Ljava/lang/Void;)V" } : Jvm.MethodName) jdk_42_method_150_code (5 : Nat) (Option.none : Option Jvm.ClassFile.FieldType), Jvm.Cond.code ({ cls := "java/lang/AbstractStringBuilder", name := "getValue", desc := "()[B" } : Jvm.MethodName) jdk_68_method_64_code (1 : Nat) (Option.some (Jvm.ClassFile.FieldType.array Jvm.ClassFile.FieldType.byte)), Jvm.Cond.code ({ cls := "java/lang/StringBuilder", name := "length", desc := "()I" } : Jvm.MethodName) jdk_67_method_93_code (1 : Nat) (Option.some Jvm.ClassFile.FieldType.int), Jvm.Cond.code ({ cls := "java/lang/AbstractStringBuilder", name := "length", desc := "()I" } : Jvm.MethodName) jdk_68_method_6_code (1 : Nat) (Option.some Jvm.ClassFile.FieldType.int), Jvm.Cond.code ({ cls := "java/lang/AbstractStringBuilder", name := "isLatin1", desc := "()Z" } : Jvm.MethodName) jdk_68_method_68_code (1 : Nat) (Option.some Jvm.ClassFile.FieldType.boolean), Jvm.Cond.code ({ cls := "java/util/Arrays", name := "copyOfRange", desc := "([BII)[B" } : Jvm.MethodName) jdk_65_method_132_code (3 : Nat) (Option.some (Jvm.ClassFile.FieldType.array Jvm.ClassFile.FieldType.byte)), Jvm.Cond.code ({ cls := "java/lang/String", name := "length", desc := "()I" } : Jvm.MethodName) jdk_42_method_54_code (1 : Nat) (Option.some Jvm.ClassFile.FieldType.int), Jvm.Cond.code ({ cls := "java/lang/String", name := "coder", desc := "()B" } : Jvm.MethodName) jdk_42_method_152_code (1 : Nat) (Option.some Jvm.ClassFile.FieldType.byte), Jvm.Cond.code ({ cls := "java/lang/StringBuilder", name := "append", desc := "(C)Ljava/lang/StringBuilder;" } : Jvm.MethodName) jdk_67_method_14_code (2 : Nat) (Option.some (Jvm.ClassFile.FieldType.object "java/lang/StringBuilder")), Jvm.Cond.code ({ cls := "java/lang/AbstractStringBuilder", name := "append", desc := "(C)Ljava/lang/AbstractStringBuilder;" } : Jvm.MethodName) jdk_68_method_31_code (2 : Nat) (Option.some (Jvm.ClassFile.FieldType.object "java/lang/AbstractStringBuilder")), Jvm.Cond.code ({ cls := "java/lang/AbstractStringBuilder", name := "ensureCapacityInternal", desc := "(I)V" } : Jvm.MethodName) jdk_68_method_9_code (3 : Nat) (Option.none : Option Jvm.ClassFile.FieldType), Jvm.Cond.code ({ cls := "java/lang/StringLatin1", name := "canEncode", desc := "(C)Z" } : Jvm.MethodName) jdk_43_method_3_code (1 : Nat) (Option.some Jvm.ClassFile.FieldType.boolean), Jvm.Cond.code ({ cls := "java/util/Arrays", name := "copyOfRangeByte", desc := "([BII)[B" } : Jvm.MethodName) jdk_65_method_133_code (5 : Nat) (Option.some (Jvm.ClassFile.FieldType.array Jvm.ClassFile.FieldType.byte)), Jvm.Cond.code ({ cls := "java/util/Arrays", name := "checkLength", desc := "(II)V" } : Jvm.MethodName) jdk_65_method_131_code (2 : Nat) (Option.none : Option Jvm.ClassFile.FieldType), Jvm.Cond.code ({ cls := "java/lang/Math", name := "min", desc := "(II)I" } : Jvm.MethodName) jdk_29_method_69_code (2 : Nat) (Option.some Jvm.ClassFile.FieldType.int), Jvm.Cond.code ({ cls := "com/example/cartouche/cartouche/host/HexFormatPinLaw", name := "pairAt", desc := "(Ljava/lang/String;IB)Z" } : Jvm.MethodName) method_3_code (4 : Nat) (Option.some Jvm.ClassFile.FieldType.boolean), Jvm.Cond.code ({ cls := "java/lang/String", name := "charAt", desc := "(I)C" } : Jvm.MethodName) jdk_42_method_56_code (2 : Nat) (Option.some Jvm.ClassFile.FieldType.char), Jvm.Cond.code ({ cls := "java/lang/String", name := "isLatin1", desc := "()Z" } : Jvm.MethodName) jdk_42_method_154_code (1 : Nat) (Option.some Jvm.ClassFile.FieldType.boolean), Jvm.Cond.code ({ cls := "java/lang/StringLatin1", name := "charAt", desc := "([BI)C" } : Jvm.MethodName) jdk_43_method_2_code (2 : Nat) (Option.some Jvm.ClassFile.FieldType.char), Jvm.Cond.code ({ cls := "java/lang/String", name := "checkIndex", desc := "(II)V" } : Jvm.MethodName) jdk_42_method_155_code (2 : Nat) (Option.none : Option Jvm.ClassFile.FieldType), Jvm.Cond.code ({ cls := "jdk/internal/util/Preconditions", name := "checkIndex", desc := "(IILjava/util/function/BiFunction;)I" } : Jvm.MethodName) jdk_41_method_11_code (3 : Nat) (Option.some Jvm.ClassFile.FieldType.int), Jvm.Cond.code ({ cls := "com/example/cartouche/cartouche/host/HexFormatPinLaw", name := "digit", desc := "(I)C" } : Jvm.MethodName) method_4_code (1 : Nat) (Option.some Jvm.ClassFile.FieldType.char)]
set_option maxRecDepth 65536 in
theorem codes_eq : words1.filter isCode = codes1 := rfl
theorem w_codes : ∀ c ∈ words1.filter isCode, c.before args0 about1 = true := by
  rw [codes_eq]
  intro c hc
  simp only [codes1, List.mem_cons, List.not_mem_nil, or_false] at hc
  rcases hc with rfl | rfl | rfl | rfl | rfl | rfl | rfl | rfl | rfl | rfl | rfl | rfl | rfl | rfl | rfl | rfl | rfl | rfl | rfl | rfl | rfl | rfl | rfl | rfl | rfl | rfl | rfl | rfl | rfl
  · exact w_c0
  · exact w_c1
  · exact w_c2
  · exact w_c3
  · exact w_c4
  · exact w_c5
  · exact w_c6
  · exact w_c7
  · exact w_c8
  · exact w_c9
  · exact w_c10
  · exact w_c11
  · exact w_c12
  · exact w_c13
  · exact w_c14
  · exact w_c15
  · exact w_c16
  · exact w_c17
  · exact w_c18
  · exact w_c19
  · exact w_c20
  · exact w_c21
  · exact w_c22
  · exact w_c23
  · exact w_c24
  · exact w_c25
  · exact w_c26
  · exact w_c27
  · exact w_c28
set_option maxRecDepth 65536 in
theorem w_t1 : (words1.take 24).all (fun c => isCode c || c.before args0 about1) = true := by decide +kernel
set_option maxRecDepth 65536 in
theorem w_t2 : ((words1.drop 24).take 24).all (fun c => isCode c || c.before args0 about1) = true := by decide +kernel
set_option maxRecDepth 65536 in
theorem w_t3 : (((words1.drop 24).drop 24).take 24).all (fun c => isCode c || c.before args0 about1) = true := by decide +kernel
set_option maxRecDepth 65536 in
theorem w_t4 : ((((words1.drop 24).drop 24).drop 24).take 24).all (fun c => isCode c || c.before args0 about1) = true := by decide +kernel
set_option maxRecDepth 65536 in
theorem w_t5 : (((((words1.drop 24).drop 24).drop 24).drop 24).take 24).all (fun c => isCode c || c.before args0 about1) = true := by decide +kernel
set_option maxRecDepth 65536 in
theorem w_t6 : ((((((words1.drop 24).drop 24).drop 24).drop 24).drop 24).take 24).all (fun c => isCode c || c.before args0 about1) = true := by decide +kernel
set_option maxRecDepth 65536 in
theorem w_t7 : ((((((words1.drop 24).drop 24).drop 24).drop 24).drop 24).drop 24).all (fun c => isCode c || c.before args0 about1) = true := by decide +kernel
theorem w_tables : (allAtoms (Jvm.Cond.code x code maxLocals ret :: tables_1)).before args0 about1 = true := by
  rw [allAtoms_all]
  show words1.all (fun c => c.before args0 about1) = true
  refine all_split ?_ w_codes
  rw [← List.take_append_drop 24 words1, List.all_append, w_t1, ← List.take_append_drop 24 (words1.drop 24), List.all_append, w_t2, ← List.take_append_drop 24 ((words1.drop 24).drop 24), List.all_append, w_t3, ← List.take_append_drop 24 (((words1.drop 24).drop 24).drop 24), List.all_append, w_t4, ← List.take_append_drop 24 ((((words1.drop 24).drop 24).drop 24).drop 24), List.all_append, w_t5, ← List.take_append_drop 24 (((((words1.drop 24).drop 24).drop 24).drop 24).drop 24), List.all_append, w_t6, w_t7]
  rfl
set_option maxRecDepth 65536 in
theorem w_rest : rest_1_c.before args0 about1 = true := by decide +kernel
set_option maxRecDepth 65536 in
theorem w_case : (Jvm.Cond.and given_1 narrow_1).before args0 about1 = true := by decide +kernel
theorem w_applies : (headSpec (Jvm.Cond.code x code maxLocals ret :: tables_1) room_1).applies x e0.platform about1 = true :=
  (Spec.applies_iff w_frames).mpr ⟨w_running, w_runnable, w_alone, w_named, w_hears, w_ripe, w_room, w_tables⟩
theorem atStart : AtStart classFile x code maxLocals ret World_1 tables_1 room_1 Calls_1 rest_1 Pre_1 launch0 p0 e0 about1 theMethod args0 below0 :=
  ⟨lists_1, trivial, launch0.admits_env _ _ _, launch0.least_env, fairChoices_fair.cas, fairChoices_fair.clock, w_frames, w_args, w_heap, w_applies, trivial, w_rest, w_case⟩
end start1
theorem witness_1 : WitnessClaimed_1 := ⟨start1.p0, start1.e0, start1.about1, start1.theMethod, start1.args0, start1.below0, start1.atStart⟩
end Jvm.Pilot.@@N@@
