import JvmDerived
import JvmDerived.Pilot.@@N@@Statement
import JvmDerived.Pilot.@@N@@Code
set_option linter.unusedVariables false
set_option linter.unusedSimpArgs false
namespace Jvm.RoadKit
open Sem ClassFile Op Lib Jvm.Stand Jvm.Free Jvm.LawKit
section New
variable {p : Program} {l : Launch} {e : Env} {R : Room} {s : State} {m : MethodId} {args : Array Value} {below : List Frame} {meth : Method} {c : Code} {T : State} {locs : List Loc} {cells slots : Nat}
theorem retI (X : Stand p l e R s m args below meth c T locs cells slots) (hx : p.tables.exec = Jvm.exec) {pc : Nat} {Ls : Array Slot} {z : Int32} {rest : List Value} (hret : meth.sig.returnType = some .int) (hd : decode c.code pc = .ok (.ireturn, 1)) {fs : List Frame}
    (hl : ∀ (f : JFrame) (acts : List Action), f.method = m → f.locked = none → f.entered = [] → (doReturn e (T.setTop f) acts (some (.int z))).1 = T.setFrames fs) : Steps p.tables e below (T.setTop (mkF m pc Ls (.int z :: rest))) (T.setFrames fs) :=
  retOut X hx hret rfl (Or.inl ⟨rfl, Or.inl rfl, z, rfl⟩) hd hl
theorem own_retJ (X : Stand p l e R s m args below meth c T locs cells slots) (hx : p.tables.exec = Jvm.exec) {pc : Nat} {Ls : Array Slot} {z : Int64} {rest : List Value} (hret : meth.sig.returnType = some .long) (hd : decode c.code pc = .ok (.lreturn, 1)) {fs : List Frame}
    (hl : ∀ (f : JFrame) (acts : List Action), f.method = m → f.locked = none → f.entered = [] → (doReturn e (T.setTop f) acts (some (.long z))).1 = T.setFrames fs) : Steps p.tables e below (T.setTop (mkF m pc Ls (.long z :: rest))) (T.setFrames fs) :=
  retOut X hx hret rfl (Or.inr (Or.inl ⟨rfl, rfl, z, rfl⟩)) hd hl
theorem own_retA (X : Stand p l e R s m args below meth c T locs cells slots) (hx : p.tables.exec = Jvm.exec) {pc : Nat} {Ls : Array Slot} {w : Value} {t : FieldType} {rest : List Value} (hret : meth.sig.returnType = some t) (ht : t.isReference = true) (hw : w.isRef = true) (hd : decode c.code pc = .ok (.areturn, 1)) {fs : List Frame}
    (hl : ∀ (f : JFrame) (acts : List Action), f.method = m → f.locked = none → f.entered = [] → (doReturn e (T.setTop f) acts (some w)).1 = T.setFrames fs) : Steps p.tables e below (T.setTop (mkF m pc Ls (w :: rest))) (T.setFrames fs) :=
  retOut X hx hret (by cases t <;> first | rfl | cases ht) (Or.inr (Or.inr (Or.inr (Or.inr ⟨rfl, ht, hw⟩)))) hd hl
end New
end Jvm.RoadKit
namespace Jvm.Pilot.@@N@@
open Jvm Jvm.ClassFile Sem Op Lib Jvm.Free Jvm.Stand Jvm.LawKit Jvm.RoadKit Bundle Jvm.Pilot.@@N@@.Jvm.D
abbrev own_Go (tb : Tables) (e : Env) (below : List Frame) (S0 S1 : State) : Prop := ∀ t, Steps tb e below S1 t → Steps tb e below S0 t
theorem own_eqI {args : Array Value} {s : State} {t : Term} {k : Int32} (h : (Jvm.Cond.eq t (.int k)).value args s none s [] = some true) : t.eval args s none [] s = some (.int k) := by
  obtain ⟨x, y, e1, e2, -, -⟩ := cmp_v (Or.inl h)
  obtain rfl : y = .int k := (Option.some.inj e2).symm
  cases x <;> simp [Cond.value, e1, Term.eval] at h <;> simp_all
theorem own_eqL {args : Array Value} {s : State} {t : Term} {k : Int64} (h : (Jvm.Cond.eq t (.long k)).value args s none s [] = some true) : t.eval args s none [] s = some (.long k) := by
  obtain ⟨x, y, e1, e2, -, -⟩ := cmp_v (Or.inl h)
  obtain rfl : y = .long k := (Option.some.inj e2).symm
  cases x <;> simp [Cond.value, e1, Term.eval] at h <;> simp_all
theorem own_nar0 : nar .boolean (0 : Int32) = 0 := by decide
theorem own_nar1 : nar .boolean (1 : Int32) = 1 := by decide
theorem own_nar_ite {P : Prop} [Decidable P] {a b : Int32} (ha : nar .boolean a = a) (hb : nar .boolean b = b) : nar .boolean (if P then a else b) = if P then a else b := by split <;> assumption
theorem own_fld {args : Array Value} {s : State} {t : Term} {a : Addr} {C n d : String} {v : Value} (ht : t.eval args s none [] s = some (.ref a)) (h : (Term.field t C n d).eval args s none [] s = some v) : Fld s s.heap a C n d v :=
  Fld.start (by rw [← fld_at (args := args) (first := s) (o := none) (idx := []) ht]; exact h)

theorem own_or_dist (p a b : Int32) : p &&& (a ||| b) = (p &&& a) ||| (p &&& b) := by
  apply Int32.toBitVec_inj.mp
  simp only [Int32.toBitVec_and, Int32.toBitVec_or]
  ext i hi
  simp [Bool.and_or_distrib_left]
theorem own_15 {p : Int32} : (p &&& 15) = 0 ↔ (p &&& 1) = 0 ∧ (p &&& 2) = 0 ∧ (p &&& 4) = 0 ∧ (p &&& 8) = 0 := by
  constructor
  · intro h
    refine ⟨?_, ?_, ?_, ?_⟩
    · rw [show (1 : Int32) = 15 &&& 1 by decide, ← Int32.and_assoc, h]; decide
    · rw [show (2 : Int32) = 15 &&& 2 by decide, ← Int32.and_assoc, h]; decide
    · rw [show (4 : Int32) = 15 &&& 4 by decide, ← Int32.and_assoc, h]; decide
    · rw [show (8 : Int32) = 15 &&& 8 by decide, ← Int32.and_assoc, h]; decide
  · rintro ⟨h1, h2, h3, h4⟩
    rw [show (15 : Int32) = 1 ||| 2 ||| 4 ||| 8 by decide, own_or_dist, own_or_dist, own_or_dist, h1, h2, h3, h4]; decide
theorem own_xor {a x : Int64} (h : ¬ x = 0) : ¬ a = a ^^^ x := fun e => h (by
  have : a ^^^ a = a ^^^ (a ^^^ x) := congrArg (a ^^^ ·) e
  rwa [Int64.xor_self, ← Int64.xor_assoc, Int64.xor_self, Int64.zero_xor, eq_comm] at this)
theorem own_eq1 (a b c d : Int64) (p : Int32) (x : Int64) : (if a = (if (p &&& (1 : Int32)) = (0 : Int32) then a else (a ^^^ x)) then (if b = (if (p &&& (2 : Int32)) = (0 : Int32) then b else (b ^^^ x)) then (if c = (if (p &&& (4 : Int32)) = (0 : Int32) then c else (c ^^^ x)) then (if d = (if (p &&& (8 : Int32)) = (0 : Int32) then d else (d ^^^ x)) then (1 : Int32) else (0 : Int32)) else (0 : Int32)) else (0 : Int32)) else (0 : Int32)) = (if x = (0 : Int64) then (1 : Int32) else (if (p &&& (15 : Int32)) = (0 : Int32) then (1 : Int32) else (0 : Int32))) := by
  by_cases hx : x = 0
  · subst hx; simp
  · have ha := own_xor (a := a) hx
    have hb := own_xor (a := b) hx
    have hc := own_xor (a := c) hx
    have hd := own_xor (a := d) hx
    rw [if_neg hx]
    by_cases h1 : (p &&& 1) = 0 <;> by_cases h2 : (p &&& 2) = 0 <;> by_cases h3 : (p &&& 4) = 0 <;> by_cases h4 : (p &&& 8) = 0 <;> simp [own_15, h1, h2, h3, h4, ha, hb, hc, hd]
theorem own_eq2 (a b c d : Int64) (p : Int32) (x : Int64) : (if (if (p &&& (1 : Int32)) = (0 : Int32) then a else (a ^^^ x)) = a then (if (if (p &&& (2 : Int32)) = (0 : Int32) then b else (b ^^^ x)) = b then (if (if (p &&& (4 : Int32)) = (0 : Int32) then c else (c ^^^ x)) = c then (if (if (p &&& (8 : Int32)) = (0 : Int32) then d else (d ^^^ x)) = d then (1 : Int32) else (0 : Int32)) else (0 : Int32)) else (0 : Int32)) else (0 : Int32)) = (if x = (0 : Int64) then (1 : Int32) else (if (p &&& (15 : Int32)) = (0 : Int32) then (1 : Int32) else (0 : Int32))) := by
  rw [← own_eq1 a b c d p x]
  simp only [@eq_comm Int64 a, @eq_comm Int64 b, @eq_comm Int64 c, @eq_comm Int64 d]
theorem own_cache {q : Int64} (h1 : ¬ q < (-128 : Int64)) (h2 : ¬ (127 : Int64) < q) : ¬ ((q).toInt32 + (128 : Int32)) < 0 ∧ ((q).toInt32 + (128 : Int32)) < (256 : Int32) := by
  rw [Int64.lt_iff_toInt_lt] at h1 h2
  have e1 : (-128 : Int64).toInt = -128 := by decide
  have e2 : (127 : Int64).toInt = 127 := by decide
  have e3 : (128 : Int32).toInt = 128 := by decide
  have e4 : (256 : Int32).toInt = 256 := by decide
  have e5 : (0 : Int32).toInt = 0 := by decide
  have c1 := c_l2i q
  have c2 := c_iadd q.toInt32 128
  have r1 := rng32 q.toInt32
  have r2 := rng32 (q.toInt32 + 128)
  rw [Int32.lt_iff_toInt_lt, Int32.lt_iff_toInt_lt]
  omega

theorem own_no {Z : State} {a0 : Array Value} (hw : ∀ d ∈ tables_1, d.before a0 Z = true) : ∃ c t, Z.vm.findClass "java/lang/Long" = some c ∧ Z.vm.findClass "com/example/vernal_pool/vernalpool/cli/TraceRequest" = some t ∧ Z.vm.assignable c t = false := by
  obtain ⟨cT, kT, t1, t2, t3, t4, -, -⟩ := Cond.instantiable_spec ((hw _ (List.mem_of_getElem? (i := 1) rfl)))
  have nI : kT.isInterface = false := (Bool.or_eq_false_iff.mp t4).1
  obtain ⟨cO, kO, o1, o2, o3, -, -⟩ := Cond.noSuperclass_spec ((hw _ (List.mem_of_getElem? (i := 47) rfl)))
  have nO : NS Z "java/lang/Object" "com/example/vernal_pool/vernalpool/cli/TraceRequest" := ⟨cO, cT, o1, t1, fun fuel => by
    have ne := ids_ne o1 t1 (by decide)
    cases fuel with
    | zero => rfl
    | succ f => simp [Vm.isSubclassAux, ne, o2, o3]⟩
  have n1 := NS.step ((hw _ (List.mem_of_getElem? (i := 46) rfl))) nO (by decide)
  have n2 := NS.step ((hw _ (List.mem_of_getElem? (i := 45) rfl))) n1 (by decide)
  obtain ⟨c, t, h0, g0, n3⟩ := n2
  cases g0.symm.trans t1
  obtain ⟨p, k, kp, h1, h2, h3, h4, h5, -, h7⟩ := Cond.superclass_spec h0 ((hw _ (List.mem_of_getElem? (i := 45) rfl)))
  have ne := ids_ne h0 t1 (by decide)
  refine ⟨c, _, h0, t1, ?_⟩
  show Z.vm.assignableAux (255 + 1) c _ = false
  simp [Vm.assignableAux, ne, h2, t2, h5, t3, nI, Vm.isSubclass, n3]

theorem own_sub {args : Array Value} {first s : State} {o : Option Outcome} {idx : List Nat} {a b : Term} {x y : Int32} (ha : a.eval args first o idx s = some (.int x)) (hb : b.eval args first o idx s = some (.int y)) : (Term.sub a b).eval args first o idx s = some (.int (x - y)) := by simp [Term.eval, ha, hb]
theorem own_len2 {args : Array Value} {s : State} {t : Term} {a : Addr} {cl : Cell} {z : Int32} (ev : t.eval args s none [] s = some (.ref a)) (h1 : s.arrayAt? a = some cl) (h : (Term.length t).eval args s none [] s = some (.int z)) : cl.slots.size < 2 ^ 31 ∧ cl.slots.size.toInt32 = z := by
  have hs : cl.slots.size < 2 ^ 31 := by
    apply Decidable.byContradiction
    intro q
    simp [Term.eval, ev, h1, q] at h
  rw [len_f ev h1 hs] at h
  exact ⟨hs, by injection (Option.some.inj h)⟩

theorem d1_0 : decode prog_38_method_1_code 0 = .ok (.aload_n 0, 1) := by decide +kernel
theorem d1_1 : decode prog_38_method_1_code 1 = .ok (.invokespecial 1, 3) := by decide +kernel
theorem d1_4 : decode prog_38_method_1_code 4 = .ok (.aload_n 0, 1) := by decide +kernel
theorem d1_5 : decode prog_38_method_1_code 5 = .ok (.lload_n 1, 1) := by decide +kernel
theorem d1_6 : decode prog_38_method_1_code 6 = .ok (.putfield 7, 3) := by decide +kernel
theorem d1_9 : decode prog_38_method_1_code 9 = .ok (.aload_n 0, 1) := by decide +kernel
theorem d1_10 : decode prog_38_method_1_code 10 = .ok (.lload_n 3, 1) := by decide +kernel
theorem d1_11 : decode prog_38_method_1_code 11 = .ok (.putfield 13, 3) := by decide +kernel
theorem d1_14 : decode prog_38_method_1_code 14 = .ok (.aload_n 0, 1) := by decide +kernel
theorem d1_15 : decode prog_38_method_1_code 15 = .ok (.lload 5, 2) := by decide +kernel
theorem d1_17 : decode prog_38_method_1_code 17 = .ok (.putfield 16, 3) := by decide +kernel
theorem d1_20 : decode prog_38_method_1_code 20 = .ok (.aload_n 0, 1) := by decide +kernel
theorem d1_21 : decode prog_38_method_1_code 21 = .ok (.lload 7, 2) := by decide +kernel
theorem d1_23 : decode prog_38_method_1_code 23 = .ok (.putfield 19, 3) := by decide +kernel
theorem d1_26 : decode prog_38_method_1_code 26 = .ok (.return_, 1) := by decide +kernel
theorem pn_1 : plainName "com/example/vernal_pool/vernalpool/cli/TraceRequest" = true := by first | (simp [plainName, overriddenIn]; done) | decide +kernel
theorem ef_1 (m : MethodId) (a0 : Addr) (q1 : Int64) (q2 : Int64) (q3 : Int64) (q4 : Int64) : entryFrame m #[(.ref a0), (.long q1), (.long q2), (.long q3), (.long q4)] 9 = mkF m 0 #[.val (.ref a0), .val (.long q1), .second, .val (.long q2), .second, .val (.long q3), .second, .val (.long q4), .second] [] := by first | (simp [entryFrame, mkF, argsToLocals, Value.category]; done) | rfl
def Q1 (Z : State) (a0 : Addr) (q1 : Int64) (q2 : Int64) (q3 : Int64) (q4 : Int64)  (h0 : Heap) (v : Option Value) (h : Heap) (L : List Loc) : Prop := v = none ∧ Fr Z.heap.size L ∧ Keep h0 h [a0] ∧ (Exa Z h a0 "com/example/vernal_pool/vernalpool/cli/TraceRequest") ∧ (Fld Z h a0 "com/example/vernal_pool/vernalpool/cli/TraceRequest" "requestId" "J" (.long q1)) ∧ (Fld Z h a0 "com/example/vernal_pool/vernalpool/cli/TraceRequest" "appId" "J" (.long q2)) ∧ (Fld Z h a0 "com/example/vernal_pool/vernalpool/cli/TraceRequest" "startOffsetUs" "J" (.long q3)) ∧ (Fld Z h a0 "com/example/vernal_pool/vernalpool/cli/TraceRequest" "execUs" "J" (.long q4))
set_option maxRecDepth 65536 in
set_option maxHeartbeats 40000000 in
theorem rm1 (l : Launch) (Z : State) (aw : Array Value) (hw : ∀ d ∈ tables_1, d.before aw Z = true) (ws : List Jvm.Cond) (a0 : Addr) (q1 : Int64) (q2 : Int64) (q3 : Int64) (q4 : Int64)  (h0 : Heap) (O0 : Old Z Z.heap.size h0) (gn_a0 : Z.heap.size ≤ a0) (E_a0 : Exa Z h0 a0 "com/example/vernal_pool/vernalpool/cli/TraceRequest") (F_requestId : Fld Z h0 a0 "com/example/vernal_pool/vernalpool/cli/TraceRequest" "requestId" "J" (.long (0 : Int64))) (F_appId : Fld Z h0 a0 "com/example/vernal_pool/vernalpool/cli/TraceRequest" "appId" "J" (.long (0 : Int64))) (F_startOffsetUs : Fld Z h0 a0 "com/example/vernal_pool/vernalpool/cli/TraceRequest" "startOffsetUs" "J" (.long (0 : Int64))) (F_execUs : Fld Z h0 a0 "com/example/vernal_pool/vernalpool/cli/TraceRequest" "execUs" "J" (.long (0 : Int64)))  :
    MetFree l (⟨"com/example/vernal_pool/vernalpool/cli/TraceRequest", "<init>", "(JJJJ)V"⟩ : MethodName) (head1 (Jvm.Cond.code (⟨"com/example/vernal_pool/vernalpool/cli/TraceRequest", "<init>", "(JJJJ)V"⟩ : MethodName) prog_38_method_1_code 9 none :: ws) ({ frames := 1, cells := 0, slots := 0, locals := 12 } : Room)) (fun a U => a = #[(.ref a0), (.long q1), (.long q2), (.long q3), (.long q4)] ∧ Z.Warmed39 U.vm ∧ U.heap = h0) (fun _ _ _ _ _ => True) (fun _ U o U' => ∃ v L, o = .returned v ∧ Q1 Z a0 q1 q2 q3 q4 h0 v U'.heap L ∧ FrameEnd U o U' L ({ frames := 1, cells := 0, slots := 0, locals := 12 } : Room).cells ({ frames := 1, cells := 0, slots := 0, locals := 12 } : Room).slots) := by
  refine MetFree.of_bodySF (plainFor_of_name pn_1) hisR ?_
  intro p e s m args below meth c s₁ Bd hml0 hP hK
  obtain ⟨rfl, hZ, hh⟩ := hP
  have hZ0 := hZ
  have hx := Bd.exec
  have hby := Bd.bytes
  have hml : c.maxLocals = 9 := hml0
  have hown : s.vm.findClass "com/example/vernal_pool/vernalpool/cli/TraceRequest" = some m.cls := findClass_of_methodNamed Bd.named
  have hnm := (name_of_methodNamed Bd.named Bd.method).1
  have X0 : Stand p l e ({ frames := 1, cells := 0, slots := 0, locals := 12 } : Room) s m #[(.ref a0), (.long q1), (.long q2), (.long q3), (.long q4)] below meth c s₁ [] 0 0 := Stand.of_body Bd
  have e0 : s₁.heap = h0 := by rw [← hh, Bd.state]; rfl
  have G0 : own_Go p.tables e below (s₁.setTop (entryFrame m #[(.ref a0), (.long q1), (.long q2), (.long q3), (.long q4)] 9)) (s₁.setTop (mkF m 0 #[.val (.ref a0), .val (.long q1), .second, .val (.long q2), .second, .val (.long q3), .second, .val (.long q4), .second] [])) := fun t k => castTop (ef_1 m a0 q1 q2 q3 q4) k
  have N0 := Fr.nil Z.heap.size
  have K0 := Keep.refl h0 [a0]
  have G1 : own_Go p.tables e below (s₁.setTop (entryFrame m #[(.ref a0), (.long q1), (.long q2), (.long q3), (.long q4)] 9)) (s₁.setTop (mkF m 1 #[.val (.ref a0), .val (.long q1), .second, .val (.long q2), .second, .val (.long q3), .second, .val (.long q4), .second] [(.ref a0)])) := fun t k => G0 t (XS.aloadN X0.here hx rfl (hb hby d1_0) rfl rfl k)
  obtain ⟨T2, X2, e2, st2⟩ := initO X0 hx hZ hown (hw _ (List.mem_of_getElem? (i := 6) rfl)) (hw _ (List.mem_of_getElem? (i := 7) rfl)) (hw _ (List.mem_of_getElem? (i := 8) rfl)) e0 (g := (mkF m 1 #[.val (.ref a0), .val (.long q1), .second, .val (.long q2), .second, .val (.long q3), .second, .val (.long q4), .second] [(.ref a0)])) rfl (by rw [hml]; rfl) rfl (hb hby d1_1) (by decide) (W := 0) (by show 2 * 0 + _ ≤ _; exact Nat.le_of_eq rfl) (by decide)
  have G2 : own_Go p.tables e below (s₁.setTop (entryFrame m #[(.ref a0), (.long q1), (.long q2), (.long q3), (.long q4)] 9)) (T2.setTop (mkF m 4 #[.val (.ref a0), .val (.long q1), .second, .val (.long q2), .second, .val (.long q3), .second, .val (.long q4), .second] [])) := fun t k => G1 t (st2 t k)
  have G3 : own_Go p.tables e below (s₁.setTop (entryFrame m #[(.ref a0), (.long q1), (.long q2), (.long q3), (.long q4)] 9)) (T2.setTop (mkF m 5 #[.val (.ref a0), .val (.long q1), .second, .val (.long q2), .second, .val (.long q3), .second, .val (.long q4), .second] [(.ref a0)])) := fun t k => G2 t (XS.aloadN X2.here hx rfl (hb hby d1_4) rfl rfl k)
  have G4 : own_Go p.tables e below (s₁.setTop (entryFrame m #[(.ref a0), (.long q1), (.long q2), (.long q3), (.long q4)] 9)) (T2.setTop (mkF m 6 #[.val (.ref a0), .val (.long q1), .second, .val (.long q2), .second, .val (.long q3), .second, .val (.long q4), .second] [(.long q1), (.ref a0)])) := fun t k => G3 t (XS.lloadN X2.here hx rfl (hb hby d1_5) rfl k)
  obtain ⟨T5, h5, X5, e5, W5, st5⟩ := putF X2 hx hZ hown (host := "") (Or.inl (hw _ (List.mem_of_getElem? (i := 9) rfl))) Via.refl e2 F_requestId E_a0 (Or.inr ⟨(hw _ (List.mem_of_getElem? (i := 10) rfl)), rfl, hnm⟩) (hw _ (List.mem_of_getElem? (i := 1) rfl)) (ty := .long) (by decide) rfl rfl (g := (mkF m 6 #[.val (.ref a0), .val (.long q1), .second, .val (.long q2), .second, .val (.long q3), .second, .val (.long q4), .second] [(.long q1), (.ref a0)])) rfl rfl (hb hby d1_6)
  have Fw5 := F_requestId.same W5
  have N5 := Fr.snoc X5 N0 gn_a0
  have O5 := O0.wr W5 gn_a0
  have K5 := K0.wr W5 (Or.inl (List.mem_of_getElem? (i := 0) rfl))
  have G5 : own_Go p.tables e below (s₁.setTop (entryFrame m #[(.ref a0), (.long q1), (.long q2), (.long q3), (.long q4)] 9)) (T5.setTop (mkF m 9 #[.val (.ref a0), .val (.long q1), .second, .val (.long q2), .second, .val (.long q3), .second, .val (.long q4), .second] [])) := fun t k => G4 t (st5 t k)
  have G6 : own_Go p.tables e below (s₁.setTop (entryFrame m #[(.ref a0), (.long q1), (.long q2), (.long q3), (.long q4)] 9)) (T5.setTop (mkF m 10 #[.val (.ref a0), .val (.long q1), .second, .val (.long q2), .second, .val (.long q3), .second, .val (.long q4), .second] [(.ref a0)])) := fun t k => G5 t (XS.aloadN X5.here hx rfl (hb hby d1_9) rfl rfl k)
  have G7 : own_Go p.tables e below (s₁.setTop (entryFrame m #[(.ref a0), (.long q1), (.long q2), (.long q3), (.long q4)] 9)) (T5.setTop (mkF m 11 #[.val (.ref a0), .val (.long q1), .second, .val (.long q2), .second, .val (.long q3), .second, .val (.long q4), .second] [(.long q2), (.ref a0)])) := fun t k => G6 t (XS.lloadN X5.here hx rfl (hb hby d1_10) rfl k)
  have f8 : Exa Z h5 a0 "com/example/vernal_pool/vernalpool/cli/TraceRequest" := (E_a0.wr W5)
  have f9 : Fld Z h5 a0 "com/example/vernal_pool/vernalpool/cli/TraceRequest" "appId" "J" (.long (0 : Int64)) := (F_appId.other W5 (Or.inr (slot_ne (Or.inr (hw _ (List.mem_of_getElem? (i := 12) rfl))) (Or.inr (hw _ (List.mem_of_getElem? (i := 10) rfl))) (by decide) (t := .long) (t' := .long) (by decide) (by decide))))
  obtain ⟨T10, h10, X10, e10, W10, st10⟩ := putF X5 hx hZ hown (host := "") (Or.inl (hw _ (List.mem_of_getElem? (i := 11) rfl))) Via.refl e5 f9 f8 (Or.inr ⟨(hw _ (List.mem_of_getElem? (i := 12) rfl)), rfl, hnm⟩) (hw _ (List.mem_of_getElem? (i := 1) rfl)) (ty := .long) (by decide) rfl rfl (g := (mkF m 11 #[.val (.ref a0), .val (.long q1), .second, .val (.long q2), .second, .val (.long q3), .second, .val (.long q4), .second] [(.long q2), (.ref a0)])) rfl rfl (hb hby d1_11)
  have Fw10 := f9.same W10
  have N10 := Fr.snoc X10 N5 gn_a0
  have O10 := O5.wr W10 gn_a0
  have K10 := K5.wr W10 (Or.inl (List.mem_of_getElem? (i := 0) rfl))
  have G10 : own_Go p.tables e below (s₁.setTop (entryFrame m #[(.ref a0), (.long q1), (.long q2), (.long q3), (.long q4)] 9)) (T10.setTop (mkF m 14 #[.val (.ref a0), .val (.long q1), .second, .val (.long q2), .second, .val (.long q3), .second, .val (.long q4), .second] [])) := fun t k => G7 t (st10 t k)
  have G11 : own_Go p.tables e below (s₁.setTop (entryFrame m #[(.ref a0), (.long q1), (.long q2), (.long q3), (.long q4)] 9)) (T10.setTop (mkF m 15 #[.val (.ref a0), .val (.long q1), .second, .val (.long q2), .second, .val (.long q3), .second, .val (.long q4), .second] [(.ref a0)])) := fun t k => G10 t (XS.aloadN X10.here hx rfl (hb hby d1_14) rfl rfl k)
  have G12 : own_Go p.tables e below (s₁.setTop (entryFrame m #[(.ref a0), (.long q1), (.long q2), (.long q3), (.long q4)] 9)) (T10.setTop (mkF m 17 #[.val (.ref a0), .val (.long q1), .second, .val (.long q2), .second, .val (.long q3), .second, .val (.long q4), .second] [(.long q3), (.ref a0)])) := fun t k => G11 t (XS.lload X10.here hx rfl (hb hby d1_15) rfl k)
  have f13 : Exa Z h10 a0 "com/example/vernal_pool/vernalpool/cli/TraceRequest" := (f8.wr W10)
  have f14 : Fld Z h10 a0 "com/example/vernal_pool/vernalpool/cli/TraceRequest" "startOffsetUs" "J" (.long (0 : Int64)) := ((F_startOffsetUs.other W5 (Or.inr (slot_ne (Or.inr (hw _ (List.mem_of_getElem? (i := 14) rfl))) (Or.inr (hw _ (List.mem_of_getElem? (i := 10) rfl))) (by decide) (t := .long) (t' := .long) (by decide) (by decide)))).other W10 (Or.inr (slot_ne (Or.inr (hw _ (List.mem_of_getElem? (i := 14) rfl))) (Or.inr (hw _ (List.mem_of_getElem? (i := 12) rfl))) (by decide) (t := .long) (t' := .long) (by decide) (by decide))))
  obtain ⟨T15, h15, X15, e15, W15, st15⟩ := putF X10 hx hZ hown (host := "") (Or.inl (hw _ (List.mem_of_getElem? (i := 13) rfl))) Via.refl e10 f14 f13 (Or.inr ⟨(hw _ (List.mem_of_getElem? (i := 14) rfl)), rfl, hnm⟩) (hw _ (List.mem_of_getElem? (i := 1) rfl)) (ty := .long) (by decide) rfl rfl (g := (mkF m 17 #[.val (.ref a0), .val (.long q1), .second, .val (.long q2), .second, .val (.long q3), .second, .val (.long q4), .second] [(.long q3), (.ref a0)])) rfl rfl (hb hby d1_17)
  have Fw15 := f14.same W15
  have N15 := Fr.snoc X15 N10 gn_a0
  have O15 := O10.wr W15 gn_a0
  have K15 := K10.wr W15 (Or.inl (List.mem_of_getElem? (i := 0) rfl))
  have G15 : own_Go p.tables e below (s₁.setTop (entryFrame m #[(.ref a0), (.long q1), (.long q2), (.long q3), (.long q4)] 9)) (T15.setTop (mkF m 20 #[.val (.ref a0), .val (.long q1), .second, .val (.long q2), .second, .val (.long q3), .second, .val (.long q4), .second] [])) := fun t k => G12 t (st15 t k)
  have G16 : own_Go p.tables e below (s₁.setTop (entryFrame m #[(.ref a0), (.long q1), (.long q2), (.long q3), (.long q4)] 9)) (T15.setTop (mkF m 21 #[.val (.ref a0), .val (.long q1), .second, .val (.long q2), .second, .val (.long q3), .second, .val (.long q4), .second] [(.ref a0)])) := fun t k => G15 t (XS.aloadN X15.here hx rfl (hb hby d1_20) rfl rfl k)
  have G17 : own_Go p.tables e below (s₁.setTop (entryFrame m #[(.ref a0), (.long q1), (.long q2), (.long q3), (.long q4)] 9)) (T15.setTop (mkF m 23 #[.val (.ref a0), .val (.long q1), .second, .val (.long q2), .second, .val (.long q3), .second, .val (.long q4), .second] [(.long q4), (.ref a0)])) := fun t k => G16 t (XS.lload X15.here hx rfl (hb hby d1_21) rfl k)
  have f18 : Exa Z h15 a0 "com/example/vernal_pool/vernalpool/cli/TraceRequest" := (f13.wr W15)
  have f19 : Fld Z h15 a0 "com/example/vernal_pool/vernalpool/cli/TraceRequest" "execUs" "J" (.long (0 : Int64)) := (((F_execUs.other W5 (Or.inr (slot_ne (Or.inr (hw _ (List.mem_of_getElem? (i := 16) rfl))) (Or.inr (hw _ (List.mem_of_getElem? (i := 10) rfl))) (by decide) (t := .long) (t' := .long) (by decide) (by decide)))).other W10 (Or.inr (slot_ne (Or.inr (hw _ (List.mem_of_getElem? (i := 16) rfl))) (Or.inr (hw _ (List.mem_of_getElem? (i := 12) rfl))) (by decide) (t := .long) (t' := .long) (by decide) (by decide)))).other W15 (Or.inr (slot_ne (Or.inr (hw _ (List.mem_of_getElem? (i := 16) rfl))) (Or.inr (hw _ (List.mem_of_getElem? (i := 14) rfl))) (by decide) (t := .long) (t' := .long) (by decide) (by decide))))
  obtain ⟨T20, h20, X20, e20, W20, st20⟩ := putF X15 hx hZ hown (host := "") (Or.inl (hw _ (List.mem_of_getElem? (i := 15) rfl))) Via.refl e15 f19 f18 (Or.inr ⟨(hw _ (List.mem_of_getElem? (i := 16) rfl)), rfl, hnm⟩) (hw _ (List.mem_of_getElem? (i := 1) rfl)) (ty := .long) (by decide) rfl rfl (g := (mkF m 23 #[.val (.ref a0), .val (.long q1), .second, .val (.long q2), .second, .val (.long q3), .second, .val (.long q4), .second] [(.long q4), (.ref a0)])) rfl rfl (hb hby d1_23)
  have Fw20 := f19.same W20
  have N20 := Fr.snoc X20 N15 gn_a0
  have O20 := O15.wr W20 gn_a0
  have K20 := K15.wr W20 (Or.inl (List.mem_of_getElem? (i := 0) rfl))
  have G20 : own_Go p.tables e below (s₁.setTop (entryFrame m #[(.ref a0), (.long q1), (.long q2), (.long q3), (.long q4)] 9)) (T20.setTop (mkF m 26 #[.val (.ref a0), .val (.long q1), .second, .val (.long q2), .second, .val (.long q3), .second, .val (.long q4), .second] [])) := fun t k => G17 t (st20 t k)
  obtain ⟨fs, hr, hrun, hended, hW, hsame⟩ := X20.leave (v := none) (fun _ => rfl)
  refine ⟨_, _, G20 _ ?_, hrun, hended, _, _, rfl, ?_, ⟨_, rfl⟩, hW, hsame.mono (by decide) (by decide)⟩
  · exact X20.returnOut hx Bd.returns (hb hby d1_26) hr
  · show Q1 Z a0 q1 q2 q3 q4 h0 _ T20.heap _
    rw [e20]
    have f22 : Exa Z h20 a0 "com/example/vernal_pool/vernalpool/cli/TraceRequest" := (f18.wr W20)
    have f23 : Fld Z h20 a0 "com/example/vernal_pool/vernalpool/cli/TraceRequest" "requestId" "J" (.long q1) := (((Fw5.other W10 (Or.inr (slot_ne (Or.inr (hw _ (List.mem_of_getElem? (i := 10) rfl))) (Or.inr (hw _ (List.mem_of_getElem? (i := 12) rfl))) (by decide) (t := .long) (t' := .long) (by decide) (by decide)))).other W15 (Or.inr (slot_ne (Or.inr (hw _ (List.mem_of_getElem? (i := 10) rfl))) (Or.inr (hw _ (List.mem_of_getElem? (i := 14) rfl))) (by decide) (t := .long) (t' := .long) (by decide) (by decide)))).other W20 (Or.inr (slot_ne (Or.inr (hw _ (List.mem_of_getElem? (i := 10) rfl))) (Or.inr (hw _ (List.mem_of_getElem? (i := 16) rfl))) (by decide) (t := .long) (t' := .long) (by decide) (by decide))))
    have f24 : Fld Z h20 a0 "com/example/vernal_pool/vernalpool/cli/TraceRequest" "appId" "J" (.long q2) := ((Fw10.other W15 (Or.inr (slot_ne (Or.inr (hw _ (List.mem_of_getElem? (i := 12) rfl))) (Or.inr (hw _ (List.mem_of_getElem? (i := 14) rfl))) (by decide) (t := .long) (t' := .long) (by decide) (by decide)))).other W20 (Or.inr (slot_ne (Or.inr (hw _ (List.mem_of_getElem? (i := 12) rfl))) (Or.inr (hw _ (List.mem_of_getElem? (i := 16) rfl))) (by decide) (t := .long) (t' := .long) (by decide) (by decide))))
    have f25 : Fld Z h20 a0 "com/example/vernal_pool/vernalpool/cli/TraceRequest" "startOffsetUs" "J" (.long q3) := (Fw15.other W20 (Or.inr (slot_ne (Or.inr (hw _ (List.mem_of_getElem? (i := 14) rfl))) (Or.inr (hw _ (List.mem_of_getElem? (i := 16) rfl))) (by decide) (t := .long) (t' := .long) (by decide) (by decide))))
    exact ⟨rfl, N20, K20, f22, f23, f24, f25, Fw20⟩
theorem d2_0 : decode prog_38_method_6_code 0 = .ok (.aload_n 0, 1) := by decide +kernel
theorem d2_1 : decode prog_38_method_6_code 1 = .ok (.aload_n 1, 1) := by decide +kernel
theorem d2_2 : decode prog_38_method_6_code 2 = .ok (.if_acmp .ne 5, 3) := by decide +kernel
theorem d2_5 : decode prog_38_method_6_code 5 = .ok (.iconst 1, 1) := by decide +kernel
theorem d2_6 : decode prog_38_method_6_code 6 = .ok (.ireturn, 1) := by decide +kernel
theorem pn_2 : plainName "com/example/vernal_pool/vernalpool/cli/TraceRequest" = true := by first | (simp [plainName, overriddenIn]; done) | decide +kernel
theorem ef_2 (m : MethodId) (a0 : Addr) : entryFrame m #[(.ref a0), (.ref a0)] 3 = mkF m 0 #[.val (.ref a0), .val (.ref a0), .unset] [] := by first | (simp [entryFrame, mkF, argsToLocals, Value.category]; done) | rfl
def Q2 (Z : State) (a0 : Addr)  (h0 : Heap) (v : Option Value) (h : Heap) (L : List Loc) : Prop := v = some (.int 1) ∧ L = [] ∧ h = h0
set_option maxRecDepth 65536 in
set_option maxHeartbeats 40000000 in
theorem rm2 (l : Launch) (Z : State) (aw : Array Value) (hw : ∀ d ∈ tables_1, d.before aw Z = true) (ws : List Jvm.Cond) (a0 : Addr)  (h0 : Heap)  :
    MetFree l (⟨"com/example/vernal_pool/vernalpool/cli/TraceRequest", "equals", "(Ljava/lang/Object;)Z"⟩ : MethodName) (head1 (Jvm.Cond.code (⟨"com/example/vernal_pool/vernalpool/cli/TraceRequest", "equals", "(Ljava/lang/Object;)Z"⟩ : MethodName) prog_38_method_6_code 3 (some .boolean) :: ws) ({ frames := 0, cells := 0, slots := 0, locals := 0 } : Room)) (fun a U => a = #[(.ref a0), (.ref a0)] ∧ Z.Warmed39 U.vm ∧ U.heap = h0) (fun _ _ _ _ _ => True) (fun _ U o U' => ∃ v L, o = .returned v ∧ Q2 Z a0 h0 v U'.heap L ∧ FrameEnd U o U' L ({ frames := 0, cells := 0, slots := 0, locals := 0 } : Room).cells ({ frames := 0, cells := 0, slots := 0, locals := 0 } : Room).slots) := by
  refine MetFree.of_bodySF (plainFor_of_name pn_2) hisR ?_
  intro p e s m args below meth c s₁ Bd hml0 hP hK
  obtain ⟨rfl, hZ, hh⟩ := hP
  have hZ0 := hZ
  have hx := Bd.exec
  have hby := Bd.bytes
  have hml : c.maxLocals = 3 := hml0
  have hown : s.vm.findClass "com/example/vernal_pool/vernalpool/cli/TraceRequest" = some m.cls := findClass_of_methodNamed Bd.named
  have hnm := (name_of_methodNamed Bd.named Bd.method).1
  have X0 : Stand p l e ({ frames := 0, cells := 0, slots := 0, locals := 0 } : Room) s m #[(.ref a0), (.ref a0)] below meth c s₁ [] 0 0 := Stand.of_body Bd
  have e0 : s₁.heap = h0 := by rw [← hh, Bd.state]; rfl
  have G0 : own_Go p.tables e below (s₁.setTop (entryFrame m #[(.ref a0), (.ref a0)] 3)) (s₁.setTop (mkF m 0 #[.val (.ref a0), .val (.ref a0), .unset] [])) := fun t k => castTop (ef_2 m a0) k
  have G1 : own_Go p.tables e below (s₁.setTop (entryFrame m #[(.ref a0), (.ref a0)] 3)) (s₁.setTop (mkF m 1 #[.val (.ref a0), .val (.ref a0), .unset] [(.ref a0)])) := fun t k => G0 t (XS.aloadN X0.here hx rfl (hb hby d2_0) rfl rfl k)
  have G2 : own_Go p.tables e below (s₁.setTop (entryFrame m #[(.ref a0), (.ref a0)] 3)) (s₁.setTop (mkF m 2 #[.val (.ref a0), .val (.ref a0), .unset] [(.ref a0), (.ref a0)])) := fun t k => G1 t (XS.aloadN X0.here hx rfl (hb hby d2_1) rfl rfl k)
  have G3 : own_Go p.tables e below (s₁.setTop (entryFrame m #[(.ref a0), (.ref a0)] 3)) (s₁.setTop (mkF m 5 #[.val (.ref a0), .val (.ref a0), .unset] [])) := fun t k => G2 t (Jvm.RoadKit.acmp (g := (mkF m 2 #[.val (.ref a0), .val (.ref a0), .unset] [(.ref a0), (.ref a0)])) X0 hx rfl rfl rfl (pc0 := 2) (pc' := 5) (same := true) rfl (hb hby d2_2) rfl (decide_eq_true rfl) (by decide) (by decide) k)
  have G4 : own_Go p.tables e below (s₁.setTop (entryFrame m #[(.ref a0), (.ref a0)] 3)) (s₁.setTop (mkF m 6 #[.val (.ref a0), .val (.ref a0), .unset] [(.int (1 : Int32))])) := fun t k => G3 t (XT.iconstV X0.here hx rfl (1 : Int32) (hb hby d2_5) (by decide) k)
  obtain ⟨fs, hr, hrun, hended, hW, hsame⟩ := X0.leave (v := some (.int (nar .boolean (1 : Int32)))) (fun h => by rw [Bd.returns] at h; cases h)
  refine ⟨_, _, G4 _ ?_, hrun, hended, _, _, rfl, ?_, ⟨_, rfl⟩, hW, hsame.mono (by decide) (by decide)⟩
  · exact retN X0 hx (t := .boolean) Bd.returns (by simp) (hb hby d2_6) hr
  · show Q2 Z a0 h0 _ s₁.heap _
    rw [e0]
    exact ⟨rfl, rfl, rfl⟩
theorem d3_0 : decode prog_38_method_6_code 0 = .ok (.aload_n 0, 1) := by decide +kernel
theorem d3_1 : decode prog_38_method_6_code 1 = .ok (.aload_n 1, 1) := by decide +kernel
theorem d3_2 : decode prog_38_method_6_code 2 = .ok (.if_acmp .ne 5, 3) := by decide +kernel
theorem d3_7 : decode prog_38_method_6_code 7 = .ok (.aload_n 1, 1) := by decide +kernel
theorem d3_8 : decode prog_38_method_6_code 8 = .ok (.instanceof 8, 3) := by decide +kernel
theorem d3_11 : decode prog_38_method_6_code 11 = .ok (.ifCond .ne 5, 3) := by decide +kernel
theorem d3_16 : decode prog_38_method_6_code 16 = .ok (.aload_n 1, 1) := by decide +kernel
theorem d3_17 : decode prog_38_method_6_code 17 = .ok (.checkcast 8, 3) := by decide +kernel
theorem d3_20 : decode prog_38_method_6_code 20 = .ok (.astore_n 2, 1) := by decide +kernel
theorem d3_21 : decode prog_38_method_6_code 21 = .ok (.aload_n 0, 1) := by decide +kernel
theorem d3_22 : decode prog_38_method_6_code 22 = .ok (.getfield 7, 3) := by decide +kernel
theorem d3_25 : decode prog_38_method_6_code 25 = .ok (.aload_n 2, 1) := by decide +kernel
theorem d3_26 : decode prog_38_method_6_code 26 = .ok (.getfield 7, 3) := by decide +kernel
theorem d3_29 : decode prog_38_method_6_code 29 = .ok (.lcmp, 1) := by decide +kernel
theorem d3_30 : decode prog_38_method_6_code 30 = .ok (.ifCond .ne 43, 3) := by decide +kernel
theorem d3_33 : decode prog_38_method_6_code 33 = .ok (.aload_n 0, 1) := by decide +kernel
theorem d3_34 : decode prog_38_method_6_code 34 = .ok (.getfield 13, 3) := by decide +kernel
theorem d3_37 : decode prog_38_method_6_code 37 = .ok (.aload_n 2, 1) := by decide +kernel
theorem d3_38 : decode prog_38_method_6_code 38 = .ok (.getfield 13, 3) := by decide +kernel
theorem d3_41 : decode prog_38_method_6_code 41 = .ok (.lcmp, 1) := by decide +kernel
theorem d3_42 : decode prog_38_method_6_code 42 = .ok (.ifCond .ne 31, 3) := by decide +kernel
theorem d3_45 : decode prog_38_method_6_code 45 = .ok (.aload_n 0, 1) := by decide +kernel
theorem d3_46 : decode prog_38_method_6_code 46 = .ok (.getfield 16, 3) := by decide +kernel
theorem d3_49 : decode prog_38_method_6_code 49 = .ok (.aload_n 2, 1) := by decide +kernel
theorem d3_50 : decode prog_38_method_6_code 50 = .ok (.getfield 16, 3) := by decide +kernel
theorem d3_53 : decode prog_38_method_6_code 53 = .ok (.lcmp, 1) := by decide +kernel
theorem d3_54 : decode prog_38_method_6_code 54 = .ok (.ifCond .ne 19, 3) := by decide +kernel
theorem d3_57 : decode prog_38_method_6_code 57 = .ok (.aload_n 0, 1) := by decide +kernel
theorem d3_58 : decode prog_38_method_6_code 58 = .ok (.getfield 19, 3) := by decide +kernel
theorem d3_61 : decode prog_38_method_6_code 61 = .ok (.aload_n 2, 1) := by decide +kernel
theorem d3_62 : decode prog_38_method_6_code 62 = .ok (.getfield 19, 3) := by decide +kernel
theorem d3_65 : decode prog_38_method_6_code 65 = .ok (.lcmp, 1) := by decide +kernel
theorem d3_66 : decode prog_38_method_6_code 66 = .ok (.ifCond .ne 7, 3) := by decide +kernel
theorem d3_69 : decode prog_38_method_6_code 69 = .ok (.iconst 1, 1) := by decide +kernel
theorem d3_70 : decode prog_38_method_6_code 70 = .ok (.goto 4, 3) := by decide +kernel
theorem d3_73 : decode prog_38_method_6_code 73 = .ok (.iconst 0, 1) := by decide +kernel
theorem d3_74 : decode prog_38_method_6_code 74 = .ok (.ireturn, 1) := by decide +kernel
theorem pn_3 : plainName "com/example/vernal_pool/vernalpool/cli/TraceRequest" = true := by first | (simp [plainName, overriddenIn]; done) | decide +kernel
theorem ef_3 (m : MethodId) (a0 : Addr) (a1 : Addr) : entryFrame m #[(.ref a0), (.ref a1)] 3 = mkF m 0 #[.val (.ref a0), .val (.ref a1), .unset] [] := by first | (simp [entryFrame, mkF, argsToLocals, Value.category]; done) | rfl
def Q3 (Z : State) (a0 : Addr) (a1 : Addr) (x0 x1 x2 x3 y0 y1 y2 y3 : Int64) (h0 : Heap) (v : Option Value) (h : Heap) (L : List Loc) : Prop := v = some (.int (if x0 = y0 then (if x1 = y1 then (if x2 = y2 then (if x3 = y3 then (1 : Int32) else (0 : Int32)) else (0 : Int32)) else (0 : Int32)) else (0 : Int32))) ∧ L = [] ∧ h = h0
set_option maxRecDepth 65536 in
set_option maxHeartbeats 40000000 in
theorem rm3 (l : Launch) (Z : State) (aw : Array Value) (hw : ∀ d ∈ tables_1, d.before aw Z = true) (ws : List Jvm.Cond) (a0 : Addr) (a1 : Addr) (x0 x1 x2 x3 y0 y1 y2 y3 : Int64) (h0 : Heap) (hne : ¬ a0 = a1) (E_1 : Exa Z h0 a1 "com/example/vernal_pool/vernalpool/cli/TraceRequest") (F0_requestId : Fld Z h0 a0 "com/example/vernal_pool/vernalpool/cli/TraceRequest" "requestId" "J" (.long x0)) (F1_requestId : Fld Z h0 a1 "com/example/vernal_pool/vernalpool/cli/TraceRequest" "requestId" "J" (.long y0)) (F0_appId : Fld Z h0 a0 "com/example/vernal_pool/vernalpool/cli/TraceRequest" "appId" "J" (.long x1)) (F1_appId : Fld Z h0 a1 "com/example/vernal_pool/vernalpool/cli/TraceRequest" "appId" "J" (.long y1)) (F0_startOffsetUs : Fld Z h0 a0 "com/example/vernal_pool/vernalpool/cli/TraceRequest" "startOffsetUs" "J" (.long x2)) (F1_startOffsetUs : Fld Z h0 a1 "com/example/vernal_pool/vernalpool/cli/TraceRequest" "startOffsetUs" "J" (.long y2)) (F0_execUs : Fld Z h0 a0 "com/example/vernal_pool/vernalpool/cli/TraceRequest" "execUs" "J" (.long x3)) (F1_execUs : Fld Z h0 a1 "com/example/vernal_pool/vernalpool/cli/TraceRequest" "execUs" "J" (.long y3)) :
    MetFree l (⟨"com/example/vernal_pool/vernalpool/cli/TraceRequest", "equals", "(Ljava/lang/Object;)Z"⟩ : MethodName) (head1 (Jvm.Cond.code (⟨"com/example/vernal_pool/vernalpool/cli/TraceRequest", "equals", "(Ljava/lang/Object;)Z"⟩ : MethodName) prog_38_method_6_code 3 (some .boolean) :: ws) ({ frames := 0, cells := 0, slots := 0, locals := 0 } : Room)) (fun a U => a = #[(.ref a0), (.ref a1)] ∧ Z.Warmed39 U.vm ∧ U.heap = h0) (fun _ _ _ _ _ => True) (fun _ U o U' => ∃ v L, o = .returned v ∧ Q3 Z a0 a1 x0 x1 x2 x3 y0 y1 y2 y3 h0 v U'.heap L ∧ FrameEnd U o U' L ({ frames := 0, cells := 0, slots := 0, locals := 0 } : Room).cells ({ frames := 0, cells := 0, slots := 0, locals := 0 } : Room).slots) := by
  refine MetFree.of_bodySF (plainFor_of_name pn_3) hisR ?_
  intro p e s m args below meth c s₁ Bd hml0 hP hK
  obtain ⟨rfl, hZ, hh⟩ := hP
  have hZ0 := hZ
  have hx := Bd.exec
  have hby := Bd.bytes
  have hml : c.maxLocals = 3 := hml0
  have hown : s.vm.findClass "com/example/vernal_pool/vernalpool/cli/TraceRequest" = some m.cls := findClass_of_methodNamed Bd.named
  have hnm := (name_of_methodNamed Bd.named Bd.method).1
  have X0 : Stand p l e ({ frames := 0, cells := 0, slots := 0, locals := 0 } : Room) s m #[(.ref a0), (.ref a1)] below meth c s₁ [] 0 0 := Stand.of_body Bd
  have e0 : s₁.heap = h0 := by rw [← hh, Bd.state]; rfl
  have G0 : own_Go p.tables e below (s₁.setTop (entryFrame m #[(.ref a0), (.ref a1)] 3)) (s₁.setTop (mkF m 0 #[.val (.ref a0), .val (.ref a1), .unset] [])) := fun t k => castTop (ef_3 m a0 a1) k
  have G1 : own_Go p.tables e below (s₁.setTop (entryFrame m #[(.ref a0), (.ref a1)] 3)) (s₁.setTop (mkF m 1 #[.val (.ref a0), .val (.ref a1), .unset] [(.ref a0)])) := fun t k => G0 t (XS.aloadN X0.here hx rfl (hb hby d3_0) rfl rfl k)
  have G2 : own_Go p.tables e below (s₁.setTop (entryFrame m #[(.ref a0), (.ref a1)] 3)) (s₁.setTop (mkF m 2 #[.val (.ref a0), .val (.ref a1), .unset] [(.ref a1), (.ref a0)])) := fun t k => G1 t (XS.aloadN X0.here hx rfl (hb hby d3_1) rfl rfl k)
  have G3 : own_Go p.tables e below (s₁.setTop (entryFrame m #[(.ref a0), (.ref a1)] 3)) (s₁.setTop (mkF m 7 #[.val (.ref a0), .val (.ref a1), .unset] [])) := fun t k => G2 t (Jvm.RoadKit.acmp (g := (mkF m 2 #[.val (.ref a0), .val (.ref a1), .unset] [(.ref a1), (.ref a0)])) X0 hx rfl rfl rfl (pc0 := 2) (pc' := 7) (same := false) rfl (hb hby d3_2) rfl (decide_eq_false fun q => hne (Value.ref.inj q)) (by decide) (by decide) k)
  have G4 : own_Go p.tables e below (s₁.setTop (entryFrame m #[(.ref a0), (.ref a1)] 3)) (s₁.setTop (mkF m 8 #[.val (.ref a0), .val (.ref a1), .unset] [(.ref a1)])) := fun t k => G3 t (XS.aloadN X0.here hx rfl (hb hby d3_7) rfl rfl k)
  obtain ⟨T5, X5, e5, st5⟩ := instY X0 hx hZ hown (hw _ (List.mem_of_getElem? (i := 22) rfl)) e0 (Ins.self E_1) (g := (mkF m 8 #[.val (.ref a0), .val (.ref a1), .unset] [(.ref a1)])) rfl rfl (hb hby d3_8)
  have G5 : own_Go p.tables e below (s₁.setTop (entryFrame m #[(.ref a0), (.ref a1)] 3)) (T5.setTop (mkF m 11 #[.val (.ref a0), .val (.ref a1), .unset] [(.int (1 : Int32))])) := fun t k => G4 t (st5 t k)
  have hk6 : ¬ ((1 : Int32) = (0 : Int32)) := by decide
  have G7 : own_Go p.tables e below (s₁.setTop (entryFrame m #[(.ref a0), (.ref a1)] 3)) (T5.setTop (mkF m 16 #[.val (.ref a0), .val (.ref a1), .unset] [])) := fun t k => G5 t (XS.ifYes X5.here hx rfl (pc0 := 11) (pc' := 16) rfl (hb hby d3_11) rfl ((if0 _ _).trans (feq hk6).2) (by decide) (by decide) k)
  have G8 : own_Go p.tables e below (s₁.setTop (entryFrame m #[(.ref a0), (.ref a1)] 3)) (T5.setTop (mkF m 17 #[.val (.ref a0), .val (.ref a1), .unset] [(.ref a1)])) := fun t k => G7 t (XS.aloadN X5.here hx rfl (hb hby d3_16) rfl rfl k)
  obtain ⟨T9, X9, e9, st9⟩ := castY X5 hx hZ hown (hw _ (List.mem_of_getElem? (i := 22) rfl)) e5 (Ins.self E_1) (g := (mkF m 17 #[.val (.ref a0), .val (.ref a1), .unset] [(.ref a1)])) rfl rfl (hb hby d3_17)
  have G9 : own_Go p.tables e below (s₁.setTop (entryFrame m #[(.ref a0), (.ref a1)] 3)) (T9.setTop (mkF m 20 #[.val (.ref a0), .val (.ref a1), .unset] [(.ref a1)])) := fun t k => G8 t (st9 t k)
  have G10 : own_Go p.tables e below (s₁.setTop (entryFrame m #[(.ref a0), (.ref a1)] 3)) (T9.setTop (mkF m 21 #[.val (.ref a0), .val (.ref a1), .val (.ref a1)] [])) := fun t k => G9 t (XS.astoreN X9.here hx rfl (hb hby d3_20) rfl rfl (l' := #[.val (.ref a0), .val (.ref a1), .val (.ref a1)]) rfl k)
  have G11 : own_Go p.tables e below (s₁.setTop (entryFrame m #[(.ref a0), (.ref a1)] 3)) (T9.setTop (mkF m 22 #[.val (.ref a0), .val (.ref a1), .val (.ref a1)] [(.ref a0)])) := fun t k => G10 t (XS.aloadN X9.here hx rfl (hb hby d3_21) rfl rfl k)
  obtain ⟨T12, X12, e12, st12⟩ := getF X9 hx hZ hown (host := "") (Or.inl (hw _ (List.mem_of_getElem? (i := 9) rfl))) Via.refl e9 F0_requestId (g := (mkF m 22 #[.val (.ref a0), .val (.ref a1), .val (.ref a1)] [(.ref a0)])) rfl rfl (hb hby d3_22)
  have G12 : own_Go p.tables e below (s₁.setTop (entryFrame m #[(.ref a0), (.ref a1)] 3)) (T12.setTop (mkF m 25 #[.val (.ref a0), .val (.ref a1), .val (.ref a1)] [(.long x0)])) := fun t k => G11 t (st12 t k)
  have G13 : own_Go p.tables e below (s₁.setTop (entryFrame m #[(.ref a0), (.ref a1)] 3)) (T12.setTop (mkF m 26 #[.val (.ref a0), .val (.ref a1), .val (.ref a1)] [(.ref a1), (.long x0)])) := fun t k => G12 t (XS.aloadN X12.here hx rfl (hb hby d3_25) rfl rfl k)
  obtain ⟨T14, X14, e14, st14⟩ := getF X12 hx hZ hown (host := "") (Or.inl (hw _ (List.mem_of_getElem? (i := 9) rfl))) Via.refl e12 F1_requestId (g := (mkF m 26 #[.val (.ref a0), .val (.ref a1), .val (.ref a1)] [(.ref a1), (.long x0)])) rfl rfl (hb hby d3_26)
  have G14 : own_Go p.tables e below (s₁.setTop (entryFrame m #[(.ref a0), (.ref a1)] 3)) (T14.setTop (mkF m 29 #[.val (.ref a0), .val (.ref a1), .val (.ref a1)] [(.long y0), (.long x0)])) := fun t k => G13 t (st14 t k)
  have G15 : own_Go p.tables e below (s₁.setTop (entryFrame m #[(.ref a0), (.ref a1)] 3)) (T14.setTop (mkF m 30 #[.val (.ref a0), .val (.ref a1), .val (.ref a1)] [(.int (lcmpW x0 y0))])) := fun t k => G14 t (XS.lcmp X14.here hx rfl (hb hby d3_29) rfl k)
  obtain ⟨z16_0, T16, X16, e16, hz16_0, G16⟩ : ∃ (z16_0 : Int32) (T16 : State), Stand p l e ({ frames := 0, cells := 0, slots := 0, locals := 0 } : Room) s m #[(.ref a0), (.ref a1)] below meth c T16 [] 0 0 ∧ T16.heap = h0 ∧ z16_0 = (if x0 = y0 then (if x1 = y1 then (if x2 = y2 then (if x3 = y3 then (1 : Int32) else (0 : Int32)) else (0 : Int32)) else (0 : Int32)) else (0 : Int32)) ∧ own_Go p.tables e below (s₁.setTop (entryFrame m #[(.ref a0), (.ref a1)] 3)) (T16.setTop (mkF m 74 #[.val (.ref a0), .val (.ref a1), .val (.ref a1)] [(.int z16_0)])) := by
    by_cases hc16 : x0 = y0
    · have G17 : own_Go p.tables e below (s₁.setTop (entryFrame m #[(.ref a0), (.ref a1)] 3)) (T14.setTop (mkF m 33 #[.val (.ref a0), .val (.ref a1), .val (.ref a1)] [])) := fun t k => G15 t (XS.ifNo X14.here hx rfl (hb hby d3_30) rfl ((if0 _ _).trans (teq (((lw_eq _ _).mpr hc16) : (lcmpW x0 y0) = (0 : Int32))).2) k)
      have G18 : own_Go p.tables e below (s₁.setTop (entryFrame m #[(.ref a0), (.ref a1)] 3)) (T14.setTop (mkF m 34 #[.val (.ref a0), .val (.ref a1), .val (.ref a1)] [(.ref a0)])) := fun t k => G17 t (XS.aloadN X14.here hx rfl (hb hby d3_33) rfl rfl k)
      obtain ⟨T19, X19, e19, st19⟩ := getF X14 hx hZ hown (host := "") (Or.inl (hw _ (List.mem_of_getElem? (i := 11) rfl))) Via.refl e14 F0_appId (g := (mkF m 34 #[.val (.ref a0), .val (.ref a1), .val (.ref a1)] [(.ref a0)])) rfl rfl (hb hby d3_34)
      have G19 : own_Go p.tables e below (s₁.setTop (entryFrame m #[(.ref a0), (.ref a1)] 3)) (T19.setTop (mkF m 37 #[.val (.ref a0), .val (.ref a1), .val (.ref a1)] [(.long x1)])) := fun t k => G18 t (st19 t k)
      have G20 : own_Go p.tables e below (s₁.setTop (entryFrame m #[(.ref a0), (.ref a1)] 3)) (T19.setTop (mkF m 38 #[.val (.ref a0), .val (.ref a1), .val (.ref a1)] [(.ref a1), (.long x1)])) := fun t k => G19 t (XS.aloadN X19.here hx rfl (hb hby d3_37) rfl rfl k)
      obtain ⟨T21, X21, e21, st21⟩ := getF X19 hx hZ hown (host := "") (Or.inl (hw _ (List.mem_of_getElem? (i := 11) rfl))) Via.refl e19 F1_appId (g := (mkF m 38 #[.val (.ref a0), .val (.ref a1), .val (.ref a1)] [(.ref a1), (.long x1)])) rfl rfl (hb hby d3_38)
      have G21 : own_Go p.tables e below (s₁.setTop (entryFrame m #[(.ref a0), (.ref a1)] 3)) (T21.setTop (mkF m 41 #[.val (.ref a0), .val (.ref a1), .val (.ref a1)] [(.long y1), (.long x1)])) := fun t k => G20 t (st21 t k)
      have G22 : own_Go p.tables e below (s₁.setTop (entryFrame m #[(.ref a0), (.ref a1)] 3)) (T21.setTop (mkF m 42 #[.val (.ref a0), .val (.ref a1), .val (.ref a1)] [(.int (lcmpW x1 y1))])) := fun t k => G21 t (XS.lcmp X21.here hx rfl (hb hby d3_41) rfl k)
      obtain ⟨z23_0, T23, X23, e23, rfl, G23⟩ : ∃ (z23_0 : Int32) (T23 : State), Stand p l e ({ frames := 0, cells := 0, slots := 0, locals := 0 } : Room) s m #[(.ref a0), (.ref a1)] below meth c T23 [] 0 0 ∧ T23.heap = h0 ∧ z23_0 = (if x1 = y1 then (if x2 = y2 then (if x3 = y3 then (1 : Int32) else (0 : Int32)) else (0 : Int32)) else (0 : Int32)) ∧ own_Go p.tables e below (s₁.setTop (entryFrame m #[(.ref a0), (.ref a1)] 3)) (T23.setTop (mkF m 74 #[.val (.ref a0), .val (.ref a1), .val (.ref a1)] [(.int z23_0)])) := by
        by_cases hc23 : x1 = y1
        · have G24 : own_Go p.tables e below (s₁.setTop (entryFrame m #[(.ref a0), (.ref a1)] 3)) (T21.setTop (mkF m 45 #[.val (.ref a0), .val (.ref a1), .val (.ref a1)] [])) := fun t k => G22 t (XS.ifNo X21.here hx rfl (hb hby d3_42) rfl ((if0 _ _).trans (teq (((lw_eq _ _).mpr hc23) : (lcmpW x1 y1) = (0 : Int32))).2) k)
          have G25 : own_Go p.tables e below (s₁.setTop (entryFrame m #[(.ref a0), (.ref a1)] 3)) (T21.setTop (mkF m 46 #[.val (.ref a0), .val (.ref a1), .val (.ref a1)] [(.ref a0)])) := fun t k => G24 t (XS.aloadN X21.here hx rfl (hb hby d3_45) rfl rfl k)
          obtain ⟨T26, X26, e26, st26⟩ := getF X21 hx hZ hown (host := "") (Or.inl (hw _ (List.mem_of_getElem? (i := 13) rfl))) Via.refl e21 F0_startOffsetUs (g := (mkF m 46 #[.val (.ref a0), .val (.ref a1), .val (.ref a1)] [(.ref a0)])) rfl rfl (hb hby d3_46)
          have G26 : own_Go p.tables e below (s₁.setTop (entryFrame m #[(.ref a0), (.ref a1)] 3)) (T26.setTop (mkF m 49 #[.val (.ref a0), .val (.ref a1), .val (.ref a1)] [(.long x2)])) := fun t k => G25 t (st26 t k)
          have G27 : own_Go p.tables e below (s₁.setTop (entryFrame m #[(.ref a0), (.ref a1)] 3)) (T26.setTop (mkF m 50 #[.val (.ref a0), .val (.ref a1), .val (.ref a1)] [(.ref a1), (.long x2)])) := fun t k => G26 t (XS.aloadN X26.here hx rfl (hb hby d3_49) rfl rfl k)
          obtain ⟨T28, X28, e28, st28⟩ := getF X26 hx hZ hown (host := "") (Or.inl (hw _ (List.mem_of_getElem? (i := 13) rfl))) Via.refl e26 F1_startOffsetUs (g := (mkF m 50 #[.val (.ref a0), .val (.ref a1), .val (.ref a1)] [(.ref a1), (.long x2)])) rfl rfl (hb hby d3_50)
          have G28 : own_Go p.tables e below (s₁.setTop (entryFrame m #[(.ref a0), (.ref a1)] 3)) (T28.setTop (mkF m 53 #[.val (.ref a0), .val (.ref a1), .val (.ref a1)] [(.long y2), (.long x2)])) := fun t k => G27 t (st28 t k)
          have G29 : own_Go p.tables e below (s₁.setTop (entryFrame m #[(.ref a0), (.ref a1)] 3)) (T28.setTop (mkF m 54 #[.val (.ref a0), .val (.ref a1), .val (.ref a1)] [(.int (lcmpW x2 y2))])) := fun t k => G28 t (XS.lcmp X28.here hx rfl (hb hby d3_53) rfl k)
          obtain ⟨z30_0, T30, X30, e30, rfl, G30⟩ : ∃ (z30_0 : Int32) (T30 : State), Stand p l e ({ frames := 0, cells := 0, slots := 0, locals := 0 } : Room) s m #[(.ref a0), (.ref a1)] below meth c T30 [] 0 0 ∧ T30.heap = h0 ∧ z30_0 = (if x2 = y2 then (if x3 = y3 then (1 : Int32) else (0 : Int32)) else (0 : Int32)) ∧ own_Go p.tables e below (s₁.setTop (entryFrame m #[(.ref a0), (.ref a1)] 3)) (T30.setTop (mkF m 74 #[.val (.ref a0), .val (.ref a1), .val (.ref a1)] [(.int z30_0)])) := by
            by_cases hc30 : x2 = y2
            · have G31 : own_Go p.tables e below (s₁.setTop (entryFrame m #[(.ref a0), (.ref a1)] 3)) (T28.setTop (mkF m 57 #[.val (.ref a0), .val (.ref a1), .val (.ref a1)] [])) := fun t k => G29 t (XS.ifNo X28.here hx rfl (hb hby d3_54) rfl ((if0 _ _).trans (teq (((lw_eq _ _).mpr hc30) : (lcmpW x2 y2) = (0 : Int32))).2) k)
              have G32 : own_Go p.tables e below (s₁.setTop (entryFrame m #[(.ref a0), (.ref a1)] 3)) (T28.setTop (mkF m 58 #[.val (.ref a0), .val (.ref a1), .val (.ref a1)] [(.ref a0)])) := fun t k => G31 t (XS.aloadN X28.here hx rfl (hb hby d3_57) rfl rfl k)
              obtain ⟨T33, X33, e33, st33⟩ := getF X28 hx hZ hown (host := "") (Or.inl (hw _ (List.mem_of_getElem? (i := 15) rfl))) Via.refl e28 F0_execUs (g := (mkF m 58 #[.val (.ref a0), .val (.ref a1), .val (.ref a1)] [(.ref a0)])) rfl rfl (hb hby d3_58)
              have G33 : own_Go p.tables e below (s₁.setTop (entryFrame m #[(.ref a0), (.ref a1)] 3)) (T33.setTop (mkF m 61 #[.val (.ref a0), .val (.ref a1), .val (.ref a1)] [(.long x3)])) := fun t k => G32 t (st33 t k)
              have G34 : own_Go p.tables e below (s₁.setTop (entryFrame m #[(.ref a0), (.ref a1)] 3)) (T33.setTop (mkF m 62 #[.val (.ref a0), .val (.ref a1), .val (.ref a1)] [(.ref a1), (.long x3)])) := fun t k => G33 t (XS.aloadN X33.here hx rfl (hb hby d3_61) rfl rfl k)
              obtain ⟨T35, X35, e35, st35⟩ := getF X33 hx hZ hown (host := "") (Or.inl (hw _ (List.mem_of_getElem? (i := 15) rfl))) Via.refl e33 F1_execUs (g := (mkF m 62 #[.val (.ref a0), .val (.ref a1), .val (.ref a1)] [(.ref a1), (.long x3)])) rfl rfl (hb hby d3_62)
              have G35 : own_Go p.tables e below (s₁.setTop (entryFrame m #[(.ref a0), (.ref a1)] 3)) (T35.setTop (mkF m 65 #[.val (.ref a0), .val (.ref a1), .val (.ref a1)] [(.long y3), (.long x3)])) := fun t k => G34 t (st35 t k)
              have G36 : own_Go p.tables e below (s₁.setTop (entryFrame m #[(.ref a0), (.ref a1)] 3)) (T35.setTop (mkF m 66 #[.val (.ref a0), .val (.ref a1), .val (.ref a1)] [(.int (lcmpW x3 y3))])) := fun t k => G35 t (XS.lcmp X35.here hx rfl (hb hby d3_65) rfl k)
              obtain ⟨z37_0, rfl, G37⟩ : ∃ (z37_0 : Int32), z37_0 = (if x3 = y3 then (1 : Int32) else (0 : Int32)) ∧ own_Go p.tables e below (s₁.setTop (entryFrame m #[(.ref a0), (.ref a1)] 3)) (T35.setTop (mkF m 74 #[.val (.ref a0), .val (.ref a1), .val (.ref a1)] [(.int z37_0)])) := by
                by_cases hc37 : x3 = y3
                · have G38 : own_Go p.tables e below (s₁.setTop (entryFrame m #[(.ref a0), (.ref a1)] 3)) (T35.setTop (mkF m 69 #[.val (.ref a0), .val (.ref a1), .val (.ref a1)] [])) := fun t k => G36 t (XS.ifNo X35.here hx rfl (hb hby d3_66) rfl ((if0 _ _).trans (teq (((lw_eq _ _).mpr hc37) : (lcmpW x3 y3) = (0 : Int32))).2) k)
                  have G39 : own_Go p.tables e below (s₁.setTop (entryFrame m #[(.ref a0), (.ref a1)] 3)) (T35.setTop (mkF m 70 #[.val (.ref a0), .val (.ref a1), .val (.ref a1)] [(.int (1 : Int32))])) := fun t k => G38 t (XT.iconstV X35.here hx rfl (1 : Int32) (hb hby d3_69) (by decide) k)
                  have G40 : own_Go p.tables e below (s₁.setTop (entryFrame m #[(.ref a0), (.ref a1)] 3)) (T35.setTop (mkF m 74 #[.val (.ref a0), .val (.ref a1), .val (.ref a1)] [(.int (1 : Int32))])) := fun t k => G39 t (XS.goto X35.here hx rfl (pc0 := 70) (pc' := 74) rfl (hb hby d3_70) (by decide) (by decide) k)
                  exact ⟨_, (if_pos hc37).symm, G40⟩
                · have G41 : own_Go p.tables e below (s₁.setTop (entryFrame m #[(.ref a0), (.ref a1)] 3)) (T35.setTop (mkF m 73 #[.val (.ref a0), .val (.ref a1), .val (.ref a1)] [])) := fun t k => G36 t (XS.ifYes X35.here hx rfl (pc0 := 66) (pc' := 73) rfl (hb hby d3_66) rfl ((if0 _ _).trans (feq ((fun q => hc37 ((lw_eq _ _).mp q)) : ¬ ((lcmpW x3 y3) = (0 : Int32)))).2) (by decide) (by decide) k)
                  have G42 : own_Go p.tables e below (s₁.setTop (entryFrame m #[(.ref a0), (.ref a1)] 3)) (T35.setTop (mkF m 74 #[.val (.ref a0), .val (.ref a1), .val (.ref a1)] [(.int (0 : Int32))])) := fun t k => G41 t (XT.iconstV X35.here hx rfl (0 : Int32) (hb hby d3_73) (by decide) k)
                  exact ⟨_, (if_neg hc37).symm, G42⟩
              exact ⟨_, _, X35, e35, (if_pos hc30).symm, G37⟩
            · have G43 : own_Go p.tables e below (s₁.setTop (entryFrame m #[(.ref a0), (.ref a1)] 3)) (T28.setTop (mkF m 73 #[.val (.ref a0), .val (.ref a1), .val (.ref a1)] [])) := fun t k => G29 t (XS.ifYes X28.here hx rfl (pc0 := 54) (pc' := 73) rfl (hb hby d3_54) rfl ((if0 _ _).trans (feq ((fun q => hc30 ((lw_eq _ _).mp q)) : ¬ ((lcmpW x2 y2) = (0 : Int32)))).2) (by decide) (by decide) k)
              have G44 : own_Go p.tables e below (s₁.setTop (entryFrame m #[(.ref a0), (.ref a1)] 3)) (T28.setTop (mkF m 74 #[.val (.ref a0), .val (.ref a1), .val (.ref a1)] [(.int (0 : Int32))])) := fun t k => G43 t (XT.iconstV X28.here hx rfl (0 : Int32) (hb hby d3_73) (by decide) k)
              exact ⟨_, _, X28, e28, (if_neg hc30).symm, G44⟩
          exact ⟨_, _, X30, e30, (if_pos hc23).symm, G30⟩
        · have G45 : own_Go p.tables e below (s₁.setTop (entryFrame m #[(.ref a0), (.ref a1)] 3)) (T21.setTop (mkF m 73 #[.val (.ref a0), .val (.ref a1), .val (.ref a1)] [])) := fun t k => G22 t (XS.ifYes X21.here hx rfl (pc0 := 42) (pc' := 73) rfl (hb hby d3_42) rfl ((if0 _ _).trans (feq ((fun q => hc23 ((lw_eq _ _).mp q)) : ¬ ((lcmpW x1 y1) = (0 : Int32)))).2) (by decide) (by decide) k)
          have G46 : own_Go p.tables e below (s₁.setTop (entryFrame m #[(.ref a0), (.ref a1)] 3)) (T21.setTop (mkF m 74 #[.val (.ref a0), .val (.ref a1), .val (.ref a1)] [(.int (0 : Int32))])) := fun t k => G45 t (XT.iconstV X21.here hx rfl (0 : Int32) (hb hby d3_73) (by decide) k)
          exact ⟨_, _, X21, e21, (if_neg hc23).symm, G46⟩
      exact ⟨_, _, X23, e23, (if_pos hc16).symm, G23⟩
    · have G47 : own_Go p.tables e below (s₁.setTop (entryFrame m #[(.ref a0), (.ref a1)] 3)) (T14.setTop (mkF m 73 #[.val (.ref a0), .val (.ref a1), .val (.ref a1)] [])) := fun t k => G15 t (XS.ifYes X14.here hx rfl (pc0 := 30) (pc' := 73) rfl (hb hby d3_30) rfl ((if0 _ _).trans (feq ((fun q => hc16 ((lw_eq _ _).mp q)) : ¬ ((lcmpW x0 y0) = (0 : Int32)))).2) (by decide) (by decide) k)
      have G48 : own_Go p.tables e below (s₁.setTop (entryFrame m #[(.ref a0), (.ref a1)] 3)) (T14.setTop (mkF m 74 #[.val (.ref a0), .val (.ref a1), .val (.ref a1)] [(.int (0 : Int32))])) := fun t k => G47 t (XT.iconstV X14.here hx rfl (0 : Int32) (hb hby d3_73) (by decide) k)
      exact ⟨_, _, X14, e14, (if_neg hc16).symm, G48⟩
  obtain ⟨fs, hr, hrun, hended, hW, hsame⟩ := X16.leave (v := some (.int (nar .boolean z16_0))) (fun h => by rw [Bd.returns] at h; cases h)
  refine ⟨_, _, G16 _ ?_, hrun, hended, _, _, rfl, ?_, ⟨_, rfl⟩, hW, hsame.mono (by decide) (by decide)⟩
  · exact retN X16 hx (t := .boolean) Bd.returns (by simp) (hb hby d3_74) hr
  · show Q3 Z a0 a1 x0 x1 x2 x3 y0 y1 y2 y3 h0 _ T16.heap _
    rw [e16]
    exact ⟨congrArg (fun z => some (Value.int z)) (by rw [hz16_0]; (repeat (first | exact own_nar0 | exact own_nar1 | apply own_nar_ite))), rfl, rfl⟩
theorem d4_0 : decode prog_38_method_6_code 0 = .ok (.aload_n 0, 1) := by decide +kernel
theorem d4_1 : decode prog_38_method_6_code 1 = .ok (.aload_n 1, 1) := by decide +kernel
theorem d4_2 : decode prog_38_method_6_code 2 = .ok (.if_acmp .ne 5, 3) := by decide +kernel
theorem d4_7 : decode prog_38_method_6_code 7 = .ok (.aload_n 1, 1) := by decide +kernel
theorem d4_8 : decode prog_38_method_6_code 8 = .ok (.instanceof 8, 3) := by decide +kernel
theorem d4_11 : decode prog_38_method_6_code 11 = .ok (.ifCond .ne 5, 3) := by decide +kernel
theorem d4_14 : decode prog_38_method_6_code 14 = .ok (.iconst 0, 1) := by decide +kernel
theorem d4_15 : decode prog_38_method_6_code 15 = .ok (.ireturn, 1) := by decide +kernel
theorem pn_4 : plainName "com/example/vernal_pool/vernalpool/cli/TraceRequest" = true := by first | (simp [plainName, overriddenIn]; done) | decide +kernel
theorem ef_4 (m : MethodId) (a0 : Addr) : entryFrame m #[(.ref a0), .null] 3 = mkF m 0 #[.val (.ref a0), .val .null, .unset] [] := by first | (simp [entryFrame, mkF, argsToLocals, Value.category]; done) | rfl
def Q4 (Z : State) (a0 : Addr)  (h0 : Heap) (v : Option Value) (h : Heap) (L : List Loc) : Prop := v = some (.int 0) ∧ L = [] ∧ h = h0
set_option maxRecDepth 65536 in
set_option maxHeartbeats 40000000 in
theorem rm4 (l : Launch) (Z : State) (aw : Array Value) (hw : ∀ d ∈ tables_1, d.before aw Z = true) (ws : List Jvm.Cond) (a0 : Addr)  (h0 : Heap)  :
    MetFree l (⟨"com/example/vernal_pool/vernalpool/cli/TraceRequest", "equals", "(Ljava/lang/Object;)Z"⟩ : MethodName) (head1 (Jvm.Cond.code (⟨"com/example/vernal_pool/vernalpool/cli/TraceRequest", "equals", "(Ljava/lang/Object;)Z"⟩ : MethodName) prog_38_method_6_code 3 (some .boolean) :: ws) ({ frames := 0, cells := 0, slots := 0, locals := 0 } : Room)) (fun a U => a = #[(.ref a0), .null] ∧ Z.Warmed39 U.vm ∧ U.heap = h0) (fun _ _ _ _ _ => True) (fun _ U o U' => ∃ v L, o = .returned v ∧ Q4 Z a0 h0 v U'.heap L ∧ FrameEnd U o U' L ({ frames := 0, cells := 0, slots := 0, locals := 0 } : Room).cells ({ frames := 0, cells := 0, slots := 0, locals := 0 } : Room).slots) := by
  refine MetFree.of_bodySF (plainFor_of_name pn_4) hisR ?_
  intro p e s m args below meth c s₁ Bd hml0 hP hK
  obtain ⟨rfl, hZ, hh⟩ := hP
  have hZ0 := hZ
  have hx := Bd.exec
  have hby := Bd.bytes
  have hml : c.maxLocals = 3 := hml0
  have hown : s.vm.findClass "com/example/vernal_pool/vernalpool/cli/TraceRequest" = some m.cls := findClass_of_methodNamed Bd.named
  have hnm := (name_of_methodNamed Bd.named Bd.method).1
  have X0 : Stand p l e ({ frames := 0, cells := 0, slots := 0, locals := 0 } : Room) s m #[(.ref a0), .null] below meth c s₁ [] 0 0 := Stand.of_body Bd
  have e0 : s₁.heap = h0 := by rw [← hh, Bd.state]; rfl
  have G0 : own_Go p.tables e below (s₁.setTop (entryFrame m #[(.ref a0), .null] 3)) (s₁.setTop (mkF m 0 #[.val (.ref a0), .val .null, .unset] [])) := fun t k => castTop (ef_4 m a0) k
  have G1 : own_Go p.tables e below (s₁.setTop (entryFrame m #[(.ref a0), .null] 3)) (s₁.setTop (mkF m 1 #[.val (.ref a0), .val .null, .unset] [(.ref a0)])) := fun t k => G0 t (XS.aloadN X0.here hx rfl (hb hby d4_0) rfl rfl k)
  have G2 : own_Go p.tables e below (s₁.setTop (entryFrame m #[(.ref a0), .null] 3)) (s₁.setTop (mkF m 2 #[.val (.ref a0), .val .null, .unset] [.null, (.ref a0)])) := fun t k => G1 t (XS.aloadN X0.here hx rfl (hb hby d4_1) rfl rfl k)
  have G3 : own_Go p.tables e below (s₁.setTop (entryFrame m #[(.ref a0), .null] 3)) (s₁.setTop (mkF m 7 #[.val (.ref a0), .val .null, .unset] [])) := fun t k => G2 t (Jvm.RoadKit.acmp (g := (mkF m 2 #[.val (.ref a0), .val .null, .unset] [.null, (.ref a0)])) X0 hx rfl rfl rfl (pc0 := 2) (pc' := 7) (same := false) rfl (hb hby d4_2) rfl (decide_eq_false nofun) (by decide) (by decide) k)
  have G4 : own_Go p.tables e below (s₁.setTop (entryFrame m #[(.ref a0), .null] 3)) (s₁.setTop (mkF m 8 #[.val (.ref a0), .val .null, .unset] [.null])) := fun t k => G3 t (XS.aloadN X0.here hx rfl (hb hby d4_7) rfl rfl k)
  have G5 : own_Go p.tables e below (s₁.setTop (entryFrame m #[(.ref a0), .null] 3)) (s₁.setTop (mkF m 11 #[.val (.ref a0), .val .null, .unset] [(.int (0 : Int32))])) := fun t k => G4 t (X0.instanceofNull hx (g := (mkF m 8 #[.val (.ref a0), .val .null, .unset] [.null])) rfl rfl (hb hby d4_8) t k)
  have hk6 : (0 : Int32) = (0 : Int32) := rfl
  have G7 : own_Go p.tables e below (s₁.setTop (entryFrame m #[(.ref a0), .null] 3)) (s₁.setTop (mkF m 14 #[.val (.ref a0), .val .null, .unset] [])) := fun t k => G5 t (XS.ifNo X0.here hx rfl (hb hby d4_11) rfl ((if0 _ _).trans (teq hk6).2) k)
  have G8 : own_Go p.tables e below (s₁.setTop (entryFrame m #[(.ref a0), .null] 3)) (s₁.setTop (mkF m 15 #[.val (.ref a0), .val .null, .unset] [(.int (0 : Int32))])) := fun t k => G7 t (XT.iconstV X0.here hx rfl (0 : Int32) (hb hby d4_14) (by decide) k)
  obtain ⟨fs, hr, hrun, hended, hW, hsame⟩ := X0.leave (v := some (.int (nar .boolean (0 : Int32)))) (fun h => by rw [Bd.returns] at h; cases h)
  refine ⟨_, _, G8 _ ?_, hrun, hended, _, _, rfl, ?_, ⟨_, rfl⟩, hW, hsame.mono (by decide) (by decide)⟩
  · exact retN X0 hx (t := .boolean) Bd.returns (by simp) (hb hby d4_15) hr
  · show Q4 Z a0 h0 _ s₁.heap _
    rw [e0]
    exact ⟨rfl, rfl, rfl⟩
theorem d5_0 : decode prog_38_method_6_code 0 = .ok (.aload_n 0, 1) := by decide +kernel
theorem d5_1 : decode prog_38_method_6_code 1 = .ok (.aload_n 1, 1) := by decide +kernel
theorem d5_2 : decode prog_38_method_6_code 2 = .ok (.if_acmp .ne 5, 3) := by decide +kernel
theorem d5_7 : decode prog_38_method_6_code 7 = .ok (.aload_n 1, 1) := by decide +kernel
theorem d5_8 : decode prog_38_method_6_code 8 = .ok (.instanceof 8, 3) := by decide +kernel
theorem d5_11 : decode prog_38_method_6_code 11 = .ok (.ifCond .ne 5, 3) := by decide +kernel
theorem d5_14 : decode prog_38_method_6_code 14 = .ok (.iconst 0, 1) := by decide +kernel
theorem d5_15 : decode prog_38_method_6_code 15 = .ok (.ireturn, 1) := by decide +kernel
theorem pn_5 : plainName "com/example/vernal_pool/vernalpool/cli/TraceRequest" = true := by first | (simp [plainName, overriddenIn]; done) | decide +kernel
theorem ef_5 (m : MethodId) (a0 : Addr) (a1 : Addr) : entryFrame m #[(.ref a0), (.ref a1)] 3 = mkF m 0 #[.val (.ref a0), .val (.ref a1), .unset] [] := by first | (simp [entryFrame, mkF, argsToLocals, Value.category]; done) | rfl
def Q5 (Z : State) (a0 : Addr) (a1 : Addr)  (h0 : Heap) (v : Option Value) (h : Heap) (L : List Loc) : Prop := v = some (.int 0) ∧ L = [] ∧ h = h0
set_option maxRecDepth 65536 in
set_option maxHeartbeats 40000000 in
theorem rm5 (l : Launch) (Z : State) (aw : Array Value) (hw : ∀ d ∈ tables_1, d.before aw Z = true) (ws : List Jvm.Cond) (a0 : Addr) (a1 : Addr)  (h0 : Heap) (hne : ¬ a0 = a1) (E_1 : Exa Z h0 a1 "java/lang/Long") :
    MetFree l (⟨"com/example/vernal_pool/vernalpool/cli/TraceRequest", "equals", "(Ljava/lang/Object;)Z"⟩ : MethodName) (head1 (Jvm.Cond.code (⟨"com/example/vernal_pool/vernalpool/cli/TraceRequest", "equals", "(Ljava/lang/Object;)Z"⟩ : MethodName) prog_38_method_6_code 3 (some .boolean) :: ws) ({ frames := 0, cells := 0, slots := 0, locals := 0 } : Room)) (fun a U => a = #[(.ref a0), (.ref a1)] ∧ Z.Warmed39 U.vm ∧ U.heap = h0) (fun _ _ _ _ _ => True) (fun _ U o U' => ∃ v L, o = .returned v ∧ Q5 Z a0 a1 h0 v U'.heap L ∧ FrameEnd U o U' L ({ frames := 0, cells := 0, slots := 0, locals := 0 } : Room).cells ({ frames := 0, cells := 0, slots := 0, locals := 0 } : Room).slots) := by
  refine MetFree.of_bodySF (plainFor_of_name pn_5) hisR ?_
  intro p e s m args below meth c s₁ Bd hml0 hP hK
  obtain ⟨rfl, hZ, hh⟩ := hP
  have hZ0 := hZ
  have hx := Bd.exec
  have hby := Bd.bytes
  have hml : c.maxLocals = 3 := hml0
  have hown : s.vm.findClass "com/example/vernal_pool/vernalpool/cli/TraceRequest" = some m.cls := findClass_of_methodNamed Bd.named
  have hnm := (name_of_methodNamed Bd.named Bd.method).1
  have X0 : Stand p l e ({ frames := 0, cells := 0, slots := 0, locals := 0 } : Room) s m #[(.ref a0), (.ref a1)] below meth c s₁ [] 0 0 := Stand.of_body Bd
  have e0 : s₁.heap = h0 := by rw [← hh, Bd.state]; rfl
  have G0 : own_Go p.tables e below (s₁.setTop (entryFrame m #[(.ref a0), (.ref a1)] 3)) (s₁.setTop (mkF m 0 #[.val (.ref a0), .val (.ref a1), .unset] [])) := fun t k => castTop (ef_5 m a0 a1) k
  have G1 : own_Go p.tables e below (s₁.setTop (entryFrame m #[(.ref a0), (.ref a1)] 3)) (s₁.setTop (mkF m 1 #[.val (.ref a0), .val (.ref a1), .unset] [(.ref a0)])) := fun t k => G0 t (XS.aloadN X0.here hx rfl (hb hby d5_0) rfl rfl k)
  have G2 : own_Go p.tables e below (s₁.setTop (entryFrame m #[(.ref a0), (.ref a1)] 3)) (s₁.setTop (mkF m 2 #[.val (.ref a0), .val (.ref a1), .unset] [(.ref a1), (.ref a0)])) := fun t k => G1 t (XS.aloadN X0.here hx rfl (hb hby d5_1) rfl rfl k)
  have G3 : own_Go p.tables e below (s₁.setTop (entryFrame m #[(.ref a0), (.ref a1)] 3)) (s₁.setTop (mkF m 7 #[.val (.ref a0), .val (.ref a1), .unset] [])) := fun t k => G2 t (Jvm.RoadKit.acmp (g := (mkF m 2 #[.val (.ref a0), .val (.ref a1), .unset] [(.ref a1), (.ref a0)])) X0 hx rfl rfl rfl (pc0 := 2) (pc' := 7) (same := false) rfl (hb hby d5_2) rfl (decide_eq_false fun q => hne (Value.ref.inj q)) (by decide) (by decide) k)
  have G4 : own_Go p.tables e below (s₁.setTop (entryFrame m #[(.ref a0), (.ref a1)] 3)) (s₁.setTop (mkF m 8 #[.val (.ref a0), .val (.ref a1), .unset] [(.ref a1)])) := fun t k => G3 t (XS.aloadN X0.here hx rfl (hb hby d5_7) rfl rfl k)
  obtain ⟨T5, X5, e5, st5⟩ := instNo X0 hx hZ hown (hw _ (List.mem_of_getElem? (i := 22) rfl)) e0 E_1 (own_no hw) (g := (mkF m 8 #[.val (.ref a0), .val (.ref a1), .unset] [(.ref a1)])) rfl rfl (hb hby d5_8)
  have G5 : own_Go p.tables e below (s₁.setTop (entryFrame m #[(.ref a0), (.ref a1)] 3)) (T5.setTop (mkF m 11 #[.val (.ref a0), .val (.ref a1), .unset] [(.int (0 : Int32))])) := fun t k => G4 t (st5 t k)
  have hk6 : (0 : Int32) = (0 : Int32) := rfl
  have G7 : own_Go p.tables e below (s₁.setTop (entryFrame m #[(.ref a0), (.ref a1)] 3)) (T5.setTop (mkF m 14 #[.val (.ref a0), .val (.ref a1), .unset] [])) := fun t k => G5 t (XS.ifNo X5.here hx rfl (hb hby d5_11) rfl ((if0 _ _).trans (teq hk6).2) k)
  have G8 : own_Go p.tables e below (s₁.setTop (entryFrame m #[(.ref a0), (.ref a1)] 3)) (T5.setTop (mkF m 15 #[.val (.ref a0), .val (.ref a1), .unset] [(.int (0 : Int32))])) := fun t k => G7 t (XT.iconstV X5.here hx rfl (0 : Int32) (hb hby d5_14) (by decide) k)
  obtain ⟨fs, hr, hrun, hended, hW, hsame⟩ := X5.leave (v := some (.int (nar .boolean (0 : Int32)))) (fun h => by rw [Bd.returns] at h; cases h)
  refine ⟨_, _, G8 _ ?_, hrun, hended, _, _, rfl, ?_, ⟨_, rfl⟩, hW, hsame.mono (by decide) (by decide)⟩
  · exact retN X5 hx (t := .boolean) Bd.returns (by simp) (hb hby d5_15) hr
  · show Q5 Z a0 a1 h0 _ T5.heap _
    rw [e5]
    exact ⟨rfl, rfl, rfl⟩
theorem d6_0 : decode jdk_18_method_1_code 0 = .ok (.aload_n 0, 1) := by decide +kernel
theorem d6_1 : decode jdk_18_method_1_code 1 = .ok (.invokespecial 1, 3) := by decide +kernel
theorem d6_4 : decode jdk_18_method_1_code 4 = .ok (.return_, 1) := by decide +kernel
theorem pn_6 : plainName "java/lang/Number" = true := by first | (simp [plainName, overriddenIn]; done) | decide +kernel
theorem ef_6 (m : MethodId) (a0 : Addr) : entryFrame m #[(.ref a0)] 1 = mkF m 0 #[.val (.ref a0)] [] := by first | (simp [entryFrame, mkF, argsToLocals, Value.category]; done) | rfl
def Q6 (Z : State) (a0 : Addr)  (h0 : Heap) (v : Option Value) (h : Heap) (L : List Loc) : Prop := v = none ∧ Fr Z.heap.size L ∧ Keep h0 h []
set_option maxRecDepth 65536 in
set_option maxHeartbeats 40000000 in
theorem rm6 (l : Launch) (Z : State) (aw : Array Value) (hw : ∀ d ∈ tables_1, d.before aw Z = true) (ws : List Jvm.Cond) (a0 : Addr)  (h0 : Heap) (O0 : Old Z Z.heap.size h0)   :
    MetFree l (⟨"java/lang/Number", "<init>", "()V"⟩ : MethodName) (head1 (Jvm.Cond.code (⟨"java/lang/Number", "<init>", "()V"⟩ : MethodName) jdk_18_method_1_code 1 none :: ws) ({ frames := 1, cells := 0, slots := 0, locals := 12 } : Room)) (fun a U => a = #[(.ref a0)] ∧ Z.Warmed39 U.vm ∧ U.heap = h0) (fun _ _ _ _ _ => True) (fun _ U o U' => ∃ v L, o = .returned v ∧ Q6 Z a0 h0 v U'.heap L ∧ FrameEnd U o U' L ({ frames := 1, cells := 0, slots := 0, locals := 12 } : Room).cells ({ frames := 1, cells := 0, slots := 0, locals := 12 } : Room).slots) := by
  refine MetFree.of_bodySF (plainFor_of_name pn_6) hisR ?_
  intro p e s m args below meth c s₁ Bd hml0 hP hK
  obtain ⟨rfl, hZ, hh⟩ := hP
  have hZ0 := hZ
  have hx := Bd.exec
  have hby := Bd.bytes
  have hml : c.maxLocals = 1 := hml0
  have hown : s.vm.findClass "java/lang/Number" = some m.cls := findClass_of_methodNamed Bd.named
  have hnm := (name_of_methodNamed Bd.named Bd.method).1
  have X0 : Stand p l e ({ frames := 1, cells := 0, slots := 0, locals := 12 } : Room) s m #[(.ref a0)] below meth c s₁ [] 0 0 := Stand.of_body Bd
  have e0 : s₁.heap = h0 := by rw [← hh, Bd.state]; rfl
  have G0 : own_Go p.tables e below (s₁.setTop (entryFrame m #[(.ref a0)] 1)) (s₁.setTop (mkF m 0 #[.val (.ref a0)] [])) := fun t k => castTop (ef_6 m a0) k
  have N0 := Fr.nil Z.heap.size
  have K0 := Keep.refl h0 []
  have G1 : own_Go p.tables e below (s₁.setTop (entryFrame m #[(.ref a0)] 1)) (s₁.setTop (mkF m 1 #[.val (.ref a0)] [(.ref a0)])) := fun t k => G0 t (XS.aloadN X0.here hx rfl (hb hby d6_0) rfl rfl k)
  obtain ⟨T2, X2, e2, st2⟩ := initO X0 hx hZ hown (hw _ (List.mem_of_getElem? (i := 42) rfl)) (hw _ (List.mem_of_getElem? (i := 7) rfl)) (hw _ (List.mem_of_getElem? (i := 8) rfl)) e0 (g := (mkF m 1 #[.val (.ref a0)] [(.ref a0)])) rfl (by rw [hml]; rfl) rfl (hb hby d6_1) (by decide) (W := 0) (by show 2 * 0 + _ ≤ _; exact Nat.le_of_eq rfl) (by decide)
  have G2 : own_Go p.tables e below (s₁.setTop (entryFrame m #[(.ref a0)] 1)) (T2.setTop (mkF m 4 #[.val (.ref a0)] [])) := fun t k => G1 t (st2 t k)
  obtain ⟨fs, hr, hrun, hended, hW, hsame⟩ := X2.leave (v := none) (fun _ => rfl)
  refine ⟨_, _, G2 _ ?_, hrun, hended, _, _, rfl, ?_, ⟨_, rfl⟩, hW, hsame.mono (by decide) (by decide)⟩
  · exact X2.returnOut hx Bd.returns (hb hby d6_4) hr
  · show Q6 Z a0 h0 _ T2.heap _
    rw [e2]
    exact ⟨rfl, N0, K0⟩
theorem d7_0 : decode jdk_35_method_26_code 0 = .ok (.aload_n 0, 1) := by decide +kernel
theorem d7_1 : decode jdk_35_method_26_code 1 = .ok (.invokespecial 270, 3) := by decide +kernel
theorem d7_4 : decode jdk_35_method_26_code 4 = .ok (.aload_n 0, 1) := by decide +kernel
theorem d7_5 : decode jdk_35_method_26_code 5 = .ok (.lload_n 1, 1) := by decide +kernel
theorem d7_6 : decode jdk_35_method_26_code 6 = .ok (.putfield 273, 3) := by decide +kernel
theorem d7_9 : decode jdk_35_method_26_code 9 = .ok (.return_, 1) := by decide +kernel
theorem pn_7 : plainName "java/lang/Long" = true := by first | (simp [plainName, overriddenIn]; done) | decide +kernel
theorem pd_7_0 : parseMethodDescriptor "()V" = some ⟨[], none⟩ := by decide +kernel
theorem ef_7 (m : MethodId) (a0 : Addr) (q1 : Int64) : entryFrame m #[(.ref a0), (.long q1)] 3 = mkF m 0 #[.val (.ref a0), .val (.long q1), .second] [] := by first | (simp [entryFrame, mkF, argsToLocals, Value.category]; done) | rfl
def Q7 (Z : State) (a0 : Addr) (q1 : Int64)  (h0 : Heap) (v : Option Value) (h : Heap) (L : List Loc) : Prop := v = none ∧ Fr Z.heap.size L ∧ Keep h0 h [a0] ∧ (Exa Z h a0 "java/lang/Long")
set_option maxRecDepth 65536 in
set_option maxHeartbeats 40000000 in
theorem rm7 (l : Launch) (Z : State) (aw : Array Value) (hw : ∀ d ∈ tables_1, d.before aw Z = true) (ws : List Jvm.Cond) (a0 : Addr) (q1 : Int64)  (h0 : Heap) (O0 : Old Z Z.heap.size h0) (gn_a0 : Z.heap.size ≤ a0) (E_a0 : Exa Z h0 a0 "java/lang/Long") (F_v : Fld Z h0 a0 "java/lang/Long" "value" "J" (.long (0 : Int64)))  :
    MetFree l (⟨"java/lang/Long", "<init>", "(J)V"⟩ : MethodName) (head1 (Jvm.Cond.code (⟨"java/lang/Long", "<init>", "(J)V"⟩ : MethodName) jdk_35_method_26_code 3 none :: ws) ({ frames := 2, cells := 0, slots := 0, locals := 24 } : Room)) (fun a U => a = #[(.ref a0), (.long q1)] ∧ Z.Warmed39 U.vm ∧ U.heap = h0) (fun _ _ _ _ _ => True) (fun _ U o U' => ∃ v L, o = .returned v ∧ Q7 Z a0 q1 h0 v U'.heap L ∧ FrameEnd U o U' L ({ frames := 2, cells := 0, slots := 0, locals := 24 } : Room).cells ({ frames := 2, cells := 0, slots := 0, locals := 24 } : Room).slots) := by
  refine MetFree.of_bodySF (plainFor_of_name pn_7) hisR ?_
  intro p e s m args below meth c s₁ Bd hml0 hP hK
  obtain ⟨rfl, hZ, hh⟩ := hP
  have hZ0 := hZ
  have hx := Bd.exec
  have hby := Bd.bytes
  have hml : c.maxLocals = 3 := hml0
  have hown : s.vm.findClass "java/lang/Long" = some m.cls := findClass_of_methodNamed Bd.named
  have hnm := (name_of_methodNamed Bd.named Bd.method).1
  have X0 : Stand p l e ({ frames := 2, cells := 0, slots := 0, locals := 24 } : Room) s m #[(.ref a0), (.long q1)] below meth c s₁ [] 0 0 := Stand.of_body Bd
  have e0 : s₁.heap = h0 := by rw [← hh, Bd.state]; rfl
  have G0 : own_Go p.tables e below (s₁.setTop (entryFrame m #[(.ref a0), (.long q1)] 3)) (s₁.setTop (mkF m 0 #[.val (.ref a0), .val (.long q1), .second] [])) := fun t k => castTop (ef_7 m a0 q1) k
  have N0 := Fr.nil Z.heap.size
  have K0 := Keep.refl h0 [a0]
  have G1 : own_Go p.tables e below (s₁.setTop (entryFrame m #[(.ref a0), (.long q1)] 3)) (s₁.setTop (mkF m 1 #[.val (.ref a0), .val (.long q1), .second] [(.ref a0)])) := fun t k => G0 t (XS.aloadN X0.here hx rfl (hb hby d7_0) rfl rfl k)
  obtain ⟨vv2, _, ⟨T2, L2, k2, n2⟩, -, X2, ⟨Lc2, hQ2, l2, y2, z2⟩, st2⟩ := X0.specialBack hx (y := (⟨"java/lang/Number", "<init>", "()V"⟩ : MethodName)) rfl hown (mvT hZ (hw _ (List.mem_of_getElem? (i := 36) rfl))) (mvT hZ (hw _ (List.mem_of_getElem? (i := 37) rfl))) (mvT hZ (hw _ (List.mem_of_getElem? (i := 41) rfl))) (by decide) (backOf (W := 0) (rm6 l Z aw hw [] a0  h0 O0   ) hZ (hw _ (List.mem_of_getElem? (i := 41) rfl)) (hw _ (List.mem_of_getElem? (i := 40) rfl)) (by decide) (by decide)) (g := (mkF m 1 #[.val (.ref a0), .val (.long q1), .second] [(.ref a0)])) rfl (by rw [hml]; rfl) (Steps.refl _) (a := a0) (argsL := []) (rest := []) (lenOf pd_7_0 rfl) rfl (by show 2 * 0 + _ ≤ _; exact Nat.le_of_eq rfl) (hb hby d7_1) (fun _ _ => ⟨rfl, e0, (by decide : 0 + 0 ≤ _), (by decide : 0 + 0 ≤ _)⟩)
  dsimp only [Pt.U, Pt.locs, Pt.cells, Pt.slots] at X2 l2 y2 z2 st2 hQ2
  subst l2 y2 z2
  obtain ⟨rfl, Nq2, Kq2⟩ := hQ2
  have N2 := Fr.app N0 Nq2
  have O2 := O0.keep Kq2 all0
  have K2 := K0.trans Kq2 all0
  have G2 : own_Go p.tables e below (s₁.setTop (entryFrame m #[(.ref a0), (.long q1)] 3)) (T2.setTop (mkF m 4 #[.val (.ref a0), .val (.long q1), .second] [])) := fun t k => G1 t (st2.trans k)
  have G3 : own_Go p.tables e below (s₁.setTop (entryFrame m #[(.ref a0), (.long q1)] 3)) (T2.setTop (mkF m 5 #[.val (.ref a0), .val (.long q1), .second] [(.ref a0)])) := fun t k => G2 t (XS.aloadN X2.here hx rfl (hb hby d7_4) rfl rfl k)
  have G4 : own_Go p.tables e below (s₁.setTop (entryFrame m #[(.ref a0), (.long q1)] 3)) (T2.setTop (mkF m 6 #[.val (.ref a0), .val (.long q1), .second] [(.long q1), (.ref a0)])) := fun t k => G3 t (XS.lloadN X2.here hx rfl (hb hby d7_5) rfl k)
  have f5 : Exa Z T2.heap a0 "java/lang/Long" := (E_a0.keep Kq2)
  have f6 : Fld Z T2.heap a0 "java/lang/Long" "value" "J" (.long (0 : Int64)) := (F_v.keep Kq2 nin0)
  obtain ⟨T7, h7, X7, e7, W7, st7⟩ := putF X2 hx hZ hown (host := "") (Or.inl (hw _ (List.mem_of_getElem? (i := 43) rfl))) Via.refl rfl f6 f5 (Or.inr ⟨(hw _ (List.mem_of_getElem? (i := 44) rfl)), rfl, hnm⟩) (hw _ (List.mem_of_getElem? (i := 31) rfl)) (ty := .long) (by decide) rfl rfl (g := (mkF m 6 #[.val (.ref a0), .val (.long q1), .second] [(.long q1), (.ref a0)])) rfl rfl (hb hby d7_6)
  have Fw7 := f6.same W7
  have N7 := Fr.snoc X7 N2 gn_a0
  have O7 := O2.wr W7 gn_a0
  have K7 := K2.wr W7 (Or.inl (List.mem_of_getElem? (i := 0) rfl))
  have G7 : own_Go p.tables e below (s₁.setTop (entryFrame m #[(.ref a0), (.long q1)] 3)) (T7.setTop (mkF m 9 #[.val (.ref a0), .val (.long q1), .second] [])) := fun t k => G4 t (st7 t k)
  obtain ⟨fs, hr, hrun, hended, hW, hsame⟩ := X7.leave (v := none) (fun _ => rfl)
  refine ⟨_, _, G7 _ ?_, hrun, hended, _, _, rfl, ?_, ⟨_, rfl⟩, hW, hsame.mono (by decide) (by decide)⟩
  · exact X7.returnOut hx Bd.returns (hb hby d7_9) hr
  · show Q7 Z a0 q1 h0 _ T7.heap _
    rw [e7]
    have f9 : Exa Z h7 a0 "java/lang/Long" := (f5.wr W7)
    exact ⟨rfl, N7, K7, f9⟩
theorem d8_0 : decode jdk_35_method_24_code 0 = .ok (.sipush 128, 3) := by decide +kernel
theorem d8_3 : decode jdk_35_method_24_code 3 = .ok (.istore_n 2, 1) := by decide +kernel
theorem d8_4 : decode jdk_35_method_24_code 4 = .ok (.lload_n 0, 1) := by decide +kernel
theorem d8_5 : decode jdk_35_method_24_code 5 = .ok (.ldc2_w 230, 3) := by decide +kernel
theorem d8_8 : decode jdk_35_method_24_code 8 = .ok (.lcmp, 1) := by decide +kernel
theorem d8_9 : decode jdk_35_method_24_code 9 = .ok (.ifCond .lt 22, 3) := by decide +kernel
theorem d8_12 : decode jdk_35_method_24_code 12 = .ok (.lload_n 0, 1) := by decide +kernel
theorem d8_13 : decode jdk_35_method_24_code 13 = .ok (.ldc2_w 232, 3) := by decide +kernel
theorem d8_16 : decode jdk_35_method_24_code 16 = .ok (.lcmp, 1) := by decide +kernel
theorem d8_17 : decode jdk_35_method_24_code 17 = .ok (.ifCond .gt 14, 3) := by decide +kernel
theorem d8_20 : decode jdk_35_method_24_code 20 = .ok (.getstatic 234, 3) := by decide +kernel
theorem d8_23 : decode jdk_35_method_24_code 23 = .ok (.lload_n 0, 1) := by decide +kernel
theorem d8_24 : decode jdk_35_method_24_code 24 = .ok (.l2i, 1) := by decide +kernel
theorem d8_25 : decode jdk_35_method_24_code 25 = .ok (.sipush 128, 3) := by decide +kernel
theorem d8_28 : decode jdk_35_method_24_code 28 = .ok (.iadd, 1) := by decide +kernel
theorem d8_29 : decode jdk_35_method_24_code 29 = .ok (.aaload, 1) := by decide +kernel
theorem d8_30 : decode jdk_35_method_24_code 30 = .ok (.areturn, 1) := by decide +kernel
theorem d8_31 : decode jdk_35_method_24_code 31 = .ok (.new 1, 3) := by decide +kernel
theorem d8_34 : decode jdk_35_method_24_code 34 = .ok (.dup, 1) := by decide +kernel
theorem d8_35 : decode jdk_35_method_24_code 35 = .ok (.lload_n 0, 1) := by decide +kernel
theorem d8_36 : decode jdk_35_method_24_code 36 = .ok (.invokespecial 240, 3) := by decide +kernel
theorem d8_39 : decode jdk_35_method_24_code 39 = .ok (.areturn, 1) := by decide +kernel
theorem pn_8 : plainName "java/lang/Long" = true := by first | (simp [plainName, overriddenIn]; done) | decide +kernel
theorem pd_8_1 : parseMethodDescriptor "(J)V" = some ⟨[.long], none⟩ := by decide +kernel
theorem ef_8 (m : MethodId) (q0 : Int64) : entryFrame m #[(.long q0)] 3 = mkF m 0 #[.val (.long q0), .second, .unset] [] := by first | (simp [entryFrame, mkF, argsToLocals, Value.category]; done) | rfl
def Q8 (Z : State) (q0 : Int64) (aC : Addr) (clC : Cell) (vals : Int32 → Value) (h0 : Heap) (v : Option Value) (h : Heap) (L : List Loc) : Prop := ∃ b : Addr, v = some (.ref b) ∧ Fr Z.heap.size L ∧ Keep h0 h [] ∧ Exa Z h b "java/lang/Long"
set_option maxRecDepth 65536 in
set_option maxHeartbeats 40000000 in
theorem rm8 (l : Launch) (Z : State) (aw : Array Value) (hw : ∀ d ∈ tables_1, d.before aw Z = true) (ws : List Jvm.Cond) (q0 : Int64) (aC : Addr) (clC : Cell) (vals : Int32 → Value) (h0 : Heap) (O0 : Old Z Z.heap.size h0)  (S_C : Sta Z Z.heap "java/lang/Long$LongCache" "cache" "[Ljava/lang/Long;" (.ref aC)) (Bx : Bxs Z aC clC "java/lang/Long" "J" (256 : Int32) vals) :
    MetFree l (⟨"java/lang/Long", "valueOf", "(J)Ljava/lang/Long;"⟩ : MethodName) (head1 (Jvm.Cond.code (⟨"java/lang/Long", "valueOf", "(J)Ljava/lang/Long;"⟩ : MethodName) jdk_35_method_24_code 3 (some (.object "java/lang/Long")) :: ws) ({ frames := 3, cells := 1, slots := 1, locals := 39 } : Room)) (fun a U => a = #[(.long q0)] ∧ Z.Warmed39 U.vm ∧ U.heap = h0) (fun _ _ _ _ _ => True) (fun _ U o U' => ∃ v L, o = .returned v ∧ Q8 Z q0 aC clC vals h0 v U'.heap L ∧ FrameEnd U o U' L ({ frames := 3, cells := 1, slots := 1, locals := 39 } : Room).cells ({ frames := 3, cells := 1, slots := 1, locals := 39 } : Room).slots) := by
  refine MetFree.of_bodySF (plainFor_of_name pn_8) hisR ?_
  intro p e s m args below meth c s₁ Bd hml0 hP hK
  obtain ⟨rfl, hZ, hh⟩ := hP
  have hZ0 := hZ
  have hx := Bd.exec
  have hby := Bd.bytes
  have hml : c.maxLocals = 3 := hml0
  have hown : s.vm.findClass "java/lang/Long" = some m.cls := findClass_of_methodNamed Bd.named
  have hnm := (name_of_methodNamed Bd.named Bd.method).1
  have X0 : Stand p l e ({ frames := 3, cells := 1, slots := 1, locals := 39 } : Room) s m #[(.long q0)] below meth c s₁ [] 0 0 := Stand.of_body Bd
  have e0 : s₁.heap = h0 := by rw [← hh, Bd.state]; rfl
  have G0 : own_Go p.tables e below (s₁.setTop (entryFrame m #[(.long q0)] 3)) (s₁.setTop (mkF m 0 #[.val (.long q0), .second, .unset] [])) := fun t k => castTop (ef_8 m q0) k
  have N0 := Fr.nil Z.heap.size
  have K0 := Keep.refl h0 []
  have G1 : own_Go p.tables e below (s₁.setTop (entryFrame m #[(.long q0)] 3)) (s₁.setTop (mkF m 3 #[.val (.long q0), .second, .unset] [(.int (128 : Int32))])) := fun t k => G0 t (XT.sipushV X0.here hx rfl (128 : Int32) (hb hby d8_0) (by decide) k)
  have G2 : own_Go p.tables e below (s₁.setTop (entryFrame m #[(.long q0)] 3)) (s₁.setTop (mkF m 4 #[.val (.long q0), .second, .val (.int (128 : Int32))] [])) := fun t k => G1 t (XS.istoreN X0.here hx rfl (hb hby d8_3) rfl (l' := #[.val (.long q0), .second, .val (.int (128 : Int32))]) rfl k)
  have G3 : own_Go p.tables e below (s₁.setTop (entryFrame m #[(.long q0)] 3)) (s₁.setTop (mkF m 5 #[.val (.long q0), .second, .val (.int (128 : Int32))] [(.long q0)])) := fun t k => G2 t (XS.lloadN X0.here hx rfl (hb hby d8_4) rfl k)
  have G4 : own_Go p.tables e below (s₁.setTop (entryFrame m #[(.long q0)] 3)) (s₁.setTop (mkF m 8 #[.val (.long q0), .second, .val (.int (128 : Int32))] [(.long (-128 : Int64)), (.long q0)])) := fun t k => G3 t (X0.ldc2Long hx hown (mvT hZ (hw _ (List.mem_of_getElem? (i := 28) rfl))) (g := (mkF m 5 #[.val (.long q0), .second, .val (.int (128 : Int32))] [(.long q0)])) rfl (hb hby d8_5) t k)
  have G5 : own_Go p.tables e below (s₁.setTop (entryFrame m #[(.long q0)] 3)) (s₁.setTop (mkF m 9 #[.val (.long q0), .second, .val (.int (128 : Int32))] [(.int (lcmpW q0 (-128 : Int64)))])) := fun t k => G4 t (XS.lcmp X0.here hx rfl (hb hby d8_8) rfl k)
  by_cases hc6 : q0 < (-128 : Int64)
  · have G7 : own_Go p.tables e below (s₁.setTop (entryFrame m #[(.long q0)] 3)) (s₁.setTop (mkF m 31 #[.val (.long q0), .second, .val (.int (128 : Int32))] [])) := fun t k => G5 t (XS.ifYes X0.here hx rfl (pc0 := 9) (pc' := 31) rfl (hb hby d8_9) rfl ((if0 _ _).trans (tlt (((lw_lt _ _).mpr hc6) : (lcmpW q0 (-128 : Int64)) < (0 : Int32))).1) (by decide) (by decide) k)
    obtain ⟨T8, h8, X8, e8, E8, A8, D8, U8, st8⟩ := newO X0 hx hZ hown (hw _ (List.mem_of_getElem? (i := 30) rfl)) (hw _ (List.mem_of_getElem? (i := 31) rfl)) (hw _ (List.mem_of_getElem? (i := 26) rfl)) e0 (g := (mkF m 31 #[.val (.long q0), .second, .val (.int (128 : Int32))] [])) rfl (hb hby d8_31) (by decide) (by decide)
    obtain ⟨b8, g8⟩ : ∃ z, z = h0.size := ⟨_, rfl⟩
    rw [← g8] at A8 D8 U8 st8
    have gn_b8 : Z.heap.size ≤ b8 := Nat.le_trans O0.2.1 (Nat.le_of_eq g8.symm)
    have sz_b8 : h0.size ≤ b8 := Nat.le_trans K0.1 (Nat.le_of_eq g8.symm)
    have O8 := O0.ext E8
    have K8 := K0.ext E8
    have F8_value : Fld Z h8 b8 "java/lang/Long" "value" "J" (.long (0 : Int64)) := D8 (Or.inr (hw _ (List.mem_of_getElem? (i := 44) rfl))) (ty := .long) (by decide)
    have G8 : own_Go p.tables e below (s₁.setTop (entryFrame m #[(.long q0)] 3)) (T8.setTop (mkF m 34 #[.val (.long q0), .second, .val (.int (128 : Int32))] [(.ref b8)])) := fun t k => G7 t (st8 t k)
    have G9 : own_Go p.tables e below (s₁.setTop (entryFrame m #[(.long q0)] 3)) (T8.setTop (mkF m 35 #[.val (.long q0), .second, .val (.int (128 : Int32))] [(.ref b8), (.ref b8)])) := fun t k => G8 t (XS.dup X8.here hx rfl (hb hby d8_34) rfl rfl k)
    have G10 : own_Go p.tables e below (s₁.setTop (entryFrame m #[(.long q0)] 3)) (T8.setTop (mkF m 36 #[.val (.long q0), .second, .val (.int (128 : Int32))] [(.long q0), (.ref b8), (.ref b8)])) := fun t k => G9 t (XS.lloadN X8.here hx rfl (hb hby d8_35) rfl k)
    obtain ⟨vv11, _, ⟨T11, L11, k11, n11⟩, -, X11, ⟨Lc11, hQ11, l11, y11, z11⟩, st11⟩ := X8.specialBack hx (y := (⟨"java/lang/Long", "<init>", "(J)V"⟩ : MethodName)) rfl hown (mvT hZ (hw _ (List.mem_of_getElem? (i := 32) rfl))) (mvT hZ (hw _ (List.mem_of_getElem? (i := 33) rfl))) (mvT hZ (hw _ (List.mem_of_getElem? (i := 35) rfl))) (by decide) (backOf (W := 1) (rm7 l Z aw hw [] b8 q0  h8 O8 gn_b8 A8 F8_value ) hZ (hw _ (List.mem_of_getElem? (i := 35) rfl)) (hw _ (List.mem_of_getElem? (i := 26) rfl)) (by decide) (by decide)) (g := (mkF m 36 #[.val (.long q0), .second, .val (.int (128 : Int32))] [(.long q0), (.ref b8), (.ref b8)])) rfl (by rw [hml]; rfl) (Steps.refl _) (a := b8) (argsL := [(.long q0)]) (rest := [(.ref b8)]) (lenOf pd_8_1 rfl) rfl (by show 2 * 0 + _ ≤ _; exact Nat.le_of_eq rfl) (hb hby d8_36) (fun _ _ => ⟨rfl, e8, (by decide : 1 + 0 ≤ _), (by decide : 1 + 0 ≤ _)⟩)
    dsimp only [Pt.U, Pt.locs, Pt.cells, Pt.slots] at X11 l11 y11 z11 st11 hQ11
    subst l11 y11 z11
    obtain ⟨rfl, Nq11, Kq11, g11_0⟩ := hQ11
    have N11 := Fr.app N0 Nq11
    have O11 := O8.keep Kq11 (allS gn_b8 all0)
    have K11 := K8.trans Kq11 (allS (Or.inr sz_b8) all0)
    have G11 : own_Go p.tables e below (s₁.setTop (entryFrame m #[(.long q0)] 3)) (T11.setTop (mkF m 39 #[.val (.long q0), .second, .val (.int (128 : Int32))] [(.ref b8)])) := fun t k => G10 t (st11.trans k)
    obtain ⟨fs, hr, hrun, hended, hW, hsame⟩ := X11.leave (v := some (.ref b8)) (fun h => by rw [Bd.returns] at h; cases h)
    refine ⟨_, _, G11 _ ?_, hrun, hended, _, _, rfl, ?_, ⟨_, rfl⟩, hW, hsame.mono (by decide) (by decide)⟩
    · exact own_retA X11 hx Bd.returns rfl rfl (hb hby d8_39) hr
    · show Q8 Z q0 aC clC vals h0 _ T11.heap _
      exact ⟨_, rfl, N11, K11, g11_0⟩
  · have G13 : own_Go p.tables e below (s₁.setTop (entryFrame m #[(.long q0)] 3)) (s₁.setTop (mkF m 12 #[.val (.long q0), .second, .val (.int (128 : Int32))] [])) := fun t k => G5 t (XS.ifNo X0.here hx rfl (hb hby d8_9) rfl ((if0 _ _).trans (flt ((fun q => hc6 ((lw_lt _ _).mp q)) : ¬ ((lcmpW q0 (-128 : Int64)) < (0 : Int32)))).1) k)
    have G14 : own_Go p.tables e below (s₁.setTop (entryFrame m #[(.long q0)] 3)) (s₁.setTop (mkF m 13 #[.val (.long q0), .second, .val (.int (128 : Int32))] [(.long q0)])) := fun t k => G13 t (XS.lloadN X0.here hx rfl (hb hby d8_12) rfl k)
    have G15 : own_Go p.tables e below (s₁.setTop (entryFrame m #[(.long q0)] 3)) (s₁.setTop (mkF m 16 #[.val (.long q0), .second, .val (.int (128 : Int32))] [(.long (127 : Int64)), (.long q0)])) := fun t k => G14 t (X0.ldc2Long hx hown (mvT hZ (hw _ (List.mem_of_getElem? (i := 29) rfl))) (g := (mkF m 13 #[.val (.long q0), .second, .val (.int (128 : Int32))] [(.long q0)])) rfl (hb hby d8_13) t k)
    have G16 : own_Go p.tables e below (s₁.setTop (entryFrame m #[(.long q0)] 3)) (s₁.setTop (mkF m 17 #[.val (.long q0), .second, .val (.int (128 : Int32))] [(.int (lcmpW q0 (127 : Int64)))])) := fun t k => G15 t (XS.lcmp X0.here hx rfl (hb hby d8_16) rfl k)
    by_cases hc17 : (127 : Int64) < q0
    · have G18 : own_Go p.tables e below (s₁.setTop (entryFrame m #[(.long q0)] 3)) (s₁.setTop (mkF m 31 #[.val (.long q0), .second, .val (.int (128 : Int32))] [])) := fun t k => G16 t (XS.ifYes X0.here hx rfl (pc0 := 17) (pc' := 31) rfl (hb hby d8_17) rfl ((if0 _ _).trans (tlt (((lw_gt _ _).mpr hc17) : (0 : Int32) < (lcmpW q0 (127 : Int64)))).2.2.1) (by decide) (by decide) k)
      obtain ⟨T19, h19, X19, e19, E19, A19, D19, U19, st19⟩ := newO X0 hx hZ hown (hw _ (List.mem_of_getElem? (i := 30) rfl)) (hw _ (List.mem_of_getElem? (i := 31) rfl)) (hw _ (List.mem_of_getElem? (i := 26) rfl)) e0 (g := (mkF m 31 #[.val (.long q0), .second, .val (.int (128 : Int32))] [])) rfl (hb hby d8_31) (by decide) (by decide)
      obtain ⟨b19, g19⟩ : ∃ z, z = h0.size := ⟨_, rfl⟩
      rw [← g19] at A19 D19 U19 st19
      have gn_b19 : Z.heap.size ≤ b19 := Nat.le_trans O0.2.1 (Nat.le_of_eq g19.symm)
      have sz_b19 : h0.size ≤ b19 := Nat.le_trans K0.1 (Nat.le_of_eq g19.symm)
      have O19 := O0.ext E19
      have K19 := K0.ext E19
      have F19_value : Fld Z h19 b19 "java/lang/Long" "value" "J" (.long (0 : Int64)) := D19 (Or.inr (hw _ (List.mem_of_getElem? (i := 44) rfl))) (ty := .long) (by decide)
      have G19 : own_Go p.tables e below (s₁.setTop (entryFrame m #[(.long q0)] 3)) (T19.setTop (mkF m 34 #[.val (.long q0), .second, .val (.int (128 : Int32))] [(.ref b19)])) := fun t k => G18 t (st19 t k)
      have G20 : own_Go p.tables e below (s₁.setTop (entryFrame m #[(.long q0)] 3)) (T19.setTop (mkF m 35 #[.val (.long q0), .second, .val (.int (128 : Int32))] [(.ref b19), (.ref b19)])) := fun t k => G19 t (XS.dup X19.here hx rfl (hb hby d8_34) rfl rfl k)
      have G21 : own_Go p.tables e below (s₁.setTop (entryFrame m #[(.long q0)] 3)) (T19.setTop (mkF m 36 #[.val (.long q0), .second, .val (.int (128 : Int32))] [(.long q0), (.ref b19), (.ref b19)])) := fun t k => G20 t (XS.lloadN X19.here hx rfl (hb hby d8_35) rfl k)
      obtain ⟨vv22, _, ⟨T22, L22, k22, n22⟩, -, X22, ⟨Lc22, hQ22, l22, y22, z22⟩, st22⟩ := X19.specialBack hx (y := (⟨"java/lang/Long", "<init>", "(J)V"⟩ : MethodName)) rfl hown (mvT hZ (hw _ (List.mem_of_getElem? (i := 32) rfl))) (mvT hZ (hw _ (List.mem_of_getElem? (i := 33) rfl))) (mvT hZ (hw _ (List.mem_of_getElem? (i := 35) rfl))) (by decide) (backOf (W := 1) (rm7 l Z aw hw [] b19 q0  h19 O19 gn_b19 A19 F19_value ) hZ (hw _ (List.mem_of_getElem? (i := 35) rfl)) (hw _ (List.mem_of_getElem? (i := 26) rfl)) (by decide) (by decide)) (g := (mkF m 36 #[.val (.long q0), .second, .val (.int (128 : Int32))] [(.long q0), (.ref b19), (.ref b19)])) rfl (by rw [hml]; rfl) (Steps.refl _) (a := b19) (argsL := [(.long q0)]) (rest := [(.ref b19)]) (lenOf pd_8_1 rfl) rfl (by show 2 * 0 + _ ≤ _; exact Nat.le_of_eq rfl) (hb hby d8_36) (fun _ _ => ⟨rfl, e19, (by decide : 1 + 0 ≤ _), (by decide : 1 + 0 ≤ _)⟩)
      dsimp only [Pt.U, Pt.locs, Pt.cells, Pt.slots] at X22 l22 y22 z22 st22 hQ22
      subst l22 y22 z22
      obtain ⟨rfl, Nq22, Kq22, g22_0⟩ := hQ22
      have N22 := Fr.app N0 Nq22
      have O22 := O19.keep Kq22 (allS gn_b19 all0)
      have K22 := K19.trans Kq22 (allS (Or.inr sz_b19) all0)
      have G22 : own_Go p.tables e below (s₁.setTop (entryFrame m #[(.long q0)] 3)) (T22.setTop (mkF m 39 #[.val (.long q0), .second, .val (.int (128 : Int32))] [(.ref b19)])) := fun t k => G21 t (st22.trans k)
      obtain ⟨fs, hr, hrun, hended, hW, hsame⟩ := X22.leave (v := some (.ref b19)) (fun h => by rw [Bd.returns] at h; cases h)
      refine ⟨_, _, G22 _ ?_, hrun, hended, _, _, rfl, ?_, ⟨_, rfl⟩, hW, hsame.mono (by decide) (by decide)⟩
      · exact own_retA X22 hx Bd.returns rfl rfl (hb hby d8_39) hr
      · show Q8 Z q0 aC clC vals h0 _ T22.heap _
        exact ⟨_, rfl, N22, K22, g22_0⟩
    · have G24 : own_Go p.tables e below (s₁.setTop (entryFrame m #[(.long q0)] 3)) (s₁.setTop (mkF m 20 #[.val (.long q0), .second, .val (.int (128 : Int32))] [])) := fun t k => G16 t (XS.ifNo X0.here hx rfl (hb hby d8_17) rfl ((if0 _ _).trans (flt ((fun q => hc17 ((lw_gt _ _).mp q)) : ¬ ((0 : Int32) < (lcmpW q0 (127 : Int64))))).2.2.1) k)
      obtain ⟨T25, X25, e25, st25⟩ := getS2 X0 hx hZ hown (host := "") (Or.inl (hw _ (List.mem_of_getElem? (i := 48) rfl))) Via.refl e0 (S_C.ext O0.2) (g := (mkF m 20 #[.val (.long q0), .second, .val (.int (128 : Int32))] [])) rfl (hb hby d8_20)
      have G25 : own_Go p.tables e below (s₁.setTop (entryFrame m #[(.long q0)] 3)) (T25.setTop (mkF m 23 #[.val (.long q0), .second, .val (.int (128 : Int32))] [(.ref aC)])) := fun t k => G24 t (st25 t k)
      have G26 : own_Go p.tables e below (s₁.setTop (entryFrame m #[(.long q0)] 3)) (T25.setTop (mkF m 24 #[.val (.long q0), .second, .val (.int (128 : Int32))] [(.long q0), (.ref aC)])) := fun t k => G25 t (XS.lloadN X25.here hx rfl (hb hby d8_23) rfl k)
      have G27 : own_Go p.tables e below (s₁.setTop (entryFrame m #[(.long q0)] 3)) (T25.setTop (mkF m 25 #[.val (.long q0), .second, .val (.int (128 : Int32))] [(.int (q0).toInt32), (.ref aC)])) := fun t k => G26 t (XS.l2i X25.here hx rfl (hb hby d8_24) rfl k)
      have G28 : own_Go p.tables e below (s₁.setTop (entryFrame m #[(.long q0)] 3)) (T25.setTop (mkF m 28 #[.val (.long q0), .second, .val (.int (128 : Int32))] [(.int (128 : Int32)), (.int (q0).toInt32), (.ref aC)])) := fun t k => G27 t (XT.sipushV X25.here hx rfl (128 : Int32) (hb hby d8_25) (by decide) k)
      have G29 : own_Go p.tables e below (s₁.setTop (entryFrame m #[(.long q0)] 3)) (T25.setTop (mkF m 29 #[.val (.long q0), .second, .val (.int (128 : Int32))] [(.int ((q0).toInt32 + (128 : Int32))), (.ref aC)])) := fun t k => G28 t (XS.iadd X25.here hx rfl (hb hby d8_28) rfl k)
      have hin30 := inb_of (j := ((q0).toInt32 + (128 : Int32))) (z := (256 : Int32)) Bx.2.1 (own_cache hc6 hc17)
      obtain ⟨bx30, hv30, Eb30, -⟩ := Bx.2.2.2 _ hin30
      have G31 : own_Go p.tables e below (s₁.setTop (entryFrame m #[(.long q0)] 3)) (T25.setTop (mkF m 30 #[.val (.long q0), .second, .val (.int (128 : Int32))] [(.ref bx30)])) := fun t k => G29 t (X25.aaload hx (by rw [e25]; exact (Bx.1.ext O0.2).1) (State.isArrayOf_alike hZ.alike (Bx.1.ext O0.2).2.1) rfl (Bx.1.ext O0.2).2.2 hin30 hv30 (g := (mkF m 29 #[.val (.long q0), .second, .val (.int (128 : Int32))] [(.int ((q0).toInt32 + (128 : Int32))), (.ref aC)])) rfl rfl (hb hby d8_29) t k)
      obtain ⟨fs, hr, hrun, hended, hW, hsame⟩ := X25.leave (v := some (.ref bx30)) (fun h => by rw [Bd.returns] at h; cases h)
      refine ⟨_, _, G31 _ ?_, hrun, hended, _, _, rfl, ?_, ⟨_, rfl⟩, hW, hsame.mono (by decide) (by decide)⟩
      · exact own_retA X25 hx Bd.returns rfl rfl (hb hby d8_30) hr
      · show Q8 Z q0 aC clC vals h0 _ T25.heap _
        rw [e25]
        exact ⟨_, rfl, N0, K0, (Eb30.ext O0.2)⟩
theorem pn_0 : plainName "com/example/vernal_pool/vernalpool/cli/TraceRequestEqualsPinLaw" = true := by first | (simp [plainName, overriddenIn]; done) | decide +kernel
theorem pd_0_2 : parseMethodDescriptor "(JJJJ)V" = some ⟨[.long, .long, .long, .long], none⟩ := by decide +kernel
theorem pd_0_3 : parseMethodDescriptor "(Ljava/lang/Object;)Z" = some ⟨[(.object "java/lang/Object")], some .boolean⟩ := by decide +kernel
theorem pd_0_4 : parseMethodDescriptor "(J)Ljava/lang/Long;" = some ⟨[.long], some (.object "java/lang/Long")⟩ := by decide +kernel
theorem ef_0 (m : MethodId) (q0 : Int64) (q1 : Int64) (q2 : Int64) (q3 : Int64) (q4 : Int64) (p5 : Int32) : entryFrame m #[(.long q0), (.long q1), (.long q2), (.long q3), (.long q4), (.int p5)] maxLocals = mkF m 0 #[.val (.long q0), .second, .val (.long q1), .second, .val (.long q2), .second, .val (.long q3), .second, .val (.long q4), .second, .val (.int p5), .unset, .unset, .unset, .unset, .unset, .unset, .unset, .unset, .unset, .unset, .unset, .unset] [] := by first | (simp [entryFrame, mkF, argsToLocals, Value.category, maxLocals]; done) | rfl
def Q0 (Z : State) (q0 : Int64) (q1 : Int64) (q2 : Int64) (q3 : Int64) (q4 : Int64) (p5 : Int32) (aC : Addr) (clC : Cell) (vals : Int32 → Value) (h0 : Heap) (v : Option Value) (h : Heap) (L : List Loc) : Prop := v = some (.int 1) ∧ Fr Z.heap.size L ∧ Keep h0 h []
set_option maxRecDepth 65536 in
set_option maxHeartbeats 40000000 in
theorem rm0 (l : Launch) (Z : State) (aw : Array Value) (hw : ∀ d ∈ tables_1, d.before aw Z = true) (ws : List Jvm.Cond) (q0 : Int64) (q1 : Int64) (q2 : Int64) (q3 : Int64) (q4 : Int64) (p5 : Int32) (aC : Addr) (clC : Cell) (vals : Int32 → Value) (h0 : Heap) (O0 : Old Z Z.heap.size h0)  (S_C : Sta Z Z.heap "java/lang/Long$LongCache" "cache" "[Ljava/lang/Long;" (.ref aC)) (Bx : Bxs Z aC clC "java/lang/Long" "J" (256 : Int32) vals) :
    MetFree l x (head1 (Jvm.Cond.code x code maxLocals ret :: ws) room_1) (fun a U => a = #[(.long q0), (.long q1), (.long q2), (.long q3), (.long q4), (.int p5)] ∧ Z.Warmed39 U.vm ∧ U.heap = h0) (fun _ _ _ _ _ => True) (fun _ U o U' => ∃ v L, o = .returned v ∧ Q0 Z q0 q1 q2 q3 q4 p5 aC clC vals h0 v U'.heap L ∧ FrameEnd U o U' L room_1.cells room_1.slots) := by
  refine MetFree.of_bodySF (plainFor_of_name pn_0) hisR ?_
  intro p e s m args below meth c s₁ Bd hml0 hP hK
  obtain ⟨rfl, hZ, hh⟩ := hP
  have hZ0 := hZ
  have hx := Bd.exec
  have hby := Bd.bytes
  have hml : c.maxLocals = 23 := hml0
  have hown : s.vm.findClass "com/example/vernal_pool/vernalpool/cli/TraceRequestEqualsPinLaw" = some m.cls := findClass_of_methodNamed Bd.named
  have hnm := (name_of_methodNamed Bd.named Bd.method).1
  have X0 : Stand p l e room_1 s m #[(.long q0), (.long q1), (.long q2), (.long q3), (.long q4), (.int p5)] below meth c s₁ [] 0 0 := Stand.of_body Bd
  have e0 : s₁.heap = h0 := by rw [← hh, Bd.state]; rfl
  have G0 : own_Go p.tables e below (s₁.setTop (entryFrame m #[(.long q0), (.long q1), (.long q2), (.long q3), (.long q4), (.int p5)] maxLocals)) (s₁.setTop (mkF m 0 #[.val (.long q0), .second, .val (.long q1), .second, .val (.long q2), .second, .val (.long q3), .second, .val (.long q4), .second, .val (.int p5), .unset, .unset, .unset, .unset, .unset, .unset, .unset, .unset, .unset, .unset, .unset, .unset] [])) := fun t k => castTop (ef_0 m q0 q1 q2 q3 q4 p5) k
  have N0 := Fr.nil Z.heap.size
  have K0 := Keep.refl h0 []
  obtain ⟨T1, h1, X1, e1, E1, A1, D1, U1, st1⟩ := newO X0 hx hZ hown (hw _ (List.mem_of_getElem? (i := 0) rfl)) (hw _ (List.mem_of_getElem? (i := 1) rfl)) (hw _ (List.mem_of_getElem? (i := 2) rfl)) e0 (g := (mkF m 0 #[.val (.long q0), .second, .val (.long q1), .second, .val (.long q2), .second, .val (.long q3), .second, .val (.long q4), .second, .val (.int p5), .unset, .unset, .unset, .unset, .unset, .unset, .unset, .unset, .unset, .unset, .unset, .unset] [])) rfl (hb hby at_0) (by decide) (by decide)
  obtain ⟨b1, g1⟩ : ∃ z, z = h0.size := ⟨_, rfl⟩
  rw [← g1] at A1 D1 U1 st1
  have gn_b1 : Z.heap.size ≤ b1 := Nat.le_trans O0.2.1 (Nat.le_of_eq g1.symm)
  have sz_b1 : h0.size ≤ b1 := Nat.le_trans K0.1 (Nat.le_of_eq g1.symm)
  have O1 := O0.ext E1
  have K1 := K0.ext E1
  have F1_requestId : Fld Z h1 b1 "com/example/vernal_pool/vernalpool/cli/TraceRequest" "requestId" "J" (.long (0 : Int64)) := D1 (Or.inr (hw _ (List.mem_of_getElem? (i := 10) rfl))) (ty := .long) (by decide)
  have F1_appId : Fld Z h1 b1 "com/example/vernal_pool/vernalpool/cli/TraceRequest" "appId" "J" (.long (0 : Int64)) := D1 (Or.inr (hw _ (List.mem_of_getElem? (i := 12) rfl))) (ty := .long) (by decide)
  have F1_startOffsetUs : Fld Z h1 b1 "com/example/vernal_pool/vernalpool/cli/TraceRequest" "startOffsetUs" "J" (.long (0 : Int64)) := D1 (Or.inr (hw _ (List.mem_of_getElem? (i := 14) rfl))) (ty := .long) (by decide)
  have F1_execUs : Fld Z h1 b1 "com/example/vernal_pool/vernalpool/cli/TraceRequest" "execUs" "J" (.long (0 : Int64)) := D1 (Or.inr (hw _ (List.mem_of_getElem? (i := 16) rfl))) (ty := .long) (by decide)
  have G1 : own_Go p.tables e below (s₁.setTop (entryFrame m #[(.long q0), (.long q1), (.long q2), (.long q3), (.long q4), (.int p5)] maxLocals)) (T1.setTop (mkF m 3 #[.val (.long q0), .second, .val (.long q1), .second, .val (.long q2), .second, .val (.long q3), .second, .val (.long q4), .second, .val (.int p5), .unset, .unset, .unset, .unset, .unset, .unset, .unset, .unset, .unset, .unset, .unset, .unset] [(.ref b1)])) := fun t k => G0 t (st1 t k)
  have G2 : own_Go p.tables e below (s₁.setTop (entryFrame m #[(.long q0), (.long q1), (.long q2), (.long q3), (.long q4), (.int p5)] maxLocals)) (T1.setTop (mkF m 4 #[.val (.long q0), .second, .val (.long q1), .second, .val (.long q2), .second, .val (.long q3), .second, .val (.long q4), .second, .val (.int p5), .unset, .unset, .unset, .unset, .unset, .unset, .unset, .unset, .unset, .unset, .unset, .unset] [(.ref b1), (.ref b1)])) := fun t k => G1 t (XS.dup X1.here hx rfl (hb hby at_3) rfl rfl k)
  have G3 : own_Go p.tables e below (s₁.setTop (entryFrame m #[(.long q0), (.long q1), (.long q2), (.long q3), (.long q4), (.int p5)] maxLocals)) (T1.setTop (mkF m 5 #[.val (.long q0), .second, .val (.long q1), .second, .val (.long q2), .second, .val (.long q3), .second, .val (.long q4), .second, .val (.int p5), .unset, .unset, .unset, .unset, .unset, .unset, .unset, .unset, .unset, .unset, .unset, .unset] [(.long q0), (.ref b1), (.ref b1)])) := fun t k => G2 t (XS.lloadN X1.here hx rfl (hb hby at_4) rfl k)
  have G4 : own_Go p.tables e below (s₁.setTop (entryFrame m #[(.long q0), (.long q1), (.long q2), (.long q3), (.long q4), (.int p5)] maxLocals)) (T1.setTop (mkF m 6 #[.val (.long q0), .second, .val (.long q1), .second, .val (.long q2), .second, .val (.long q3), .second, .val (.long q4), .second, .val (.int p5), .unset, .unset, .unset, .unset, .unset, .unset, .unset, .unset, .unset, .unset, .unset, .unset] [(.long q1), (.long q0), (.ref b1), (.ref b1)])) := fun t k => G3 t (XS.lloadN X1.here hx rfl (hb hby at_5) rfl k)
  have G5 : own_Go p.tables e below (s₁.setTop (entryFrame m #[(.long q0), (.long q1), (.long q2), (.long q3), (.long q4), (.int p5)] maxLocals)) (T1.setTop (mkF m 8 #[.val (.long q0), .second, .val (.long q1), .second, .val (.long q2), .second, .val (.long q3), .second, .val (.long q4), .second, .val (.int p5), .unset, .unset, .unset, .unset, .unset, .unset, .unset, .unset, .unset, .unset, .unset, .unset] [(.long q2), (.long q1), (.long q0), (.ref b1), (.ref b1)])) := fun t k => G4 t (XS.lload X1.here hx rfl (hb hby at_6) rfl k)
  have G6 : own_Go p.tables e below (s₁.setTop (entryFrame m #[(.long q0), (.long q1), (.long q2), (.long q3), (.long q4), (.int p5)] maxLocals)) (T1.setTop (mkF m 10 #[.val (.long q0), .second, .val (.long q1), .second, .val (.long q2), .second, .val (.long q3), .second, .val (.long q4), .second, .val (.int p5), .unset, .unset, .unset, .unset, .unset, .unset, .unset, .unset, .unset, .unset, .unset, .unset] [(.long q3), (.long q2), (.long q1), (.long q0), (.ref b1), (.ref b1)])) := fun t k => G5 t (XS.lload X1.here hx rfl (hb hby at_8) rfl k)
  obtain ⟨vv7, _, ⟨T7, L7, k7, n7⟩, -, X7, ⟨Lc7, hQ7, l7, y7, z7⟩, st7⟩ := X1.specialBack hx (y := (⟨"com/example/vernal_pool/vernalpool/cli/TraceRequest", "<init>", "(JJJJ)V"⟩ : MethodName)) rfl hown (mvT hZ (hw _ (List.mem_of_getElem? (i := 3) rfl))) (mvT hZ (hw _ (List.mem_of_getElem? (i := 4) rfl))) (mvT hZ (hw _ (List.mem_of_getElem? (i := 5) rfl))) (by decide) (backOf (W := 1) (rm1 l Z aw hw [] b1 q0 q1 q2 q3  h1 O1 gn_b1 A1 F1_requestId F1_appId F1_startOffsetUs F1_execUs ) hZ (hw _ (List.mem_of_getElem? (i := 5) rfl)) (hw _ (List.mem_of_getElem? (i := 2) rfl)) (by decide) (by decide)) (g := (mkF m 10 #[.val (.long q0), .second, .val (.long q1), .second, .val (.long q2), .second, .val (.long q3), .second, .val (.long q4), .second, .val (.int p5), .unset, .unset, .unset, .unset, .unset, .unset, .unset, .unset, .unset, .unset, .unset, .unset] [(.long q3), (.long q2), (.long q1), (.long q0), (.ref b1), (.ref b1)])) rfl (by rw [hml]; rfl) (Steps.refl _) (a := b1) (argsL := [(.long q0), (.long q1), (.long q2), (.long q3)]) (rest := [(.ref b1)]) (lenOf pd_0_2 rfl) rfl (by show 2 * 0 + _ ≤ _; exact Nat.le_of_eq rfl) (hb hby at_10) (fun _ _ => ⟨rfl, e1, (by decide : 1 + 0 ≤ _), (by decide : 4 + 0 ≤ _)⟩)
  dsimp only [Pt.U, Pt.locs, Pt.cells, Pt.slots] at X7 l7 y7 z7 st7 hQ7
  subst l7 y7 z7
  obtain ⟨rfl, Nq7, Kq7, g7_0, g7_1, g7_2, g7_3, g7_4⟩ := hQ7
  have N7 := Fr.app N0 Nq7
  have O7 := O1.keep Kq7 (allS gn_b1 all0)
  have K7 := K1.trans Kq7 (allS (Or.inr sz_b1) all0)
  have G7 : own_Go p.tables e below (s₁.setTop (entryFrame m #[(.long q0), (.long q1), (.long q2), (.long q3), (.long q4), (.int p5)] maxLocals)) (T7.setTop (mkF m 13 #[.val (.long q0), .second, .val (.long q1), .second, .val (.long q2), .second, .val (.long q3), .second, .val (.long q4), .second, .val (.int p5), .unset, .unset, .unset, .unset, .unset, .unset, .unset, .unset, .unset, .unset, .unset, .unset] [(.ref b1)])) := fun t k => G6 t (st7.trans k)
  have G8 : own_Go p.tables e below (s₁.setTop (entryFrame m #[(.long q0), (.long q1), (.long q2), (.long q3), (.long q4), (.int p5)] maxLocals)) (T7.setTop (mkF m 15 #[.val (.long q0), .second, .val (.long q1), .second, .val (.long q2), .second, .val (.long q3), .second, .val (.long q4), .second, .val (.int p5), .val (.ref b1), .unset, .unset, .unset, .unset, .unset, .unset, .unset, .unset, .unset, .unset, .unset] [])) := fun t k => G7 t (XS.astore X7.here hx rfl (hb hby at_13) rfl rfl (l' := #[.val (.long q0), .second, .val (.long q1), .second, .val (.long q2), .second, .val (.long q3), .second, .val (.long q4), .second, .val (.int p5), .val (.ref b1), .unset, .unset, .unset, .unset, .unset, .unset, .unset, .unset, .unset, .unset, .unset]) rfl k)
  have G9 : own_Go p.tables e below (s₁.setTop (entryFrame m #[(.long q0), (.long q1), (.long q2), (.long q3), (.long q4), (.int p5)] maxLocals)) (T7.setTop (mkF m 17 #[.val (.long q0), .second, .val (.long q1), .second, .val (.long q2), .second, .val (.long q3), .second, .val (.long q4), .second, .val (.int p5), .val (.ref b1), .unset, .unset, .unset, .unset, .unset, .unset, .unset, .unset, .unset, .unset, .unset] [(.int p5)])) := fun t k => G8 t (XS.iload X7.here hx rfl (hb hby at_15) rfl k)
  have G10 : own_Go p.tables e below (s₁.setTop (entryFrame m #[(.long q0), (.long q1), (.long q2), (.long q3), (.long q4), (.int p5)] maxLocals)) (T7.setTop (mkF m 18 #[.val (.long q0), .second, .val (.long q1), .second, .val (.long q2), .second, .val (.long q3), .second, .val (.long q4), .second, .val (.int p5), .val (.ref b1), .unset, .unset, .unset, .unset, .unset, .unset, .unset, .unset, .unset, .unset, .unset] [(.int (1 : Int32)), (.int p5)])) := fun t k => G9 t (XT.iconstV X7.here hx rfl (1 : Int32) (hb hby at_17) (by decide) k)
  have G11 : own_Go p.tables e below (s₁.setTop (entryFrame m #[(.long q0), (.long q1), (.long q2), (.long q3), (.long q4), (.int p5)] maxLocals)) (T7.setTop (mkF m 19 #[.val (.long q0), .second, .val (.long q1), .second, .val (.long q2), .second, .val (.long q3), .second, .val (.long q4), .second, .val (.int p5), .val (.ref b1), .unset, .unset, .unset, .unset, .unset, .unset, .unset, .unset, .unset, .unset, .unset] [(.int (p5 &&& (1 : Int32)))])) := fun t k => G10 t (XS.iand X7.here hx rfl (hb hby at_18) rfl k)
  obtain ⟨z12_0, hz12_0, G12⟩ : ∃ (z12_0 : Int64), z12_0 = (if (p5 &&& (1 : Int32)) = (0 : Int32) then q0 else (q0 ^^^ q4)) ∧ own_Go p.tables e below (s₁.setTop (entryFrame m #[(.long q0), (.long q1), (.long q2), (.long q3), (.long q4), (.int p5)] maxLocals)) (T7.setTop (mkF m 30 #[.val (.long q0), .second, .val (.long q1), .second, .val (.long q2), .second, .val (.long q3), .second, .val (.long q4), .second, .val (.int p5), .val (.ref b1), .unset, .unset, .unset, .unset, .unset, .unset, .unset, .unset, .unset, .unset, .unset] [(.long z12_0)])) := by
    by_cases hc12 : (p5 &&& (1 : Int32)) = (0 : Int32)
    · have G13 : own_Go p.tables e below (s₁.setTop (entryFrame m #[(.long q0), (.long q1), (.long q2), (.long q3), (.long q4), (.int p5)] maxLocals)) (T7.setTop (mkF m 29 #[.val (.long q0), .second, .val (.long q1), .second, .val (.long q2), .second, .val (.long q3), .second, .val (.long q4), .second, .val (.int p5), .val (.ref b1), .unset, .unset, .unset, .unset, .unset, .unset, .unset, .unset, .unset, .unset, .unset] [])) := fun t k => G11 t (XS.ifYes X7.here hx rfl (pc0 := 19) (pc' := 29) rfl (hb hby at_19) rfl ((if0 _ _).trans (teq hc12).1) (by decide) (by decide) k)
      have G14 : own_Go p.tables e below (s₁.setTop (entryFrame m #[(.long q0), (.long q1), (.long q2), (.long q3), (.long q4), (.int p5)] maxLocals)) (T7.setTop (mkF m 30 #[.val (.long q0), .second, .val (.long q1), .second, .val (.long q2), .second, .val (.long q3), .second, .val (.long q4), .second, .val (.int p5), .val (.ref b1), .unset, .unset, .unset, .unset, .unset, .unset, .unset, .unset, .unset, .unset, .unset] [(.long q0)])) := fun t k => G13 t (XS.lloadN X7.here hx rfl (hb hby at_29) rfl k)
      exact ⟨_, (if_pos hc12).symm, G14⟩
    · have G15 : own_Go p.tables e below (s₁.setTop (entryFrame m #[(.long q0), (.long q1), (.long q2), (.long q3), (.long q4), (.int p5)] maxLocals)) (T7.setTop (mkF m 22 #[.val (.long q0), .second, .val (.long q1), .second, .val (.long q2), .second, .val (.long q3), .second, .val (.long q4), .second, .val (.int p5), .val (.ref b1), .unset, .unset, .unset, .unset, .unset, .unset, .unset, .unset, .unset, .unset, .unset] [])) := fun t k => G11 t (XS.ifNo X7.here hx rfl (hb hby at_19) rfl ((if0 _ _).trans (feq hc12).1) k)
      have G16 : own_Go p.tables e below (s₁.setTop (entryFrame m #[(.long q0), (.long q1), (.long q2), (.long q3), (.long q4), (.int p5)] maxLocals)) (T7.setTop (mkF m 23 #[.val (.long q0), .second, .val (.long q1), .second, .val (.long q2), .second, .val (.long q3), .second, .val (.long q4), .second, .val (.int p5), .val (.ref b1), .unset, .unset, .unset, .unset, .unset, .unset, .unset, .unset, .unset, .unset, .unset] [(.long q0)])) := fun t k => G15 t (XS.lloadN X7.here hx rfl (hb hby at_22) rfl k)
      have G17 : own_Go p.tables e below (s₁.setTop (entryFrame m #[(.long q0), (.long q1), (.long q2), (.long q3), (.long q4), (.int p5)] maxLocals)) (T7.setTop (mkF m 25 #[.val (.long q0), .second, .val (.long q1), .second, .val (.long q2), .second, .val (.long q3), .second, .val (.long q4), .second, .val (.int p5), .val (.ref b1), .unset, .unset, .unset, .unset, .unset, .unset, .unset, .unset, .unset, .unset, .unset] [(.long q4), (.long q0)])) := fun t k => G16 t (XS.lload X7.here hx rfl (hb hby at_23) rfl k)
      have G18 : own_Go p.tables e below (s₁.setTop (entryFrame m #[(.long q0), (.long q1), (.long q2), (.long q3), (.long q4), (.int p5)] maxLocals)) (T7.setTop (mkF m 26 #[.val (.long q0), .second, .val (.long q1), .second, .val (.long q2), .second, .val (.long q3), .second, .val (.long q4), .second, .val (.int p5), .val (.ref b1), .unset, .unset, .unset, .unset, .unset, .unset, .unset, .unset, .unset, .unset, .unset] [(.long (q0 ^^^ q4))])) := fun t k => G17 t (XS.lxor X7.here hx rfl (hb hby at_25) rfl k)
      have G19 : own_Go p.tables e below (s₁.setTop (entryFrame m #[(.long q0), (.long q1), (.long q2), (.long q3), (.long q4), (.int p5)] maxLocals)) (T7.setTop (mkF m 30 #[.val (.long q0), .second, .val (.long q1), .second, .val (.long q2), .second, .val (.long q3), .second, .val (.long q4), .second, .val (.int p5), .val (.ref b1), .unset, .unset, .unset, .unset, .unset, .unset, .unset, .unset, .unset, .unset, .unset] [(.long (q0 ^^^ q4))])) := fun t k => G18 t (XS.goto X7.here hx rfl (pc0 := 26) (pc' := 30) rfl (hb hby at_26) (by decide) (by decide) k)
      exact ⟨_, (if_neg hc12).symm, G19⟩
  have G20 : own_Go p.tables e below (s₁.setTop (entryFrame m #[(.long q0), (.long q1), (.long q2), (.long q3), (.long q4), (.int p5)] maxLocals)) (T7.setTop (mkF m 32 #[.val (.long q0), .second, .val (.long q1), .second, .val (.long q2), .second, .val (.long q3), .second, .val (.long q4), .second, .val (.int p5), .val (.ref b1), .val (.long z12_0), .second, .unset, .unset, .unset, .unset, .unset, .unset, .unset, .unset, .unset] [])) := fun t k => G12 t (XS.lstore X7.here hx rfl (hb hby at_30) rfl (l' := #[.val (.long q0), .second, .val (.long q1), .second, .val (.long q2), .second, .val (.long q3), .second, .val (.long q4), .second, .val (.int p5), .val (.ref b1), .val (.long z12_0), .second, .unset, .unset, .unset, .unset, .unset, .unset, .unset, .unset, .unset]) rfl k)
  have G21 : own_Go p.tables e below (s₁.setTop (entryFrame m #[(.long q0), (.long q1), (.long q2), (.long q3), (.long q4), (.int p5)] maxLocals)) (T7.setTop (mkF m 34 #[.val (.long q0), .second, .val (.long q1), .second, .val (.long q2), .second, .val (.long q3), .second, .val (.long q4), .second, .val (.int p5), .val (.ref b1), .val (.long z12_0), .second, .unset, .unset, .unset, .unset, .unset, .unset, .unset, .unset, .unset] [(.int p5)])) := fun t k => G20 t (XS.iload X7.here hx rfl (hb hby at_32) rfl k)
  have G22 : own_Go p.tables e below (s₁.setTop (entryFrame m #[(.long q0), (.long q1), (.long q2), (.long q3), (.long q4), (.int p5)] maxLocals)) (T7.setTop (mkF m 35 #[.val (.long q0), .second, .val (.long q1), .second, .val (.long q2), .second, .val (.long q3), .second, .val (.long q4), .second, .val (.int p5), .val (.ref b1), .val (.long z12_0), .second, .unset, .unset, .unset, .unset, .unset, .unset, .unset, .unset, .unset] [(.int (2 : Int32)), (.int p5)])) := fun t k => G21 t (XT.iconstV X7.here hx rfl (2 : Int32) (hb hby at_34) (by decide) k)
  have G23 : own_Go p.tables e below (s₁.setTop (entryFrame m #[(.long q0), (.long q1), (.long q2), (.long q3), (.long q4), (.int p5)] maxLocals)) (T7.setTop (mkF m 36 #[.val (.long q0), .second, .val (.long q1), .second, .val (.long q2), .second, .val (.long q3), .second, .val (.long q4), .second, .val (.int p5), .val (.ref b1), .val (.long z12_0), .second, .unset, .unset, .unset, .unset, .unset, .unset, .unset, .unset, .unset] [(.int (p5 &&& (2 : Int32)))])) := fun t k => G22 t (XS.iand X7.here hx rfl (hb hby at_35) rfl k)
  obtain ⟨z24_0, hz24_0, G24⟩ : ∃ (z24_0 : Int64), z24_0 = (if (p5 &&& (2 : Int32)) = (0 : Int32) then q1 else (q1 ^^^ q4)) ∧ own_Go p.tables e below (s₁.setTop (entryFrame m #[(.long q0), (.long q1), (.long q2), (.long q3), (.long q4), (.int p5)] maxLocals)) (T7.setTop (mkF m 47 #[.val (.long q0), .second, .val (.long q1), .second, .val (.long q2), .second, .val (.long q3), .second, .val (.long q4), .second, .val (.int p5), .val (.ref b1), .val (.long z12_0), .second, .unset, .unset, .unset, .unset, .unset, .unset, .unset, .unset, .unset] [(.long z24_0)])) := by
    by_cases hc24 : (p5 &&& (2 : Int32)) = (0 : Int32)
    · have G25 : own_Go p.tables e below (s₁.setTop (entryFrame m #[(.long q0), (.long q1), (.long q2), (.long q3), (.long q4), (.int p5)] maxLocals)) (T7.setTop (mkF m 46 #[.val (.long q0), .second, .val (.long q1), .second, .val (.long q2), .second, .val (.long q3), .second, .val (.long q4), .second, .val (.int p5), .val (.ref b1), .val (.long z12_0), .second, .unset, .unset, .unset, .unset, .unset, .unset, .unset, .unset, .unset] [])) := fun t k => G23 t (XS.ifYes X7.here hx rfl (pc0 := 36) (pc' := 46) rfl (hb hby at_36) rfl ((if0 _ _).trans (teq hc24).1) (by decide) (by decide) k)
      have G26 : own_Go p.tables e below (s₁.setTop (entryFrame m #[(.long q0), (.long q1), (.long q2), (.long q3), (.long q4), (.int p5)] maxLocals)) (T7.setTop (mkF m 47 #[.val (.long q0), .second, .val (.long q1), .second, .val (.long q2), .second, .val (.long q3), .second, .val (.long q4), .second, .val (.int p5), .val (.ref b1), .val (.long z12_0), .second, .unset, .unset, .unset, .unset, .unset, .unset, .unset, .unset, .unset] [(.long q1)])) := fun t k => G25 t (XS.lloadN X7.here hx rfl (hb hby at_46) rfl k)
      exact ⟨_, (if_pos hc24).symm, G26⟩
    · have G27 : own_Go p.tables e below (s₁.setTop (entryFrame m #[(.long q0), (.long q1), (.long q2), (.long q3), (.long q4), (.int p5)] maxLocals)) (T7.setTop (mkF m 39 #[.val (.long q0), .second, .val (.long q1), .second, .val (.long q2), .second, .val (.long q3), .second, .val (.long q4), .second, .val (.int p5), .val (.ref b1), .val (.long z12_0), .second, .unset, .unset, .unset, .unset, .unset, .unset, .unset, .unset, .unset] [])) := fun t k => G23 t (XS.ifNo X7.here hx rfl (hb hby at_36) rfl ((if0 _ _).trans (feq hc24).1) k)
      have G28 : own_Go p.tables e below (s₁.setTop (entryFrame m #[(.long q0), (.long q1), (.long q2), (.long q3), (.long q4), (.int p5)] maxLocals)) (T7.setTop (mkF m 40 #[.val (.long q0), .second, .val (.long q1), .second, .val (.long q2), .second, .val (.long q3), .second, .val (.long q4), .second, .val (.int p5), .val (.ref b1), .val (.long z12_0), .second, .unset, .unset, .unset, .unset, .unset, .unset, .unset, .unset, .unset] [(.long q1)])) := fun t k => G27 t (XS.lloadN X7.here hx rfl (hb hby at_39) rfl k)
      have G29 : own_Go p.tables e below (s₁.setTop (entryFrame m #[(.long q0), (.long q1), (.long q2), (.long q3), (.long q4), (.int p5)] maxLocals)) (T7.setTop (mkF m 42 #[.val (.long q0), .second, .val (.long q1), .second, .val (.long q2), .second, .val (.long q3), .second, .val (.long q4), .second, .val (.int p5), .val (.ref b1), .val (.long z12_0), .second, .unset, .unset, .unset, .unset, .unset, .unset, .unset, .unset, .unset] [(.long q4), (.long q1)])) := fun t k => G28 t (XS.lload X7.here hx rfl (hb hby at_40) rfl k)
      have G30 : own_Go p.tables e below (s₁.setTop (entryFrame m #[(.long q0), (.long q1), (.long q2), (.long q3), (.long q4), (.int p5)] maxLocals)) (T7.setTop (mkF m 43 #[.val (.long q0), .second, .val (.long q1), .second, .val (.long q2), .second, .val (.long q3), .second, .val (.long q4), .second, .val (.int p5), .val (.ref b1), .val (.long z12_0), .second, .unset, .unset, .unset, .unset, .unset, .unset, .unset, .unset, .unset] [(.long (q1 ^^^ q4))])) := fun t k => G29 t (XS.lxor X7.here hx rfl (hb hby at_42) rfl k)
      have G31 : own_Go p.tables e below (s₁.setTop (entryFrame m #[(.long q0), (.long q1), (.long q2), (.long q3), (.long q4), (.int p5)] maxLocals)) (T7.setTop (mkF m 47 #[.val (.long q0), .second, .val (.long q1), .second, .val (.long q2), .second, .val (.long q3), .second, .val (.long q4), .second, .val (.int p5), .val (.ref b1), .val (.long z12_0), .second, .unset, .unset, .unset, .unset, .unset, .unset, .unset, .unset, .unset] [(.long (q1 ^^^ q4))])) := fun t k => G30 t (XS.goto X7.here hx rfl (pc0 := 43) (pc' := 47) rfl (hb hby at_43) (by decide) (by decide) k)
      exact ⟨_, (if_neg hc24).symm, G31⟩
  have G32 : own_Go p.tables e below (s₁.setTop (entryFrame m #[(.long q0), (.long q1), (.long q2), (.long q3), (.long q4), (.int p5)] maxLocals)) (T7.setTop (mkF m 49 #[.val (.long q0), .second, .val (.long q1), .second, .val (.long q2), .second, .val (.long q3), .second, .val (.long q4), .second, .val (.int p5), .val (.ref b1), .val (.long z12_0), .second, .val (.long z24_0), .second, .unset, .unset, .unset, .unset, .unset, .unset, .unset] [])) := fun t k => G24 t (XS.lstore X7.here hx rfl (hb hby at_47) rfl (l' := #[.val (.long q0), .second, .val (.long q1), .second, .val (.long q2), .second, .val (.long q3), .second, .val (.long q4), .second, .val (.int p5), .val (.ref b1), .val (.long z12_0), .second, .val (.long z24_0), .second, .unset, .unset, .unset, .unset, .unset, .unset, .unset]) rfl k)
  have G33 : own_Go p.tables e below (s₁.setTop (entryFrame m #[(.long q0), (.long q1), (.long q2), (.long q3), (.long q4), (.int p5)] maxLocals)) (T7.setTop (mkF m 51 #[.val (.long q0), .second, .val (.long q1), .second, .val (.long q2), .second, .val (.long q3), .second, .val (.long q4), .second, .val (.int p5), .val (.ref b1), .val (.long z12_0), .second, .val (.long z24_0), .second, .unset, .unset, .unset, .unset, .unset, .unset, .unset] [(.int p5)])) := fun t k => G32 t (XS.iload X7.here hx rfl (hb hby at_49) rfl k)
  have G34 : own_Go p.tables e below (s₁.setTop (entryFrame m #[(.long q0), (.long q1), (.long q2), (.long q3), (.long q4), (.int p5)] maxLocals)) (T7.setTop (mkF m 52 #[.val (.long q0), .second, .val (.long q1), .second, .val (.long q2), .second, .val (.long q3), .second, .val (.long q4), .second, .val (.int p5), .val (.ref b1), .val (.long z12_0), .second, .val (.long z24_0), .second, .unset, .unset, .unset, .unset, .unset, .unset, .unset] [(.int (4 : Int32)), (.int p5)])) := fun t k => G33 t (XT.iconstV X7.here hx rfl (4 : Int32) (hb hby at_51) (by decide) k)
  have G35 : own_Go p.tables e below (s₁.setTop (entryFrame m #[(.long q0), (.long q1), (.long q2), (.long q3), (.long q4), (.int p5)] maxLocals)) (T7.setTop (mkF m 53 #[.val (.long q0), .second, .val (.long q1), .second, .val (.long q2), .second, .val (.long q3), .second, .val (.long q4), .second, .val (.int p5), .val (.ref b1), .val (.long z12_0), .second, .val (.long z24_0), .second, .unset, .unset, .unset, .unset, .unset, .unset, .unset] [(.int (p5 &&& (4 : Int32)))])) := fun t k => G34 t (XS.iand X7.here hx rfl (hb hby at_52) rfl k)
  obtain ⟨z36_0, hz36_0, G36⟩ : ∃ (z36_0 : Int64), z36_0 = (if (p5 &&& (4 : Int32)) = (0 : Int32) then q2 else (q2 ^^^ q4)) ∧ own_Go p.tables e below (s₁.setTop (entryFrame m #[(.long q0), (.long q1), (.long q2), (.long q3), (.long q4), (.int p5)] maxLocals)) (T7.setTop (mkF m 66 #[.val (.long q0), .second, .val (.long q1), .second, .val (.long q2), .second, .val (.long q3), .second, .val (.long q4), .second, .val (.int p5), .val (.ref b1), .val (.long z12_0), .second, .val (.long z24_0), .second, .unset, .unset, .unset, .unset, .unset, .unset, .unset] [(.long z36_0)])) := by
    by_cases hc36 : (p5 &&& (4 : Int32)) = (0 : Int32)
    · have G37 : own_Go p.tables e below (s₁.setTop (entryFrame m #[(.long q0), (.long q1), (.long q2), (.long q3), (.long q4), (.int p5)] maxLocals)) (T7.setTop (mkF m 64 #[.val (.long q0), .second, .val (.long q1), .second, .val (.long q2), .second, .val (.long q3), .second, .val (.long q4), .second, .val (.int p5), .val (.ref b1), .val (.long z12_0), .second, .val (.long z24_0), .second, .unset, .unset, .unset, .unset, .unset, .unset, .unset] [])) := fun t k => G35 t (XS.ifYes X7.here hx rfl (pc0 := 53) (pc' := 64) rfl (hb hby at_53) rfl ((if0 _ _).trans (teq hc36).1) (by decide) (by decide) k)
      have G38 : own_Go p.tables e below (s₁.setTop (entryFrame m #[(.long q0), (.long q1), (.long q2), (.long q3), (.long q4), (.int p5)] maxLocals)) (T7.setTop (mkF m 66 #[.val (.long q0), .second, .val (.long q1), .second, .val (.long q2), .second, .val (.long q3), .second, .val (.long q4), .second, .val (.int p5), .val (.ref b1), .val (.long z12_0), .second, .val (.long z24_0), .second, .unset, .unset, .unset, .unset, .unset, .unset, .unset] [(.long q2)])) := fun t k => G37 t (XS.lload X7.here hx rfl (hb hby at_64) rfl k)
      exact ⟨_, (if_pos hc36).symm, G38⟩
    · have G39 : own_Go p.tables e below (s₁.setTop (entryFrame m #[(.long q0), (.long q1), (.long q2), (.long q3), (.long q4), (.int p5)] maxLocals)) (T7.setTop (mkF m 56 #[.val (.long q0), .second, .val (.long q1), .second, .val (.long q2), .second, .val (.long q3), .second, .val (.long q4), .second, .val (.int p5), .val (.ref b1), .val (.long z12_0), .second, .val (.long z24_0), .second, .unset, .unset, .unset, .unset, .unset, .unset, .unset] [])) := fun t k => G35 t (XS.ifNo X7.here hx rfl (hb hby at_53) rfl ((if0 _ _).trans (feq hc36).1) k)
      have G40 : own_Go p.tables e below (s₁.setTop (entryFrame m #[(.long q0), (.long q1), (.long q2), (.long q3), (.long q4), (.int p5)] maxLocals)) (T7.setTop (mkF m 58 #[.val (.long q0), .second, .val (.long q1), .second, .val (.long q2), .second, .val (.long q3), .second, .val (.long q4), .second, .val (.int p5), .val (.ref b1), .val (.long z12_0), .second, .val (.long z24_0), .second, .unset, .unset, .unset, .unset, .unset, .unset, .unset] [(.long q2)])) := fun t k => G39 t (XS.lload X7.here hx rfl (hb hby at_56) rfl k)
      have G41 : own_Go p.tables e below (s₁.setTop (entryFrame m #[(.long q0), (.long q1), (.long q2), (.long q3), (.long q4), (.int p5)] maxLocals)) (T7.setTop (mkF m 60 #[.val (.long q0), .second, .val (.long q1), .second, .val (.long q2), .second, .val (.long q3), .second, .val (.long q4), .second, .val (.int p5), .val (.ref b1), .val (.long z12_0), .second, .val (.long z24_0), .second, .unset, .unset, .unset, .unset, .unset, .unset, .unset] [(.long q4), (.long q2)])) := fun t k => G40 t (XS.lload X7.here hx rfl (hb hby at_58) rfl k)
      have G42 : own_Go p.tables e below (s₁.setTop (entryFrame m #[(.long q0), (.long q1), (.long q2), (.long q3), (.long q4), (.int p5)] maxLocals)) (T7.setTop (mkF m 61 #[.val (.long q0), .second, .val (.long q1), .second, .val (.long q2), .second, .val (.long q3), .second, .val (.long q4), .second, .val (.int p5), .val (.ref b1), .val (.long z12_0), .second, .val (.long z24_0), .second, .unset, .unset, .unset, .unset, .unset, .unset, .unset] [(.long (q2 ^^^ q4))])) := fun t k => G41 t (XS.lxor X7.here hx rfl (hb hby at_60) rfl k)
      have G43 : own_Go p.tables e below (s₁.setTop (entryFrame m #[(.long q0), (.long q1), (.long q2), (.long q3), (.long q4), (.int p5)] maxLocals)) (T7.setTop (mkF m 66 #[.val (.long q0), .second, .val (.long q1), .second, .val (.long q2), .second, .val (.long q3), .second, .val (.long q4), .second, .val (.int p5), .val (.ref b1), .val (.long z12_0), .second, .val (.long z24_0), .second, .unset, .unset, .unset, .unset, .unset, .unset, .unset] [(.long (q2 ^^^ q4))])) := fun t k => G42 t (XS.goto X7.here hx rfl (pc0 := 61) (pc' := 66) rfl (hb hby at_61) (by decide) (by decide) k)
      exact ⟨_, (if_neg hc36).symm, G43⟩
  have G44 : own_Go p.tables e below (s₁.setTop (entryFrame m #[(.long q0), (.long q1), (.long q2), (.long q3), (.long q4), (.int p5)] maxLocals)) (T7.setTop (mkF m 68 #[.val (.long q0), .second, .val (.long q1), .second, .val (.long q2), .second, .val (.long q3), .second, .val (.long q4), .second, .val (.int p5), .val (.ref b1), .val (.long z12_0), .second, .val (.long z24_0), .second, .val (.long z36_0), .second, .unset, .unset, .unset, .unset, .unset] [])) := fun t k => G36 t (XS.lstore X7.here hx rfl (hb hby at_66) rfl (l' := #[.val (.long q0), .second, .val (.long q1), .second, .val (.long q2), .second, .val (.long q3), .second, .val (.long q4), .second, .val (.int p5), .val (.ref b1), .val (.long z12_0), .second, .val (.long z24_0), .second, .val (.long z36_0), .second, .unset, .unset, .unset, .unset, .unset]) rfl k)
  have G45 : own_Go p.tables e below (s₁.setTop (entryFrame m #[(.long q0), (.long q1), (.long q2), (.long q3), (.long q4), (.int p5)] maxLocals)) (T7.setTop (mkF m 70 #[.val (.long q0), .second, .val (.long q1), .second, .val (.long q2), .second, .val (.long q3), .second, .val (.long q4), .second, .val (.int p5), .val (.ref b1), .val (.long z12_0), .second, .val (.long z24_0), .second, .val (.long z36_0), .second, .unset, .unset, .unset, .unset, .unset] [(.int p5)])) := fun t k => G44 t (XS.iload X7.here hx rfl (hb hby at_68) rfl k)
  have G46 : own_Go p.tables e below (s₁.setTop (entryFrame m #[(.long q0), (.long q1), (.long q2), (.long q3), (.long q4), (.int p5)] maxLocals)) (T7.setTop (mkF m 72 #[.val (.long q0), .second, .val (.long q1), .second, .val (.long q2), .second, .val (.long q3), .second, .val (.long q4), .second, .val (.int p5), .val (.ref b1), .val (.long z12_0), .second, .val (.long z24_0), .second, .val (.long z36_0), .second, .unset, .unset, .unset, .unset, .unset] [(.int (8 : Int32)), (.int p5)])) := fun t k => G45 t (XT.bipushV X7.here hx rfl (8 : Int32) (hb hby at_70) (by decide) k)
  have G47 : own_Go p.tables e below (s₁.setTop (entryFrame m #[(.long q0), (.long q1), (.long q2), (.long q3), (.long q4), (.int p5)] maxLocals)) (T7.setTop (mkF m 73 #[.val (.long q0), .second, .val (.long q1), .second, .val (.long q2), .second, .val (.long q3), .second, .val (.long q4), .second, .val (.int p5), .val (.ref b1), .val (.long z12_0), .second, .val (.long z24_0), .second, .val (.long z36_0), .second, .unset, .unset, .unset, .unset, .unset] [(.int (p5 &&& (8 : Int32)))])) := fun t k => G46 t (XS.iand X7.here hx rfl (hb hby at_72) rfl k)
  obtain ⟨z48_0, hz48_0, G48⟩ : ∃ (z48_0 : Int64), z48_0 = (if (p5 &&& (8 : Int32)) = (0 : Int32) then q3 else (q3 ^^^ q4)) ∧ own_Go p.tables e below (s₁.setTop (entryFrame m #[(.long q0), (.long q1), (.long q2), (.long q3), (.long q4), (.int p5)] maxLocals)) (T7.setTop (mkF m 86 #[.val (.long q0), .second, .val (.long q1), .second, .val (.long q2), .second, .val (.long q3), .second, .val (.long q4), .second, .val (.int p5), .val (.ref b1), .val (.long z12_0), .second, .val (.long z24_0), .second, .val (.long z36_0), .second, .unset, .unset, .unset, .unset, .unset] [(.long z48_0)])) := by
    by_cases hc48 : (p5 &&& (8 : Int32)) = (0 : Int32)
    · have G49 : own_Go p.tables e below (s₁.setTop (entryFrame m #[(.long q0), (.long q1), (.long q2), (.long q3), (.long q4), (.int p5)] maxLocals)) (T7.setTop (mkF m 84 #[.val (.long q0), .second, .val (.long q1), .second, .val (.long q2), .second, .val (.long q3), .second, .val (.long q4), .second, .val (.int p5), .val (.ref b1), .val (.long z12_0), .second, .val (.long z24_0), .second, .val (.long z36_0), .second, .unset, .unset, .unset, .unset, .unset] [])) := fun t k => G47 t (XS.ifYes X7.here hx rfl (pc0 := 73) (pc' := 84) rfl (hb hby at_73) rfl ((if0 _ _).trans (teq hc48).1) (by decide) (by decide) k)
      have G50 : own_Go p.tables e below (s₁.setTop (entryFrame m #[(.long q0), (.long q1), (.long q2), (.long q3), (.long q4), (.int p5)] maxLocals)) (T7.setTop (mkF m 86 #[.val (.long q0), .second, .val (.long q1), .second, .val (.long q2), .second, .val (.long q3), .second, .val (.long q4), .second, .val (.int p5), .val (.ref b1), .val (.long z12_0), .second, .val (.long z24_0), .second, .val (.long z36_0), .second, .unset, .unset, .unset, .unset, .unset] [(.long q3)])) := fun t k => G49 t (XS.lload X7.here hx rfl (hb hby at_84) rfl k)
      exact ⟨_, (if_pos hc48).symm, G50⟩
    · have G51 : own_Go p.tables e below (s₁.setTop (entryFrame m #[(.long q0), (.long q1), (.long q2), (.long q3), (.long q4), (.int p5)] maxLocals)) (T7.setTop (mkF m 76 #[.val (.long q0), .second, .val (.long q1), .second, .val (.long q2), .second, .val (.long q3), .second, .val (.long q4), .second, .val (.int p5), .val (.ref b1), .val (.long z12_0), .second, .val (.long z24_0), .second, .val (.long z36_0), .second, .unset, .unset, .unset, .unset, .unset] [])) := fun t k => G47 t (XS.ifNo X7.here hx rfl (hb hby at_73) rfl ((if0 _ _).trans (feq hc48).1) k)
      have G52 : own_Go p.tables e below (s₁.setTop (entryFrame m #[(.long q0), (.long q1), (.long q2), (.long q3), (.long q4), (.int p5)] maxLocals)) (T7.setTop (mkF m 78 #[.val (.long q0), .second, .val (.long q1), .second, .val (.long q2), .second, .val (.long q3), .second, .val (.long q4), .second, .val (.int p5), .val (.ref b1), .val (.long z12_0), .second, .val (.long z24_0), .second, .val (.long z36_0), .second, .unset, .unset, .unset, .unset, .unset] [(.long q3)])) := fun t k => G51 t (XS.lload X7.here hx rfl (hb hby at_76) rfl k)
      have G53 : own_Go p.tables e below (s₁.setTop (entryFrame m #[(.long q0), (.long q1), (.long q2), (.long q3), (.long q4), (.int p5)] maxLocals)) (T7.setTop (mkF m 80 #[.val (.long q0), .second, .val (.long q1), .second, .val (.long q2), .second, .val (.long q3), .second, .val (.long q4), .second, .val (.int p5), .val (.ref b1), .val (.long z12_0), .second, .val (.long z24_0), .second, .val (.long z36_0), .second, .unset, .unset, .unset, .unset, .unset] [(.long q4), (.long q3)])) := fun t k => G52 t (XS.lload X7.here hx rfl (hb hby at_78) rfl k)
      have G54 : own_Go p.tables e below (s₁.setTop (entryFrame m #[(.long q0), (.long q1), (.long q2), (.long q3), (.long q4), (.int p5)] maxLocals)) (T7.setTop (mkF m 81 #[.val (.long q0), .second, .val (.long q1), .second, .val (.long q2), .second, .val (.long q3), .second, .val (.long q4), .second, .val (.int p5), .val (.ref b1), .val (.long z12_0), .second, .val (.long z24_0), .second, .val (.long z36_0), .second, .unset, .unset, .unset, .unset, .unset] [(.long (q3 ^^^ q4))])) := fun t k => G53 t (XS.lxor X7.here hx rfl (hb hby at_80) rfl k)
      have G55 : own_Go p.tables e below (s₁.setTop (entryFrame m #[(.long q0), (.long q1), (.long q2), (.long q3), (.long q4), (.int p5)] maxLocals)) (T7.setTop (mkF m 86 #[.val (.long q0), .second, .val (.long q1), .second, .val (.long q2), .second, .val (.long q3), .second, .val (.long q4), .second, .val (.int p5), .val (.ref b1), .val (.long z12_0), .second, .val (.long z24_0), .second, .val (.long z36_0), .second, .unset, .unset, .unset, .unset, .unset] [(.long (q3 ^^^ q4))])) := fun t k => G54 t (XS.goto X7.here hx rfl (pc0 := 81) (pc' := 86) rfl (hb hby at_81) (by decide) (by decide) k)
      exact ⟨_, (if_neg hc48).symm, G55⟩
  have G56 : own_Go p.tables e below (s₁.setTop (entryFrame m #[(.long q0), (.long q1), (.long q2), (.long q3), (.long q4), (.int p5)] maxLocals)) (T7.setTop (mkF m 88 #[.val (.long q0), .second, .val (.long q1), .second, .val (.long q2), .second, .val (.long q3), .second, .val (.long q4), .second, .val (.int p5), .val (.ref b1), .val (.long z12_0), .second, .val (.long z24_0), .second, .val (.long z36_0), .second, .val (.long z48_0), .second, .unset, .unset, .unset] [])) := fun t k => G48 t (XS.lstore X7.here hx rfl (hb hby at_86) rfl (l' := #[.val (.long q0), .second, .val (.long q1), .second, .val (.long q2), .second, .val (.long q3), .second, .val (.long q4), .second, .val (.int p5), .val (.ref b1), .val (.long z12_0), .second, .val (.long z24_0), .second, .val (.long z36_0), .second, .val (.long z48_0), .second, .unset, .unset, .unset]) rfl k)
  obtain ⟨T57, h57, X57, e57, E57, A57, D57, U57, st57⟩ := newO X7 hx hZ hown (hw _ (List.mem_of_getElem? (i := 0) rfl)) (hw _ (List.mem_of_getElem? (i := 1) rfl)) (hw _ (List.mem_of_getElem? (i := 2) rfl)) rfl (g := (mkF m 88 #[.val (.long q0), .second, .val (.long q1), .second, .val (.long q2), .second, .val (.long q3), .second, .val (.long q4), .second, .val (.int p5), .val (.ref b1), .val (.long z12_0), .second, .val (.long z24_0), .second, .val (.long z36_0), .second, .val (.long z48_0), .second, .unset, .unset, .unset] [])) rfl (hb hby at_88) (by decide) (by decide)
  obtain ⟨b57, g57⟩ : ∃ z, z = T7.heap.size := ⟨_, rfl⟩
  rw [← g57] at A57 D57 U57 st57
  have ne_b1_b57 : b1 ≠ b57 := Nat.ne_of_lt (Nat.lt_of_lt_of_le g7_0.lt (Nat.le_of_eq g57.symm))
  have gn_b57 : Z.heap.size ≤ b57 := Nat.le_trans O7.2.1 (Nat.le_of_eq g57.symm)
  have sz_b57 : h0.size ≤ b57 := Nat.le_trans K7.1 (Nat.le_of_eq g57.symm)
  have O57 := O7.ext E57
  have K57 := K7.ext E57
  have F57_requestId : Fld Z h57 b57 "com/example/vernal_pool/vernalpool/cli/TraceRequest" "requestId" "J" (.long (0 : Int64)) := D57 (Or.inr (hw _ (List.mem_of_getElem? (i := 10) rfl))) (ty := .long) (by decide)
  have F57_appId : Fld Z h57 b57 "com/example/vernal_pool/vernalpool/cli/TraceRequest" "appId" "J" (.long (0 : Int64)) := D57 (Or.inr (hw _ (List.mem_of_getElem? (i := 12) rfl))) (ty := .long) (by decide)
  have F57_startOffsetUs : Fld Z h57 b57 "com/example/vernal_pool/vernalpool/cli/TraceRequest" "startOffsetUs" "J" (.long (0 : Int64)) := D57 (Or.inr (hw _ (List.mem_of_getElem? (i := 14) rfl))) (ty := .long) (by decide)
  have F57_execUs : Fld Z h57 b57 "com/example/vernal_pool/vernalpool/cli/TraceRequest" "execUs" "J" (.long (0 : Int64)) := D57 (Or.inr (hw _ (List.mem_of_getElem? (i := 16) rfl))) (ty := .long) (by decide)
  have G57 : own_Go p.tables e below (s₁.setTop (entryFrame m #[(.long q0), (.long q1), (.long q2), (.long q3), (.long q4), (.int p5)] maxLocals)) (T57.setTop (mkF m 91 #[.val (.long q0), .second, .val (.long q1), .second, .val (.long q2), .second, .val (.long q3), .second, .val (.long q4), .second, .val (.int p5), .val (.ref b1), .val (.long z12_0), .second, .val (.long z24_0), .second, .val (.long z36_0), .second, .val (.long z48_0), .second, .unset, .unset, .unset] [(.ref b57)])) := fun t k => G56 t (st57 t k)
  have G58 : own_Go p.tables e below (s₁.setTop (entryFrame m #[(.long q0), (.long q1), (.long q2), (.long q3), (.long q4), (.int p5)] maxLocals)) (T57.setTop (mkF m 92 #[.val (.long q0), .second, .val (.long q1), .second, .val (.long q2), .second, .val (.long q3), .second, .val (.long q4), .second, .val (.int p5), .val (.ref b1), .val (.long z12_0), .second, .val (.long z24_0), .second, .val (.long z36_0), .second, .val (.long z48_0), .second, .unset, .unset, .unset] [(.ref b57), (.ref b57)])) := fun t k => G57 t (XS.dup X57.here hx rfl (hb hby at_91) rfl rfl k)
  have G59 : own_Go p.tables e below (s₁.setTop (entryFrame m #[(.long q0), (.long q1), (.long q2), (.long q3), (.long q4), (.int p5)] maxLocals)) (T57.setTop (mkF m 94 #[.val (.long q0), .second, .val (.long q1), .second, .val (.long q2), .second, .val (.long q3), .second, .val (.long q4), .second, .val (.int p5), .val (.ref b1), .val (.long z12_0), .second, .val (.long z24_0), .second, .val (.long z36_0), .second, .val (.long z48_0), .second, .unset, .unset, .unset] [(.long z12_0), (.ref b57), (.ref b57)])) := fun t k => G58 t (XS.lload X57.here hx rfl (hb hby at_92) rfl k)
  have G60 : own_Go p.tables e below (s₁.setTop (entryFrame m #[(.long q0), (.long q1), (.long q2), (.long q3), (.long q4), (.int p5)] maxLocals)) (T57.setTop (mkF m 96 #[.val (.long q0), .second, .val (.long q1), .second, .val (.long q2), .second, .val (.long q3), .second, .val (.long q4), .second, .val (.int p5), .val (.ref b1), .val (.long z12_0), .second, .val (.long z24_0), .second, .val (.long z36_0), .second, .val (.long z48_0), .second, .unset, .unset, .unset] [(.long z24_0), (.long z12_0), (.ref b57), (.ref b57)])) := fun t k => G59 t (XS.lload X57.here hx rfl (hb hby at_94) rfl k)
  have G61 : own_Go p.tables e below (s₁.setTop (entryFrame m #[(.long q0), (.long q1), (.long q2), (.long q3), (.long q4), (.int p5)] maxLocals)) (T57.setTop (mkF m 98 #[.val (.long q0), .second, .val (.long q1), .second, .val (.long q2), .second, .val (.long q3), .second, .val (.long q4), .second, .val (.int p5), .val (.ref b1), .val (.long z12_0), .second, .val (.long z24_0), .second, .val (.long z36_0), .second, .val (.long z48_0), .second, .unset, .unset, .unset] [(.long z36_0), (.long z24_0), (.long z12_0), (.ref b57), (.ref b57)])) := fun t k => G60 t (XS.lload X57.here hx rfl (hb hby at_96) rfl k)
  have G62 : own_Go p.tables e below (s₁.setTop (entryFrame m #[(.long q0), (.long q1), (.long q2), (.long q3), (.long q4), (.int p5)] maxLocals)) (T57.setTop (mkF m 100 #[.val (.long q0), .second, .val (.long q1), .second, .val (.long q2), .second, .val (.long q3), .second, .val (.long q4), .second, .val (.int p5), .val (.ref b1), .val (.long z12_0), .second, .val (.long z24_0), .second, .val (.long z36_0), .second, .val (.long z48_0), .second, .unset, .unset, .unset] [(.long z48_0), (.long z36_0), (.long z24_0), (.long z12_0), (.ref b57), (.ref b57)])) := fun t k => G61 t (XS.lload X57.here hx rfl (hb hby at_98) rfl k)
  obtain ⟨vv63, _, ⟨T63, L63, k63, n63⟩, -, X63, ⟨Lc63, hQ63, l63, y63, z63⟩, st63⟩ := X57.specialBack hx (y := (⟨"com/example/vernal_pool/vernalpool/cli/TraceRequest", "<init>", "(JJJJ)V"⟩ : MethodName)) rfl hown (mvT hZ (hw _ (List.mem_of_getElem? (i := 3) rfl))) (mvT hZ (hw _ (List.mem_of_getElem? (i := 4) rfl))) (mvT hZ (hw _ (List.mem_of_getElem? (i := 5) rfl))) (by decide) (backOf (W := 1) (rm1 l Z aw hw [] b57 z12_0 z24_0 z36_0 z48_0  h57 O57 gn_b57 A57 F57_requestId F57_appId F57_startOffsetUs F57_execUs ) hZ (hw _ (List.mem_of_getElem? (i := 5) rfl)) (hw _ (List.mem_of_getElem? (i := 2) rfl)) (by decide) (by decide)) (g := (mkF m 100 #[.val (.long q0), .second, .val (.long q1), .second, .val (.long q2), .second, .val (.long q3), .second, .val (.long q4), .second, .val (.int p5), .val (.ref b1), .val (.long z12_0), .second, .val (.long z24_0), .second, .val (.long z36_0), .second, .val (.long z48_0), .second, .unset, .unset, .unset] [(.long z48_0), (.long z36_0), (.long z24_0), (.long z12_0), (.ref b57), (.ref b57)])) rfl (by rw [hml]; rfl) (Steps.refl _) (a := b57) (argsL := [(.long z12_0), (.long z24_0), (.long z36_0), (.long z48_0)]) (rest := [(.ref b57)]) (lenOf pd_0_2 rfl) rfl (by show 2 * 0 + _ ≤ _; exact Nat.le_of_eq rfl) (hb hby at_100) (fun _ _ => ⟨rfl, e57, (by decide : 2 + 0 ≤ _), (by decide : 8 + 0 ≤ _)⟩)
  dsimp only [Pt.U, Pt.locs, Pt.cells, Pt.slots] at X63 l63 y63 z63 st63 hQ63
  subst l63 y63 z63
  obtain ⟨rfl, Nq63, Kq63, g63_0, g63_1, g63_2, g63_3, g63_4⟩ := hQ63
  have N63 := Fr.app N7 Nq63
  have O63 := O57.keep Kq63 (allS gn_b57 all0)
  have K63 := K57.trans Kq63 (allS (Or.inr sz_b57) all0)
  have G63 : own_Go p.tables e below (s₁.setTop (entryFrame m #[(.long q0), (.long q1), (.long q2), (.long q3), (.long q4), (.int p5)] maxLocals)) (T63.setTop (mkF m 103 #[.val (.long q0), .second, .val (.long q1), .second, .val (.long q2), .second, .val (.long q3), .second, .val (.long q4), .second, .val (.int p5), .val (.ref b1), .val (.long z12_0), .second, .val (.long z24_0), .second, .val (.long z36_0), .second, .val (.long z48_0), .second, .unset, .unset, .unset] [(.ref b57)])) := fun t k => G62 t (st63.trans k)
  have G64 : own_Go p.tables e below (s₁.setTop (entryFrame m #[(.long q0), (.long q1), (.long q2), (.long q3), (.long q4), (.int p5)] maxLocals)) (T63.setTop (mkF m 105 #[.val (.long q0), .second, .val (.long q1), .second, .val (.long q2), .second, .val (.long q3), .second, .val (.long q4), .second, .val (.int p5), .val (.ref b1), .val (.long z12_0), .second, .val (.long z24_0), .second, .val (.long z36_0), .second, .val (.long z48_0), .second, .val (.ref b57), .unset, .unset] [])) := fun t k => G63 t (XS.astore X63.here hx rfl (hb hby at_103) rfl rfl (l' := #[.val (.long q0), .second, .val (.long q1), .second, .val (.long q2), .second, .val (.long q3), .second, .val (.long q4), .second, .val (.int p5), .val (.ref b1), .val (.long z12_0), .second, .val (.long z24_0), .second, .val (.long z36_0), .second, .val (.long z48_0), .second, .val (.ref b57), .unset, .unset]) rfl k)
  have G65 : own_Go p.tables e below (s₁.setTop (entryFrame m #[(.long q0), (.long q1), (.long q2), (.long q3), (.long q4), (.int p5)] maxLocals)) (T63.setTop (mkF m 107 #[.val (.long q0), .second, .val (.long q1), .second, .val (.long q2), .second, .val (.long q3), .second, .val (.long q4), .second, .val (.int p5), .val (.ref b1), .val (.long z12_0), .second, .val (.long z24_0), .second, .val (.long z36_0), .second, .val (.long z48_0), .second, .val (.ref b57), .unset, .unset] [(.int p5)])) := fun t k => G64 t (XS.iload X63.here hx rfl (hb hby at_105) rfl k)
  have G66 : own_Go p.tables e below (s₁.setTop (entryFrame m #[(.long q0), (.long q1), (.long q2), (.long q3), (.long q4), (.int p5)] maxLocals)) (T63.setTop (mkF m 108 #[.val (.long q0), .second, .val (.long q1), .second, .val (.long q2), .second, .val (.long q3), .second, .val (.long q4), .second, .val (.int p5), .val (.ref b1), .val (.long z12_0), .second, .val (.long z24_0), .second, .val (.long z36_0), .second, .val (.long z48_0), .second, .val (.ref b57), .unset, .unset] [(.int (4 : Int32)), (.int p5)])) := fun t k => G65 t (XT.iconstV X63.here hx rfl (4 : Int32) (hb hby at_107) (by decide) k)
  have G67 : own_Go p.tables e below (s₁.setTop (entryFrame m #[(.long q0), (.long q1), (.long q2), (.long q3), (.long q4), (.int p5)] maxLocals)) (T63.setTop (mkF m 109 #[.val (.long q0), .second, .val (.long q1), .second, .val (.long q2), .second, .val (.long q3), .second, .val (.long q4), .second, .val (.int p5), .val (.ref b1), .val (.long z12_0), .second, .val (.long z24_0), .second, .val (.long z36_0), .second, .val (.long z48_0), .second, .val (.ref b57), .unset, .unset] [(.int ((p5.toUInt32 >>> ((4 : Int32) &&& 31).toUInt32).toInt32))])) := fun t k => G66 t (XS.iushr X63.here hx rfl (hb hby at_108) rfl k)
  have G68 : own_Go p.tables e below (s₁.setTop (entryFrame m #[(.long q0), (.long q1), (.long q2), (.long q3), (.long q4), (.int p5)] maxLocals)) (T63.setTop (mkF m 110 #[.val (.long q0), .second, .val (.long q1), .second, .val (.long q2), .second, .val (.long q3), .second, .val (.long q4), .second, .val (.int p5), .val (.ref b1), .val (.long z12_0), .second, .val (.long z24_0), .second, .val (.long z36_0), .second, .val (.long z48_0), .second, .val (.ref b57), .unset, .unset] [(.int (3 : Int32)), (.int ((p5.toUInt32 >>> ((4 : Int32) &&& 31).toUInt32).toInt32))])) := fun t k => G67 t (XT.iconstV X63.here hx rfl (3 : Int32) (hb hby at_109) (by decide) k)
  have G69 : own_Go p.tables e below (s₁.setTop (entryFrame m #[(.long q0), (.long q1), (.long q2), (.long q3), (.long q4), (.int p5)] maxLocals)) (T63.setTop (mkF m 111 #[.val (.long q0), .second, .val (.long q1), .second, .val (.long q2), .second, .val (.long q3), .second, .val (.long q4), .second, .val (.int p5), .val (.ref b1), .val (.long z12_0), .second, .val (.long z24_0), .second, .val (.long z36_0), .second, .val (.long z48_0), .second, .val (.ref b57), .unset, .unset] [(.int (((p5.toUInt32 >>> ((4 : Int32) &&& 31).toUInt32).toInt32) &&& (3 : Int32)))])) := fun t k => G68 t (XS.iand X63.here hx rfl (hb hby at_110) rfl k)
  have G70 : own_Go p.tables e below (s₁.setTop (entryFrame m #[(.long q0), (.long q1), (.long q2), (.long q3), (.long q4), (.int p5)] maxLocals)) (T63.setTop (mkF m 113 #[.val (.long q0), .second, .val (.long q1), .second, .val (.long q2), .second, .val (.long q3), .second, .val (.long q4), .second, .val (.int p5), .val (.ref b1), .val (.long z12_0), .second, .val (.long z24_0), .second, .val (.long z36_0), .second, .val (.long z48_0), .second, .val (.ref b57), .val (.int (((p5.toUInt32 >>> ((4 : Int32) &&& 31).toUInt32).toInt32) &&& (3 : Int32))), .unset] [])) := fun t k => G69 t (XS.istore X63.here hx rfl (hb hby at_111) rfl (l' := #[.val (.long q0), .second, .val (.long q1), .second, .val (.long q2), .second, .val (.long q3), .second, .val (.long q4), .second, .val (.int p5), .val (.ref b1), .val (.long z12_0), .second, .val (.long z24_0), .second, .val (.long z36_0), .second, .val (.long z48_0), .second, .val (.ref b57), .val (.int (((p5.toUInt32 >>> ((4 : Int32) &&& 31).toUInt32).toInt32) &&& (3 : Int32))), .unset]) rfl k)
  obtain ⟨z71, hz71, G71⟩ : ∃ z71 : Int32, z71 = (((p5.toUInt32 >>> ((4 : Int32) &&& 31).toUInt32).toInt32) &&& (3 : Int32)) ∧ own_Go p.tables e below (s₁.setTop (entryFrame m #[(.long q0), (.long q1), (.long q2), (.long q3), (.long q4), (.int p5)] maxLocals)) (T63.setTop (mkF m 113 #[.val (.long q0), .second, .val (.long q1), .second, .val (.long q2), .second, .val (.long q3), .second, .val (.long q4), .second, .val (.int p5), .val (.ref b1), .val (.long z12_0), .second, .val (.long z24_0), .second, .val (.long z36_0), .second, .val (.long z48_0), .second, .val (.ref b57), .val (.int z71), .unset] [])) := ⟨_, rfl, G70⟩
  have G72 : own_Go p.tables e below (s₁.setTop (entryFrame m #[(.long q0), (.long q1), (.long q2), (.long q3), (.long q4), (.int p5)] maxLocals)) (T63.setTop (mkF m 115 #[.val (.long q0), .second, .val (.long q1), .second, .val (.long q2), .second, .val (.long q3), .second, .val (.long q4), .second, .val (.int p5), .val (.ref b1), .val (.long z12_0), .second, .val (.long z24_0), .second, .val (.long z36_0), .second, .val (.long z48_0), .second, .val (.ref b57), .val (.int z71), .unset] [(.int z71)])) := fun t k => G71 t (XS.iload X63.here hx rfl (hb hby at_113) rfl k)
  by_cases hc73 : z71 = (0 : Int32)
  · have G74 : own_Go p.tables e below (s₁.setTop (entryFrame m #[(.long q0), (.long q1), (.long q2), (.long q3), (.long q4), (.int p5)] maxLocals)) (T63.setTop (mkF m 118 #[.val (.long q0), .second, .val (.long q1), .second, .val (.long q2), .second, .val (.long q3), .second, .val (.long q4), .second, .val (.int p5), .val (.ref b1), .val (.long z12_0), .second, .val (.long z24_0), .second, .val (.long z36_0), .second, .val (.long z48_0), .second, .val (.ref b57), .val (.int z71), .unset] [])) := fun t k => G72 t (XS.ifNo X63.here hx rfl (hb hby at_115) rfl ((if0 _ _).trans (teq hc73).2) k)
    have G75 : own_Go p.tables e below (s₁.setTop (entryFrame m #[(.long q0), (.long q1), (.long q2), (.long q3), (.long q4), (.int p5)] maxLocals)) (T63.setTop (mkF m 120 #[.val (.long q0), .second, .val (.long q1), .second, .val (.long q2), .second, .val (.long q3), .second, .val (.long q4), .second, .val (.int p5), .val (.ref b1), .val (.long z12_0), .second, .val (.long z24_0), .second, .val (.long z36_0), .second, .val (.long z48_0), .second, .val (.ref b57), .val (.int z71), .unset] [(.long q4)])) := fun t k => G74 t (XS.lload X63.here hx rfl (hb hby at_118) rfl k)
    have G76 : own_Go p.tables e below (s₁.setTop (entryFrame m #[(.long q0), (.long q1), (.long q2), (.long q3), (.long q4), (.int p5)] maxLocals)) (T63.setTop (mkF m 121 #[.val (.long q0), .second, .val (.long q1), .second, .val (.long q2), .second, .val (.long q3), .second, .val (.long q4), .second, .val (.int p5), .val (.ref b1), .val (.long z12_0), .second, .val (.long z24_0), .second, .val (.long z36_0), .second, .val (.long z48_0), .second, .val (.ref b57), .val (.int z71), .unset] [(.long (0 : Int64)), (.long q4)])) := fun t k => G75 t (XT.lconstV X63.here hx rfl (0 : Int64) (hb hby at_120) (by decide) k)
    have G77 : own_Go p.tables e below (s₁.setTop (entryFrame m #[(.long q0), (.long q1), (.long q2), (.long q3), (.long q4), (.int p5)] maxLocals)) (T63.setTop (mkF m 122 #[.val (.long q0), .second, .val (.long q1), .second, .val (.long q2), .second, .val (.long q3), .second, .val (.long q4), .second, .val (.int p5), .val (.ref b1), .val (.long z12_0), .second, .val (.long z24_0), .second, .val (.long z36_0), .second, .val (.long z48_0), .second, .val (.ref b57), .val (.int z71), .unset] [(.int (lcmpW q4 (0 : Int64)))])) := fun t k => G76 t (XS.lcmp X63.here hx rfl (hb hby at_121) rfl k)
    obtain ⟨z78_0, hz78_0, G78⟩ : ∃ (z78_0 : Int32), z78_0 = (if q4 = (0 : Int64) then (1 : Int32) else (if (p5 &&& (15 : Int32)) = (0 : Int32) then (1 : Int32) else (0 : Int32))) ∧ own_Go p.tables e below (s₁.setTop (entryFrame m #[(.long q0), (.long q1), (.long q2), (.long q3), (.long q4), (.int p5)] maxLocals)) (T63.setTop (mkF m 138 #[.val (.long q0), .second, .val (.long q1), .second, .val (.long q2), .second, .val (.long q3), .second, .val (.long q4), .second, .val (.int p5), .val (.ref b1), .val (.long z12_0), .second, .val (.long z24_0), .second, .val (.long z36_0), .second, .val (.long z48_0), .second, .val (.ref b57), .val (.int z71), .unset] [(.int z78_0)])) := by
      by_cases hc78 : q4 = (0 : Int64)
      · have G79 : own_Go p.tables e below (s₁.setTop (entryFrame m #[(.long q0), (.long q1), (.long q2), (.long q3), (.long q4), (.int p5)] maxLocals)) (T63.setTop (mkF m 133 #[.val (.long q0), .second, .val (.long q1), .second, .val (.long q2), .second, .val (.long q3), .second, .val (.long q4), .second, .val (.int p5), .val (.ref b1), .val (.long z12_0), .second, .val (.long z24_0), .second, .val (.long z36_0), .second, .val (.long z48_0), .second, .val (.ref b57), .val (.int z71), .unset] [])) := fun t k => G77 t (XS.ifYes X63.here hx rfl (pc0 := 122) (pc' := 133) rfl (hb hby at_122) rfl ((if0 _ _).trans (teq (((lw_eq _ _).mpr hc78) : (lcmpW q4 (0 : Int64)) = (0 : Int32))).1) (by decide) (by decide) k)
        have G80 : own_Go p.tables e below (s₁.setTop (entryFrame m #[(.long q0), (.long q1), (.long q2), (.long q3), (.long q4), (.int p5)] maxLocals)) (T63.setTop (mkF m 134 #[.val (.long q0), .second, .val (.long q1), .second, .val (.long q2), .second, .val (.long q3), .second, .val (.long q4), .second, .val (.int p5), .val (.ref b1), .val (.long z12_0), .second, .val (.long z24_0), .second, .val (.long z36_0), .second, .val (.long z48_0), .second, .val (.ref b57), .val (.int z71), .unset] [(.int (1 : Int32))])) := fun t k => G79 t (XT.iconstV X63.here hx rfl (1 : Int32) (hb hby at_133) (by decide) k)
        have G81 : own_Go p.tables e below (s₁.setTop (entryFrame m #[(.long q0), (.long q1), (.long q2), (.long q3), (.long q4), (.int p5)] maxLocals)) (T63.setTop (mkF m 138 #[.val (.long q0), .second, .val (.long q1), .second, .val (.long q2), .second, .val (.long q3), .second, .val (.long q4), .second, .val (.int p5), .val (.ref b1), .val (.long z12_0), .second, .val (.long z24_0), .second, .val (.long z36_0), .second, .val (.long z48_0), .second, .val (.ref b57), .val (.int z71), .unset] [(.int (1 : Int32))])) := fun t k => G80 t (XS.goto X63.here hx rfl (pc0 := 134) (pc' := 138) rfl (hb hby at_134) (by decide) (by decide) k)
        exact ⟨_, (if_pos hc78).symm, G81⟩
      · have G82 : own_Go p.tables e below (s₁.setTop (entryFrame m #[(.long q0), (.long q1), (.long q2), (.long q3), (.long q4), (.int p5)] maxLocals)) (T63.setTop (mkF m 125 #[.val (.long q0), .second, .val (.long q1), .second, .val (.long q2), .second, .val (.long q3), .second, .val (.long q4), .second, .val (.int p5), .val (.ref b1), .val (.long z12_0), .second, .val (.long z24_0), .second, .val (.long z36_0), .second, .val (.long z48_0), .second, .val (.ref b57), .val (.int z71), .unset] [])) := fun t k => G77 t (XS.ifNo X63.here hx rfl (hb hby at_122) rfl ((if0 _ _).trans (feq ((fun q => hc78 ((lw_eq _ _).mp q)) : ¬ ((lcmpW q4 (0 : Int64)) = (0 : Int32)))).1) k)
        have G83 : own_Go p.tables e below (s₁.setTop (entryFrame m #[(.long q0), (.long q1), (.long q2), (.long q3), (.long q4), (.int p5)] maxLocals)) (T63.setTop (mkF m 127 #[.val (.long q0), .second, .val (.long q1), .second, .val (.long q2), .second, .val (.long q3), .second, .val (.long q4), .second, .val (.int p5), .val (.ref b1), .val (.long z12_0), .second, .val (.long z24_0), .second, .val (.long z36_0), .second, .val (.long z48_0), .second, .val (.ref b57), .val (.int z71), .unset] [(.int p5)])) := fun t k => G82 t (XS.iload X63.here hx rfl (hb hby at_125) rfl k)
        have G84 : own_Go p.tables e below (s₁.setTop (entryFrame m #[(.long q0), (.long q1), (.long q2), (.long q3), (.long q4), (.int p5)] maxLocals)) (T63.setTop (mkF m 129 #[.val (.long q0), .second, .val (.long q1), .second, .val (.long q2), .second, .val (.long q3), .second, .val (.long q4), .second, .val (.int p5), .val (.ref b1), .val (.long z12_0), .second, .val (.long z24_0), .second, .val (.long z36_0), .second, .val (.long z48_0), .second, .val (.ref b57), .val (.int z71), .unset] [(.int (15 : Int32)), (.int p5)])) := fun t k => G83 t (XT.bipushV X63.here hx rfl (15 : Int32) (hb hby at_127) (by decide) k)
        have G85 : own_Go p.tables e below (s₁.setTop (entryFrame m #[(.long q0), (.long q1), (.long q2), (.long q3), (.long q4), (.int p5)] maxLocals)) (T63.setTop (mkF m 130 #[.val (.long q0), .second, .val (.long q1), .second, .val (.long q2), .second, .val (.long q3), .second, .val (.long q4), .second, .val (.int p5), .val (.ref b1), .val (.long z12_0), .second, .val (.long z24_0), .second, .val (.long z36_0), .second, .val (.long z48_0), .second, .val (.ref b57), .val (.int z71), .unset] [(.int (p5 &&& (15 : Int32)))])) := fun t k => G84 t (XS.iand X63.here hx rfl (hb hby at_129) rfl k)
        obtain ⟨z86_0, rfl, G86⟩ : ∃ (z86_0 : Int32), z86_0 = (if (p5 &&& (15 : Int32)) = (0 : Int32) then (1 : Int32) else (0 : Int32)) ∧ own_Go p.tables e below (s₁.setTop (entryFrame m #[(.long q0), (.long q1), (.long q2), (.long q3), (.long q4), (.int p5)] maxLocals)) (T63.setTop (mkF m 138 #[.val (.long q0), .second, .val (.long q1), .second, .val (.long q2), .second, .val (.long q3), .second, .val (.long q4), .second, .val (.int p5), .val (.ref b1), .val (.long z12_0), .second, .val (.long z24_0), .second, .val (.long z36_0), .second, .val (.long z48_0), .second, .val (.ref b57), .val (.int z71), .unset] [(.int z86_0)])) := by
          by_cases hc86 : (p5 &&& (15 : Int32)) = (0 : Int32)
          · have G87 : own_Go p.tables e below (s₁.setTop (entryFrame m #[(.long q0), (.long q1), (.long q2), (.long q3), (.long q4), (.int p5)] maxLocals)) (T63.setTop (mkF m 133 #[.val (.long q0), .second, .val (.long q1), .second, .val (.long q2), .second, .val (.long q3), .second, .val (.long q4), .second, .val (.int p5), .val (.ref b1), .val (.long z12_0), .second, .val (.long z24_0), .second, .val (.long z36_0), .second, .val (.long z48_0), .second, .val (.ref b57), .val (.int z71), .unset] [])) := fun t k => G85 t (XS.ifNo X63.here hx rfl (hb hby at_130) rfl ((if0 _ _).trans (teq hc86).2) k)
            have G88 : own_Go p.tables e below (s₁.setTop (entryFrame m #[(.long q0), (.long q1), (.long q2), (.long q3), (.long q4), (.int p5)] maxLocals)) (T63.setTop (mkF m 134 #[.val (.long q0), .second, .val (.long q1), .second, .val (.long q2), .second, .val (.long q3), .second, .val (.long q4), .second, .val (.int p5), .val (.ref b1), .val (.long z12_0), .second, .val (.long z24_0), .second, .val (.long z36_0), .second, .val (.long z48_0), .second, .val (.ref b57), .val (.int z71), .unset] [(.int (1 : Int32))])) := fun t k => G87 t (XT.iconstV X63.here hx rfl (1 : Int32) (hb hby at_133) (by decide) k)
            have G89 : own_Go p.tables e below (s₁.setTop (entryFrame m #[(.long q0), (.long q1), (.long q2), (.long q3), (.long q4), (.int p5)] maxLocals)) (T63.setTop (mkF m 138 #[.val (.long q0), .second, .val (.long q1), .second, .val (.long q2), .second, .val (.long q3), .second, .val (.long q4), .second, .val (.int p5), .val (.ref b1), .val (.long z12_0), .second, .val (.long z24_0), .second, .val (.long z36_0), .second, .val (.long z48_0), .second, .val (.ref b57), .val (.int z71), .unset] [(.int (1 : Int32))])) := fun t k => G88 t (XS.goto X63.here hx rfl (pc0 := 134) (pc' := 138) rfl (hb hby at_134) (by decide) (by decide) k)
            exact ⟨_, (if_pos hc86).symm, G89⟩
          · have G90 : own_Go p.tables e below (s₁.setTop (entryFrame m #[(.long q0), (.long q1), (.long q2), (.long q3), (.long q4), (.int p5)] maxLocals)) (T63.setTop (mkF m 137 #[.val (.long q0), .second, .val (.long q1), .second, .val (.long q2), .second, .val (.long q3), .second, .val (.long q4), .second, .val (.int p5), .val (.ref b1), .val (.long z12_0), .second, .val (.long z24_0), .second, .val (.long z36_0), .second, .val (.long z48_0), .second, .val (.ref b57), .val (.int z71), .unset] [])) := fun t k => G85 t (XS.ifYes X63.here hx rfl (pc0 := 130) (pc' := 137) rfl (hb hby at_130) rfl ((if0 _ _).trans (feq hc86).2) (by decide) (by decide) k)
            have G91 : own_Go p.tables e below (s₁.setTop (entryFrame m #[(.long q0), (.long q1), (.long q2), (.long q3), (.long q4), (.int p5)] maxLocals)) (T63.setTop (mkF m 138 #[.val (.long q0), .second, .val (.long q1), .second, .val (.long q2), .second, .val (.long q3), .second, .val (.long q4), .second, .val (.int p5), .val (.ref b1), .val (.long z12_0), .second, .val (.long z24_0), .second, .val (.long z36_0), .second, .val (.long z48_0), .second, .val (.ref b57), .val (.int z71), .unset] [(.int (0 : Int32))])) := fun t k => G90 t (XT.iconstV X63.here hx rfl (0 : Int32) (hb hby at_137) (by decide) k)
            exact ⟨_, (if_neg hc86).symm, G91⟩
        exact ⟨_, (if_neg hc78).symm, G86⟩
    have G92 : own_Go p.tables e below (s₁.setTop (entryFrame m #[(.long q0), (.long q1), (.long q2), (.long q3), (.long q4), (.int p5)] maxLocals)) (T63.setTop (mkF m 140 #[.val (.long q0), .second, .val (.long q1), .second, .val (.long q2), .second, .val (.long q3), .second, .val (.long q4), .second, .val (.int p5), .val (.ref b1), .val (.long z12_0), .second, .val (.long z24_0), .second, .val (.long z36_0), .second, .val (.long z48_0), .second, .val (.ref b57), .val (.int z71), .val (.int z78_0)] [])) := fun t k => G78 t (XS.istore X63.here hx rfl (hb hby at_138) rfl (l' := #[.val (.long q0), .second, .val (.long q1), .second, .val (.long q2), .second, .val (.long q3), .second, .val (.long q4), .second, .val (.int p5), .val (.ref b1), .val (.long z12_0), .second, .val (.long z24_0), .second, .val (.long z36_0), .second, .val (.long z48_0), .second, .val (.ref b57), .val (.int z71), .val (.int z78_0)]) rfl k)
    have G93 : own_Go p.tables e below (s₁.setTop (entryFrame m #[(.long q0), (.long q1), (.long q2), (.long q3), (.long q4), (.int p5)] maxLocals)) (T63.setTop (mkF m 142 #[.val (.long q0), .second, .val (.long q1), .second, .val (.long q2), .second, .val (.long q3), .second, .val (.long q4), .second, .val (.int p5), .val (.ref b1), .val (.long z12_0), .second, .val (.long z24_0), .second, .val (.long z36_0), .second, .val (.long z48_0), .second, .val (.ref b57), .val (.int z71), .val (.int z78_0)] [(.ref b1)])) := fun t k => G92 t (XS.aload X63.here hx rfl (hb hby at_140) rfl rfl k)
    have G94 : own_Go p.tables e below (s₁.setTop (entryFrame m #[(.long q0), (.long q1), (.long q2), (.long q3), (.long q4), (.int p5)] maxLocals)) (T63.setTop (mkF m 144 #[.val (.long q0), .second, .val (.long q1), .second, .val (.long q2), .second, .val (.long q3), .second, .val (.long q4), .second, .val (.int p5), .val (.ref b1), .val (.long z12_0), .second, .val (.long z24_0), .second, .val (.long z36_0), .second, .val (.long z48_0), .second, .val (.ref b57), .val (.int z71), .val (.int z78_0)] [(.ref b57), (.ref b1)])) := fun t k => G93 t (XS.aload X63.here hx rfl (hb hby at_142) rfl rfl k)
    have f95 : Exa Z T63.heap b1 "com/example/vernal_pool/vernalpool/cli/TraceRequest" := ((g7_0.ext E57).keep Kq63)
    have f96 : Fld Z T63.heap b1 "com/example/vernal_pool/vernalpool/cli/TraceRequest" "requestId" "J" (.long q0) := ((g7_1.ext E57).keep Kq63 (ninS ne_b1_b57 nin0))
    have f97 : Fld Z T63.heap b1 "com/example/vernal_pool/vernalpool/cli/TraceRequest" "appId" "J" (.long q1) := ((g7_2.ext E57).keep Kq63 (ninS ne_b1_b57 nin0))
    have f98 : Fld Z T63.heap b1 "com/example/vernal_pool/vernalpool/cli/TraceRequest" "startOffsetUs" "J" (.long q2) := ((g7_3.ext E57).keep Kq63 (ninS ne_b1_b57 nin0))
    have f99 : Fld Z T63.heap b1 "com/example/vernal_pool/vernalpool/cli/TraceRequest" "execUs" "J" (.long q3) := ((g7_4.ext E57).keep Kq63 (ninS ne_b1_b57 nin0))
    obtain ⟨cq100, kq100, q100a, q100b, q100c⟩ := isOf hZ rfl f95
    obtain ⟨vv100, _, ⟨T100, L100, k100, n100⟩, -, X100, ⟨Lc100, hQ100, l100, y100, z100⟩, st100⟩ := X63.virtualBack hx (y := (⟨"com/example/vernal_pool/vernalpool/cli/TraceRequest", "equals", "(Ljava/lang/Object;)Z"⟩ : MethodName)) (z := (⟨"com/example/vernal_pool/vernalpool/cli/TraceRequest", "equals", "(Ljava/lang/Object;)Z"⟩ : MethodName)) hown (mvT hZ (hw _ (List.mem_of_getElem? (i := 17) rfl))) (mvT hZ (hw _ (List.mem_of_getElem? (i := 18) rfl))) (notFace_of_selects (args := #[]) (mvT hZ (hw _ (List.mem_of_getElem? (i := 20) rfl)))) (mvT hZ (hw _ (List.mem_of_getElem? (i := 20) rfl))) (mvT hZ (hw _ (List.mem_of_getElem? (i := 19) rfl))) (by decide) (backOf (W := 0) (rm3 l Z aw hw [] b1 b57 q0 q1 q2 q3 z12_0 z24_0 z36_0 z48_0 T63.heap ne_b1_b57 g63_0 f96 g63_1 f97 g63_2 f98 g63_3 f99 g63_4) hZ (hw _ (List.mem_of_getElem? (i := 21) rfl)) (hw _ (List.mem_of_getElem? (i := 2) rfl)) (by decide) (by decide)) q100a q100c (g := (mkF m 144 #[.val (.long q0), .second, .val (.long q1), .second, .val (.long q2), .second, .val (.long q3), .second, .val (.long q4), .second, .val (.int p5), .val (.ref b1), .val (.long z12_0), .second, .val (.long z24_0), .second, .val (.long z36_0), .second, .val (.long z48_0), .second, .val (.ref b57), .val (.int z71), .val (.int z78_0)] [(.ref b57), (.ref b1)])) rfl (by rw [hml]; rfl) (Steps.refl _) (argsL := [(.ref b57)]) (rest := []) (lenOf pd_0_3 rfl) rfl (by show 2 * 0 + _ ≤ _; exact Nat.le_of_eq rfl) (hb hby at_144) (fun _ _ => ⟨rfl, rfl, (by decide : 2 + 0 ≤ _), (by decide : 8 + 0 ≤ _)⟩)
    dsimp only [Pt.U, Pt.locs, Pt.cells, Pt.slots] at X100 l100 y100 z100 st100 hQ100
    subst l100 y100 z100
    obtain ⟨rfl, rfl, e100⟩ := hQ100
    try rw [List.append_nil] at X100
    have G100 : own_Go p.tables e below (s₁.setTop (entryFrame m #[(.long q0), (.long q1), (.long q2), (.long q3), (.long q4), (.int p5)] maxLocals)) (T100.setTop (mkF m 147 #[.val (.long q0), .second, .val (.long q1), .second, .val (.long q2), .second, .val (.long q3), .second, .val (.long q4), .second, .val (.int p5), .val (.ref b1), .val (.long z12_0), .second, .val (.long z24_0), .second, .val (.long z36_0), .second, .val (.long z48_0), .second, .val (.ref b57), .val (.int z71), .val (.int z78_0)] [(.int (if q0 = z12_0 then (if q1 = z24_0 then (if q2 = z36_0 then (if q3 = z48_0 then (1 : Int32) else (0 : Int32)) else (0 : Int32)) else (0 : Int32)) else (0 : Int32)))])) := fun t k => G94 t (st100.trans k)
    have G101 : own_Go p.tables e below (s₁.setTop (entryFrame m #[(.long q0), (.long q1), (.long q2), (.long q3), (.long q4), (.int p5)] maxLocals)) (T100.setTop (mkF m 149 #[.val (.long q0), .second, .val (.long q1), .second, .val (.long q2), .second, .val (.long q3), .second, .val (.long q4), .second, .val (.int p5), .val (.ref b1), .val (.long z12_0), .second, .val (.long z24_0), .second, .val (.long z36_0), .second, .val (.long z48_0), .second, .val (.ref b57), .val (.int z71), .val (.int z78_0)] [(.int z78_0), (.int (if q0 = z12_0 then (if q1 = z24_0 then (if q2 = z36_0 then (if q3 = z48_0 then (1 : Int32) else (0 : Int32)) else (0 : Int32)) else (0 : Int32)) else (0 : Int32)))])) := fun t k => G100 t (XS.iload X100.here hx rfl (hb hby at_147) rfl k)
    have hk102 : (if q0 = z12_0 then (if q1 = z24_0 then (if q2 = z36_0 then (if q3 = z48_0 then (1 : Int32) else (0 : Int32)) else (0 : Int32)) else (0 : Int32)) else (0 : Int32)) = z78_0 := by rw [hz78_0, hz12_0, hz24_0, hz36_0, hz48_0]; exact own_eq1 _ _ _ _ _ _
    have G103 : own_Go p.tables e below (s₁.setTop (entryFrame m #[(.long q0), (.long q1), (.long q2), (.long q3), (.long q4), (.int p5)] maxLocals)) (T100.setTop (mkF m 152 #[.val (.long q0), .second, .val (.long q1), .second, .val (.long q2), .second, .val (.long q3), .second, .val (.long q4), .second, .val (.int p5), .val (.ref b1), .val (.long z12_0), .second, .val (.long z24_0), .second, .val (.long z36_0), .second, .val (.long z48_0), .second, .val (.ref b57), .val (.int z71), .val (.int z78_0)] [])) := fun t k => G101 t (XS.icmpNo X100.here hx rfl (hb hby at_149) rfl (teq hk102).2 k)
    have G104 : own_Go p.tables e below (s₁.setTop (entryFrame m #[(.long q0), (.long q1), (.long q2), (.long q3), (.long q4), (.int p5)] maxLocals)) (T100.setTop (mkF m 154 #[.val (.long q0), .second, .val (.long q1), .second, .val (.long q2), .second, .val (.long q3), .second, .val (.long q4), .second, .val (.int p5), .val (.ref b1), .val (.long z12_0), .second, .val (.long z24_0), .second, .val (.long z36_0), .second, .val (.long z48_0), .second, .val (.ref b57), .val (.int z71), .val (.int z78_0)] [(.ref b57)])) := fun t k => G103 t (XS.aload X100.here hx rfl (hb hby at_152) rfl rfl k)
    have G105 : own_Go p.tables e below (s₁.setTop (entryFrame m #[(.long q0), (.long q1), (.long q2), (.long q3), (.long q4), (.int p5)] maxLocals)) (T100.setTop (mkF m 156 #[.val (.long q0), .second, .val (.long q1), .second, .val (.long q2), .second, .val (.long q3), .second, .val (.long q4), .second, .val (.int p5), .val (.ref b1), .val (.long z12_0), .second, .val (.long z24_0), .second, .val (.long z36_0), .second, .val (.long z48_0), .second, .val (.ref b57), .val (.int z71), .val (.int z78_0)] [(.ref b1), (.ref b57)])) := fun t k => G104 t (XS.aload X100.here hx rfl (hb hby at_154) rfl rfl k)
    obtain ⟨cq106, kq106, q106a, q106b, q106c⟩ := isOf hZ e100 g63_0
    obtain ⟨vv106, _, ⟨T106, L106, k106, n106⟩, -, X106, ⟨Lc106, hQ106, l106, y106, z106⟩, st106⟩ := X100.virtualBack hx (y := (⟨"com/example/vernal_pool/vernalpool/cli/TraceRequest", "equals", "(Ljava/lang/Object;)Z"⟩ : MethodName)) (z := (⟨"com/example/vernal_pool/vernalpool/cli/TraceRequest", "equals", "(Ljava/lang/Object;)Z"⟩ : MethodName)) hown (mvT hZ (hw _ (List.mem_of_getElem? (i := 17) rfl))) (mvT hZ (hw _ (List.mem_of_getElem? (i := 18) rfl))) (notFace_of_selects (args := #[]) (mvT hZ (hw _ (List.mem_of_getElem? (i := 20) rfl)))) (mvT hZ (hw _ (List.mem_of_getElem? (i := 20) rfl))) (mvT hZ (hw _ (List.mem_of_getElem? (i := 19) rfl))) (by decide) (backOf (W := 0) (rm3 l Z aw hw [] b57 b1 z12_0 z24_0 z36_0 z48_0 q0 q1 q2 q3 T63.heap (Ne.symm ne_b1_b57) f95 g63_1 f96 g63_2 f97 g63_3 f98 g63_4 f99) hZ (hw _ (List.mem_of_getElem? (i := 21) rfl)) (hw _ (List.mem_of_getElem? (i := 2) rfl)) (by decide) (by decide)) q106a q106c (g := (mkF m 156 #[.val (.long q0), .second, .val (.long q1), .second, .val (.long q2), .second, .val (.long q3), .second, .val (.long q4), .second, .val (.int p5), .val (.ref b1), .val (.long z12_0), .second, .val (.long z24_0), .second, .val (.long z36_0), .second, .val (.long z48_0), .second, .val (.ref b57), .val (.int z71), .val (.int z78_0)] [(.ref b1), (.ref b57)])) rfl (by rw [hml]; rfl) (Steps.refl _) (argsL := [(.ref b1)]) (rest := []) (lenOf pd_0_3 rfl) rfl (by show 2 * 0 + _ ≤ _; exact Nat.le_of_eq rfl) (hb hby at_156) (fun _ _ => ⟨rfl, e100, (by decide : 2 + 0 ≤ _), (by decide : 8 + 0 ≤ _)⟩)
    dsimp only [Pt.U, Pt.locs, Pt.cells, Pt.slots] at X106 l106 y106 z106 st106 hQ106
    subst l106 y106 z106
    obtain ⟨rfl, rfl, e106⟩ := hQ106
    try rw [List.append_nil] at X106
    have G106 : own_Go p.tables e below (s₁.setTop (entryFrame m #[(.long q0), (.long q1), (.long q2), (.long q3), (.long q4), (.int p5)] maxLocals)) (T106.setTop (mkF m 159 #[.val (.long q0), .second, .val (.long q1), .second, .val (.long q2), .second, .val (.long q3), .second, .val (.long q4), .second, .val (.int p5), .val (.ref b1), .val (.long z12_0), .second, .val (.long z24_0), .second, .val (.long z36_0), .second, .val (.long z48_0), .second, .val (.ref b57), .val (.int z71), .val (.int z78_0)] [(.int (if z12_0 = q0 then (if z24_0 = q1 then (if z36_0 = q2 then (if z48_0 = q3 then (1 : Int32) else (0 : Int32)) else (0 : Int32)) else (0 : Int32)) else (0 : Int32)))])) := fun t k => G105 t (st106.trans k)
    have G107 : own_Go p.tables e below (s₁.setTop (entryFrame m #[(.long q0), (.long q1), (.long q2), (.long q3), (.long q4), (.int p5)] maxLocals)) (T106.setTop (mkF m 161 #[.val (.long q0), .second, .val (.long q1), .second, .val (.long q2), .second, .val (.long q3), .second, .val (.long q4), .second, .val (.int p5), .val (.ref b1), .val (.long z12_0), .second, .val (.long z24_0), .second, .val (.long z36_0), .second, .val (.long z48_0), .second, .val (.ref b57), .val (.int z71), .val (.int z78_0)] [(.int z78_0), (.int (if z12_0 = q0 then (if z24_0 = q1 then (if z36_0 = q2 then (if z48_0 = q3 then (1 : Int32) else (0 : Int32)) else (0 : Int32)) else (0 : Int32)) else (0 : Int32)))])) := fun t k => G106 t (XS.iload X106.here hx rfl (hb hby at_159) rfl k)
    have hk108 : (if z12_0 = q0 then (if z24_0 = q1 then (if z36_0 = q2 then (if z48_0 = q3 then (1 : Int32) else (0 : Int32)) else (0 : Int32)) else (0 : Int32)) else (0 : Int32)) = z78_0 := by rw [hz78_0, hz12_0, hz24_0, hz36_0, hz48_0]; exact own_eq2 _ _ _ _ _ _
    have G109 : own_Go p.tables e below (s₁.setTop (entryFrame m #[(.long q0), (.long q1), (.long q2), (.long q3), (.long q4), (.int p5)] maxLocals)) (T106.setTop (mkF m 164 #[.val (.long q0), .second, .val (.long q1), .second, .val (.long q2), .second, .val (.long q3), .second, .val (.long q4), .second, .val (.int p5), .val (.ref b1), .val (.long z12_0), .second, .val (.long z24_0), .second, .val (.long z36_0), .second, .val (.long z48_0), .second, .val (.ref b57), .val (.int z71), .val (.int z78_0)] [])) := fun t k => G107 t (XS.icmpNo X106.here hx rfl (hb hby at_161) rfl (teq hk108).2 k)
    have G110 : own_Go p.tables e below (s₁.setTop (entryFrame m #[(.long q0), (.long q1), (.long q2), (.long q3), (.long q4), (.int p5)] maxLocals)) (T106.setTop (mkF m 165 #[.val (.long q0), .second, .val (.long q1), .second, .val (.long q2), .second, .val (.long q3), .second, .val (.long q4), .second, .val (.int p5), .val (.ref b1), .val (.long z12_0), .second, .val (.long z24_0), .second, .val (.long z36_0), .second, .val (.long z48_0), .second, .val (.ref b57), .val (.int z71), .val (.int z78_0)] [(.int (1 : Int32))])) := fun t k => G109 t (XT.iconstV X106.here hx rfl (1 : Int32) (hb hby at_164) (by decide) k)
    have G111 : own_Go p.tables e below (s₁.setTop (entryFrame m #[(.long q0), (.long q1), (.long q2), (.long q3), (.long q4), (.int p5)] maxLocals)) (T106.setTop (mkF m 169 #[.val (.long q0), .second, .val (.long q1), .second, .val (.long q2), .second, .val (.long q3), .second, .val (.long q4), .second, .val (.int p5), .val (.ref b1), .val (.long z12_0), .second, .val (.long z24_0), .second, .val (.long z36_0), .second, .val (.long z48_0), .second, .val (.ref b57), .val (.int z71), .val (.int z78_0)] [(.int (1 : Int32))])) := fun t k => G110 t (XS.goto X106.here hx rfl (pc0 := 165) (pc' := 169) rfl (hb hby at_165) (by decide) (by decide) k)
    obtain ⟨fs, hr, hrun, hended, hW, hsame⟩ := X106.leave (v := some (.int (nar .boolean (1 : Int32)))) (fun h => by rw [Bd.returns] at h; cases h)
    refine ⟨_, _, G111 _ ?_, hrun, hended, _, _, rfl, ?_, ⟨_, rfl⟩, hW, hsame.mono (by decide) (by decide)⟩
    · exact retN X106 hx (t := .boolean) Bd.returns (by simp) (hb hby at_169) hr
    · show Q0 Z q0 q1 q2 q3 q4 p5 aC clC vals h0 _ T106.heap _
      rw [e106]
      exact ⟨rfl, N63, K63⟩
  · have G113 : own_Go p.tables e below (s₁.setTop (entryFrame m #[(.long q0), (.long q1), (.long q2), (.long q3), (.long q4), (.int p5)] maxLocals)) (T63.setTop (mkF m 170 #[.val (.long q0), .second, .val (.long q1), .second, .val (.long q2), .second, .val (.long q3), .second, .val (.long q4), .second, .val (.int p5), .val (.ref b1), .val (.long z12_0), .second, .val (.long z24_0), .second, .val (.long z36_0), .second, .val (.long z48_0), .second, .val (.ref b57), .val (.int z71), .unset] [])) := fun t k => G72 t (XS.ifYes X63.here hx rfl (pc0 := 115) (pc' := 170) rfl (hb hby at_115) rfl ((if0 _ _).trans (feq hc73).2) (by decide) (by decide) k)
    have G114 : own_Go p.tables e below (s₁.setTop (entryFrame m #[(.long q0), (.long q1), (.long q2), (.long q3), (.long q4), (.int p5)] maxLocals)) (T63.setTop (mkF m 172 #[.val (.long q0), .second, .val (.long q1), .second, .val (.long q2), .second, .val (.long q3), .second, .val (.long q4), .second, .val (.int p5), .val (.ref b1), .val (.long z12_0), .second, .val (.long z24_0), .second, .val (.long z36_0), .second, .val (.long z48_0), .second, .val (.ref b57), .val (.int z71), .unset] [(.int z71)])) := fun t k => G113 t (XS.iload X63.here hx rfl (hb hby at_170) rfl k)
    have G115 : own_Go p.tables e below (s₁.setTop (entryFrame m #[(.long q0), (.long q1), (.long q2), (.long q3), (.long q4), (.int p5)] maxLocals)) (T63.setTop (mkF m 173 #[.val (.long q0), .second, .val (.long q1), .second, .val (.long q2), .second, .val (.long q3), .second, .val (.long q4), .second, .val (.int p5), .val (.ref b1), .val (.long z12_0), .second, .val (.long z24_0), .second, .val (.long z36_0), .second, .val (.long z48_0), .second, .val (.ref b57), .val (.int z71), .unset] [(.int (1 : Int32)), (.int z71)])) := fun t k => G114 t (XT.iconstV X63.here hx rfl (1 : Int32) (hb hby at_172) (by decide) k)
    by_cases hc116 : z71 = (1 : Int32)
    · have G117 : own_Go p.tables e below (s₁.setTop (entryFrame m #[(.long q0), (.long q1), (.long q2), (.long q3), (.long q4), (.int p5)] maxLocals)) (T63.setTop (mkF m 176 #[.val (.long q0), .second, .val (.long q1), .second, .val (.long q2), .second, .val (.long q3), .second, .val (.long q4), .second, .val (.int p5), .val (.ref b1), .val (.long z12_0), .second, .val (.long z24_0), .second, .val (.long z36_0), .second, .val (.long z48_0), .second, .val (.ref b57), .val (.int z71), .unset] [])) := fun t k => G115 t (XS.icmpNo X63.here hx rfl (hb hby at_173) rfl (teq hc116).2 k)
      have G118 : own_Go p.tables e below (s₁.setTop (entryFrame m #[(.long q0), (.long q1), (.long q2), (.long q3), (.long q4), (.int p5)] maxLocals)) (T63.setTop (mkF m 178 #[.val (.long q0), .second, .val (.long q1), .second, .val (.long q2), .second, .val (.long q3), .second, .val (.long q4), .second, .val (.int p5), .val (.ref b1), .val (.long z12_0), .second, .val (.long z24_0), .second, .val (.long z36_0), .second, .val (.long z48_0), .second, .val (.ref b57), .val (.int z71), .unset] [(.ref b1)])) := fun t k => G117 t (XS.aload X63.here hx rfl (hb hby at_176) rfl rfl k)
      have G119 : own_Go p.tables e below (s₁.setTop (entryFrame m #[(.long q0), (.long q1), (.long q2), (.long q3), (.long q4), (.int p5)] maxLocals)) (T63.setTop (mkF m 180 #[.val (.long q0), .second, .val (.long q1), .second, .val (.long q2), .second, .val (.long q3), .second, .val (.long q4), .second, .val (.int p5), .val (.ref b1), .val (.long z12_0), .second, .val (.long z24_0), .second, .val (.long z36_0), .second, .val (.long z48_0), .second, .val (.ref b57), .val (.int z71), .unset] [(.ref b1), (.ref b1)])) := fun t k => G118 t (XS.aload X63.here hx rfl (hb hby at_178) rfl rfl k)
      have f120 : Exa Z T63.heap b1 "com/example/vernal_pool/vernalpool/cli/TraceRequest" := ((g7_0.ext E57).keep Kq63)
      obtain ⟨cq121, kq121, q121a, q121b, q121c⟩ := isOf hZ rfl f120
      obtain ⟨vv121, _, ⟨T121, L121, k121, n121⟩, -, X121, ⟨Lc121, hQ121, l121, y121, z121⟩, st121⟩ := X63.virtualBack hx (y := (⟨"com/example/vernal_pool/vernalpool/cli/TraceRequest", "equals", "(Ljava/lang/Object;)Z"⟩ : MethodName)) (z := (⟨"com/example/vernal_pool/vernalpool/cli/TraceRequest", "equals", "(Ljava/lang/Object;)Z"⟩ : MethodName)) hown (mvT hZ (hw _ (List.mem_of_getElem? (i := 17) rfl))) (mvT hZ (hw _ (List.mem_of_getElem? (i := 18) rfl))) (notFace_of_selects (args := #[]) (mvT hZ (hw _ (List.mem_of_getElem? (i := 20) rfl)))) (mvT hZ (hw _ (List.mem_of_getElem? (i := 20) rfl))) (mvT hZ (hw _ (List.mem_of_getElem? (i := 19) rfl))) (by decide) (backOf (W := 0) (rm2 l Z aw hw [] b1  T63.heap ) hZ (hw _ (List.mem_of_getElem? (i := 21) rfl)) (hw _ (List.mem_of_getElem? (i := 2) rfl)) (by decide) (by decide)) q121a q121c (g := (mkF m 180 #[.val (.long q0), .second, .val (.long q1), .second, .val (.long q2), .second, .val (.long q3), .second, .val (.long q4), .second, .val (.int p5), .val (.ref b1), .val (.long z12_0), .second, .val (.long z24_0), .second, .val (.long z36_0), .second, .val (.long z48_0), .second, .val (.ref b57), .val (.int z71), .unset] [(.ref b1), (.ref b1)])) rfl (by rw [hml]; rfl) (Steps.refl _) (argsL := [(.ref b1)]) (rest := []) (lenOf pd_0_3 rfl) rfl (by show 2 * 0 + _ ≤ _; exact Nat.le_of_eq rfl) (hb hby at_180) (fun _ _ => ⟨rfl, rfl, (by decide : 2 + 0 ≤ _), (by decide : 8 + 0 ≤ _)⟩)
      dsimp only [Pt.U, Pt.locs, Pt.cells, Pt.slots] at X121 l121 y121 z121 st121 hQ121
      subst l121 y121 z121
      obtain ⟨rfl, rfl, e121⟩ := hQ121
      try rw [List.append_nil] at X121
      have G121 : own_Go p.tables e below (s₁.setTop (entryFrame m #[(.long q0), (.long q1), (.long q2), (.long q3), (.long q4), (.int p5)] maxLocals)) (T121.setTop (mkF m 183 #[.val (.long q0), .second, .val (.long q1), .second, .val (.long q2), .second, .val (.long q3), .second, .val (.long q4), .second, .val (.int p5), .val (.ref b1), .val (.long z12_0), .second, .val (.long z24_0), .second, .val (.long z36_0), .second, .val (.long z48_0), .second, .val (.ref b57), .val (.int z71), .unset] [(.int (1 : Int32))])) := fun t k => G119 t (st121.trans k)
      obtain ⟨fs, hr, hrun, hended, hW, hsame⟩ := X121.leave (v := some (.int (nar .boolean (1 : Int32)))) (fun h => by rw [Bd.returns] at h; cases h)
      refine ⟨_, _, G121 _ ?_, hrun, hended, _, _, rfl, ?_, ⟨_, rfl⟩, hW, hsame.mono (by decide) (by decide)⟩
      · exact retN X121 hx (t := .boolean) Bd.returns (by simp) (hb hby at_183) hr
      · show Q0 Z q0 q1 q2 q3 q4 p5 aC clC vals h0 _ T121.heap _
        rw [e121]
        exact ⟨rfl, N63, K63⟩
    · have G123 : own_Go p.tables e below (s₁.setTop (entryFrame m #[(.long q0), (.long q1), (.long q2), (.long q3), (.long q4), (.int p5)] maxLocals)) (T63.setTop (mkF m 184 #[.val (.long q0), .second, .val (.long q1), .second, .val (.long q2), .second, .val (.long q3), .second, .val (.long q4), .second, .val (.int p5), .val (.ref b1), .val (.long z12_0), .second, .val (.long z24_0), .second, .val (.long z36_0), .second, .val (.long z48_0), .second, .val (.ref b57), .val (.int z71), .unset] [])) := fun t k => G115 t (XS.icmpYes X63.here hx rfl (pc0 := 173) (pc' := 184) rfl (hb hby at_173) rfl (feq hc116).2 (by decide) (by decide) k)
      have G124 : own_Go p.tables e below (s₁.setTop (entryFrame m #[(.long q0), (.long q1), (.long q2), (.long q3), (.long q4), (.int p5)] maxLocals)) (T63.setTop (mkF m 186 #[.val (.long q0), .second, .val (.long q1), .second, .val (.long q2), .second, .val (.long q3), .second, .val (.long q4), .second, .val (.int p5), .val (.ref b1), .val (.long z12_0), .second, .val (.long z24_0), .second, .val (.long z36_0), .second, .val (.long z48_0), .second, .val (.ref b57), .val (.int z71), .unset] [(.int z71)])) := fun t k => G123 t (XS.iload X63.here hx rfl (hb hby at_184) rfl k)
      have G125 : own_Go p.tables e below (s₁.setTop (entryFrame m #[(.long q0), (.long q1), (.long q2), (.long q3), (.long q4), (.int p5)] maxLocals)) (T63.setTop (mkF m 187 #[.val (.long q0), .second, .val (.long q1), .second, .val (.long q2), .second, .val (.long q3), .second, .val (.long q4), .second, .val (.int p5), .val (.ref b1), .val (.long z12_0), .second, .val (.long z24_0), .second, .val (.long z36_0), .second, .val (.long z48_0), .second, .val (.ref b57), .val (.int z71), .unset] [(.int (2 : Int32)), (.int z71)])) := fun t k => G124 t (XT.iconstV X63.here hx rfl (2 : Int32) (hb hby at_186) (by decide) k)
      by_cases hc126 : z71 = (2 : Int32)
      · have G127 : own_Go p.tables e below (s₁.setTop (entryFrame m #[(.long q0), (.long q1), (.long q2), (.long q3), (.long q4), (.int p5)] maxLocals)) (T63.setTop (mkF m 190 #[.val (.long q0), .second, .val (.long q1), .second, .val (.long q2), .second, .val (.long q3), .second, .val (.long q4), .second, .val (.int p5), .val (.ref b1), .val (.long z12_0), .second, .val (.long z24_0), .second, .val (.long z36_0), .second, .val (.long z48_0), .second, .val (.ref b57), .val (.int z71), .unset] [])) := fun t k => G125 t (XS.icmpNo X63.here hx rfl (hb hby at_187) rfl (teq hc126).2 k)
        have G128 : own_Go p.tables e below (s₁.setTop (entryFrame m #[(.long q0), (.long q1), (.long q2), (.long q3), (.long q4), (.int p5)] maxLocals)) (T63.setTop (mkF m 192 #[.val (.long q0), .second, .val (.long q1), .second, .val (.long q2), .second, .val (.long q3), .second, .val (.long q4), .second, .val (.int p5), .val (.ref b1), .val (.long z12_0), .second, .val (.long z24_0), .second, .val (.long z36_0), .second, .val (.long z48_0), .second, .val (.ref b57), .val (.int z71), .unset] [(.ref b1)])) := fun t k => G127 t (XS.aload X63.here hx rfl (hb hby at_190) rfl rfl k)
        have G129 : own_Go p.tables e below (s₁.setTop (entryFrame m #[(.long q0), (.long q1), (.long q2), (.long q3), (.long q4), (.int p5)] maxLocals)) (T63.setTop (mkF m 193 #[.val (.long q0), .second, .val (.long q1), .second, .val (.long q2), .second, .val (.long q3), .second, .val (.long q4), .second, .val (.int p5), .val (.ref b1), .val (.long z12_0), .second, .val (.long z24_0), .second, .val (.long z36_0), .second, .val (.long z48_0), .second, .val (.ref b57), .val (.int z71), .unset] [.null, (.ref b1)])) := fun t k => G128 t (XS.aconstNull X63.here hx rfl (hb hby at_192) k)
        have f130 : Exa Z T63.heap b1 "com/example/vernal_pool/vernalpool/cli/TraceRequest" := ((g7_0.ext E57).keep Kq63)
        obtain ⟨cq131, kq131, q131a, q131b, q131c⟩ := isOf hZ rfl f130
        obtain ⟨vv131, _, ⟨T131, L131, k131, n131⟩, -, X131, ⟨Lc131, hQ131, l131, y131, z131⟩, st131⟩ := X63.virtualBack hx (y := (⟨"com/example/vernal_pool/vernalpool/cli/TraceRequest", "equals", "(Ljava/lang/Object;)Z"⟩ : MethodName)) (z := (⟨"com/example/vernal_pool/vernalpool/cli/TraceRequest", "equals", "(Ljava/lang/Object;)Z"⟩ : MethodName)) hown (mvT hZ (hw _ (List.mem_of_getElem? (i := 17) rfl))) (mvT hZ (hw _ (List.mem_of_getElem? (i := 18) rfl))) (notFace_of_selects (args := #[]) (mvT hZ (hw _ (List.mem_of_getElem? (i := 20) rfl)))) (mvT hZ (hw _ (List.mem_of_getElem? (i := 20) rfl))) (mvT hZ (hw _ (List.mem_of_getElem? (i := 19) rfl))) (by decide) (backOf (W := 0) (rm4 l Z aw hw [] b1  T63.heap ) hZ (hw _ (List.mem_of_getElem? (i := 21) rfl)) (hw _ (List.mem_of_getElem? (i := 2) rfl)) (by decide) (by decide)) q131a q131c (g := (mkF m 193 #[.val (.long q0), .second, .val (.long q1), .second, .val (.long q2), .second, .val (.long q3), .second, .val (.long q4), .second, .val (.int p5), .val (.ref b1), .val (.long z12_0), .second, .val (.long z24_0), .second, .val (.long z36_0), .second, .val (.long z48_0), .second, .val (.ref b57), .val (.int z71), .unset] [.null, (.ref b1)])) rfl (by rw [hml]; rfl) (Steps.refl _) (argsL := [.null]) (rest := []) (lenOf pd_0_3 rfl) rfl (by show 2 * 0 + _ ≤ _; exact Nat.le_of_eq rfl) (hb hby at_193) (fun _ _ => ⟨rfl, rfl, (by decide : 2 + 0 ≤ _), (by decide : 8 + 0 ≤ _)⟩)
        dsimp only [Pt.U, Pt.locs, Pt.cells, Pt.slots] at X131 l131 y131 z131 st131 hQ131
        subst l131 y131 z131
        obtain ⟨rfl, rfl, e131⟩ := hQ131
        try rw [List.append_nil] at X131
        have G131 : own_Go p.tables e below (s₁.setTop (entryFrame m #[(.long q0), (.long q1), (.long q2), (.long q3), (.long q4), (.int p5)] maxLocals)) (T131.setTop (mkF m 196 #[.val (.long q0), .second, .val (.long q1), .second, .val (.long q2), .second, .val (.long q3), .second, .val (.long q4), .second, .val (.int p5), .val (.ref b1), .val (.long z12_0), .second, .val (.long z24_0), .second, .val (.long z36_0), .second, .val (.long z48_0), .second, .val (.ref b57), .val (.int z71), .unset] [(.int (0 : Int32))])) := fun t k => G129 t (st131.trans k)
        have hk132 : (0 : Int32) = (0 : Int32) := rfl
        have G133 : own_Go p.tables e below (s₁.setTop (entryFrame m #[(.long q0), (.long q1), (.long q2), (.long q3), (.long q4), (.int p5)] maxLocals)) (T131.setTop (mkF m 199 #[.val (.long q0), .second, .val (.long q1), .second, .val (.long q2), .second, .val (.long q3), .second, .val (.long q4), .second, .val (.int p5), .val (.ref b1), .val (.long z12_0), .second, .val (.long z24_0), .second, .val (.long z36_0), .second, .val (.long z48_0), .second, .val (.ref b57), .val (.int z71), .unset] [])) := fun t k => G131 t (XS.ifNo X131.here hx rfl (hb hby at_196) rfl ((if0 _ _).trans (teq hk132).2) k)
        have G134 : own_Go p.tables e below (s₁.setTop (entryFrame m #[(.long q0), (.long q1), (.long q2), (.long q3), (.long q4), (.int p5)] maxLocals)) (T131.setTop (mkF m 200 #[.val (.long q0), .second, .val (.long q1), .second, .val (.long q2), .second, .val (.long q3), .second, .val (.long q4), .second, .val (.int p5), .val (.ref b1), .val (.long z12_0), .second, .val (.long z24_0), .second, .val (.long z36_0), .second, .val (.long z48_0), .second, .val (.ref b57), .val (.int z71), .unset] [(.int (1 : Int32))])) := fun t k => G133 t (XT.iconstV X131.here hx rfl (1 : Int32) (hb hby at_199) (by decide) k)
        have G135 : own_Go p.tables e below (s₁.setTop (entryFrame m #[(.long q0), (.long q1), (.long q2), (.long q3), (.long q4), (.int p5)] maxLocals)) (T131.setTop (mkF m 204 #[.val (.long q0), .second, .val (.long q1), .second, .val (.long q2), .second, .val (.long q3), .second, .val (.long q4), .second, .val (.int p5), .val (.ref b1), .val (.long z12_0), .second, .val (.long z24_0), .second, .val (.long z36_0), .second, .val (.long z48_0), .second, .val (.ref b57), .val (.int z71), .unset] [(.int (1 : Int32))])) := fun t k => G134 t (XS.goto X131.here hx rfl (pc0 := 200) (pc' := 204) rfl (hb hby at_200) (by decide) (by decide) k)
        obtain ⟨fs, hr, hrun, hended, hW, hsame⟩ := X131.leave (v := some (.int (nar .boolean (1 : Int32)))) (fun h => by rw [Bd.returns] at h; cases h)
        refine ⟨_, _, G135 _ ?_, hrun, hended, _, _, rfl, ?_, ⟨_, rfl⟩, hW, hsame.mono (by decide) (by decide)⟩
        · exact retN X131 hx (t := .boolean) Bd.returns (by simp) (hb hby at_204) hr
        · show Q0 Z q0 q1 q2 q3 q4 p5 aC clC vals h0 _ T131.heap _
          rw [e131]
          exact ⟨rfl, N63, K63⟩
      · have G137 : own_Go p.tables e below (s₁.setTop (entryFrame m #[(.long q0), (.long q1), (.long q2), (.long q3), (.long q4), (.int p5)] maxLocals)) (T63.setTop (mkF m 205 #[.val (.long q0), .second, .val (.long q1), .second, .val (.long q2), .second, .val (.long q3), .second, .val (.long q4), .second, .val (.int p5), .val (.ref b1), .val (.long z12_0), .second, .val (.long z24_0), .second, .val (.long z36_0), .second, .val (.long z48_0), .second, .val (.ref b57), .val (.int z71), .unset] [])) := fun t k => G125 t (XS.icmpYes X63.here hx rfl (pc0 := 187) (pc' := 205) rfl (hb hby at_187) rfl (feq hc126).2 (by decide) (by decide) k)
        have G138 : own_Go p.tables e below (s₁.setTop (entryFrame m #[(.long q0), (.long q1), (.long q2), (.long q3), (.long q4), (.int p5)] maxLocals)) (T63.setTop (mkF m 207 #[.val (.long q0), .second, .val (.long q1), .second, .val (.long q2), .second, .val (.long q3), .second, .val (.long q4), .second, .val (.int p5), .val (.ref b1), .val (.long z12_0), .second, .val (.long z24_0), .second, .val (.long z36_0), .second, .val (.long z48_0), .second, .val (.ref b57), .val (.int z71), .unset] [(.ref b1)])) := fun t k => G137 t (XS.aload X63.here hx rfl (hb hby at_205) rfl rfl k)
        have G139 : own_Go p.tables e below (s₁.setTop (entryFrame m #[(.long q0), (.long q1), (.long q2), (.long q3), (.long q4), (.int p5)] maxLocals)) (T63.setTop (mkF m 208 #[.val (.long q0), .second, .val (.long q1), .second, .val (.long q2), .second, .val (.long q3), .second, .val (.long q4), .second, .val (.int p5), .val (.ref b1), .val (.long z12_0), .second, .val (.long z24_0), .second, .val (.long z36_0), .second, .val (.long z48_0), .second, .val (.ref b57), .val (.int z71), .unset] [(.long q0), (.ref b1)])) := fun t k => G138 t (XS.lloadN X63.here hx rfl (hb hby at_207) rfl k)
        obtain ⟨vv140, _, ⟨T140, L140, k140, n140⟩, -, X140, ⟨Lc140, hQ140, l140, y140, z140⟩, st140⟩ := Jvm.LawKit.callS X63 hx (y := (⟨"java/lang/Long", "valueOf", "(J)Ljava/lang/Long;"⟩ : MethodName)) hown (mvT hZ (hw _ (List.mem_of_getElem? (i := 24) rfl))) (mvT hZ (hw _ (List.mem_of_getElem? (i := 25) rfl))) (mvT hZ (hw _ (List.mem_of_getElem? (i := 26) rfl))) (mvT hZ (hw _ (List.mem_of_getElem? (i := 27) rfl))) (by decide) (backOf (W := 1) (rm8 l Z aw hw [] q0 aC clC vals T63.heap O63   S_C Bx) hZ (hw _ (List.mem_of_getElem? (i := 27) rfl)) (hw _ (List.mem_of_getElem? (i := 26) rfl)) (by decide) (by decide)) (g := (mkF m 208 #[.val (.long q0), .second, .val (.long q1), .second, .val (.long q2), .second, .val (.long q3), .second, .val (.long q4), .second, .val (.int p5), .val (.ref b1), .val (.long z12_0), .second, .val (.long z24_0), .second, .val (.long z36_0), .second, .val (.long z48_0), .second, .val (.ref b57), .val (.int z71), .unset] [(.long q0), (.ref b1)])) rfl (by rw [hml]; rfl) (argsL := [(.long q0)]) (rest := [(.ref b1)]) (lenOf pd_0_4 rfl) rfl (by show 2 * 0 + _ ≤ _; exact Nat.le_of_eq rfl) (hb hby at_208) (fun _ _ => ⟨rfl, rfl, (by decide : 2 + 1 ≤ _), (by decide : 8 + 1 ≤ _)⟩)
        dsimp only [Pt.U, Pt.locs, Pt.cells, Pt.slots] at X140 l140 y140 z140 st140 hQ140
        subst l140 y140 z140
        obtain ⟨v140, rfl, Nq140, Kq140, Ex140⟩ := hQ140
        have N140 := Fr.app N63 Nq140
        have O140 := O63.keep Kq140 all0
        have K140 := K63.trans Kq140 all0
        have G140 : own_Go p.tables e below (s₁.setTop (entryFrame m #[(.long q0), (.long q1), (.long q2), (.long q3), (.long q4), (.int p5)] maxLocals)) (T140.setTop (mkF m 211 #[.val (.long q0), .second, .val (.long q1), .second, .val (.long q2), .second, .val (.long q3), .second, .val (.long q4), .second, .val (.int p5), .val (.ref b1), .val (.long z12_0), .second, .val (.long z24_0), .second, .val (.long z36_0), .second, .val (.long z48_0), .second, .val (.ref b57), .val (.int z71), .unset] [(.ref v140), (.ref b1)])) := fun t k => G139 t (st140 t k)
        have f141 : Exa Z T140.heap b1 "com/example/vernal_pool/vernalpool/cli/TraceRequest" := (((g7_0.ext E57).keep Kq63).keep Kq140)
        obtain ⟨cq142, kq142, q142a, q142b, q142c⟩ := isOf hZ rfl f141
        obtain ⟨vv142, _, ⟨T142, L142, k142, n142⟩, -, X142, ⟨Lc142, hQ142, l142, y142, z142⟩, st142⟩ := X140.virtualBack hx (y := (⟨"com/example/vernal_pool/vernalpool/cli/TraceRequest", "equals", "(Ljava/lang/Object;)Z"⟩ : MethodName)) (z := (⟨"com/example/vernal_pool/vernalpool/cli/TraceRequest", "equals", "(Ljava/lang/Object;)Z"⟩ : MethodName)) hown (mvT hZ (hw _ (List.mem_of_getElem? (i := 17) rfl))) (mvT hZ (hw _ (List.mem_of_getElem? (i := 18) rfl))) (notFace_of_selects (args := #[]) (mvT hZ (hw _ (List.mem_of_getElem? (i := 20) rfl)))) (mvT hZ (hw _ (List.mem_of_getElem? (i := 20) rfl))) (mvT hZ (hw _ (List.mem_of_getElem? (i := 19) rfl))) (by decide) (backOf (W := 0) (rm5 l Z aw hw [] b1 v140  T140.heap (Exa.ne f141 Ex140 (by decide)) Ex140) hZ (hw _ (List.mem_of_getElem? (i := 21) rfl)) (hw _ (List.mem_of_getElem? (i := 2) rfl)) (by decide) (by decide)) q142a q142c (g := (mkF m 211 #[.val (.long q0), .second, .val (.long q1), .second, .val (.long q2), .second, .val (.long q3), .second, .val (.long q4), .second, .val (.int p5), .val (.ref b1), .val (.long z12_0), .second, .val (.long z24_0), .second, .val (.long z36_0), .second, .val (.long z48_0), .second, .val (.ref b57), .val (.int z71), .unset] [(.ref v140), (.ref b1)])) rfl (by rw [hml]; rfl) (Steps.refl _) (argsL := [(.ref v140)]) (rest := []) (lenOf pd_0_3 rfl) rfl (by show 2 * 0 + _ ≤ _; exact Nat.le_of_eq rfl) (hb hby at_211) (fun _ _ => ⟨rfl, rfl, (by decide : 3 + 0 ≤ _), (by decide : 9 + 0 ≤ _)⟩)
        dsimp only [Pt.U, Pt.locs, Pt.cells, Pt.slots] at X142 l142 y142 z142 st142 hQ142
        subst l142 y142 z142
        obtain ⟨rfl, rfl, e142⟩ := hQ142
        try rw [List.append_nil] at X142
        have G142 : own_Go p.tables e below (s₁.setTop (entryFrame m #[(.long q0), (.long q1), (.long q2), (.long q3), (.long q4), (.int p5)] maxLocals)) (T142.setTop (mkF m 214 #[.val (.long q0), .second, .val (.long q1), .second, .val (.long q2), .second, .val (.long q3), .second, .val (.long q4), .second, .val (.int p5), .val (.ref b1), .val (.long z12_0), .second, .val (.long z24_0), .second, .val (.long z36_0), .second, .val (.long z48_0), .second, .val (.ref b57), .val (.int z71), .unset] [(.int (0 : Int32))])) := fun t k => G140 t (st142.trans k)
        have hk143 : (0 : Int32) = (0 : Int32) := rfl
        have G144 : own_Go p.tables e below (s₁.setTop (entryFrame m #[(.long q0), (.long q1), (.long q2), (.long q3), (.long q4), (.int p5)] maxLocals)) (T142.setTop (mkF m 217 #[.val (.long q0), .second, .val (.long q1), .second, .val (.long q2), .second, .val (.long q3), .second, .val (.long q4), .second, .val (.int p5), .val (.ref b1), .val (.long z12_0), .second, .val (.long z24_0), .second, .val (.long z36_0), .second, .val (.long z48_0), .second, .val (.ref b57), .val (.int z71), .unset] [])) := fun t k => G142 t (XS.ifNo X142.here hx rfl (hb hby at_214) rfl ((if0 _ _).trans (teq hk143).2) k)
        have G145 : own_Go p.tables e below (s₁.setTop (entryFrame m #[(.long q0), (.long q1), (.long q2), (.long q3), (.long q4), (.int p5)] maxLocals)) (T142.setTop (mkF m 218 #[.val (.long q0), .second, .val (.long q1), .second, .val (.long q2), .second, .val (.long q3), .second, .val (.long q4), .second, .val (.int p5), .val (.ref b1), .val (.long z12_0), .second, .val (.long z24_0), .second, .val (.long z36_0), .second, .val (.long z48_0), .second, .val (.ref b57), .val (.int z71), .unset] [(.int (1 : Int32))])) := fun t k => G144 t (XT.iconstV X142.here hx rfl (1 : Int32) (hb hby at_217) (by decide) k)
        have G146 : own_Go p.tables e below (s₁.setTop (entryFrame m #[(.long q0), (.long q1), (.long q2), (.long q3), (.long q4), (.int p5)] maxLocals)) (T142.setTop (mkF m 222 #[.val (.long q0), .second, .val (.long q1), .second, .val (.long q2), .second, .val (.long q3), .second, .val (.long q4), .second, .val (.int p5), .val (.ref b1), .val (.long z12_0), .second, .val (.long z24_0), .second, .val (.long z36_0), .second, .val (.long z48_0), .second, .val (.ref b57), .val (.int z71), .unset] [(.int (1 : Int32))])) := fun t k => G145 t (XS.goto X142.here hx rfl (pc0 := 218) (pc' := 222) rfl (hb hby at_218) (by decide) (by decide) k)
        obtain ⟨fs, hr, hrun, hended, hW, hsame⟩ := X142.leave (v := some (.int (nar .boolean (1 : Int32)))) (fun h => by rw [Bd.returns] at h; cases h)
        refine ⟨_, _, G146 _ ?_, hrun, hended, _, _, rfl, ?_, ⟨_, rfl⟩, hW, hsame.mono (by decide) (by decide)⟩
        · exact retN X142 hx (t := .boolean) Bd.returns (by simp) (hb hby at_222) hr
        · show Q0 Z q0 q1 q2 q3 q4 p5 aC clC vals h0 _ T142.heap _
          rw [e142]
          exact ⟨rfl, N140, K140⟩
set_option maxRecDepth 65536 in
set_option maxHeartbeats 40000000 in
theorem comes_1 {Post : Tables → Env → Array Value → State → Outcome → State → Prop} (hpost : ∀ tb e args s v u, (limb_1_1.after args s (.returned v) u = true ∧ limb_1_2.after args s (.returned v) u = true ∧ True) → FrameEnd s (.returned v) u (Jvm.fieldLocs frame_1_writes args s ++ Jvm.arrayLocs frame_1_arrays args s ++ Jvm.staticLocs frame_1_statics s) 16 128 → Post tb e args s (.returned v) u) :
    ArmFor flags0 classFile x code maxLocals ret World_1 tables_1 room_1 Calls_1 rest_1 Pre_1 Post := by
  intro l hfl _ _ p e ha hc hk s m args below hf hA hF happ hP
  obtain ⟨hcalls, hrest, hpre⟩ := hP
  obtain ⟨-, -, -, hnamed, -, -, -, hat⟩ := (Spec.applies_iff hf).mp happ
  obtain ⟨hg, hn⟩ := and_e (Cond.before_iff.mp (show (Jvm.Cond.and given_1 narrow_1).before args s = true from hpre))
  obtain ⟨ga1, gb1⟩ := and_e hg
  obtain ⟨ga2, gb2⟩ := and_e gb1
  obtain ⟨ga3, gb3⟩ := and_e gb2
  obtain ⟨ga4, gb4⟩ := and_e gb3
  obtain ⟨ga5, gb5⟩ := and_e gb4
  obtain ⟨ga6, gb6⟩ := and_e gb5
  obtain ⟨w0, w1, w2, w3, w4, w5, rfl⟩ : ∃ w0 w1 w2 w3 w4 w5 : Value, args = #[w0, w1, w2, w3, w4, w5] := by
    have hs : args.size = 6 := by simpa [Cond.value, given_1] using ga1
    obtain ⟨L⟩ := args
    match L, hs with
    | [w0, w1, w2, w3, w4, w5], _ => exact ⟨w0, w1, w2, w3, w4, w5, rfl⟩
  have hw := fun d (hd : d ∈ tables_1) => atoms_spec (ws := Jvm.Cond.code x code maxLocals ret :: tables_1) hat d (List.mem_cons_of_mem _ hd)
  have hfit : Fit s := fun {y c} hc i hi => by
    obtain ⟨ha, rfl⟩ := Array.getElem?_eq_some_iff.mp hc
    have q := List.all_eq_true.mp ((Array.all_eq_true_iff_forall_mem.mp hF) _ (Array.getElem_mem ha)) i (List.mem_range.mpr hi)
    simpa [Array.getElem?_eq_getElem hi] using q
  obtain ⟨hsets, hown0⟩ := atoms_of _ (rest_1_c_eq ▸ (show rest_1_c.before _ s = true from hrest))
  have hr0 := Cond.before_iff.mp hown0
  obtain ⟨i0, ei0⟩ := isL_v ga2
  obtain rfl : w0 = (.long i0) := Option.some.inj ei0
  obtain ⟨i1, ei1⟩ := isL_v ga3
  obtain rfl : w1 = (.long i1) := Option.some.inj ei1
  obtain ⟨i2, ei2⟩ := isL_v ga4
  obtain rfl : w2 = (.long i2) := Option.some.inj ei2
  obtain ⟨i3, ei3⟩ := isL_v ga5
  obtain rfl : w3 = (.long i3) := Option.some.inj ei3
  obtain ⟨i4, ei4⟩ := isL_v ga6
  obtain rfl : w4 = (.long i4) := Option.some.inj ei4
  obtain ⟨i5, ei5⟩ := is_v gb6
  obtain rfl : w5 = (.int i5) := Option.some.inj ei5
  obtain ⟨aC, evC⟩ := arr_v (Cond.before_iff.mp (hsets _ (List.mem_of_getElem? (i := 2) rfl)))
  have S_C : Sta s s.heap "java/lang/Long$LongCache" "cache" "[Ljava/lang/Long;" (.ref aC) := Sta.start evC (Or.inl (hsets _ (List.mem_of_getElem? (i := 1) rfl)))
  obtain ⟨clC, ArC⟩ := Arr.start evC (Cond.before_iff.mp (hsets _ (List.mem_of_getElem? (i := 2) rfl)))
  have szC := own_len2 evC (ArC.fin (Vm.Alike.refl _)) (own_eqI (Cond.before_iff.mp (hsets _ (List.mem_of_getElem? (i := 4) rfl))))
  have Bx := Bxs.start (z := (256 : Int32)) (fun _ => evC) ArC szC.1 szC.2 (by decide) (Cond.before_iff.mp (hsets _ (List.mem_of_getElem? (i := 5) rfl))) (fun X j hj h => eqv_l (i2l_at (own_sub (idx_at hj) (Term.int_eval _))) h)
  obtain ⟨n, o, h1, h2, h3, _, L, rfl, ⟨rfl, N, -⟩, hq⟩ := rm0 l s _ hw tables_1 i0 i1 i2 i3 i4 i5 aC clC _ s.heap (Old.start s) S_C Bx p e ha hc hk s m _ below hf ((Spec.applies_iff_loose hf).mp happ).1 ⟨rfl, State.Warmed39.refl s, rfl⟩ trivial
  refine ⟨n, _, h1, h2, h3, hpost _ _ _ _ _ _ ⟨Cond.after_iff.mpr rfl, Cond.after_iff.mpr (eq_i res_at (Term.int_eval (1)) rfl), trivial⟩ ⟨hq.1, hq.2.1, (hq.2.2.sift fun y hy => Or.inr (N y hy)).mono (by decide) (by decide)⟩⟩
theorem main_1_1 : Claimed_1_1 := comes_1 fun _ _ _ _ _ _ h hF => ⟨h.1, hF⟩
theorem main_1_2 : Claimed_1_2 := comes_1 fun _ _ _ _ _ _ h hF => ⟨h.2.1, hF⟩
end Jvm.Pilot.@@N@@
namespace Jvm.Pilot.@@N@@
open Jvm Jvm.ClassFile Sem Op Lib Jvm.Free Jvm.Stand Jvm.Pilot.@@N@@.Jvm.D
/-! MADE BY PROGRAM (witnessworld.py) out of the Statement's table words and the real class files: 16 classes; the members and pool entries that the words name. The judged class is class 1, her method 1. -/
namespace start1
open Jvm.ClassFile
def u (s : String) : CpInfo := .utf8 (stringToUtf16 s)
/-- a pool by its gaps: so many unusable entries, then the entry; so many at the end -/
def gap : Nat → List CpInfo → List CpInfo
  | 0, r => r
  | n + 1, r => .unusable :: gap n r
def poolList (es : List (Nat × CpInfo)) (last : Nat) : List CpInfo := es.foldr (fun e r => gap e.1 (e.2 :: r)) (gap last [])
def pool (es : List (Nat × CpInfo)) (last : Nat) : Array CpInfo := ⟨poolList es last⟩
def fileOf (pool : Array CpInfo) (this : Nat) (attrs : Array Attribute := #[]) (ms : Array MethodInfo := #[]) (fl : Nat := 33) (sup : Nat := 0) (ifs : Array Nat := #[]) (fds : Array FieldInfo := #[]) : ClassFile where
  minorVersion := 0
  majorVersion := 65
  constantPool := pool
  accessFlags := fl
  thisClass := this
  superClass := sup
  interfaces := ifs
  fields := fds
  methods := ms
  attributes := attrs
def plain (name : String) (sup : Option ClassId) : Class where
  name := name
  kind := .ordinary
  loader := none
  accessFlags := 33
  super := sup
  interfaces := #[]
  cf := none
  fields := #[]
  methods := #[]
  instanceTypes := #[]
  staticTypes := #[]
  resolved := #[]
  callSites := []
  init := .initialized
  statics := none
  mirror := none

def pool0 : Array CpInfo := pool [(5, u "<init>"), (0, u "()V"), (1, .class_ 10), (1, u "java/lang/Object")] 113

def k0c0 : Code := { maxStack := 0, maxLocals := 1, code := object_method_1_code, exceptionTable := #[], attributes := #[] }
def k0m0 : Method := { name := "<init>", desc := "()V", sig := { parameters := [], returnType := none }, accessFlags := 1, code := some k0c0 }
/-- java/lang/Object -/
def k0 : Class := { plain "java/lang/Object" none with
  accessFlags := 33
  interfaces := #[]
  cf := some (fileOf pool0 8 #[] #[{ accessFlags := 1, nameIndex := 5, descriptorIndex := 6, attributes := #[] }] 33 0 #[] #[])
  fields := #[]
  methods := #[k0m0]
  instanceTypes := #[]
  staticTypes := #[]
  resolved := Array.replicate 124 none
  statics := none }

def pool1 : Array CpInfo := pool [(2, .class_ 4), (1, u "java/lang/Object"), (0, u "<init>"), (0, u "()V"), (0, .class_ 8), (0, u "com/example/vernal_pool/vernalpool/cli/TraceRequest"), (0, .methodref 7 10), (0, .nameAndType 5 11), (0, u "(JJJJ)V"), (0, .methodref 7 13), (0, .nameAndType 14 15), (0, u "equals"), (0, u "(Ljava/lang/Object;)Z"), (0, .methodref 17 18), (0, .class_ 19), (0, .nameAndType 20 21), (0, u "java/lang/Long"), (0, u "valueOf"), (0, u "(J)Ljava/lang/Long;"), (0, .class_ 23), (0, u "com/example/vernal_pool/vernalpool/cli/TraceRequestEqualsPinLaw"), (2, u "law"), (0, u "(JJJJJI)Z")] 3

def k1m0 : Method := { name := "<init>", desc := "()V", sig := { parameters := [], returnType := none }, accessFlags := 1, code := none }
def k1c1 : Code := { maxStack := 10, maxLocals := 23, code := code, exceptionTable := #[], attributes := #[] }
def k1m1 : Method := { name := "law", desc := "(JJJJJI)Z", sig := { parameters := [.long, .long, .long, .long, .long, .int], returnType := some .boolean }, accessFlags := 9, code := some k1c1 }
/-- com/example/vernal_pool/vernalpool/cli/TraceRequestEqualsPinLaw -/
def k1 : Class := { plain "com/example/vernal_pool/vernalpool/cli/TraceRequestEqualsPinLaw" (some 0) with
  accessFlags := 49
  interfaces := #[]
  cf := some (fileOf pool1 22 #[] #[{ accessFlags := 1, nameIndex := 5, descriptorIndex := 6, attributes := #[] }, { accessFlags := 9, nameIndex := 26, descriptorIndex := 27, attributes := #[] }] 49 2 #[] #[])
  fields := #[]
  methods := #[k1m0, k1m1]
  instanceTypes := #[]
  staticTypes := #[]
  resolved := Array.replicate 31 none
  statics := none }

def pool2 : Array CpInfo := pool [(1, .methodref 2 3), (0, .class_ 4), (0, .nameAndType 5 6), (0, u "java/lang/Object"), (0, u "<init>"), (0, u "()V"), (0, .fieldref 8 9), (0, .class_ 10), (0, .nameAndType 11 12), (0, u "com/example/vernal_pool/vernalpool/cli/TraceRequest"), (0, u "requestId"), (0, u "J"), (0, .fieldref 8 14), (0, .nameAndType 15 12), (0, u "appId"), (0, .fieldref 8 17), (0, .nameAndType 18 12), (0, u "startOffsetUs"), (0, .fieldref 8 20), (0, .nameAndType 21 12), (0, u "execUs"), (16, u "(JJJJ)V"), (7, u "equals"), (0, u "(Ljava/lang/Object;)Z")] 22

def k2c0 : Code := { maxStack := 3, maxLocals := 9, code := prog_38_method_1_code, exceptionTable := #[], attributes := #[] }
def k2m0 : Method := { name := "<init>", desc := "(JJJJ)V", sig := { parameters := [.long, .long, .long, .long], returnType := none }, accessFlags := 1, code := some k2c0 }
def k2c1 : Code := { maxStack := 4, maxLocals := 3, code := prog_38_method_6_code, exceptionTable := #[], attributes := #[] }
def k2m1 : Method := { name := "equals", desc := "(Ljava/lang/Object;)Z", sig := { parameters := [(.object "java/lang/Object")], returnType := some .boolean }, accessFlags := 1, code := some k2c1 }
/-- com/example/vernal_pool/vernalpool/cli/TraceRequest -/
def k2 : Class := { plain "com/example/vernal_pool/vernalpool/cli/TraceRequest" (some 0) with
  accessFlags := 33
  interfaces := #[]
  cf := some (fileOf pool2 8 #[] #[{ accessFlags := 1, nameIndex := 5, descriptorIndex := 38, attributes := #[] }, { accessFlags := 1, nameIndex := 46, descriptorIndex := 47, attributes := #[] }] 33 2 #[] #[{ accessFlags := 18, nameIndex := 11, descriptorIndex := 12, attributes := #[] }, { accessFlags := 18, nameIndex := 15, descriptorIndex := 12, attributes := #[] }, { accessFlags := 18, nameIndex := 18, descriptorIndex := 12, attributes := #[] }, { accessFlags := 18, nameIndex := 21, descriptorIndex := 12, attributes := #[] }])
  fields := #[{ name := "requestId", type := .long, accessFlags := 18, slot := 0, constantValue := 0 }, { name := "appId", type := .long, accessFlags := 18, slot := 1, constantValue := 0 }, { name := "startOffsetUs", type := .long, accessFlags := 18, slot := 2, constantValue := 0 }, { name := "execUs", type := .long, accessFlags := 18, slot := 3, constantValue := 0 }]
  methods := #[k2m0, k2m1]
  instanceTypes := #[.long, .long, .long, .long]
  staticTypes := #[]
  resolved := Array.replicate 70 none
  statics := none }

def pool3 : Array CpInfo := pool [(1, .class_ 2), (0, u "java/io/Serializable"), (0, .class_ 4), (0, u "java/lang/Object")] 2

/-- java/io/Serializable -/
def k3 : Class := { plain "java/io/Serializable" (some 0) with
  accessFlags := 1537
  interfaces := #[]
  cf := some (fileOf pool3 1 #[] #[] 1537 3 #[] #[])
  fields := #[]
  methods := #[]
  instanceTypes := #[]
  staticTypes := #[]
  resolved := Array.replicate 7 none
  statics := none }

def pool4 : Array CpInfo := pool [(1, .methodref 2 3), (0, .class_ 4), (0, .nameAndType 5 6), (0, u "java/lang/Object"), (0, u "<init>"), (0, u "()V"), (1, .class_ 10), (1, u "java/lang/Number"), (2, .class_ 14), (0, u "java/io/Serializable"), (0, u "serialVersionUID"), (0, u "J")] 20

def k4c0 : Code := { maxStack := 1, maxLocals := 1, code := jdk_18_method_1_code, exceptionTable := #[], attributes := #[] }
def k4m0 : Method := { name := "<init>", desc := "()V", sig := { parameters := [], returnType := none }, accessFlags := 1, code := some k4c0 }
/-- java/lang/Number -/
def k4 : Class := { plain "java/lang/Number" (some 0) with
  accessFlags := 1057
  interfaces := #[3]
  cf := some (fileOf pool4 8 #[] #[{ accessFlags := 1, nameIndex := 5, descriptorIndex := 6, attributes := #[] }] 1057 2 #[13] #[{ accessFlags := 26, nameIndex := 15, descriptorIndex := 16, attributes := #[] }])
  fields := #[{ name := "serialVersionUID", type := .long, accessFlags := 26, slot := 0, constantValue := 0 }]
  methods := #[k4m0]
  instanceTypes := #[]
  staticTypes := #[.long]
  resolved := Array.replicate 37 none
  statics := none }

def pool5 : Array CpInfo := pool [(1, .class_ 2), (0, u "java/lang/Comparable"), (0, .class_ 4), (0, u "java/lang/Object")] 7

/-- java/lang/Comparable -/
def k5 : Class := { plain "java/lang/Comparable" (some 0) with
  accessFlags := 1537
  interfaces := #[]
  cf := some (fileOf pool5 1 #[] #[] 1537 3 #[] #[])
  fields := #[]
  methods := #[]
  instanceTypes := #[]
  staticTypes := #[]
  resolved := Array.replicate 12 none
  statics := none }

def pool6 : Array CpInfo := pool [(1, .class_ 2), (0, u "java/lang/constant/Constable"), (0, .class_ 4), (0, u "java/lang/Object")] 6

/-- java/lang/constant/Constable -/
def k6 : Class := { plain "java/lang/constant/Constable" (some 0) with
  accessFlags := 1537
  interfaces := #[]
  cf := some (fileOf pool6 1 #[] #[] 1537 3 #[] #[])
  fields := #[]
  methods := #[]
  instanceTypes := #[]
  staticTypes := #[]
  resolved := Array.replicate 11 none
  statics := none }

def pool7 : Array CpInfo := pool [(1, .class_ 2), (0, u "java/lang/constant/ConstantDesc"), (0, .class_ 4), (0, u "java/lang/Object")] 32

/-- java/lang/constant/ConstantDesc -/
def k7 : Class := { plain "java/lang/constant/ConstantDesc" (some 0) with
  accessFlags := 1537
  interfaces := #[]
  cf := some (fileOf pool7 1 #[] #[] 1537 3 #[] #[])
  fields := #[]
  methods := #[]
  instanceTypes := #[]
  staticTypes := #[]
  resolved := Array.replicate 37 none
  statics := none }

def pool8 : Array CpInfo := pool [(1, .class_ 2), (0, u "java/lang/Long"), (55, .nameAndType 59 60), (0, u "<init>"), (0, u "()V"), (24, u "valueOf"), (143, u "(J)Ljava/lang/Long;"), (0, .long 18446744073709551488), (1, .long 127), (1, .fieldref 235 236), (0, .class_ 237), (0, .nameAndType 238 239), (0, u "java/lang/Long$LongCache"), (0, u "cache"), (0, u "[Ljava/lang/Long;"), (0, .methodref 1 241), (0, .nameAndType 59 242), (0, u "(J)V"), (27, .methodref 271 58), (0, .class_ 272), (0, u "java/lang/Number"), (0, .fieldref 1 274), (0, .nameAndType 275 276), (0, u "value"), (0, u "J"), (84, u "TYPE"), (0, u "Ljava/lang/Class;"), (0, .class_ 364), (0, u "java/lang/Comparable"), (0, .class_ 366), (0, u "java/lang/constant/Constable"), (0, .class_ 368), (0, u "java/lang/constant/ConstantDesc"), (0, u "MIN_VALUE"), (1, u "MAX_VALUE"), (4, u "SIZE"), (0, u "I"), (1, u "BYTES"), (1, u "serialVersionUID")] 142

def k8c0 : Code := { maxStack := 4, maxLocals := 3, code := jdk_35_method_24_code, exceptionTable := #[], attributes := #[] }
def k8m0 : Method := { name := "valueOf", desc := "(J)Ljava/lang/Long;", sig := { parameters := [.long], returnType := some (.object "java/lang/Long") }, accessFlags := 9, code := some k8c0 }
def k8c1 : Code := { maxStack := 3, maxLocals := 3, code := jdk_35_method_26_code, exceptionTable := #[], attributes := #[] }
def k8m1 : Method := { name := "<init>", desc := "(J)V", sig := { parameters := [.long], returnType := none }, accessFlags := 1, code := some k8c1 }
/-- java/lang/Long -/
def k8 : Class := { plain "java/lang/Long" (some 4) with
  accessFlags := 49
  interfaces := #[5, 6, 7]
  cf := some (fileOf pool8 1 #[.nestMembers #[235]] #[{ accessFlags := 9, nameIndex := 85, descriptorIndex := 229, attributes := #[] }, { accessFlags := 1, nameIndex := 59, descriptorIndex := 242, attributes := #[] }] 49 271 #[363, 365, 367] #[{ accessFlags := 25, nameIndex := 369, descriptorIndex := 276, attributes := #[] }, { accessFlags := 25, nameIndex := 371, descriptorIndex := 276, attributes := #[] }, { accessFlags := 25, nameIndex := 361, descriptorIndex := 362, attributes := #[] }, { accessFlags := 18, nameIndex := 275, descriptorIndex := 276, attributes := #[] }, { accessFlags := 25, nameIndex := 376, descriptorIndex := 377, attributes := #[] }, { accessFlags := 25, nameIndex := 379, descriptorIndex := 377, attributes := #[] }, { accessFlags := 26, nameIndex := 381, descriptorIndex := 276, attributes := #[] }])
  fields := #[{ name := "MIN_VALUE", type := .long, accessFlags := 25, slot := 0, constantValue := 0 }, { name := "MAX_VALUE", type := .long, accessFlags := 25, slot := 1, constantValue := 0 }, { name := "TYPE", type := (.object "java/lang/Class"), accessFlags := 25, slot := 2, constantValue := 0 }, { name := "value", type := .long, accessFlags := 18, slot := 0, constantValue := 0 }, { name := "SIZE", type := .int, accessFlags := 25, slot := 3, constantValue := 0 }, { name := "BYTES", type := .int, accessFlags := 25, slot := 4, constantValue := 0 }, { name := "serialVersionUID", type := .long, accessFlags := 26, slot := 5, constantValue := 0 }]
  methods := #[k8m0, k8m1]
  instanceTypes := #[.long]
  staticTypes := #[.long, .long, (.object "java/lang/Class"), .int, .int, .long]
  resolved := Array.replicate 524 none
  statics := none }

def pool9 : Array CpInfo := pool [(2, .class_ 4), (1, u "java/lang/Object"), (0, u "<init>"), (0, u "()V"), (0, .class_ 8), (0, u "java/lang/Long"), (7, .class_ 18), (1, u "java/lang/Long$LongCache"), (0, u "$assertionsDisabled"), (0, u "Z"), (8, u "archivedCache"), (0, u "[Ljava/lang/Long;"), (7, u "cache")] 24

def k9m0 : Method := { name := "<init>", desc := "()V", sig := { parameters := [], returnType := none }, accessFlags := 2, code := none }
/-- java/lang/Long$LongCache -/
def k9 : Class := { plain "java/lang/Long$LongCache" (some 0) with
  accessFlags := 48
  interfaces := #[]
  cf := some (fileOf pool9 16 #[.nestHost 7] #[{ accessFlags := 2, nameIndex := 5, descriptorIndex := 6, attributes := #[] }] 48 2 #[] #[{ accessFlags := 24, nameIndex := 38, descriptorIndex := 30, attributes := #[] }, { accessFlags := 8, nameIndex := 29, descriptorIndex := 30, attributes := #[] }, { accessFlags := 4120, nameIndex := 19, descriptorIndex := 20, attributes := #[] }])
  fields := #[{ name := "cache", type := (.array (.object "java/lang/Long")), accessFlags := 24, slot := 0, constantValue := 0 }, { name := "archivedCache", type := (.array (.object "java/lang/Long")), accessFlags := 8, slot := 1, constantValue := 0 }, { name := "$assertionsDisabled", type := .boolean, accessFlags := 4120, slot := 2, constantValue := 0 }]
  methods := #[k9m0]
  instanceTypes := #[]
  staticTypes := #[(.array (.object "java/lang/Long")), (.array (.object "java/lang/Long")), .boolean]
  resolved := Array.replicate 63 none
  statics := some 0 }

def pool10 : Array CpInfo := pool [(1, u "java/lang/Cloneable"), (0, .class_ 1), (0, u "java/lang/Object"), (0, .class_ 3)] 3

/-- java/lang/Cloneable -/
def k10 : Class := { plain "java/lang/Cloneable" (some 0) with
  accessFlags := 1537
  interfaces := #[]
  cf := some (fileOf pool10 2 #[] #[] 1537 4 #[] #[])
  fields := #[]
  methods := #[]
  instanceTypes := #[]
  staticTypes := #[]
  resolved := Array.replicate 8 none
  statics := none }

/-- the primitive byte -/
def k11 : Class := { plain "byte" none with kind := .primitive 'B', accessFlags := 0x411 }
/-- [B -/
def k12 : Class := { plain "[B" (some 0) with kind := .array 11 .byte, interfaces := #[10, 3], accessFlags := 1041 }

/-- the primitive int -/
def k13 : Class := { plain "int" none with kind := .primitive 'I', accessFlags := 0x411 }
/-- [I -/
def k14 : Class := { plain "[I" (some 0) with kind := .array 13 .int, interfaces := #[10, 3], accessFlags := 1041 }

/-- [Ljava/lang/Long; -/
def k15 : Class := { plain "[Ljava/lang/Long;" (some 0) with kind := .array 8 (.object "java/lang/Long"), interfaces := #[10, 3], accessFlags := 1041 }

def heap : Heap := #[{ cls := 9, slots := #[.ref 1, .null, .int 0], vm := .statics 9 },
  { cls := 15, slots := #[.ref 2, .ref 3, .ref 4, .ref 5, .ref 6, .ref 7, .ref 8, .ref 9, .ref 10, .ref 11, .ref 12, .ref 13, .ref 14, .ref 15, .ref 16, .ref 17, .ref 18, .ref 19, .ref 20, .ref 21, .ref 22, .ref 23, .ref 24, .ref 25, .ref 26, .ref 27, .ref 28, .ref 29, .ref 30, .ref 31, .ref 32, .ref 33, .ref 34, .ref 35, .ref 36, .ref 37, .ref 38, .ref 39, .ref 40, .ref 41, .ref 42, .ref 43, .ref 44, .ref 45, .ref 46, .ref 47, .ref 48, .ref 49, .ref 50, .ref 51, .ref 52, .ref 53, .ref 54, .ref 55, .ref 56, .ref 57, .ref 58, .ref 59, .ref 60, .ref 61, .ref 62, .ref 63, .ref 64, .ref 65, .ref 66, .ref 67, .ref 68, .ref 69, .ref 70, .ref 71, .ref 72, .ref 73, .ref 74, .ref 75, .ref 76, .ref 77, .ref 78, .ref 79, .ref 80, .ref 81, .ref 82, .ref 83, .ref 84, .ref 85, .ref 86, .ref 87, .ref 88, .ref 89, .ref 90, .ref 91, .ref 92, .ref 93, .ref 94, .ref 95, .ref 96, .ref 97, .ref 98, .ref 99, .ref 100, .ref 101, .ref 102, .ref 103, .ref 104, .ref 105, .ref 106, .ref 107, .ref 108, .ref 109, .ref 110, .ref 111, .ref 112, .ref 113, .ref 114, .ref 115, .ref 116, .ref 117, .ref 118, .ref 119, .ref 120, .ref 121, .ref 122, .ref 123, .ref 124, .ref 125, .ref 126, .ref 127, .ref 128, .ref 129, .ref 130, .ref 131, .ref 132, .ref 133, .ref 134, .ref 135, .ref 136, .ref 137, .ref 138, .ref 139, .ref 140, .ref 141, .ref 142, .ref 143, .ref 144, .ref 145, .ref 146, .ref 147, .ref 148, .ref 149, .ref 150, .ref 151, .ref 152, .ref 153, .ref 154, .ref 155, .ref 156, .ref 157, .ref 158, .ref 159, .ref 160, .ref 161, .ref 162, .ref 163, .ref 164, .ref 165, .ref 166, .ref 167, .ref 168, .ref 169, .ref 170, .ref 171, .ref 172, .ref 173, .ref 174, .ref 175, .ref 176, .ref 177, .ref 178, .ref 179, .ref 180, .ref 181, .ref 182, .ref 183, .ref 184, .ref 185, .ref 186, .ref 187, .ref 188, .ref 189, .ref 190, .ref 191, .ref 192, .ref 193, .ref 194, .ref 195, .ref 196, .ref 197, .ref 198, .ref 199, .ref 200, .ref 201, .ref 202, .ref 203, .ref 204, .ref 205, .ref 206, .ref 207, .ref 208, .ref 209, .ref 210, .ref 211, .ref 212, .ref 213, .ref 214, .ref 215, .ref 216, .ref 217, .ref 218, .ref 219, .ref 220, .ref 221, .ref 222, .ref 223, .ref 224, .ref 225, .ref 226, .ref 227, .ref 228, .ref 229, .ref 230, .ref 231, .ref 232, .ref 233, .ref 234, .ref 235, .ref 236, .ref 237, .ref 238, .ref 239, .ref 240, .ref 241, .ref 242, .ref 243, .ref 244, .ref 245, .ref 246, .ref 247, .ref 248, .ref 249, .ref 250, .ref 251, .ref 252, .ref 253, .ref 254, .ref 255, .ref 256, .ref 257], vm := .none },
  { cls := 8, slots := #[.long (-128)], vm := .none },
  { cls := 8, slots := #[.long (-127)], vm := .none },
  { cls := 8, slots := #[.long (-126)], vm := .none },
  { cls := 8, slots := #[.long (-125)], vm := .none },
  { cls := 8, slots := #[.long (-124)], vm := .none },
  { cls := 8, slots := #[.long (-123)], vm := .none },
  { cls := 8, slots := #[.long (-122)], vm := .none },
  { cls := 8, slots := #[.long (-121)], vm := .none },
  { cls := 8, slots := #[.long (-120)], vm := .none },
  { cls := 8, slots := #[.long (-119)], vm := .none },
  { cls := 8, slots := #[.long (-118)], vm := .none },
  { cls := 8, slots := #[.long (-117)], vm := .none },
  { cls := 8, slots := #[.long (-116)], vm := .none },
  { cls := 8, slots := #[.long (-115)], vm := .none },
  { cls := 8, slots := #[.long (-114)], vm := .none },
  { cls := 8, slots := #[.long (-113)], vm := .none },
  { cls := 8, slots := #[.long (-112)], vm := .none },
  { cls := 8, slots := #[.long (-111)], vm := .none },
  { cls := 8, slots := #[.long (-110)], vm := .none },
  { cls := 8, slots := #[.long (-109)], vm := .none },
  { cls := 8, slots := #[.long (-108)], vm := .none },
  { cls := 8, slots := #[.long (-107)], vm := .none },
  { cls := 8, slots := #[.long (-106)], vm := .none },
  { cls := 8, slots := #[.long (-105)], vm := .none },
  { cls := 8, slots := #[.long (-104)], vm := .none },
  { cls := 8, slots := #[.long (-103)], vm := .none },
  { cls := 8, slots := #[.long (-102)], vm := .none },
  { cls := 8, slots := #[.long (-101)], vm := .none },
  { cls := 8, slots := #[.long (-100)], vm := .none },
  { cls := 8, slots := #[.long (-99)], vm := .none },
  { cls := 8, slots := #[.long (-98)], vm := .none },
  { cls := 8, slots := #[.long (-97)], vm := .none },
  { cls := 8, slots := #[.long (-96)], vm := .none },
  { cls := 8, slots := #[.long (-95)], vm := .none },
  { cls := 8, slots := #[.long (-94)], vm := .none },
  { cls := 8, slots := #[.long (-93)], vm := .none },
  { cls := 8, slots := #[.long (-92)], vm := .none },
  { cls := 8, slots := #[.long (-91)], vm := .none },
  { cls := 8, slots := #[.long (-90)], vm := .none },
  { cls := 8, slots := #[.long (-89)], vm := .none },
  { cls := 8, slots := #[.long (-88)], vm := .none },
  { cls := 8, slots := #[.long (-87)], vm := .none },
  { cls := 8, slots := #[.long (-86)], vm := .none },
  { cls := 8, slots := #[.long (-85)], vm := .none },
  { cls := 8, slots := #[.long (-84)], vm := .none },
  { cls := 8, slots := #[.long (-83)], vm := .none },
  { cls := 8, slots := #[.long (-82)], vm := .none },
  { cls := 8, slots := #[.long (-81)], vm := .none },
  { cls := 8, slots := #[.long (-80)], vm := .none },
  { cls := 8, slots := #[.long (-79)], vm := .none },
  { cls := 8, slots := #[.long (-78)], vm := .none },
  { cls := 8, slots := #[.long (-77)], vm := .none },
  { cls := 8, slots := #[.long (-76)], vm := .none },
  { cls := 8, slots := #[.long (-75)], vm := .none },
  { cls := 8, slots := #[.long (-74)], vm := .none },
  { cls := 8, slots := #[.long (-73)], vm := .none },
  { cls := 8, slots := #[.long (-72)], vm := .none },
  { cls := 8, slots := #[.long (-71)], vm := .none },
  { cls := 8, slots := #[.long (-70)], vm := .none },
  { cls := 8, slots := #[.long (-69)], vm := .none },
  { cls := 8, slots := #[.long (-68)], vm := .none },
  { cls := 8, slots := #[.long (-67)], vm := .none },
  { cls := 8, slots := #[.long (-66)], vm := .none },
  { cls := 8, slots := #[.long (-65)], vm := .none },
  { cls := 8, slots := #[.long (-64)], vm := .none },
  { cls := 8, slots := #[.long (-63)], vm := .none },
  { cls := 8, slots := #[.long (-62)], vm := .none },
  { cls := 8, slots := #[.long (-61)], vm := .none },
  { cls := 8, slots := #[.long (-60)], vm := .none },
  { cls := 8, slots := #[.long (-59)], vm := .none },
  { cls := 8, slots := #[.long (-58)], vm := .none },
  { cls := 8, slots := #[.long (-57)], vm := .none },
  { cls := 8, slots := #[.long (-56)], vm := .none },
  { cls := 8, slots := #[.long (-55)], vm := .none },
  { cls := 8, slots := #[.long (-54)], vm := .none },
  { cls := 8, slots := #[.long (-53)], vm := .none },
  { cls := 8, slots := #[.long (-52)], vm := .none },
  { cls := 8, slots := #[.long (-51)], vm := .none },
  { cls := 8, slots := #[.long (-50)], vm := .none },
  { cls := 8, slots := #[.long (-49)], vm := .none },
  { cls := 8, slots := #[.long (-48)], vm := .none },
  { cls := 8, slots := #[.long (-47)], vm := .none },
  { cls := 8, slots := #[.long (-46)], vm := .none },
  { cls := 8, slots := #[.long (-45)], vm := .none },
  { cls := 8, slots := #[.long (-44)], vm := .none },
  { cls := 8, slots := #[.long (-43)], vm := .none },
  { cls := 8, slots := #[.long (-42)], vm := .none },
  { cls := 8, slots := #[.long (-41)], vm := .none },
  { cls := 8, slots := #[.long (-40)], vm := .none },
  { cls := 8, slots := #[.long (-39)], vm := .none },
  { cls := 8, slots := #[.long (-38)], vm := .none },
  { cls := 8, slots := #[.long (-37)], vm := .none },
  { cls := 8, slots := #[.long (-36)], vm := .none },
  { cls := 8, slots := #[.long (-35)], vm := .none },
  { cls := 8, slots := #[.long (-34)], vm := .none },
  { cls := 8, slots := #[.long (-33)], vm := .none },
  { cls := 8, slots := #[.long (-32)], vm := .none },
  { cls := 8, slots := #[.long (-31)], vm := .none },
  { cls := 8, slots := #[.long (-30)], vm := .none },
  { cls := 8, slots := #[.long (-29)], vm := .none },
  { cls := 8, slots := #[.long (-28)], vm := .none },
  { cls := 8, slots := #[.long (-27)], vm := .none },
  { cls := 8, slots := #[.long (-26)], vm := .none },
  { cls := 8, slots := #[.long (-25)], vm := .none },
  { cls := 8, slots := #[.long (-24)], vm := .none },
  { cls := 8, slots := #[.long (-23)], vm := .none },
  { cls := 8, slots := #[.long (-22)], vm := .none },
  { cls := 8, slots := #[.long (-21)], vm := .none },
  { cls := 8, slots := #[.long (-20)], vm := .none },
  { cls := 8, slots := #[.long (-19)], vm := .none },
  { cls := 8, slots := #[.long (-18)], vm := .none },
  { cls := 8, slots := #[.long (-17)], vm := .none },
  { cls := 8, slots := #[.long (-16)], vm := .none },
  { cls := 8, slots := #[.long (-15)], vm := .none },
  { cls := 8, slots := #[.long (-14)], vm := .none },
  { cls := 8, slots := #[.long (-13)], vm := .none },
  { cls := 8, slots := #[.long (-12)], vm := .none },
  { cls := 8, slots := #[.long (-11)], vm := .none },
  { cls := 8, slots := #[.long (-10)], vm := .none },
  { cls := 8, slots := #[.long (-9)], vm := .none },
  { cls := 8, slots := #[.long (-8)], vm := .none },
  { cls := 8, slots := #[.long (-7)], vm := .none },
  { cls := 8, slots := #[.long (-6)], vm := .none },
  { cls := 8, slots := #[.long (-5)], vm := .none },
  { cls := 8, slots := #[.long (-4)], vm := .none },
  { cls := 8, slots := #[.long (-3)], vm := .none },
  { cls := 8, slots := #[.long (-2)], vm := .none },
  { cls := 8, slots := #[.long (-1)], vm := .none },
  { cls := 8, slots := #[.long 0], vm := .none },
  { cls := 8, slots := #[.long 1], vm := .none },
  { cls := 8, slots := #[.long 2], vm := .none },
  { cls := 8, slots := #[.long 3], vm := .none },
  { cls := 8, slots := #[.long 4], vm := .none },
  { cls := 8, slots := #[.long 5], vm := .none },
  { cls := 8, slots := #[.long 6], vm := .none },
  { cls := 8, slots := #[.long 7], vm := .none },
  { cls := 8, slots := #[.long 8], vm := .none },
  { cls := 8, slots := #[.long 9], vm := .none },
  { cls := 8, slots := #[.long 10], vm := .none },
  { cls := 8, slots := #[.long 11], vm := .none },
  { cls := 8, slots := #[.long 12], vm := .none },
  { cls := 8, slots := #[.long 13], vm := .none },
  { cls := 8, slots := #[.long 14], vm := .none },
  { cls := 8, slots := #[.long 15], vm := .none },
  { cls := 8, slots := #[.long 16], vm := .none },
  { cls := 8, slots := #[.long 17], vm := .none },
  { cls := 8, slots := #[.long 18], vm := .none },
  { cls := 8, slots := #[.long 19], vm := .none },
  { cls := 8, slots := #[.long 20], vm := .none },
  { cls := 8, slots := #[.long 21], vm := .none },
  { cls := 8, slots := #[.long 22], vm := .none },
  { cls := 8, slots := #[.long 23], vm := .none },
  { cls := 8, slots := #[.long 24], vm := .none },
  { cls := 8, slots := #[.long 25], vm := .none },
  { cls := 8, slots := #[.long 26], vm := .none },
  { cls := 8, slots := #[.long 27], vm := .none },
  { cls := 8, slots := #[.long 28], vm := .none },
  { cls := 8, slots := #[.long 29], vm := .none },
  { cls := 8, slots := #[.long 30], vm := .none },
  { cls := 8, slots := #[.long 31], vm := .none },
  { cls := 8, slots := #[.long 32], vm := .none },
  { cls := 8, slots := #[.long 33], vm := .none },
  { cls := 8, slots := #[.long 34], vm := .none },
  { cls := 8, slots := #[.long 35], vm := .none },
  { cls := 8, slots := #[.long 36], vm := .none },
  { cls := 8, slots := #[.long 37], vm := .none },
  { cls := 8, slots := #[.long 38], vm := .none },
  { cls := 8, slots := #[.long 39], vm := .none },
  { cls := 8, slots := #[.long 40], vm := .none },
  { cls := 8, slots := #[.long 41], vm := .none },
  { cls := 8, slots := #[.long 42], vm := .none },
  { cls := 8, slots := #[.long 43], vm := .none },
  { cls := 8, slots := #[.long 44], vm := .none },
  { cls := 8, slots := #[.long 45], vm := .none },
  { cls := 8, slots := #[.long 46], vm := .none },
  { cls := 8, slots := #[.long 47], vm := .none },
  { cls := 8, slots := #[.long 48], vm := .none },
  { cls := 8, slots := #[.long 49], vm := .none },
  { cls := 8, slots := #[.long 50], vm := .none },
  { cls := 8, slots := #[.long 51], vm := .none },
  { cls := 8, slots := #[.long 52], vm := .none },
  { cls := 8, slots := #[.long 53], vm := .none },
  { cls := 8, slots := #[.long 54], vm := .none },
  { cls := 8, slots := #[.long 55], vm := .none },
  { cls := 8, slots := #[.long 56], vm := .none },
  { cls := 8, slots := #[.long 57], vm := .none },
  { cls := 8, slots := #[.long 58], vm := .none },
  { cls := 8, slots := #[.long 59], vm := .none },
  { cls := 8, slots := #[.long 60], vm := .none },
  { cls := 8, slots := #[.long 61], vm := .none },
  { cls := 8, slots := #[.long 62], vm := .none },
  { cls := 8, slots := #[.long 63], vm := .none },
  { cls := 8, slots := #[.long 64], vm := .none },
  { cls := 8, slots := #[.long 65], vm := .none },
  { cls := 8, slots := #[.long 66], vm := .none },
  { cls := 8, slots := #[.long 67], vm := .none },
  { cls := 8, slots := #[.long 68], vm := .none },
  { cls := 8, slots := #[.long 69], vm := .none },
  { cls := 8, slots := #[.long 70], vm := .none },
  { cls := 8, slots := #[.long 71], vm := .none },
  { cls := 8, slots := #[.long 72], vm := .none },
  { cls := 8, slots := #[.long 73], vm := .none },
  { cls := 8, slots := #[.long 74], vm := .none },
  { cls := 8, slots := #[.long 75], vm := .none },
  { cls := 8, slots := #[.long 76], vm := .none },
  { cls := 8, slots := #[.long 77], vm := .none },
  { cls := 8, slots := #[.long 78], vm := .none },
  { cls := 8, slots := #[.long 79], vm := .none },
  { cls := 8, slots := #[.long 80], vm := .none },
  { cls := 8, slots := #[.long 81], vm := .none },
  { cls := 8, slots := #[.long 82], vm := .none },
  { cls := 8, slots := #[.long 83], vm := .none },
  { cls := 8, slots := #[.long 84], vm := .none },
  { cls := 8, slots := #[.long 85], vm := .none },
  { cls := 8, slots := #[.long 86], vm := .none },
  { cls := 8, slots := #[.long 87], vm := .none },
  { cls := 8, slots := #[.long 88], vm := .none },
  { cls := 8, slots := #[.long 89], vm := .none },
  { cls := 8, slots := #[.long 90], vm := .none },
  { cls := 8, slots := #[.long 91], vm := .none },
  { cls := 8, slots := #[.long 92], vm := .none },
  { cls := 8, slots := #[.long 93], vm := .none },
  { cls := 8, slots := #[.long 94], vm := .none },
  { cls := 8, slots := #[.long 95], vm := .none },
  { cls := 8, slots := #[.long 96], vm := .none },
  { cls := 8, slots := #[.long 97], vm := .none },
  { cls := 8, slots := #[.long 98], vm := .none },
  { cls := 8, slots := #[.long 99], vm := .none },
  { cls := 8, slots := #[.long 100], vm := .none },
  { cls := 8, slots := #[.long 101], vm := .none },
  { cls := 8, slots := #[.long 102], vm := .none },
  { cls := 8, slots := #[.long 103], vm := .none },
  { cls := 8, slots := #[.long 104], vm := .none },
  { cls := 8, slots := #[.long 105], vm := .none },
  { cls := 8, slots := #[.long 106], vm := .none },
  { cls := 8, slots := #[.long 107], vm := .none },
  { cls := 8, slots := #[.long 108], vm := .none },
  { cls := 8, slots := #[.long 109], vm := .none },
  { cls := 8, slots := #[.long 110], vm := .none },
  { cls := 8, slots := #[.long 111], vm := .none },
  { cls := 8, slots := #[.long 112], vm := .none },
  { cls := 8, slots := #[.long 113], vm := .none },
  { cls := 8, slots := #[.long 114], vm := .none },
  { cls := 8, slots := #[.long 115], vm := .none },
  { cls := 8, slots := #[.long 116], vm := .none },
  { cls := 8, slots := #[.long 117], vm := .none },
  { cls := 8, slots := #[.long 118], vm := .none },
  { cls := 8, slots := #[.long 119], vm := .none },
  { cls := 8, slots := #[.long 120], vm := .none },
  { cls := 8, slots := #[.long 121], vm := .none },
  { cls := 8, slots := #[.long 122], vm := .none },
  { cls := 8, slots := #[.long 123], vm := .none },
  { cls := 8, slots := #[.long 124], vm := .none },
  { cls := 8, slots := #[.long 125], vm := .none },
  { cls := 8, slots := #[.long 126], vm := .none },
  { cls := 8, slots := #[.long 127], vm := .none }]
def classes : Array Class := #[k0, k1, k2, k3, k4, k5, k6, k7, k8, k9, k10, k11, k12, k13, k14, k15]
def interned : List (Array UInt16 × Addr) := []
def slotsUsed : Nat := 515
def theMethod : MethodId := ⟨1, 1⟩
def args0 : Array Value := #[.long 1, .long 2, .long 3, .long 4, .long 5, .int 6]
def aboutOver (below : List Frame) : State where
  vm := { classes := classes, interned := interned.toArray }
  heap := heap
  slotsUsed := slotsUsed
  threads := #[{ frames := .invoking theMethod args0 :: below }]
def below0 : List Frame := [.native { method := ⟨0, 0⟩, args := #[] }]
def about1 : State := aboutOver below0
def p0 : Program := .bare "" "" ""
def e0 : Env := launch0.env 0 0 0
theorem w_frames : about1.frames = Frame.invoking theMethod args0 :: below0 := rfl
set_option maxRecDepth 65536 in
theorem w_args : argsFit about1.vm theMethod args0 = true := by decide +kernel
set_option maxRecDepth 65536 in
theorem w_heap : heapFits about1 = true := by decide +kernel
set_option maxRecDepth 65536 in
theorem w_runnable : about1.curStatus? = some .runnable := by decide +kernel
set_option maxRecDepth 65536 in
theorem w_alone : about1.alone = true := by decide +kernel
set_option maxRecDepth 65536 in
theorem w_named : about1.methodNamed? x = some theMethod := by decide +kernel
set_option maxRecDepth 65536 in
theorem w_hears : about1.hears theMethod below0 = true := by decide +kernel
set_option maxRecDepth 65536 in
theorem w_ripe : about1.ripe theMethod args0 below0 = true := by decide +kernel
theorem w_running : about1.status = .running := rfl
set_option maxRecDepth 65536 in
theorem w_room : about1.hasRoom e0.platform room_1 = true :=
  launch0.hasRoom_least _ room_1 (by decide +kernel) (by decide +kernel) (by decide +kernel) (by decide +kernel) (by decide +kernel) (by decide +kernel)
theorem allAtoms_all (ts : List Jvm.Cond) (a : Array Jvm.Value) (st : Jvm.State) : (allAtoms ts).before a st = ts.all (fun c => c.before a st) := by
  induction ts with
  | nil => rfl
  | cons c t ih =>
    show (Jvm.Cond.and c (allAtoms t)).before a st = _
    rw [Jvm.Cond.before_and, ih, List.all_cons]
def words1 : List Jvm.Cond := Jvm.Cond.code x code maxLocals ret :: tables_1
/-- a 'code' word, met by the world's own term for the bytes: nothing is compared byte by byte -/
theorem code_word {y : MethodName} {bytes : ByteArray} {mx : Nat} {rt : Option FieldType} {a : Array Value} {s : State} {m : MethodId} {meth : Method} {c : Code} (h1 : s.methodNamed? y = some m) (h2 : s.vm.method? m = some meth) (h3 : meth.code = some c) (h4 : c.code = bytes)
    (h5 : (c.maxLocals == mx && c.exceptionTable.isEmpty && decide (c.maxStack ≤ mostOperands) && decide (meth.sig.returnType = rt) && !meth.locks && decide (parseMethodDescriptor y.desc = some meth.sig)) = true) : (Jvm.Cond.code y bytes mx rt).before a s = true := by
  simp only [Bool.and_eq_true, beq_iff_eq, Bool.not_eq_true', decide_eq_true_eq] at h5
  obtain ⟨⟨⟨⟨⟨g1, g2⟩, g3⟩, g4⟩, g5⟩, g6⟩ := h5
  simp [Cond.before, Cond.holds, Cond.value, h1, h2, h3, h4, g1, g2, g3, g4, g5, g6]
def isCode : Jvm.Cond → Bool
  | .code _ _ _ _ => true
  | _ => false
theorem all_split {L : List Jvm.Cond} {P : Jvm.Cond → Bool} (h1 : L.all (fun c => isCode c || P c) = true) (h2 : ∀ c ∈ L.filter isCode, P c = true) : L.all P = true := by
  refine List.all_eq_true.mpr fun c hc => ?_
  have h := List.all_eq_true.mp h1 c hc
  rcases Bool.eq_false_or_eq_true (isCode c) with hi | hi
  · exact h2 c (List.mem_filter.mpr ⟨hc, hi⟩)
  · simpa [hi] using h
set_option maxRecDepth 65536 in
theorem w_c0 : (Jvm.Cond.code x code maxLocals ret).before args0 about1 = true := code_word (m := ⟨1, 1⟩) (meth := k1m1) (c := k1c1) (by decide +kernel) rfl rfl rfl (by decide +kernel)
set_option maxRecDepth 65536 in
theorem w_c1 : (Jvm.Cond.code ({ cls := "com/example/vernal_pool/vernalpool/cli/TraceRequest", name := "<init>", desc := "(JJJJ)V" } : Jvm.MethodName) prog_38_method_1_code (9 : Nat) (Option.none : Option Jvm.ClassFile.FieldType)).before args0 about1 = true := code_word (m := ⟨2, 0⟩) (meth := k2m0) (c := k2c0) (by decide +kernel) rfl rfl rfl (by decide +kernel)
set_option maxRecDepth 65536 in
theorem w_c2 : (Jvm.Cond.code ({ cls := "java/lang/Object", name := "<init>", desc := "()V" } : Jvm.MethodName) object_method_1_code (1 : Nat) (Option.none : Option Jvm.ClassFile.FieldType)).before args0 about1 = true := code_word (m := ⟨0, 0⟩) (meth := k0m0) (c := k0c0) (by decide +kernel) rfl rfl rfl (by decide +kernel)
set_option maxRecDepth 65536 in
theorem w_c3 : (Jvm.Cond.code ({ cls := "com/example/vernal_pool/vernalpool/cli/TraceRequest", name := "equals", desc := "(Ljava/lang/Object;)Z" } : Jvm.MethodName) prog_38_method_6_code (3 : Nat) (Option.some Jvm.ClassFile.FieldType.boolean)).before args0 about1 = true := code_word (m := ⟨2, 1⟩) (meth := k2m1) (c := k2c1) (by decide +kernel) rfl rfl rfl (by decide +kernel)
set_option maxRecDepth 65536 in
theorem w_c4 : (Jvm.Cond.code ({ cls := "java/lang/Long", name := "valueOf", desc := "(J)Ljava/lang/Long;" } : Jvm.MethodName) jdk_35_method_24_code (3 : Nat) (Option.some (Jvm.ClassFile.FieldType.object "java/lang/Long"))).before args0 about1 = true := code_word (m := ⟨8, 0⟩) (meth := k8m0) (c := k8c0) (by decide +kernel) rfl rfl rfl (by decide +kernel)
set_option maxRecDepth 65536 in
theorem w_c5 : (Jvm.Cond.code ({ cls := "java/lang/Long", name := "<init>", desc := "(J)V" } : Jvm.MethodName) jdk_35_method_26_code (3 : Nat) (Option.none : Option Jvm.ClassFile.FieldType)).before args0 about1 = true := code_word (m := ⟨8, 1⟩) (meth := k8m1) (c := k8c1) (by decide +kernel) rfl rfl rfl (by decide +kernel)
set_option maxRecDepth 65536 in
theorem w_c6 : (Jvm.Cond.code ({ cls := "java/lang/Number", name := "<init>", desc := "()V" } : Jvm.MethodName) jdk_18_method_1_code (1 : Nat) (Option.none : Option Jvm.ClassFile.FieldType)).before args0 about1 = true := code_word (m := ⟨4, 0⟩) (meth := k4m0) (c := k4c0) (by decide +kernel) rfl rfl rfl (by decide +kernel)
def codes1 : List Jvm.Cond := [Jvm.Cond.code x code maxLocals ret, Jvm.Cond.code ({ cls := "com/example/vernal_pool/vernalpool/cli/TraceRequest", name := "<init>", desc := "(JJJJ)V" } : Jvm.MethodName) prog_38_method_1_code (9 : Nat) (Option.none : Option Jvm.ClassFile.FieldType), Jvm.Cond.code ({ cls := "java/lang/Object", name := "<init>", desc := "()V" } : Jvm.MethodName) object_method_1_code (1 : Nat) (Option.none : Option Jvm.ClassFile.FieldType), Jvm.Cond.code ({ cls := "com/example/vernal_pool/vernalpool/cli/TraceRequest", name := "equals", desc := "(Ljava/lang/Object;)Z" } : Jvm.MethodName) prog_38_method_6_code (3 : Nat) (Option.some Jvm.ClassFile.FieldType.boolean), Jvm.Cond.code ({ cls := "java/lang/Long", name := "valueOf", desc := "(J)Ljava/lang/Long;" } : Jvm.MethodName) jdk_35_method_24_code (3 : Nat) (Option.some (Jvm.ClassFile.FieldType.object "java/lang/Long")), Jvm.Cond.code ({ cls := "java/lang/Long", name := "<init>", desc := "(J)V" } : Jvm.MethodName) jdk_35_method_26_code (3 : Nat) (Option.none : Option Jvm.ClassFile.FieldType), Jvm.Cond.code ({ cls := "java/lang/Number", name := "<init>", desc := "()V" } : Jvm.MethodName) jdk_18_method_1_code (1 : Nat) (Option.none : Option Jvm.ClassFile.FieldType)]
set_option maxRecDepth 65536 in
theorem codes_eq : words1.filter isCode = codes1 := rfl
theorem w_codes : ∀ c ∈ words1.filter isCode, c.before args0 about1 = true := by
  rw [codes_eq]
  intro c hc
  simp only [codes1, List.mem_cons, List.not_mem_nil, or_false] at hc
  rcases hc with rfl | rfl | rfl | rfl | rfl | rfl | rfl
  · exact w_c0
  · exact w_c1
  · exact w_c2
  · exact w_c3
  · exact w_c4
  · exact w_c5
  · exact w_c6
set_option maxRecDepth 65536 in
theorem w_t1 : (words1.take 24).all (fun c => isCode c || c.before args0 about1) = true := by decide +kernel
set_option maxRecDepth 65536 in
theorem w_t2 : ((words1.drop 24).take 24).all (fun c => isCode c || c.before args0 about1) = true := by decide +kernel
set_option maxRecDepth 65536 in
theorem w_t3 : ((words1.drop 24).drop 24).all (fun c => isCode c || c.before args0 about1) = true := by decide +kernel
theorem w_tables : (allAtoms (Jvm.Cond.code x code maxLocals ret :: tables_1)).before args0 about1 = true := by
  rw [allAtoms_all]
  show words1.all (fun c => c.before args0 about1) = true
  refine all_split ?_ w_codes
  rw [← List.take_append_drop 24 words1, List.all_append, w_t1, ← List.take_append_drop 24 (words1.drop 24), List.all_append, w_t2, w_t3]
  rfl
set_option maxRecDepth 65536 in
theorem w_rest : rest_1_c.before args0 about1 = true := by decide +kernel
set_option maxRecDepth 65536 in
theorem w_case : (Jvm.Cond.and given_1 narrow_1).before args0 about1 = true := by decide +kernel
theorem w_applies : (headSpec (Jvm.Cond.code x code maxLocals ret :: tables_1) room_1).applies x e0.platform about1 = true :=
  (Spec.applies_iff w_frames).mpr ⟨w_running, w_runnable, w_alone, w_named, w_hears, w_ripe, w_room, w_tables⟩
theorem atStart : AtStart classFile x code maxLocals ret World_1 tables_1 room_1 Calls_1 rest_1 Pre_1 launch0 p0 e0 about1 theMethod args0 below0 :=
  ⟨lists_1, trivial, launch0.admits_env _ _ _, launch0.least_env, fairChoices_fair.cas, fairChoices_fair.clock, w_frames, w_args, w_heap, w_applies, trivial, w_rest, w_case⟩
end start1
theorem witness_1 : WitnessClaimed_1 := ⟨start1.p0, start1.e0, start1.about1, start1.theMethod, start1.args0, start1.below0, start1.atStart⟩
end Jvm.Pilot.@@N@@
