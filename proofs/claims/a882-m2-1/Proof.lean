import JvmDerived
import JvmDerived.Pilot.@@N@@Statement
import JvmDerived.Pilot.@@N@@Code
set_option linter.unusedVariables false
set_option linter.unusedSimpArgs false
namespace Jvm.RoadKit
open Sem ClassFile Op Lib Jvm.Stand Jvm.Free Jvm.LawKit
section New
variable {p : Program} {l : Launch} {e : Env} {R : Room} {s : State} {m : MethodId} {args : Array Value} {below : List Frame} {meth : Method} {c : Code} {T : State} {locs : List Loc} {cells slots : Nat}
theorem retI (X : Stand p l e R s m args below meth c T locs cells slots) (hx : p.tables.exec = Jvm.exec) {pc : Nat} {Ls : Array Slot} {z : Int32} {rest : List Value} (hret : meth.sig.returnType = some .int) (hd : decode c.code pc = .ok (.ireturn, 1)) {fs : List Frame}
    (hl : ∀ (f : JFrame) (acts : List Action), f.method = m → f.locked = none → f.entered = [] → (doReturn e (T.setTop f) acts (some (.int z))).1 = T.setFrames fs) : Steps p.tables e below (T.setTop (mkF m pc Ls (.int z :: rest))) (T.setFrames fs) :=
  retOut X hx hret rfl (Or.inl ⟨rfl, Or.inl rfl, z, rfl⟩) hd hl
theorem own_retJ (X : Stand p l e R s m args below meth c T locs cells slots) (hx : p.tables.exec = Jvm.exec) {pc : Nat} {Ls : Array Slot} {z : Int64} {rest : List Value} (hret : meth.sig.returnType = some .long) (hd : decode c.code pc = .ok (.lreturn, 1)) {fs : List Frame}
    (hl : ∀ (f : JFrame) (acts : List Action), f.method = m → f.locked = none → f.entered = [] → (doReturn e (T.setTop f) acts (some (.long z))).1 = T.setFrames fs) : Steps p.tables e below (T.setTop (mkF m pc Ls (.long z :: rest))) (T.setFrames fs) :=
  retOut X hx hret rfl (Or.inr (Or.inl ⟨rfl, rfl, z, rfl⟩)) hd hl
theorem own_retA (X : Stand p l e R s m args below meth c T locs cells slots) (hx : p.tables.exec = Jvm.exec) {pc : Nat} {Ls : Array Slot} {w : Value} {t : FieldType} {rest : List Value} (hret : meth.sig.returnType = some t) (ht : t.isReference = true) (hw : w.isRef = true) (hd : decode c.code pc = .ok (.areturn, 1)) {fs : List Frame}
    (hl : ∀ (f : JFrame) (acts : List Action), f.method = m → f.locked = none → f.entered = [] → (doReturn e (T.setTop f) acts (some w)).1 = T.setFrames fs) : Steps p.tables e below (T.setTop (mkF m pc Ls (w :: rest))) (T.setFrames fs) :=
  retOut X hx hret (by cases t <;> first | rfl | cases ht) (Or.inr (Or.inr (Or.inr (Or.inr ⟨rfl, ht, hw⟩)))) hd hl
end New
end Jvm.RoadKit
namespace Jvm.Pilot.@@N@@
open Jvm Jvm.ClassFile Sem Op Lib Jvm.Free Jvm.Stand Jvm.LawKit Jvm.RoadKit Bundle Jvm.Pilot.@@N@@.Jvm.D
abbrev own_Go (tb : Tables) (e : Env) (below : List Frame) (S0 S1 : State) : Prop := ∀ t, Steps tb e below S1 t → Steps tb e below S0 t
theorem own_eqI {args : Array Value} {s : State} {t : Term} {k : Int32} (h : (Jvm.Cond.eq t (.int k)).value args s none s [] = some true) : t.eval args s none [] s = some (.int k) := by
  obtain ⟨x, y, e1, e2, -, -⟩ := cmp_v (Or.inl h)
  obtain rfl : y = .int k := (Option.some.inj e2).symm
  cases x <;> simp [Cond.value, e1, Term.eval] at h <;> simp_all
theorem own_eqL {args : Array Value} {s : State} {t : Term} {k : Int64} (h : (Jvm.Cond.eq t (.long k)).value args s none s [] = some true) : t.eval args s none [] s = some (.long k) := by
  obtain ⟨x, y, e1, e2, -, -⟩ := cmp_v (Or.inl h)
  obtain rfl : y = .long k := (Option.some.inj e2).symm
  cases x <;> simp [Cond.value, e1, Term.eval] at h <;> simp_all
theorem own_nar0 : nar .boolean (0 : Int32) = 0 := by decide
theorem own_nar1 : nar .boolean (1 : Int32) = 1 := by decide
theorem own_nar_ite {P : Prop} [Decidable P] {a b : Int32} (ha : nar .boolean a = a) (hb : nar .boolean b = b) : nar .boolean (if P then a else b) = if P then a else b := by split <;> assumption
theorem own_fld {args : Array Value} {s : State} {t : Term} {a : Addr} {C n d : String} {v : Value} (ht : t.eval args s none [] s = some (.ref a)) (h : (Term.field t C n d).eval args s none [] s = some v) : Fld s s.heap a C n d v :=
  Fld.start (by rw [← fld_at (args := args) (first := s) (o := none) (idx := []) ht]; exact h)

theorem own_wS {Z : State} {a0 : Array Value} (hw : ∀ d ∈ tables_1, d.before a0 Z = true) : ∀ a ∈ Bundle.stringAtoms, a.before a0 Z = true := by
  intro a ha
  simp only [Bundle.stringAtoms, Bundle.sN, List.mem_cons, List.not_mem_nil, or_false] at ha
  rcases ha with rfl | rfl | rfl | rfl | rfl | rfl | rfl
  · exact (hw _ (List.mem_of_getElem? (i := 24) rfl))
  · exact (hw _ (List.mem_of_getElem? (i := 25) rfl))
  · exact (hw _ (List.mem_of_getElem? (i := 26) rfl))
  · exact (hw _ (List.mem_of_getElem? (i := 27) rfl))
  · exact (hw _ (List.mem_of_getElem? (i := 28) rfl))
  · exact (hw _ (List.mem_of_getElem? (i := 29) rfl))
  · exact (hw _ (List.mem_of_getElem? (i := 30) rfl))

def own_EL : List (String × Nat) := [("com/example/epsilock/epsilock/workload/RunFormat", 21), ("com/example/epsilock/epsilock/workload/RunFormat", 23), ("com/example/epsilock/epsilock/workload/RunFormat", 25), ("com/example/epsilock/epsilock/workload/RunFormat", 27), ("com/example/epsilock/epsilock/workload/RunFormatTestPinLaw", 47), ("com/example/epsilock/epsilock/workload/RunFormatTestPinLaw", 49), ("com/example/epsilock/epsilock/workload/RunFormatTestPinLaw", 51), ("com/example/epsilock/epsilock/workload/RunFormatTestPinLaw", 53)]
def own_cs (i : Int32) : List Int32 := if i = 0 then [98, 111, 116, 104, 45, 119, 114, 105, 116, 101] else if i = 1 then [111, 116, 104, 101, 114, 45, 119, 114, 111, 116, 101] else if i = 2 then [111, 116, 104, 101, 114, 45, 114, 101, 97, 100] else [116, 101, 120, 116]
def own_n (i : Int32) : Int32 := Int32.ofNat (own_cs i).length
def own_vs (i : Int32) : List Value := (own_cs i).map Value.int
def own_pick (i : Int32) (k0 k1 k2 k3 : Addr) : Addr := if i = 0 then k0 else if i = 1 then k1 else if i = 2 then k2 else k3
theorem own_four {k : Int32} (h : 0 ≤ k.toInt ∧ k.toInt < 4) : k = 0 ∨ k = 1 ∨ k = 2 ∨ k = 3 := by
  have e0 : (0 : Int32).toInt = 0 := by decide
  have e1 : (1 : Int32).toInt = 1 := by decide
  have e2 : (2 : Int32).toInt = 2 := by decide
  have e3 : (3 : Int32).toInt = 3 := by decide
  simp only [← Int32.toInt_inj, e0, e1, e2, e3]
  omega
theorem own_k4 (p : Int32) : 0 ≤ (p &&& (3 : Int32)).toInt ∧ (p &&& (3 : Int32)).toInt < 4 := by
  have h := c_mask p 3 2 (by decide) (by decide)
  rw [h]; omega
theorem own_pickE {P : Addr → Prop} {k : Int32} {a0 a1 a2 a3 : Addr} (h0 : P a0) (h1 : P a1) (h2 : P a2) (h3 : P a3) : P (own_pick k a0 a1 a2 a3) := by
  unfold own_pick
  repeat' split
  all_goals assumption
theorem own_pickF {F : Addr → Int32 → Prop} {k : Int32} {a0 a1 a2 a3 : Addr} (hk : 0 ≤ k.toInt ∧ k.toInt < 4) (h0 : F a0 0) (h1 : F a1 1) (h2 : F a2 2) (h3 : F a3 3) : F (own_pick k a0 a1 a2 a3) k := by
  rcases own_four hk with rfl | rfl | rfl | rfl <;> assumption
theorem own_inj {i j : Int32} (hi : 0 ≤ i.toInt ∧ i.toInt < 4) (hj : 0 ≤ j.toInt ∧ j.toInt < 4) (h : own_cs i = own_cs j) : i = j := by
  rcases own_four hi with rfl | rfl | rfl | rfl <;> rcases own_four hj with rfl | rfl | rfl | rfl <;> first | rfl | (exact absurd h (by decide))
theorem own_same {Z : State} {h : Heap} {a0 a1 b0 b1 : Addr} {ka kb : ClassId} {i j : Int32} (hi : 0 ≤ i.toInt ∧ i.toInt < 4) (hj : 0 ≤ j.toInt ∧ j.toInt < 4) (V0 : Fld Z h a0 "java/lang/String" "value" "[B" (.ref b0)) (V1 : Fld Z h a1 "java/lang/String" "value" "[B" (.ref b1))
    (Va : Arv Z h b0 ka .byte (own_n i) (own_vs i) (.int 0)) (Vb : Arv Z h b1 kb .byte (own_n j) (own_vs j) (.int 0)) (e : a0 = a1) : i = j := by
  subst e
  have eb : b0 = b1 := Classical.byContradiction fun q => Fld.ne V0 V1 (fun z => q (Value.ref.inj z)) rfl
  subst eb
  obtain ⟨c, A, -, S, -, H, -⟩ := Va
  obtain ⟨c', A', -, S', -, H', -⟩ := Vb
  cases A.1.symm.trans A'.1
  have hs : (own_n i).toNatClampNeg = (own_n j).toNatClampNeg := S.symm.trans S'
  have h0 : (own_vs i).getD 0 (.int 0) = (own_vs j).getD 0 (.int 0) := by
    have hp : 0 < c.slots.size := by rw [S]; rcases own_four hi with rfl | rfl | rfl | rfl <;> decide
    exact Option.some.inj ((H 0 hp).symm.trans (H' 0 hp))
  rcases own_four hi with rfl | rfl | rfl | rfl <;> rcases own_four hj with rfl | rfl | rfl | rfl <;> first | rfl | (exact absurd hs (by decide)) | (exact absurd h0 (by decide))
theorem own_EW {Z : State} {a0 : Array Value} (hw : ∀ d ∈ tables_1, d.before a0 Z = true) : EW Z a0 own_EL :=
  EW.cons (hw _ (List.mem_of_getElem? (i := 23) rfl)) (by decide) (EW.cons (hw _ (List.mem_of_getElem? (i := 61) rfl)) (by decide) (EW.cons (hw _ (List.mem_of_getElem? (i := 58) rfl)) (by decide) (EW.cons (hw _ (List.mem_of_getElem? (i := 33) rfl)) (by decide) (EW.cons (hw _ (List.mem_of_getElem? (i := 37) rfl)) (by decide) (EW.cons (hw _ (List.mem_of_getElem? (i := 63) rfl)) (by decide) (EW.cons (hw _ (List.mem_of_getElem? (i := 62) rfl)) (by decide) (EW.cons (hw _ (List.mem_of_getElem? (i := 46) rfl)) (by decide) (EW.nil))))))))

theorem own_len2 {args : Array Value} {s : State} {t : Term} {a : Addr} {cl : Cell} {z : Int32} (ev : t.eval args s none [] s = some (.ref a)) (h1 : s.arrayAt? a = some cl) (h : (Term.length t).eval args s none [] s = some (.int z)) : cl.slots.size < 2 ^ 31 ∧ cl.slots.size.toInt32 = z := by
  have hs : cl.slots.size < 2 ^ 31 := by
    apply Decidable.byContradiction
    intro q
    simp [Term.eval, ev, h1, q] at h
  rw [len_f ev h1 hs] at h
  exact ⟨hs, by injection (Option.some.inj h)⟩

theorem d1_0 : decode method_3_code 0 = .ok (.iload_n 0, 1) := by decide +kernel
theorem d1_1 : decode method_3_code 1 = .ok (.ifCond .ne 7, 3) := by decide +kernel
theorem d1_4 : decode method_3_code 4 = .ok (.getstatic 32, 3) := by decide +kernel
theorem d1_7 : decode method_3_code 7 = .ok (.areturn, 1) := by decide +kernel
theorem d1_8 : decode method_3_code 8 = .ok (.iload_n 0, 1) := by decide +kernel
theorem d1_9 : decode method_3_code 9 = .ok (.iconst 1, 1) := by decide +kernel
theorem d1_10 : decode method_3_code 10 = .ok (.if_icmp .ne 7, 3) := by decide +kernel
theorem d1_13 : decode method_3_code 13 = .ok (.getstatic 38, 3) := by decide +kernel
theorem d1_16 : decode method_3_code 16 = .ok (.areturn, 1) := by decide +kernel
theorem d1_17 : decode method_3_code 17 = .ok (.iload_n 0, 1) := by decide +kernel
theorem d1_18 : decode method_3_code 18 = .ok (.iconst 2, 1) := by decide +kernel
theorem d1_19 : decode method_3_code 19 = .ok (.if_icmp .ne 7, 3) := by decide +kernel
theorem d1_22 : decode method_3_code 22 = .ok (.getstatic 41, 3) := by decide +kernel
theorem d1_25 : decode method_3_code 25 = .ok (.areturn, 1) := by decide +kernel
theorem d1_26 : decode method_3_code 26 = .ok (.getstatic 44, 3) := by decide +kernel
theorem d1_29 : decode method_3_code 29 = .ok (.areturn, 1) := by decide +kernel
theorem pn_1 : plainName "com/example/epsilock/epsilock/workload/RunFormatTestPinLaw" = true := by first | (simp [plainName, overriddenIn]; done) | decide +kernel
theorem ef_1 (m : MethodId) (p0 : Int32) : entryFrame m #[(.int p0)] 1 = mkF m 0 #[.val (.int p0)] [] := by first | (simp [entryFrame, mkF, argsToLocals, Value.category]; done) | rfl
def Q1 (Z : State) (p0 : Int32) (k0 k1 k2 k3 : Addr) (h0 : Heap) (v : Option Value) (h : Heap) (L : List Loc) : Prop := v = some (.ref (own_pick p0 k0 k1 k2 k3)) ∧ L = [] ∧ h = h0
set_option maxRecDepth 65536 in
set_option maxHeartbeats 40000000 in
theorem rm1 (l : Launch) (Z : State) (aw : Array Value) (hw : ∀ d ∈ tables_1, d.before aw Z = true) (ws : List Jvm.Cond) (p0 : Int32) (k0 k1 k2 k3 : Addr) (h0 : Heap) (S_k0 : Sta Z h0 "com/example/epsilock/epsilock/engine/Refusal$Test$Kind" "BOTH_WRITE" "Lcom/example/epsilock/epsilock/engine/Refusal$Test$Kind;" (.ref k0)) (S_k1 : Sta Z h0 "com/example/epsilock/epsilock/engine/Refusal$Test$Kind" "OTHER_WROTE" "Lcom/example/epsilock/epsilock/engine/Refusal$Test$Kind;" (.ref k1)) (S_k2 : Sta Z h0 "com/example/epsilock/epsilock/engine/Refusal$Test$Kind" "OTHER_READ" "Lcom/example/epsilock/epsilock/engine/Refusal$Test$Kind;" (.ref k2)) (S_k3 : Sta Z h0 "com/example/epsilock/epsilock/engine/Refusal$Test$Kind" "TEXT" "Lcom/example/epsilock/epsilock/engine/Refusal$Test$Kind;" (.ref k3)) :
    MetFree l (⟨"com/example/epsilock/epsilock/workload/RunFormatTestPinLaw", "kind", "(I)Lcom/example/epsilock/epsilock/engine/Refusal$Test$Kind;"⟩ : MethodName) (head1 (Jvm.Cond.code (⟨"com/example/epsilock/epsilock/workload/RunFormatTestPinLaw", "kind", "(I)Lcom/example/epsilock/epsilock/engine/Refusal$Test$Kind;"⟩ : MethodName) method_3_code 1 (some (.object "com/example/epsilock/epsilock/engine/Refusal$Test$Kind")) :: ws) ({ frames := 0, cells := 0, slots := 0, locals := 0 } : Room)) (fun a U => a = #[(.int p0)] ∧ Z.Warmed39 U.vm ∧ U.heap = h0) (fun _ _ _ _ _ => True) (fun _ U o U' => ∃ v L, o = .returned v ∧ Q1 Z p0 k0 k1 k2 k3 h0 v U'.heap L ∧ FrameEnd U o U' L ({ frames := 0, cells := 0, slots := 0, locals := 0 } : Room).cells ({ frames := 0, cells := 0, slots := 0, locals := 0 } : Room).slots) := by
  refine MetFree.of_bodySF (plainFor_of_name pn_1) hisR ?_
  intro p e s m args below meth c s₁ Bd hml0 hP hK
  obtain ⟨rfl, hZ, hh⟩ := hP
  have hZ0 := hZ
  have hx := Bd.exec
  have hby := Bd.bytes
  have hml : c.maxLocals = 1 := hml0
  have hown : s.vm.findClass "com/example/epsilock/epsilock/workload/RunFormatTestPinLaw" = some m.cls := findClass_of_methodNamed Bd.named
  have hnm := (name_of_methodNamed Bd.named Bd.method).1
  have X0 : Stand p l e ({ frames := 0, cells := 0, slots := 0, locals := 0 } : Room) s m #[(.int p0)] below meth c s₁ [] 0 0 := Stand.of_body Bd
  have e0 : s₁.heap = h0 := by rw [← hh, Bd.state]; rfl
  have G0 : own_Go p.tables e below (s₁.setTop (entryFrame m #[(.int p0)] 1)) (s₁.setTop (mkF m 0 #[.val (.int p0)] [])) := fun t k => castTop (ef_1 m p0) k
  have G1 : own_Go p.tables e below (s₁.setTop (entryFrame m #[(.int p0)] 1)) (s₁.setTop (mkF m 1 #[.val (.int p0)] [(.int p0)])) := fun t k => G0 t (XS.iloadN X0.here hx rfl (hb hby d1_0) rfl k)
  by_cases hc2 : p0 = (0 : Int32)
  · have G3 : own_Go p.tables e below (s₁.setTop (entryFrame m #[(.int p0)] 1)) (s₁.setTop (mkF m 4 #[.val (.int p0)] [])) := fun t k => G1 t (XS.ifNo X0.here hx rfl (hb hby d1_1) rfl ((if0 _ _).trans (teq hc2).2) k)
    obtain ⟨T4, X4, e4, st4⟩ := getS2 X0 hx hZ hown (host := "") (Or.inl (hw _ (List.mem_of_getElem? (i := 4) rfl))) Via.refl e0 S_k0 (g := (mkF m 4 #[.val (.int p0)] [])) rfl (hb hby d1_4)
    have G4 : own_Go p.tables e below (s₁.setTop (entryFrame m #[(.int p0)] 1)) (T4.setTop (mkF m 7 #[.val (.int p0)] [(.ref k0)])) := fun t k => G3 t (st4 t k)
    obtain ⟨fs, hr, hrun, hended, hW, hsame⟩ := X4.leave (v := some (.ref k0)) (fun h => by rw [Bd.returns] at h; cases h)
    refine ⟨_, _, G4 _ ?_, hrun, hended, _, _, rfl, ?_, ⟨_, rfl⟩, hW, hsame.mono (by decide) (by decide)⟩
    · exact own_retA X4 hx Bd.returns rfl rfl (hb hby d1_7) hr
    · show Q1 Z p0 k0 k1 k2 k3 h0 _ T4.heap _
      rw [e4]
      exact ⟨congrArg (fun z => some (Value.ref z)) (by simp [own_pick, hc2]), rfl, rfl⟩
  · have G6 : own_Go p.tables e below (s₁.setTop (entryFrame m #[(.int p0)] 1)) (s₁.setTop (mkF m 8 #[.val (.int p0)] [])) := fun t k => G1 t (XS.ifYes X0.here hx rfl (pc0 := 1) (pc' := 8) rfl (hb hby d1_1) rfl ((if0 _ _).trans (feq hc2).2) (by decide) (by decide) k)
    have G7 : own_Go p.tables e below (s₁.setTop (entryFrame m #[(.int p0)] 1)) (s₁.setTop (mkF m 9 #[.val (.int p0)] [(.int p0)])) := fun t k => G6 t (XS.iloadN X0.here hx rfl (hb hby d1_8) rfl k)
    have G8 : own_Go p.tables e below (s₁.setTop (entryFrame m #[(.int p0)] 1)) (s₁.setTop (mkF m 10 #[.val (.int p0)] [(.int (1 : Int32)), (.int p0)])) := fun t k => G7 t (XT.iconstV X0.here hx rfl (1 : Int32) (hb hby d1_9) (by decide) k)
    by_cases hc9 : p0 = (1 : Int32)
    · have G10 : own_Go p.tables e below (s₁.setTop (entryFrame m #[(.int p0)] 1)) (s₁.setTop (mkF m 13 #[.val (.int p0)] [])) := fun t k => G8 t (XS.icmpNo X0.here hx rfl (hb hby d1_10) rfl (teq hc9).2 k)
      obtain ⟨T11, X11, e11, st11⟩ := getS2 X0 hx hZ hown (host := "") (Or.inl (hw _ (List.mem_of_getElem? (i := 59) rfl))) Via.refl e0 S_k1 (g := (mkF m 13 #[.val (.int p0)] [])) rfl (hb hby d1_13)
      have G11 : own_Go p.tables e below (s₁.setTop (entryFrame m #[(.int p0)] 1)) (T11.setTop (mkF m 16 #[.val (.int p0)] [(.ref k1)])) := fun t k => G10 t (st11 t k)
      obtain ⟨fs, hr, hrun, hended, hW, hsame⟩ := X11.leave (v := some (.ref k1)) (fun h => by rw [Bd.returns] at h; cases h)
      refine ⟨_, _, G11 _ ?_, hrun, hended, _, _, rfl, ?_, ⟨_, rfl⟩, hW, hsame.mono (by decide) (by decide)⟩
      · exact own_retA X11 hx Bd.returns rfl rfl (hb hby d1_16) hr
      · show Q1 Z p0 k0 k1 k2 k3 h0 _ T11.heap _
        rw [e11]
        exact ⟨congrArg (fun z => some (Value.ref z)) (by simp [own_pick, hc2, hc9]), rfl, rfl⟩
    · have G13 : own_Go p.tables e below (s₁.setTop (entryFrame m #[(.int p0)] 1)) (s₁.setTop (mkF m 17 #[.val (.int p0)] [])) := fun t k => G8 t (XS.icmpYes X0.here hx rfl (pc0 := 10) (pc' := 17) rfl (hb hby d1_10) rfl (feq hc9).2 (by decide) (by decide) k)
      have G14 : own_Go p.tables e below (s₁.setTop (entryFrame m #[(.int p0)] 1)) (s₁.setTop (mkF m 18 #[.val (.int p0)] [(.int p0)])) := fun t k => G13 t (XS.iloadN X0.here hx rfl (hb hby d1_17) rfl k)
      have G15 : own_Go p.tables e below (s₁.setTop (entryFrame m #[(.int p0)] 1)) (s₁.setTop (mkF m 19 #[.val (.int p0)] [(.int (2 : Int32)), (.int p0)])) := fun t k => G14 t (XT.iconstV X0.here hx rfl (2 : Int32) (hb hby d1_18) (by decide) k)
      by_cases hc16 : p0 = (2 : Int32)
      · have G17 : own_Go p.tables e below (s₁.setTop (entryFrame m #[(.int p0)] 1)) (s₁.setTop (mkF m 22 #[.val (.int p0)] [])) := fun t k => G15 t (XS.icmpNo X0.here hx rfl (hb hby d1_19) rfl (teq hc16).2 k)
        obtain ⟨T18, X18, e18, st18⟩ := getS2 X0 hx hZ hown (host := "") (Or.inl (hw _ (List.mem_of_getElem? (i := 56) rfl))) Via.refl e0 S_k2 (g := (mkF m 22 #[.val (.int p0)] [])) rfl (hb hby d1_22)
        have G18 : own_Go p.tables e below (s₁.setTop (entryFrame m #[(.int p0)] 1)) (T18.setTop (mkF m 25 #[.val (.int p0)] [(.ref k2)])) := fun t k => G17 t (st18 t k)
        obtain ⟨fs, hr, hrun, hended, hW, hsame⟩ := X18.leave (v := some (.ref k2)) (fun h => by rw [Bd.returns] at h; cases h)
        refine ⟨_, _, G18 _ ?_, hrun, hended, _, _, rfl, ?_, ⟨_, rfl⟩, hW, hsame.mono (by decide) (by decide)⟩
        · exact own_retA X18 hx Bd.returns rfl rfl (hb hby d1_25) hr
        · show Q1 Z p0 k0 k1 k2 k3 h0 _ T18.heap _
          rw [e18]
          exact ⟨congrArg (fun z => some (Value.ref z)) (by simp [own_pick, hc2, hc9, hc16]), rfl, rfl⟩
      · have G20 : own_Go p.tables e below (s₁.setTop (entryFrame m #[(.int p0)] 1)) (s₁.setTop (mkF m 26 #[.val (.int p0)] [])) := fun t k => G15 t (XS.icmpYes X0.here hx rfl (pc0 := 19) (pc' := 26) rfl (hb hby d1_19) rfl (feq hc16).2 (by decide) (by decide) k)
        obtain ⟨T21, X21, e21, st21⟩ := getS2 X0 hx hZ hown (host := "") (Or.inl (hw _ (List.mem_of_getElem? (i := 31) rfl))) Via.refl e0 S_k3 (g := (mkF m 26 #[.val (.int p0)] [])) rfl (hb hby d1_26)
        have G21 : own_Go p.tables e below (s₁.setTop (entryFrame m #[(.int p0)] 1)) (T21.setTop (mkF m 29 #[.val (.int p0)] [(.ref k3)])) := fun t k => G20 t (st21 t k)
        obtain ⟨fs, hr, hrun, hended, hW, hsame⟩ := X21.leave (v := some (.ref k3)) (fun h => by rw [Bd.returns] at h; cases h)
        refine ⟨_, _, G21 _ ?_, hrun, hended, _, _, rfl, ?_, ⟨_, rfl⟩, hW, hsame.mono (by decide) (by decide)⟩
        · exact own_retA X21 hx Bd.returns rfl rfl (hb hby d1_29) hr
        · show Q1 Z p0 k0 k1 k2 k3 h0 _ T21.heap _
          rw [e21]
          exact ⟨congrArg (fun z => some (Value.ref z)) (by simp [own_pick, hc2, hc9, hc16]), rfl, rfl⟩
theorem d2_0 : decode jdk_37_method_2_code 0 = .ok (.aload_n 0, 1) := by decide +kernel
theorem d2_1 : decode jdk_37_method_2_code 1 = .ok (.getfield 7, 3) := by decide +kernel
theorem d2_4 : decode jdk_37_method_2_code 4 = .ok (.ireturn, 1) := by decide +kernel
theorem pn_2 : plainName "java/lang/Enum" = true := by first | (simp [plainName, overriddenIn]; done) | decide +kernel
theorem ef_2 (m : MethodId) (a0 : Addr) : entryFrame m #[(.ref a0)] 1 = mkF m 0 #[.val (.ref a0)] [] := by first | (simp [entryFrame, mkF, argsToLocals, Value.category]; done) | rfl
def Q2 (Z : State) (a0 : Addr) (oo : Int32) (h0 : Heap) (v : Option Value) (h : Heap) (L : List Loc) : Prop := v = some (.int oo) ∧ L = [] ∧ h = h0
set_option maxRecDepth 65536 in
set_option maxHeartbeats 40000000 in
theorem rm2 (l : Launch) (Z : State) (aw : Array Value) (hw : ∀ d ∈ tables_1, d.before aw Z = true) (ws : List Jvm.Cond) (a0 : Addr) (oo : Int32) (h0 : Heap) (F_o : Fld Z h0 a0 "java/lang/Enum" "ordinal" "I" (.int oo)) :
    MetFree l (⟨"java/lang/Enum", "ordinal", "()I"⟩ : MethodName) (head1 (Jvm.Cond.code (⟨"java/lang/Enum", "ordinal", "()I"⟩ : MethodName) jdk_37_method_2_code 1 (some .int) :: ws) ({ frames := 0, cells := 0, slots := 0, locals := 0 } : Room)) (fun a U => a = #[(.ref a0)] ∧ Z.Warmed39 U.vm ∧ U.heap = h0) (fun _ _ _ _ _ => True) (fun _ U o U' => ∃ v L, o = .returned v ∧ Q2 Z a0 oo h0 v U'.heap L ∧ FrameEnd U o U' L ({ frames := 0, cells := 0, slots := 0, locals := 0 } : Room).cells ({ frames := 0, cells := 0, slots := 0, locals := 0 } : Room).slots) := by
  refine MetFree.of_bodySF (plainFor_of_name pn_2) hisR ?_
  intro p e s m args below meth c s₁ Bd hml0 hP hK
  obtain ⟨rfl, hZ, hh⟩ := hP
  have hZ0 := hZ
  have hx := Bd.exec
  have hby := Bd.bytes
  have hml : c.maxLocals = 1 := hml0
  have hown : s.vm.findClass "java/lang/Enum" = some m.cls := findClass_of_methodNamed Bd.named
  have hnm := (name_of_methodNamed Bd.named Bd.method).1
  have X0 : Stand p l e ({ frames := 0, cells := 0, slots := 0, locals := 0 } : Room) s m #[(.ref a0)] below meth c s₁ [] 0 0 := Stand.of_body Bd
  have e0 : s₁.heap = h0 := by rw [← hh, Bd.state]; rfl
  have G0 : own_Go p.tables e below (s₁.setTop (entryFrame m #[(.ref a0)] 1)) (s₁.setTop (mkF m 0 #[.val (.ref a0)] [])) := fun t k => castTop (ef_2 m a0) k
  have G1 : own_Go p.tables e below (s₁.setTop (entryFrame m #[(.ref a0)] 1)) (s₁.setTop (mkF m 1 #[.val (.ref a0)] [(.ref a0)])) := fun t k => G0 t (XS.aloadN X0.here hx rfl (hb hby d2_0) rfl rfl k)
  obtain ⟨T2, X2, e2, st2⟩ := getF X0 hx hZ hown (host := "") (Or.inl (hw _ (List.mem_of_getElem? (i := 21) rfl))) Via.refl e0 F_o (g := (mkF m 1 #[.val (.ref a0)] [(.ref a0)])) rfl rfl (hb hby d2_1)
  have G2 : own_Go p.tables e below (s₁.setTop (entryFrame m #[(.ref a0)] 1)) (T2.setTop (mkF m 4 #[.val (.ref a0)] [(.int oo)])) := fun t k => G1 t (st2 t k)
  obtain ⟨fs, hr, hrun, hended, hW, hsame⟩ := X2.leave (v := some (.int oo)) (fun h => by rw [Bd.returns] at h; cases h)
  refine ⟨_, _, G2 _ ?_, hrun, hended, _, _, rfl, ?_, ⟨_, rfl⟩, hW, hsame.mono (by decide) (by decide)⟩
  · exact retI X2 hx Bd.returns (hb hby d2_4) hr
  · show Q2 Z a0 oo h0 _ T2.heap _
    rw [e2]
    exact ⟨rfl, rfl, rfl⟩
theorem d3_0 : decode prog_82_method_1_code 0 = .ok (.getstatic 1, 3) := by decide +kernel
theorem d3_3 : decode prog_82_method_1_code 3 = .ok (.aload_n 0, 1) := by decide +kernel
theorem d3_4 : decode prog_82_method_1_code 4 = .ok (.invokevirtual 7, 3) := by decide +kernel
theorem d3_7 : decode prog_82_method_1_code 7 = .ok (.iaload, 1) := by decide +kernel
theorem d3_8 : decode prog_82_method_1_code 8 = .ok (.tableswitch 32 1 4 #[42, 47, 52, 57], 32) := by decide +kernel
theorem d3_50 : decode prog_82_method_1_code 50 = .ok (.ldc 21, 2) := by decide +kernel
theorem d3_52 : decode prog_82_method_1_code 52 = .ok (.goto 15, 3) := by decide +kernel
theorem d3_55 : decode prog_82_method_1_code 55 = .ok (.ldc 23, 2) := by decide +kernel
theorem d3_57 : decode prog_82_method_1_code 57 = .ok (.goto 10, 3) := by decide +kernel
theorem d3_60 : decode prog_82_method_1_code 60 = .ok (.ldc 25, 2) := by decide +kernel
theorem d3_62 : decode prog_82_method_1_code 62 = .ok (.goto 5, 3) := by decide +kernel
theorem d3_65 : decode prog_82_method_1_code 65 = .ok (.ldc 27, 2) := by decide +kernel
theorem d3_67 : decode prog_82_method_1_code 67 = .ok (.areturn, 1) := by decide +kernel
theorem pn_3 : plainName "com/example/epsilock/epsilock/workload/RunFormat" = true := by first | (simp [plainName, overriddenIn]; done) | decide +kernel
theorem pd_3_0 : parseMethodDescriptor "()I" = some ⟨[], some .int⟩ := by decide +kernel
theorem ef_3 (m : MethodId) (a0 : Addr) : entryFrame m #[(.ref a0)] 1 = mkF m 0 #[.val (.ref a0)] [] := by first | (simp [entryFrame, mkF, argsToLocals, Value.category]; done) | rfl
def Q3 (Z : State) (a0 : Addr) (oo : Int32) (aS : Addr) (clS : Cell) (h0 : Heap) (v : Option Value) (h : Heap) (L : List Loc) : Prop := ∃ (a b : Addr) (k : ClassId), v = some (.ref a) ∧ Fr Z.heap.size L ∧ Keep h0 h [] ∧ Exa Z h a "java/lang/String" ∧ Fld Z h a "java/lang/String" "coder" "B" (.int 0) ∧ Fld Z h a "java/lang/String" "value" "[B" (.ref b) ∧ Arv Z h b k .byte (own_n oo) (own_vs oo) (.int 0)
set_option maxRecDepth 65536 in
set_option maxHeartbeats 40000000 in
theorem rm3 (l : Launch) (Z : State) (aw : Array Value) (hw : ∀ d ∈ tables_1, d.before aw Z = true) (ws : List Jvm.Cond) (a0 : Addr) (oo : Int32) (aS : Addr) (clS : Cell) (h0 : Heap) (O0 : Old Z Z.heap.size h0)  (E_0 : Exa Z h0 a0 "com/example/epsilock/epsilock/engine/Refusal$Test$Kind") (F_0 : Fld Z h0 a0 "java/lang/Enum" "ordinal" "I" (.int oo)) (hoo : 0 ≤ oo.toInt ∧ oo.toInt < 4) (S_S : Sta Z Z.heap "com/example/epsilock/epsilock/workload/RunFormat$1" "$SwitchMap$com$example$epsilock$epsilock$engine$Refusal$Test$Kind" "[I" (.ref aS)) (ArS : Arr Z Z.heap aS clS .int) (SzS : clS.slots.size = (4 : Int32).toNatClampNeg) (hs0 : clS.slots[(0 : Int32).toNatClampNeg]? = some (.int (1 : Int32))) (hs1 : clS.slots[(1 : Int32).toNatClampNeg]? = some (.int (2 : Int32))) (hs2 : clS.slots[(2 : Int32).toNatClampNeg]? = some (.int (3 : Int32))) (hs3 : clS.slots[(3 : Int32).toNatClampNeg]? = some (.int (4 : Int32))) :
    MetFree l (⟨"com/example/epsilock/epsilock/workload/RunFormat", "test", "(Lcom/example/epsilock/epsilock/engine/Refusal$Test$Kind;)Ljava/lang/String;"⟩ : MethodName) (head1 (Jvm.Cond.code (⟨"com/example/epsilock/epsilock/workload/RunFormat", "test", "(Lcom/example/epsilock/epsilock/engine/Refusal$Test$Kind;)Ljava/lang/String;"⟩ : MethodName) prog_82_method_1_code 1 (some (.object "java/lang/String")) :: ws) ({ frames := 1, cells := 2, slots := 48, locals := 13 } : Room)) (fun a U => a = #[(.ref a0)] ∧ Z.Warmed39 U.vm ∧ U.heap = h0 ∧ CHv Z own_EL U.vm h0) (fun _ _ _ _ _ => True) (fun _ U o U' => ∃ v L, o = .returned v ∧ Q3 Z a0 oo aS clS h0 v U'.heap L ∧ CHr Z own_EL U.vm U.heap U'.vm U'.heap ∧ ReturnedEndW U o U' L ({ frames := 1, cells := 2, slots := 48, locals := 13 } : Room).cells ({ frames := 1, cells := 2, slots := 48, locals := 13 } : Room).slots) := by
  refine MetFree.of_bodySF (plainFor_of_name pn_3) hisR ?_
  intro p e s m args below meth c s₁ Bd hml0 hP hK
  obtain ⟨rfl, hZ, hh, hC⟩ := hP
  have hZ0 := hZ
  have hx := Bd.exec
  have hby := Bd.bytes
  have hml : c.maxLocals = 1 := hml0
  have hown : s.vm.findClass "com/example/epsilock/epsilock/workload/RunFormat" = some m.cls := findClass_of_methodNamed Bd.named
  have hnm := (name_of_methodNamed Bd.named Bd.method).1
  have X0 : Stand p l e ({ frames := 1, cells := 2, slots := 48, locals := 13 } : Room) (s.setVm s.vm) m #[(.ref a0)] below meth c s₁ [] 0 0 := Stand.of_body Bd
  have e0 : s₁.heap = h0 := by rw [← hh, Bd.state]; rfl
  have G0 : own_Go p.tables e below (s₁.setTop (entryFrame m #[(.ref a0)] 1)) (s₁.setTop (mkF m 0 #[.val (.ref a0)] [])) := fun t k => castTop (ef_3 m a0) k
  have N0 := Fr.nil Z.heap.size
  have K0 := Keep.refl h0 []
  have hS := State.WarmedH.since (State.WarmedH.refl s) 0
  have hk : 0 ≤ h0.size := Nat.zero_le _
  obtain ⟨T1, X1, e1, st1⟩ := getS2 X0 hx hZ hown (host := "") (Or.inl (hw _ (List.mem_of_getElem? (i := 11) rfl))) Via.refl e0 (S_S.ext O0.2) (g := (mkF m 0 #[.val (.ref a0)] [])) rfl (hb hby d3_0)
  have G1 : own_Go p.tables e below (s₁.setTop (entryFrame m #[(.ref a0)] 1)) (T1.setTop (mkF m 3 #[.val (.ref a0)] [(.ref aS)])) := fun t k => G0 t (st1 t k)
  have G2 : own_Go p.tables e below (s₁.setTop (entryFrame m #[(.ref a0)] 1)) (T1.setTop (mkF m 4 #[.val (.ref a0)] [(.ref a0), (.ref aS)])) := fun t k => G1 t (XS.aloadN X1.here hx rfl (hb hby d3_3) rfl rfl k)
  obtain ⟨cq3, kq3, q3a, q3b, q3c⟩ := isOf hZ e1 E_0
  obtain ⟨vv3, _, ⟨T3, L3, k3, n3⟩, -, X3, ⟨Lc3, hQ3, l3, y3, z3⟩, st3⟩ := X1.virtualBackUp hx (C := "com/example/epsilock/epsilock/engine/Refusal$Test$Kind") (owner := "java/lang/Enum") (x := (⟨"com/example/epsilock/epsilock/engine/Refusal$Test$Kind", "ordinal", "()I"⟩ : MethodName)) (y := (⟨"java/lang/Enum", "ordinal", "()I"⟩ : MethodName)) hown (mvT hZ (hw _ (List.mem_of_getElem? (i := 14) rfl))) (mvT hZ (hw _ (List.mem_of_getElem? (i := 15) rfl))) (mvT hZ (hw _ (List.mem_of_getElem? (i := 16) rfl))) (by decide) (mvT hZ (hw _ (List.mem_of_getElem? (i := 18) rfl))) (mvT hZ (hw _ (List.mem_of_getElem? (i := 17) rfl))) (backOf (W := 1) (rm2 l Z aw hw [] a0 oo h0 F_0) hZ (hw _ (List.mem_of_getElem? (i := 20) rfl)) (hw _ (List.mem_of_getElem? (i := 19) rfl)) (by decide) (by decide)) q3a q3c (g := (mkF m 4 #[.val (.ref a0)] [(.ref a0), (.ref aS)])) rfl (by rw [hml]; rfl) (Steps.refl _) (argsL := []) (rest := [(.ref aS)]) (lenOf pd_3_0 rfl) rfl (by show 2 * 0 + _ ≤ _; exact Nat.le_of_eq rfl) (hb hby d3_4) (fun _ _ => ⟨rfl, e1, (by decide : 0 + 0 ≤ _), (by decide : 0 + 0 ≤ _)⟩)
  dsimp only [Pt.U, Pt.locs, Pt.cells, Pt.slots] at X3 l3 y3 z3 st3 hQ3
  subst l3 y3 z3
  obtain ⟨rfl, rfl, e3⟩ := hQ3
  try rw [List.append_nil] at X3
  have G3 : own_Go p.tables e below (s₁.setTop (entryFrame m #[(.ref a0)] 1)) (T3.setTop (mkF m 7 #[.val (.ref a0)] [(.int oo), (.ref aS)])) := fun t k => G2 t (st3.trans k)
  rcases own_four hoo with rfl | rfl | rfl | rfl
  · have G4 : own_Go p.tables e below (s₁.setTop (entryFrame m #[(.ref a0)] 1)) (T3.setTop (mkF m 8 #[.val (.ref a0)] [(.int (1 : Int32))])) := fun t k => G3 t (X3.iaload hx (by rw [e3]; exact (ArS.ext O0.2).1) (State.isArrayOf_alike hZ.alike (ArS.ext O0.2).2.1) (ArS.ext O0.2).2.2 (inb_of (z := (4 : Int32)) SzS ⟨by decide, by decide⟩) hs0 (g := (mkF m 7 #[.val (.ref a0)] [(.int (0 : Int32)), (.ref aS)])) rfl rfl (hb hby d3_7) t k)
    have G5 : own_Go p.tables e below (s₁.setTop (entryFrame m #[(.ref a0)] 1)) (T3.setTop (mkF m 50 #[.val (.ref a0)] [])) := fun t k => G4 t (XS.tswIn X3.here hx rfl (pc0 := 8) (pc' := 50) rfl (hb hby d3_8) rfl (by decide) (o := 42) (by decide) (by decide) (by decide) k)
    obtain ⟨u6, T6, h6, k6, b6, c6, X6, e6, E6, hS, hk6, hZ, hown, Es6, Fc6, Fv6, Av6, -, -, hR, -, -, st6⟩ := ldcCH X3 hx hZ hown (hw _ (List.mem_of_getElem? (i := 23) rfl)) (own_wS hw) e3 hS hk (own_EW hw) (List.mem_of_getElem? (i := 0) rfl) hC (vs := [.int (98 : Int32), .int (111 : Int32), .int (116 : Int32), .int (104 : Int32), .int (45 : Int32), .int (119 : Int32), .int (114 : Int32), .int (105 : Int32), .int (116 : Int32), .int (101 : Int32)]) (z := (10 : Int32)) ⟨by decide, by decide⟩ (by decide) (by decide) (g := (mkF m 50 #[.val (.ref a0)] [])) rfl (hb hby d3_50) (n := 40) (by decide) (by decide) (by decide) (by decide)
    have O6 := O0.ext E6
    have K6 := K0.ext E6
    have hk := hk6
    have G6 : own_Go p.tables e below (s₁.setTop (entryFrame m #[(.ref a0)] 1)) (T6.setTop (mkF m 52 #[.val (.ref a0)] [(.ref u6)])) := fun t k => G5 t (st6 t k)
    have G7 : own_Go p.tables e below (s₁.setTop (entryFrame m #[(.ref a0)] 1)) (T6.setTop (mkF m 67 #[.val (.ref a0)] [(.ref u6)])) := fun t k => G6 t (XS.goto X6.here hx rfl (pc0 := 52) (pc' := 67) rfl (hb hby d3_52) (by decide) (by decide) k)
    obtain ⟨fs, hr, hrun, hended, hW⟩ := X6.leaveW hS (by rw [e6]; exact hk) (v := some (.ref u6)) (fun h => by rw [Bd.returns] at h; cases h)
    refine ⟨_, _, G7 _ ?_, hrun, hended, _, _, rfl, ?_, (by rw [hh]; show CHr Z own_EL s.vm h0 T6.vm T6.heap; rw [e6]; exact hR), ⟨_, rfl⟩, hW.2.1, hW.2.2.1, hW.2.2.2.mono (by decide) (by decide)⟩
    · exact own_retA X6 hx Bd.returns rfl rfl (hb hby d3_67) hr
    · show Q3 Z a0 (0 : Int32) aS clS h0 _ T6.heap _
      rw [e6]
      refine ⟨u6, b6, c6, rfl, N0, K6, Es6, Fc6, Fv6, ?_⟩
      exact Av6
  · have G8 : own_Go p.tables e below (s₁.setTop (entryFrame m #[(.ref a0)] 1)) (T3.setTop (mkF m 8 #[.val (.ref a0)] [(.int (2 : Int32))])) := fun t k => G3 t (X3.iaload hx (by rw [e3]; exact (ArS.ext O0.2).1) (State.isArrayOf_alike hZ.alike (ArS.ext O0.2).2.1) (ArS.ext O0.2).2.2 (inb_of (z := (4 : Int32)) SzS ⟨by decide, by decide⟩) hs1 (g := (mkF m 7 #[.val (.ref a0)] [(.int (1 : Int32)), (.ref aS)])) rfl rfl (hb hby d3_7) t k)
    have G9 : own_Go p.tables e below (s₁.setTop (entryFrame m #[(.ref a0)] 1)) (T3.setTop (mkF m 55 #[.val (.ref a0)] [])) := fun t k => G8 t (XS.tswIn X3.here hx rfl (pc0 := 8) (pc' := 55) rfl (hb hby d3_8) rfl (by decide) (o := 47) (by decide) (by decide) (by decide) k)
    obtain ⟨u10, T10, h10, k10, b10, c10, X10, e10, E10, hS, hk10, hZ, hown, Es10, Fc10, Fv10, Av10, -, -, hR, -, -, st10⟩ := ldcCH X3 hx hZ hown (hw _ (List.mem_of_getElem? (i := 61) rfl)) (own_wS hw) e3 hS hk (own_EW hw) (List.mem_of_getElem? (i := 1) rfl) hC (vs := [.int (111 : Int32), .int (116 : Int32), .int (104 : Int32), .int (101 : Int32), .int (114 : Int32), .int (45 : Int32), .int (119 : Int32), .int (114 : Int32), .int (111 : Int32), .int (116 : Int32), .int (101 : Int32)]) (z := (11 : Int32)) ⟨by decide, by decide⟩ (by decide) (by decide) (g := (mkF m 55 #[.val (.ref a0)] [])) rfl (hb hby d3_55) (n := 44) (by decide) (by decide) (by decide) (by decide)
    have O10 := O0.ext E10
    have K10 := K0.ext E10
    have hk := hk10
    have G10 : own_Go p.tables e below (s₁.setTop (entryFrame m #[(.ref a0)] 1)) (T10.setTop (mkF m 57 #[.val (.ref a0)] [(.ref u10)])) := fun t k => G9 t (st10 t k)
    have G11 : own_Go p.tables e below (s₁.setTop (entryFrame m #[(.ref a0)] 1)) (T10.setTop (mkF m 67 #[.val (.ref a0)] [(.ref u10)])) := fun t k => G10 t (XS.goto X10.here hx rfl (pc0 := 57) (pc' := 67) rfl (hb hby d3_57) (by decide) (by decide) k)
    obtain ⟨fs, hr, hrun, hended, hW⟩ := X10.leaveW hS (by rw [e10]; exact hk) (v := some (.ref u10)) (fun h => by rw [Bd.returns] at h; cases h)
    refine ⟨_, _, G11 _ ?_, hrun, hended, _, _, rfl, ?_, (by rw [hh]; show CHr Z own_EL s.vm h0 T10.vm T10.heap; rw [e10]; exact hR), ⟨_, rfl⟩, hW.2.1, hW.2.2.1, hW.2.2.2.mono (by decide) (by decide)⟩
    · exact own_retA X10 hx Bd.returns rfl rfl (hb hby d3_67) hr
    · show Q3 Z a0 (1 : Int32) aS clS h0 _ T10.heap _
      rw [e10]
      refine ⟨u10, b10, c10, rfl, N0, K10, Es10, Fc10, Fv10, ?_⟩
      exact Av10
  · have G12 : own_Go p.tables e below (s₁.setTop (entryFrame m #[(.ref a0)] 1)) (T3.setTop (mkF m 8 #[.val (.ref a0)] [(.int (3 : Int32))])) := fun t k => G3 t (X3.iaload hx (by rw [e3]; exact (ArS.ext O0.2).1) (State.isArrayOf_alike hZ.alike (ArS.ext O0.2).2.1) (ArS.ext O0.2).2.2 (inb_of (z := (4 : Int32)) SzS ⟨by decide, by decide⟩) hs2 (g := (mkF m 7 #[.val (.ref a0)] [(.int (2 : Int32)), (.ref aS)])) rfl rfl (hb hby d3_7) t k)
    have G13 : own_Go p.tables e below (s₁.setTop (entryFrame m #[(.ref a0)] 1)) (T3.setTop (mkF m 60 #[.val (.ref a0)] [])) := fun t k => G12 t (XS.tswIn X3.here hx rfl (pc0 := 8) (pc' := 60) rfl (hb hby d3_8) rfl (by decide) (o := 52) (by decide) (by decide) (by decide) k)
    obtain ⟨u14, T14, h14, k14, b14, c14, X14, e14, E14, hS, hk14, hZ, hown, Es14, Fc14, Fv14, Av14, -, -, hR, -, -, st14⟩ := ldcCH X3 hx hZ hown (hw _ (List.mem_of_getElem? (i := 58) rfl)) (own_wS hw) e3 hS hk (own_EW hw) (List.mem_of_getElem? (i := 2) rfl) hC (vs := [.int (111 : Int32), .int (116 : Int32), .int (104 : Int32), .int (101 : Int32), .int (114 : Int32), .int (45 : Int32), .int (114 : Int32), .int (101 : Int32), .int (97 : Int32), .int (100 : Int32)]) (z := (10 : Int32)) ⟨by decide, by decide⟩ (by decide) (by decide) (g := (mkF m 60 #[.val (.ref a0)] [])) rfl (hb hby d3_60) (n := 40) (by decide) (by decide) (by decide) (by decide)
    have O14 := O0.ext E14
    have K14 := K0.ext E14
    have hk := hk14
    have G14 : own_Go p.tables e below (s₁.setTop (entryFrame m #[(.ref a0)] 1)) (T14.setTop (mkF m 62 #[.val (.ref a0)] [(.ref u14)])) := fun t k => G13 t (st14 t k)
    have G15 : own_Go p.tables e below (s₁.setTop (entryFrame m #[(.ref a0)] 1)) (T14.setTop (mkF m 67 #[.val (.ref a0)] [(.ref u14)])) := fun t k => G14 t (XS.goto X14.here hx rfl (pc0 := 62) (pc' := 67) rfl (hb hby d3_62) (by decide) (by decide) k)
    obtain ⟨fs, hr, hrun, hended, hW⟩ := X14.leaveW hS (by rw [e14]; exact hk) (v := some (.ref u14)) (fun h => by rw [Bd.returns] at h; cases h)
    refine ⟨_, _, G15 _ ?_, hrun, hended, _, _, rfl, ?_, (by rw [hh]; show CHr Z own_EL s.vm h0 T14.vm T14.heap; rw [e14]; exact hR), ⟨_, rfl⟩, hW.2.1, hW.2.2.1, hW.2.2.2.mono (by decide) (by decide)⟩
    · exact own_retA X14 hx Bd.returns rfl rfl (hb hby d3_67) hr
    · show Q3 Z a0 (2 : Int32) aS clS h0 _ T14.heap _
      rw [e14]
      refine ⟨u14, b14, c14, rfl, N0, K14, Es14, Fc14, Fv14, ?_⟩
      exact Av14
  · have G16 : own_Go p.tables e below (s₁.setTop (entryFrame m #[(.ref a0)] 1)) (T3.setTop (mkF m 8 #[.val (.ref a0)] [(.int (4 : Int32))])) := fun t k => G3 t (X3.iaload hx (by rw [e3]; exact (ArS.ext O0.2).1) (State.isArrayOf_alike hZ.alike (ArS.ext O0.2).2.1) (ArS.ext O0.2).2.2 (inb_of (z := (4 : Int32)) SzS ⟨by decide, by decide⟩) hs3 (g := (mkF m 7 #[.val (.ref a0)] [(.int (3 : Int32)), (.ref aS)])) rfl rfl (hb hby d3_7) t k)
    have G17 : own_Go p.tables e below (s₁.setTop (entryFrame m #[(.ref a0)] 1)) (T3.setTop (mkF m 65 #[.val (.ref a0)] [])) := fun t k => G16 t (XS.tswIn X3.here hx rfl (pc0 := 8) (pc' := 65) rfl (hb hby d3_8) rfl (by decide) (o := 57) (by decide) (by decide) (by decide) k)
    obtain ⟨u18, T18, h18, k18, b18, c18, X18, e18, E18, hS, hk18, hZ, hown, Es18, Fc18, Fv18, Av18, -, -, hR, -, -, st18⟩ := ldcCH X3 hx hZ hown (hw _ (List.mem_of_getElem? (i := 33) rfl)) (own_wS hw) e3 hS hk (own_EW hw) (List.mem_of_getElem? (i := 3) rfl) hC (vs := [.int (116 : Int32), .int (101 : Int32), .int (120 : Int32), .int (116 : Int32)]) (z := (4 : Int32)) ⟨by decide, by decide⟩ (by decide) (by decide) (g := (mkF m 65 #[.val (.ref a0)] [])) rfl (hb hby d3_65) (n := 16) (by decide) (by decide) (by decide) (by decide)
    have O18 := O0.ext E18
    have K18 := K0.ext E18
    have hk := hk18
    have G18 : own_Go p.tables e below (s₁.setTop (entryFrame m #[(.ref a0)] 1)) (T18.setTop (mkF m 67 #[.val (.ref a0)] [(.ref u18)])) := fun t k => G17 t (st18 t k)
    obtain ⟨fs, hr, hrun, hended, hW⟩ := X18.leaveW hS (by rw [e18]; exact hk) (v := some (.ref u18)) (fun h => by rw [Bd.returns] at h; cases h)
    refine ⟨_, _, G18 _ ?_, hrun, hended, _, _, rfl, ?_, (by rw [hh]; show CHr Z own_EL s.vm h0 T18.vm T18.heap; rw [e18]; exact hR), ⟨_, rfl⟩, hW.2.1, hW.2.2.1, hW.2.2.2.mono (by decide) (by decide)⟩
    · exact own_retA X18 hx Bd.returns rfl rfl (hb hby d3_67) hr
    · show Q3 Z a0 (3 : Int32) aS clS h0 _ T18.heap _
      rw [e18]
      refine ⟨u18, b18, c18, rfl, N0, K18, Es18, Fc18, Fv18, ?_⟩
      exact Av18
theorem d4_0 : decode method_4_code 0 = .ok (.iload_n 0, 1) := by decide +kernel
theorem d4_1 : decode method_4_code 1 = .ok (.ifCond .ne 6, 3) := by decide +kernel
theorem d4_4 : decode method_4_code 4 = .ok (.ldc 47, 2) := by decide +kernel
theorem d4_6 : decode method_4_code 6 = .ok (.areturn, 1) := by decide +kernel
theorem d4_7 : decode method_4_code 7 = .ok (.iload_n 0, 1) := by decide +kernel
theorem d4_8 : decode method_4_code 8 = .ok (.iconst 1, 1) := by decide +kernel
theorem d4_9 : decode method_4_code 9 = .ok (.if_icmp .ne 6, 3) := by decide +kernel
theorem d4_12 : decode method_4_code 12 = .ok (.ldc 49, 2) := by decide +kernel
theorem d4_14 : decode method_4_code 14 = .ok (.areturn, 1) := by decide +kernel
theorem d4_15 : decode method_4_code 15 = .ok (.iload_n 0, 1) := by decide +kernel
theorem d4_16 : decode method_4_code 16 = .ok (.iconst 2, 1) := by decide +kernel
theorem d4_17 : decode method_4_code 17 = .ok (.if_icmp .ne 6, 3) := by decide +kernel
theorem d4_20 : decode method_4_code 20 = .ok (.ldc 51, 2) := by decide +kernel
theorem d4_22 : decode method_4_code 22 = .ok (.areturn, 1) := by decide +kernel
theorem d4_23 : decode method_4_code 23 = .ok (.ldc 53, 2) := by decide +kernel
theorem d4_25 : decode method_4_code 25 = .ok (.areturn, 1) := by decide +kernel
theorem pn_4 : plainName "com/example/epsilock/epsilock/workload/RunFormatTestPinLaw" = true := by first | (simp [plainName, overriddenIn]; done) | decide +kernel
theorem ef_4 (m : MethodId) (p0 : Int32) : entryFrame m #[(.int p0)] 1 = mkF m 0 #[.val (.int p0)] [] := by first | (simp [entryFrame, mkF, argsToLocals, Value.category]; done) | rfl
def Q4 (Z : State) (p0 : Int32)  (h0 : Heap) (v : Option Value) (h : Heap) (L : List Loc) : Prop := ∃ (a b : Addr) (k : ClassId), v = some (.ref a) ∧ Fr Z.heap.size L ∧ Keep h0 h [] ∧ Exa Z h a "java/lang/String" ∧ Fld Z h a "java/lang/String" "coder" "B" (.int 0) ∧ Fld Z h a "java/lang/String" "value" "[B" (.ref b) ∧ Arv Z h b k .byte (own_n p0) (own_vs p0) (.int 0)
set_option maxRecDepth 65536 in
set_option maxHeartbeats 40000000 in
theorem rm4 (l : Launch) (Z : State) (aw : Array Value) (hw : ∀ d ∈ tables_1, d.before aw Z = true) (ws : List Jvm.Cond) (p0 : Int32)  (h0 : Heap) (O0 : Old Z Z.heap.size h0)   :
    MetFree l (⟨"com/example/epsilock/epsilock/workload/RunFormatTestPinLaw", "word", "(I)Ljava/lang/String;"⟩ : MethodName) (head1 (Jvm.Cond.code (⟨"com/example/epsilock/epsilock/workload/RunFormatTestPinLaw", "word", "(I)Ljava/lang/String;"⟩ : MethodName) method_4_code 1 (some (.object "java/lang/String")) :: ws) ({ frames := 0, cells := 2, slots := 48, locals := 0 } : Room)) (fun a U => a = #[(.int p0)] ∧ Z.Warmed39 U.vm ∧ U.heap = h0 ∧ CHv Z own_EL U.vm h0) (fun _ _ _ _ _ => True) (fun _ U o U' => ∃ v L, o = .returned v ∧ Q4 Z p0 h0 v U'.heap L ∧ CHr Z own_EL U.vm U.heap U'.vm U'.heap ∧ ReturnedEndW U o U' L ({ frames := 0, cells := 2, slots := 48, locals := 0 } : Room).cells ({ frames := 0, cells := 2, slots := 48, locals := 0 } : Room).slots) := by
  refine MetFree.of_bodySF (plainFor_of_name pn_4) hisR ?_
  intro p e s m args below meth c s₁ Bd hml0 hP hK
  obtain ⟨rfl, hZ, hh, hC⟩ := hP
  have hZ0 := hZ
  have hx := Bd.exec
  have hby := Bd.bytes
  have hml : c.maxLocals = 1 := hml0
  have hown : s.vm.findClass "com/example/epsilock/epsilock/workload/RunFormatTestPinLaw" = some m.cls := findClass_of_methodNamed Bd.named
  have hnm := (name_of_methodNamed Bd.named Bd.method).1
  have X0 : Stand p l e ({ frames := 0, cells := 2, slots := 48, locals := 0 } : Room) (s.setVm s.vm) m #[(.int p0)] below meth c s₁ [] 0 0 := Stand.of_body Bd
  have e0 : s₁.heap = h0 := by rw [← hh, Bd.state]; rfl
  have G0 : own_Go p.tables e below (s₁.setTop (entryFrame m #[(.int p0)] 1)) (s₁.setTop (mkF m 0 #[.val (.int p0)] [])) := fun t k => castTop (ef_4 m p0) k
  have N0 := Fr.nil Z.heap.size
  have K0 := Keep.refl h0 []
  have hS := State.WarmedH.since (State.WarmedH.refl s) 0
  have hk : 0 ≤ h0.size := Nat.zero_le _
  have G1 : own_Go p.tables e below (s₁.setTop (entryFrame m #[(.int p0)] 1)) (s₁.setTop (mkF m 1 #[.val (.int p0)] [(.int p0)])) := fun t k => G0 t (XS.iloadN X0.here hx rfl (hb hby d4_0) rfl k)
  by_cases hc2 : p0 = (0 : Int32)
  · have G3 : own_Go p.tables e below (s₁.setTop (entryFrame m #[(.int p0)] 1)) (s₁.setTop (mkF m 4 #[.val (.int p0)] [])) := fun t k => G1 t (XS.ifNo X0.here hx rfl (hb hby d4_1) rfl ((if0 _ _).trans (teq hc2).2) k)
    obtain ⟨u4, T4, h4, k4, b4, c4, X4, e4, E4, hS, hk4, hZ, hown, Es4, Fc4, Fv4, Av4, -, -, hR, -, -, st4⟩ := ldcCH X0 hx hZ hown (hw _ (List.mem_of_getElem? (i := 37) rfl)) (own_wS hw) e0 hS hk (own_EW hw) (List.mem_of_getElem? (i := 4) rfl) hC (vs := [.int (98 : Int32), .int (111 : Int32), .int (116 : Int32), .int (104 : Int32), .int (45 : Int32), .int (119 : Int32), .int (114 : Int32), .int (105 : Int32), .int (116 : Int32), .int (101 : Int32)]) (z := (10 : Int32)) ⟨by decide, by decide⟩ (by decide) (by decide) (g := (mkF m 4 #[.val (.int p0)] [])) rfl (hb hby d4_4) (n := 40) (by decide) (by decide) (by decide) (by decide)
    have O4 := O0.ext E4
    have K4 := K0.ext E4
    have hk := hk4
    have G4 : own_Go p.tables e below (s₁.setTop (entryFrame m #[(.int p0)] 1)) (T4.setTop (mkF m 6 #[.val (.int p0)] [(.ref u4)])) := fun t k => G3 t (st4 t k)
    obtain ⟨fs, hr, hrun, hended, hW⟩ := X4.leaveW hS (by rw [e4]; exact hk) (v := some (.ref u4)) (fun h => by rw [Bd.returns] at h; cases h)
    refine ⟨_, _, G4 _ ?_, hrun, hended, _, _, rfl, ?_, (by rw [hh]; show CHr Z own_EL s.vm h0 T4.vm T4.heap; rw [e4]; exact hR), ⟨_, rfl⟩, hW.2.1, hW.2.2.1, hW.2.2.2.mono (by decide) (by decide)⟩
    · exact own_retA X4 hx Bd.returns rfl rfl (hb hby d4_6) hr
    · show Q4 Z p0 h0 _ T4.heap _
      rw [e4]
      refine ⟨u4, b4, c4, rfl, N0, K4, Es4, Fc4, Fv4, ?_⟩
      rw [show own_n p0 = (10 : Int32) by simp [own_n, own_cs, hc2], show own_vs p0 = [.int (98 : Int32), .int (111 : Int32), .int (116 : Int32), .int (104 : Int32), .int (45 : Int32), .int (119 : Int32), .int (114 : Int32), .int (105 : Int32), .int (116 : Int32), .int (101 : Int32)] by simp [own_vs, own_cs, hc2]]
      exact Av4
  · have G5 : own_Go p.tables e below (s₁.setTop (entryFrame m #[(.int p0)] 1)) (s₁.setTop (mkF m 7 #[.val (.int p0)] [])) := fun t k => G1 t (XS.ifYes X0.here hx rfl (pc0 := 1) (pc' := 7) rfl (hb hby d4_1) rfl ((if0 _ _).trans (feq hc2).2) (by decide) (by decide) k)
    have G6 : own_Go p.tables e below (s₁.setTop (entryFrame m #[(.int p0)] 1)) (s₁.setTop (mkF m 8 #[.val (.int p0)] [(.int p0)])) := fun t k => G5 t (XS.iloadN X0.here hx rfl (hb hby d4_7) rfl k)
    have G7 : own_Go p.tables e below (s₁.setTop (entryFrame m #[(.int p0)] 1)) (s₁.setTop (mkF m 9 #[.val (.int p0)] [(.int (1 : Int32)), (.int p0)])) := fun t k => G6 t (XT.iconstV X0.here hx rfl (1 : Int32) (hb hby d4_8) (by decide) k)
    by_cases hc8 : p0 = (1 : Int32)
    · have G9 : own_Go p.tables e below (s₁.setTop (entryFrame m #[(.int p0)] 1)) (s₁.setTop (mkF m 12 #[.val (.int p0)] [])) := fun t k => G7 t (XS.icmpNo X0.here hx rfl (hb hby d4_9) rfl (teq hc8).2 k)
      obtain ⟨u10, T10, h10, k10, b10, c10, X10, e10, E10, hS, hk10, hZ, hown, Es10, Fc10, Fv10, Av10, -, -, hR, -, -, st10⟩ := ldcCH X0 hx hZ hown (hw _ (List.mem_of_getElem? (i := 63) rfl)) (own_wS hw) e0 hS hk (own_EW hw) (List.mem_of_getElem? (i := 5) rfl) hC (vs := [.int (111 : Int32), .int (116 : Int32), .int (104 : Int32), .int (101 : Int32), .int (114 : Int32), .int (45 : Int32), .int (119 : Int32), .int (114 : Int32), .int (111 : Int32), .int (116 : Int32), .int (101 : Int32)]) (z := (11 : Int32)) ⟨by decide, by decide⟩ (by decide) (by decide) (g := (mkF m 12 #[.val (.int p0)] [])) rfl (hb hby d4_12) (n := 44) (by decide) (by decide) (by decide) (by decide)
      have O10 := O0.ext E10
      have K10 := K0.ext E10
      have hk := hk10
      have G10 : own_Go p.tables e below (s₁.setTop (entryFrame m #[(.int p0)] 1)) (T10.setTop (mkF m 14 #[.val (.int p0)] [(.ref u10)])) := fun t k => G9 t (st10 t k)
      obtain ⟨fs, hr, hrun, hended, hW⟩ := X10.leaveW hS (by rw [e10]; exact hk) (v := some (.ref u10)) (fun h => by rw [Bd.returns] at h; cases h)
      refine ⟨_, _, G10 _ ?_, hrun, hended, _, _, rfl, ?_, (by rw [hh]; show CHr Z own_EL s.vm h0 T10.vm T10.heap; rw [e10]; exact hR), ⟨_, rfl⟩, hW.2.1, hW.2.2.1, hW.2.2.2.mono (by decide) (by decide)⟩
      · exact own_retA X10 hx Bd.returns rfl rfl (hb hby d4_14) hr
      · show Q4 Z p0 h0 _ T10.heap _
        rw [e10]
        refine ⟨u10, b10, c10, rfl, N0, K10, Es10, Fc10, Fv10, ?_⟩
        rw [show own_n p0 = (11 : Int32) by simp [own_n, own_cs, hc2, hc8], show own_vs p0 = [.int (111 : Int32), .int (116 : Int32), .int (104 : Int32), .int (101 : Int32), .int (114 : Int32), .int (45 : Int32), .int (119 : Int32), .int (114 : Int32), .int (111 : Int32), .int (116 : Int32), .int (101 : Int32)] by simp [own_vs, own_cs, hc2, hc8]]
        exact Av10
    · have G11 : own_Go p.tables e below (s₁.setTop (entryFrame m #[(.int p0)] 1)) (s₁.setTop (mkF m 15 #[.val (.int p0)] [])) := fun t k => G7 t (XS.icmpYes X0.here hx rfl (pc0 := 9) (pc' := 15) rfl (hb hby d4_9) rfl (feq hc8).2 (by decide) (by decide) k)
      have G12 : own_Go p.tables e below (s₁.setTop (entryFrame m #[(.int p0)] 1)) (s₁.setTop (mkF m 16 #[.val (.int p0)] [(.int p0)])) := fun t k => G11 t (XS.iloadN X0.here hx rfl (hb hby d4_15) rfl k)
      have G13 : own_Go p.tables e below (s₁.setTop (entryFrame m #[(.int p0)] 1)) (s₁.setTop (mkF m 17 #[.val (.int p0)] [(.int (2 : Int32)), (.int p0)])) := fun t k => G12 t (XT.iconstV X0.here hx rfl (2 : Int32) (hb hby d4_16) (by decide) k)
      by_cases hc14 : p0 = (2 : Int32)
      · have G15 : own_Go p.tables e below (s₁.setTop (entryFrame m #[(.int p0)] 1)) (s₁.setTop (mkF m 20 #[.val (.int p0)] [])) := fun t k => G13 t (XS.icmpNo X0.here hx rfl (hb hby d4_17) rfl (teq hc14).2 k)
        obtain ⟨u16, T16, h16, k16, b16, c16, X16, e16, E16, hS, hk16, hZ, hown, Es16, Fc16, Fv16, Av16, -, -, hR, -, -, st16⟩ := ldcCH X0 hx hZ hown (hw _ (List.mem_of_getElem? (i := 62) rfl)) (own_wS hw) e0 hS hk (own_EW hw) (List.mem_of_getElem? (i := 6) rfl) hC (vs := [.int (111 : Int32), .int (116 : Int32), .int (104 : Int32), .int (101 : Int32), .int (114 : Int32), .int (45 : Int32), .int (114 : Int32), .int (101 : Int32), .int (97 : Int32), .int (100 : Int32)]) (z := (10 : Int32)) ⟨by decide, by decide⟩ (by decide) (by decide) (g := (mkF m 20 #[.val (.int p0)] [])) rfl (hb hby d4_20) (n := 40) (by decide) (by decide) (by decide) (by decide)
        have O16 := O0.ext E16
        have K16 := K0.ext E16
        have hk := hk16
        have G16 : own_Go p.tables e below (s₁.setTop (entryFrame m #[(.int p0)] 1)) (T16.setTop (mkF m 22 #[.val (.int p0)] [(.ref u16)])) := fun t k => G15 t (st16 t k)
        obtain ⟨fs, hr, hrun, hended, hW⟩ := X16.leaveW hS (by rw [e16]; exact hk) (v := some (.ref u16)) (fun h => by rw [Bd.returns] at h; cases h)
        refine ⟨_, _, G16 _ ?_, hrun, hended, _, _, rfl, ?_, (by rw [hh]; show CHr Z own_EL s.vm h0 T16.vm T16.heap; rw [e16]; exact hR), ⟨_, rfl⟩, hW.2.1, hW.2.2.1, hW.2.2.2.mono (by decide) (by decide)⟩
        · exact own_retA X16 hx Bd.returns rfl rfl (hb hby d4_22) hr
        · show Q4 Z p0 h0 _ T16.heap _
          rw [e16]
          refine ⟨u16, b16, c16, rfl, N0, K16, Es16, Fc16, Fv16, ?_⟩
          rw [show own_n p0 = (10 : Int32) by simp [own_n, own_cs, hc2, hc8, hc14], show own_vs p0 = [.int (111 : Int32), .int (116 : Int32), .int (104 : Int32), .int (101 : Int32), .int (114 : Int32), .int (45 : Int32), .int (114 : Int32), .int (101 : Int32), .int (97 : Int32), .int (100 : Int32)] by simp [own_vs, own_cs, hc2, hc8, hc14]]
          exact Av16
      · have G17 : own_Go p.tables e below (s₁.setTop (entryFrame m #[(.int p0)] 1)) (s₁.setTop (mkF m 23 #[.val (.int p0)] [])) := fun t k => G13 t (XS.icmpYes X0.here hx rfl (pc0 := 17) (pc' := 23) rfl (hb hby d4_17) rfl (feq hc14).2 (by decide) (by decide) k)
        obtain ⟨u18, T18, h18, k18, b18, c18, X18, e18, E18, hS, hk18, hZ, hown, Es18, Fc18, Fv18, Av18, -, -, hR, -, -, st18⟩ := ldcCH X0 hx hZ hown (hw _ (List.mem_of_getElem? (i := 46) rfl)) (own_wS hw) e0 hS hk (own_EW hw) (List.mem_of_getElem? (i := 7) rfl) hC (vs := [.int (116 : Int32), .int (101 : Int32), .int (120 : Int32), .int (116 : Int32)]) (z := (4 : Int32)) ⟨by decide, by decide⟩ (by decide) (by decide) (g := (mkF m 23 #[.val (.int p0)] [])) rfl (hb hby d4_23) (n := 16) (by decide) (by decide) (by decide) (by decide)
        have O18 := O0.ext E18
        have K18 := K0.ext E18
        have hk := hk18
        have G18 : own_Go p.tables e below (s₁.setTop (entryFrame m #[(.int p0)] 1)) (T18.setTop (mkF m 25 #[.val (.int p0)] [(.ref u18)])) := fun t k => G17 t (st18 t k)
        obtain ⟨fs, hr, hrun, hended, hW⟩ := X18.leaveW hS (by rw [e18]; exact hk) (v := some (.ref u18)) (fun h => by rw [Bd.returns] at h; cases h)
        refine ⟨_, _, G18 _ ?_, hrun, hended, _, _, rfl, ?_, (by rw [hh]; show CHr Z own_EL s.vm h0 T18.vm T18.heap; rw [e18]; exact hR), ⟨_, rfl⟩, hW.2.1, hW.2.2.1, hW.2.2.2.mono (by decide) (by decide)⟩
        · exact own_retA X18 hx Bd.returns rfl rfl (hb hby d4_25) hr
        · show Q4 Z p0 h0 _ T18.heap _
          rw [e18]
          refine ⟨u18, b18, c18, rfl, N0, K18, Es18, Fc18, Fv18, ?_⟩
          rw [show own_n p0 = (4 : Int32) by simp [own_n, own_cs, hc2, hc8, hc14], show own_vs p0 = [.int (116 : Int32), .int (101 : Int32), .int (120 : Int32), .int (116 : Int32)] by simp [own_vs, own_cs, hc2, hc8, hc14]]
          exact Av18
theorem d5_0 : decode method_5_code 0 = .ok (.iload_n 0, 1) := by decide +kernel
theorem d5_1 : decode method_5_code 1 = .ok (.ifCond .ne 6, 3) := by decide +kernel
theorem d5_4 : decode method_5_code 4 = .ok (.ldc 47, 2) := by decide +kernel
theorem d5_6 : decode method_5_code 6 = .ok (.areturn, 1) := by decide +kernel
theorem d5_7 : decode method_5_code 7 = .ok (.iload_n 0, 1) := by decide +kernel
theorem d5_8 : decode method_5_code 8 = .ok (.iconst 1, 1) := by decide +kernel
theorem d5_9 : decode method_5_code 9 = .ok (.if_icmp .ne 6, 3) := by decide +kernel
theorem d5_12 : decode method_5_code 12 = .ok (.ldc 49, 2) := by decide +kernel
theorem d5_14 : decode method_5_code 14 = .ok (.areturn, 1) := by decide +kernel
theorem d5_15 : decode method_5_code 15 = .ok (.iload_n 0, 1) := by decide +kernel
theorem d5_16 : decode method_5_code 16 = .ok (.iconst 2, 1) := by decide +kernel
theorem d5_17 : decode method_5_code 17 = .ok (.if_icmp .ne 6, 3) := by decide +kernel
theorem d5_20 : decode method_5_code 20 = .ok (.ldc 51, 2) := by decide +kernel
theorem d5_22 : decode method_5_code 22 = .ok (.areturn, 1) := by decide +kernel
theorem d5_23 : decode method_5_code 23 = .ok (.ldc 53, 2) := by decide +kernel
theorem d5_25 : decode method_5_code 25 = .ok (.areturn, 1) := by decide +kernel
theorem pn_5 : plainName "com/example/epsilock/epsilock/workload/RunFormatTestPinLaw" = true := by first | (simp [plainName, overriddenIn]; done) | decide +kernel
theorem ef_5 (m : MethodId) (p0 : Int32) : entryFrame m #[(.int p0)] 1 = mkF m 0 #[.val (.int p0)] [] := by first | (simp [entryFrame, mkF, argsToLocals, Value.category]; done) | rfl
def Q5 (Z : State) (p0 : Int32)  (h0 : Heap) (v : Option Value) (h : Heap) (L : List Loc) : Prop := ∃ (a b : Addr) (k : ClassId), v = some (.ref a) ∧ Fr Z.heap.size L ∧ Keep h0 h [] ∧ Exa Z h a "java/lang/String" ∧ Fld Z h a "java/lang/String" "coder" "B" (.int 0) ∧ Fld Z h a "java/lang/String" "value" "[B" (.ref b) ∧ Arv Z h b k .byte (own_n p0) (own_vs p0) (.int 0)
set_option maxRecDepth 65536 in
set_option maxHeartbeats 40000000 in
theorem rm5 (l : Launch) (Z : State) (aw : Array Value) (hw : ∀ d ∈ tables_1, d.before aw Z = true) (ws : List Jvm.Cond) (p0 : Int32)  (h0 : Heap) (O0 : Old Z Z.heap.size h0)   :
    MetFree l (⟨"com/example/epsilock/epsilock/workload/RunFormatTestPinLaw", "constant", "(I)Ljava/lang/String;"⟩ : MethodName) (head1 (Jvm.Cond.code (⟨"com/example/epsilock/epsilock/workload/RunFormatTestPinLaw", "constant", "(I)Ljava/lang/String;"⟩ : MethodName) method_5_code 1 (some (.object "java/lang/String")) :: ws) ({ frames := 0, cells := 2, slots := 48, locals := 0 } : Room)) (fun a U => a = #[(.int p0)] ∧ Z.Warmed39 U.vm ∧ U.heap = h0 ∧ CHv Z own_EL U.vm h0) (fun _ _ _ _ _ => True) (fun _ U o U' => ∃ v L, o = .returned v ∧ Q5 Z p0 h0 v U'.heap L ∧ CHr Z own_EL U.vm U.heap U'.vm U'.heap ∧ ReturnedEndW U o U' L ({ frames := 0, cells := 2, slots := 48, locals := 0 } : Room).cells ({ frames := 0, cells := 2, slots := 48, locals := 0 } : Room).slots) := by
  refine MetFree.of_bodySF (plainFor_of_name pn_5) hisR ?_
  intro p e s m args below meth c s₁ Bd hml0 hP hK
  obtain ⟨rfl, hZ, hh, hC⟩ := hP
  have hZ0 := hZ
  have hx := Bd.exec
  have hby := Bd.bytes
  have hml : c.maxLocals = 1 := hml0
  have hown : s.vm.findClass "com/example/epsilock/epsilock/workload/RunFormatTestPinLaw" = some m.cls := findClass_of_methodNamed Bd.named
  have hnm := (name_of_methodNamed Bd.named Bd.method).1
  have X0 : Stand p l e ({ frames := 0, cells := 2, slots := 48, locals := 0 } : Room) (s.setVm s.vm) m #[(.int p0)] below meth c s₁ [] 0 0 := Stand.of_body Bd
  have e0 : s₁.heap = h0 := by rw [← hh, Bd.state]; rfl
  have G0 : own_Go p.tables e below (s₁.setTop (entryFrame m #[(.int p0)] 1)) (s₁.setTop (mkF m 0 #[.val (.int p0)] [])) := fun t k => castTop (ef_5 m p0) k
  have N0 := Fr.nil Z.heap.size
  have K0 := Keep.refl h0 []
  have hS := State.WarmedH.since (State.WarmedH.refl s) 0
  have hk : 0 ≤ h0.size := Nat.zero_le _
  have G1 : own_Go p.tables e below (s₁.setTop (entryFrame m #[(.int p0)] 1)) (s₁.setTop (mkF m 1 #[.val (.int p0)] [(.int p0)])) := fun t k => G0 t (XS.iloadN X0.here hx rfl (hb hby d5_0) rfl k)
  by_cases hc2 : p0 = (0 : Int32)
  · have G3 : own_Go p.tables e below (s₁.setTop (entryFrame m #[(.int p0)] 1)) (s₁.setTop (mkF m 4 #[.val (.int p0)] [])) := fun t k => G1 t (XS.ifNo X0.here hx rfl (hb hby d5_1) rfl ((if0 _ _).trans (teq hc2).2) k)
    obtain ⟨u4, T4, h4, k4, b4, c4, X4, e4, E4, hS, hk4, hZ, hown, Es4, Fc4, Fv4, Av4, -, -, hR, -, -, st4⟩ := ldcCH X0 hx hZ hown (hw _ (List.mem_of_getElem? (i := 37) rfl)) (own_wS hw) e0 hS hk (own_EW hw) (List.mem_of_getElem? (i := 4) rfl) hC (vs := [.int (98 : Int32), .int (111 : Int32), .int (116 : Int32), .int (104 : Int32), .int (45 : Int32), .int (119 : Int32), .int (114 : Int32), .int (105 : Int32), .int (116 : Int32), .int (101 : Int32)]) (z := (10 : Int32)) ⟨by decide, by decide⟩ (by decide) (by decide) (g := (mkF m 4 #[.val (.int p0)] [])) rfl (hb hby d5_4) (n := 40) (by decide) (by decide) (by decide) (by decide)
    have O4 := O0.ext E4
    have K4 := K0.ext E4
    have hk := hk4
    have G4 : own_Go p.tables e below (s₁.setTop (entryFrame m #[(.int p0)] 1)) (T4.setTop (mkF m 6 #[.val (.int p0)] [(.ref u4)])) := fun t k => G3 t (st4 t k)
    obtain ⟨fs, hr, hrun, hended, hW⟩ := X4.leaveW hS (by rw [e4]; exact hk) (v := some (.ref u4)) (fun h => by rw [Bd.returns] at h; cases h)
    refine ⟨_, _, G4 _ ?_, hrun, hended, _, _, rfl, ?_, (by rw [hh]; show CHr Z own_EL s.vm h0 T4.vm T4.heap; rw [e4]; exact hR), ⟨_, rfl⟩, hW.2.1, hW.2.2.1, hW.2.2.2.mono (by decide) (by decide)⟩
    · exact own_retA X4 hx Bd.returns rfl rfl (hb hby d5_6) hr
    · show Q5 Z p0 h0 _ T4.heap _
      rw [e4]
      refine ⟨u4, b4, c4, rfl, N0, K4, Es4, Fc4, Fv4, ?_⟩
      rw [show own_n p0 = (10 : Int32) by simp [own_n, own_cs, hc2], show own_vs p0 = [.int (98 : Int32), .int (111 : Int32), .int (116 : Int32), .int (104 : Int32), .int (45 : Int32), .int (119 : Int32), .int (114 : Int32), .int (105 : Int32), .int (116 : Int32), .int (101 : Int32)] by simp [own_vs, own_cs, hc2]]
      exact Av4
  · have G5 : own_Go p.tables e below (s₁.setTop (entryFrame m #[(.int p0)] 1)) (s₁.setTop (mkF m 7 #[.val (.int p0)] [])) := fun t k => G1 t (XS.ifYes X0.here hx rfl (pc0 := 1) (pc' := 7) rfl (hb hby d5_1) rfl ((if0 _ _).trans (feq hc2).2) (by decide) (by decide) k)
    have G6 : own_Go p.tables e below (s₁.setTop (entryFrame m #[(.int p0)] 1)) (s₁.setTop (mkF m 8 #[.val (.int p0)] [(.int p0)])) := fun t k => G5 t (XS.iloadN X0.here hx rfl (hb hby d5_7) rfl k)
    have G7 : own_Go p.tables e below (s₁.setTop (entryFrame m #[(.int p0)] 1)) (s₁.setTop (mkF m 9 #[.val (.int p0)] [(.int (1 : Int32)), (.int p0)])) := fun t k => G6 t (XT.iconstV X0.here hx rfl (1 : Int32) (hb hby d5_8) (by decide) k)
    by_cases hc8 : p0 = (1 : Int32)
    · have G9 : own_Go p.tables e below (s₁.setTop (entryFrame m #[(.int p0)] 1)) (s₁.setTop (mkF m 12 #[.val (.int p0)] [])) := fun t k => G7 t (XS.icmpNo X0.here hx rfl (hb hby d5_9) rfl (teq hc8).2 k)
      obtain ⟨u10, T10, h10, k10, b10, c10, X10, e10, E10, hS, hk10, hZ, hown, Es10, Fc10, Fv10, Av10, -, -, hR, -, -, st10⟩ := ldcCH X0 hx hZ hown (hw _ (List.mem_of_getElem? (i := 63) rfl)) (own_wS hw) e0 hS hk (own_EW hw) (List.mem_of_getElem? (i := 5) rfl) hC (vs := [.int (111 : Int32), .int (116 : Int32), .int (104 : Int32), .int (101 : Int32), .int (114 : Int32), .int (45 : Int32), .int (119 : Int32), .int (114 : Int32), .int (111 : Int32), .int (116 : Int32), .int (101 : Int32)]) (z := (11 : Int32)) ⟨by decide, by decide⟩ (by decide) (by decide) (g := (mkF m 12 #[.val (.int p0)] [])) rfl (hb hby d5_12) (n := 44) (by decide) (by decide) (by decide) (by decide)
      have O10 := O0.ext E10
      have K10 := K0.ext E10
      have hk := hk10
      have G10 : own_Go p.tables e below (s₁.setTop (entryFrame m #[(.int p0)] 1)) (T10.setTop (mkF m 14 #[.val (.int p0)] [(.ref u10)])) := fun t k => G9 t (st10 t k)
      obtain ⟨fs, hr, hrun, hended, hW⟩ := X10.leaveW hS (by rw [e10]; exact hk) (v := some (.ref u10)) (fun h => by rw [Bd.returns] at h; cases h)
      refine ⟨_, _, G10 _ ?_, hrun, hended, _, _, rfl, ?_, (by rw [hh]; show CHr Z own_EL s.vm h0 T10.vm T10.heap; rw [e10]; exact hR), ⟨_, rfl⟩, hW.2.1, hW.2.2.1, hW.2.2.2.mono (by decide) (by decide)⟩
      · exact own_retA X10 hx Bd.returns rfl rfl (hb hby d5_14) hr
      · show Q5 Z p0 h0 _ T10.heap _
        rw [e10]
        refine ⟨u10, b10, c10, rfl, N0, K10, Es10, Fc10, Fv10, ?_⟩
        rw [show own_n p0 = (11 : Int32) by simp [own_n, own_cs, hc2, hc8], show own_vs p0 = [.int (111 : Int32), .int (116 : Int32), .int (104 : Int32), .int (101 : Int32), .int (114 : Int32), .int (45 : Int32), .int (119 : Int32), .int (114 : Int32), .int (111 : Int32), .int (116 : Int32), .int (101 : Int32)] by simp [own_vs, own_cs, hc2, hc8]]
        exact Av10
    · have G11 : own_Go p.tables e below (s₁.setTop (entryFrame m #[(.int p0)] 1)) (s₁.setTop (mkF m 15 #[.val (.int p0)] [])) := fun t k => G7 t (XS.icmpYes X0.here hx rfl (pc0 := 9) (pc' := 15) rfl (hb hby d5_9) rfl (feq hc8).2 (by decide) (by decide) k)
      have G12 : own_Go p.tables e below (s₁.setTop (entryFrame m #[(.int p0)] 1)) (s₁.setTop (mkF m 16 #[.val (.int p0)] [(.int p0)])) := fun t k => G11 t (XS.iloadN X0.here hx rfl (hb hby d5_15) rfl k)
      have G13 : own_Go p.tables e below (s₁.setTop (entryFrame m #[(.int p0)] 1)) (s₁.setTop (mkF m 17 #[.val (.int p0)] [(.int (2 : Int32)), (.int p0)])) := fun t k => G12 t (XT.iconstV X0.here hx rfl (2 : Int32) (hb hby d5_16) (by decide) k)
      by_cases hc14 : p0 = (2 : Int32)
      · have G15 : own_Go p.tables e below (s₁.setTop (entryFrame m #[(.int p0)] 1)) (s₁.setTop (mkF m 20 #[.val (.int p0)] [])) := fun t k => G13 t (XS.icmpNo X0.here hx rfl (hb hby d5_17) rfl (teq hc14).2 k)
        obtain ⟨u16, T16, h16, k16, b16, c16, X16, e16, E16, hS, hk16, hZ, hown, Es16, Fc16, Fv16, Av16, -, -, hR, -, -, st16⟩ := ldcCH X0 hx hZ hown (hw _ (List.mem_of_getElem? (i := 62) rfl)) (own_wS hw) e0 hS hk (own_EW hw) (List.mem_of_getElem? (i := 6) rfl) hC (vs := [.int (111 : Int32), .int (116 : Int32), .int (104 : Int32), .int (101 : Int32), .int (114 : Int32), .int (45 : Int32), .int (114 : Int32), .int (101 : Int32), .int (97 : Int32), .int (100 : Int32)]) (z := (10 : Int32)) ⟨by decide, by decide⟩ (by decide) (by decide) (g := (mkF m 20 #[.val (.int p0)] [])) rfl (hb hby d5_20) (n := 40) (by decide) (by decide) (by decide) (by decide)
        have O16 := O0.ext E16
        have K16 := K0.ext E16
        have hk := hk16
        have G16 : own_Go p.tables e below (s₁.setTop (entryFrame m #[(.int p0)] 1)) (T16.setTop (mkF m 22 #[.val (.int p0)] [(.ref u16)])) := fun t k => G15 t (st16 t k)
        obtain ⟨fs, hr, hrun, hended, hW⟩ := X16.leaveW hS (by rw [e16]; exact hk) (v := some (.ref u16)) (fun h => by rw [Bd.returns] at h; cases h)
        refine ⟨_, _, G16 _ ?_, hrun, hended, _, _, rfl, ?_, (by rw [hh]; show CHr Z own_EL s.vm h0 T16.vm T16.heap; rw [e16]; exact hR), ⟨_, rfl⟩, hW.2.1, hW.2.2.1, hW.2.2.2.mono (by decide) (by decide)⟩
        · exact own_retA X16 hx Bd.returns rfl rfl (hb hby d5_22) hr
        · show Q5 Z p0 h0 _ T16.heap _
          rw [e16]
          refine ⟨u16, b16, c16, rfl, N0, K16, Es16, Fc16, Fv16, ?_⟩
          rw [show own_n p0 = (10 : Int32) by simp [own_n, own_cs, hc2, hc8, hc14], show own_vs p0 = [.int (111 : Int32), .int (116 : Int32), .int (104 : Int32), .int (101 : Int32), .int (114 : Int32), .int (45 : Int32), .int (114 : Int32), .int (101 : Int32), .int (97 : Int32), .int (100 : Int32)] by simp [own_vs, own_cs, hc2, hc8, hc14]]
          exact Av16
      · have G17 : own_Go p.tables e below (s₁.setTop (entryFrame m #[(.int p0)] 1)) (s₁.setTop (mkF m 23 #[.val (.int p0)] [])) := fun t k => G13 t (XS.icmpYes X0.here hx rfl (pc0 := 17) (pc' := 23) rfl (hb hby d5_17) rfl (feq hc14).2 (by decide) (by decide) k)
        obtain ⟨u18, T18, h18, k18, b18, c18, X18, e18, E18, hS, hk18, hZ, hown, Es18, Fc18, Fv18, Av18, -, -, hR, -, -, st18⟩ := ldcCH X0 hx hZ hown (hw _ (List.mem_of_getElem? (i := 46) rfl)) (own_wS hw) e0 hS hk (own_EW hw) (List.mem_of_getElem? (i := 7) rfl) hC (vs := [.int (116 : Int32), .int (101 : Int32), .int (120 : Int32), .int (116 : Int32)]) (z := (4 : Int32)) ⟨by decide, by decide⟩ (by decide) (by decide) (g := (mkF m 23 #[.val (.int p0)] [])) rfl (hb hby d5_23) (n := 16) (by decide) (by decide) (by decide) (by decide)
        have O18 := O0.ext E18
        have K18 := K0.ext E18
        have hk := hk18
        have G18 : own_Go p.tables e below (s₁.setTop (entryFrame m #[(.int p0)] 1)) (T18.setTop (mkF m 25 #[.val (.int p0)] [(.ref u18)])) := fun t k => G17 t (st18 t k)
        obtain ⟨fs, hr, hrun, hended, hW⟩ := X18.leaveW hS (by rw [e18]; exact hk) (v := some (.ref u18)) (fun h => by rw [Bd.returns] at h; cases h)
        refine ⟨_, _, G18 _ ?_, hrun, hended, _, _, rfl, ?_, (by rw [hh]; show CHr Z own_EL s.vm h0 T18.vm T18.heap; rw [e18]; exact hR), ⟨_, rfl⟩, hW.2.1, hW.2.2.1, hW.2.2.2.mono (by decide) (by decide)⟩
        · exact own_retA X18 hx Bd.returns rfl rfl (hb hby d5_25) hr
        · show Q5 Z p0 h0 _ T18.heap _
          rw [e18]
          refine ⟨u18, b18, c18, rfl, N0, K18, Es18, Fc18, Fv18, ?_⟩
          rw [show own_n p0 = (4 : Int32) by simp [own_n, own_cs, hc2, hc8, hc14], show own_vs p0 = [.int (116 : Int32), .int (101 : Int32), .int (120 : Int32), .int (116 : Int32)] by simp [own_vs, own_cs, hc2, hc8, hc14]]
          exact Av18
theorem d6_0 : decode jdk_43_method_13_code 0 = .ok (.aload_n 0, 1) := by decide +kernel
theorem d6_1 : decode jdk_43_method_13_code 1 = .ok (.arraylength, 1) := by decide +kernel
theorem d6_2 : decode jdk_43_method_13_code 2 = .ok (.aload_n 1, 1) := by decide +kernel
theorem d6_3 : decode jdk_43_method_13_code 3 = .ok (.arraylength, 1) := by decide +kernel
theorem d6_4 : decode jdk_43_method_13_code 4 = .ok (.if_icmp .ne 30, 3) := by decide +kernel
theorem d6_7 : decode jdk_43_method_13_code 7 = .ok (.iconst 0, 1) := by decide +kernel
theorem d6_8 : decode jdk_43_method_13_code 8 = .ok (.istore_n 2, 1) := by decide +kernel
theorem d6_9 : decode jdk_43_method_13_code 9 = .ok (.iload_n 2, 1) := by decide +kernel
theorem d6_10 : decode jdk_43_method_13_code 10 = .ok (.aload_n 0, 1) := by decide +kernel
theorem d6_11 : decode jdk_43_method_13_code 11 = .ok (.arraylength, 1) := by decide +kernel
theorem d6_12 : decode jdk_43_method_13_code 12 = .ok (.if_icmp .ge 20, 3) := by decide +kernel
theorem d6_15 : decode jdk_43_method_13_code 15 = .ok (.aload_n 0, 1) := by decide +kernel
theorem d6_16 : decode jdk_43_method_13_code 16 = .ok (.iload_n 2, 1) := by decide +kernel
theorem d6_17 : decode jdk_43_method_13_code 17 = .ok (.baload, 1) := by decide +kernel
theorem d6_18 : decode jdk_43_method_13_code 18 = .ok (.aload_n 1, 1) := by decide +kernel
theorem d6_19 : decode jdk_43_method_13_code 19 = .ok (.iload_n 2, 1) := by decide +kernel
theorem d6_20 : decode jdk_43_method_13_code 20 = .ok (.baload, 1) := by decide +kernel
theorem d6_21 : decode jdk_43_method_13_code 21 = .ok (.if_icmp .eq 5, 3) := by decide +kernel
theorem d6_24 : decode jdk_43_method_13_code 24 = .ok (.iconst 0, 1) := by decide +kernel
theorem d6_25 : decode jdk_43_method_13_code 25 = .ok (.ireturn, 1) := by decide +kernel
theorem d6_26 : decode jdk_43_method_13_code 26 = .ok (.iinc 2 1, 3) := by decide +kernel
theorem d6_29 : decode jdk_43_method_13_code 29 = .ok (.goto (-20), 3) := by decide +kernel
theorem d6_32 : decode jdk_43_method_13_code 32 = .ok (.iconst 1, 1) := by decide +kernel
theorem d6_33 : decode jdk_43_method_13_code 33 = .ok (.ireturn, 1) := by decide +kernel
theorem d6_34 : decode jdk_43_method_13_code 34 = .ok (.iconst 0, 1) := by decide +kernel
theorem d6_35 : decode jdk_43_method_13_code 35 = .ok (.ireturn, 1) := by decide +kernel
theorem pn_6 : plainName "java/lang/StringLatin1" = true := by first | (simp [plainName, overriddenIn]; done) | decide +kernel
theorem ef_6 (m : MethodId) (a0 : Addr) (a1 : Addr) : entryFrame m #[(.ref a0), (.ref a1)] 3 = mkF m 0 #[.val (.ref a0), .val (.ref a1), .unset] [] := by first | (simp [entryFrame, mkF, argsToLocals, Value.category]; done) | rfl
def Q6 (Z : State) (a0 : Addr) (a1 : Addr) (i j : Int32) (ka kb : ClassId) (h0 : Heap) (v : Option Value) (h : Heap) (L : List Loc) : Prop := v = some (.int (if i = j then (1 : Int32) else (0 : Int32))) ∧ L = [] ∧ h = h0
set_option maxRecDepth 65536 in
set_option maxHeartbeats 40000000 in
theorem rm6 (l : Launch) (Z : State) (aw : Array Value) (hw : ∀ d ∈ tables_1, d.before aw Z = true) (ws : List Jvm.Cond) (a0 : Addr) (a1 : Addr) (i j : Int32) (ka kb : ClassId) (h0 : Heap) (hi : 0 ≤ i.toInt ∧ i.toInt < 4) (hj : 0 ≤ j.toInt ∧ j.toInt < 4) (Va : Arv Z h0 a0 ka .byte (own_n i) (own_vs i) (.int 0)) (Vb : Arv Z h0 a1 kb .byte (own_n j) (own_vs j) (.int 0)) :
    MetFree l (⟨"java/lang/StringLatin1", "equals", "([B[B)Z"⟩ : MethodName) (head1 (Jvm.Cond.code (⟨"java/lang/StringLatin1", "equals", "([B[B)Z"⟩ : MethodName) jdk_43_method_13_code 3 (some .boolean) :: ws) ({ frames := 0, cells := 0, slots := 0, locals := 0 } : Room)) (fun a U => a = #[(.ref a0), (.ref a1)] ∧ Z.Warmed39 U.vm ∧ U.heap = h0) (fun _ _ _ _ _ => True) (fun _ U o U' => ∃ v L, o = .returned v ∧ Q6 Z a0 a1 i j ka kb h0 v U'.heap L ∧ FrameEnd U o U' L ({ frames := 0, cells := 0, slots := 0, locals := 0 } : Room).cells ({ frames := 0, cells := 0, slots := 0, locals := 0 } : Room).slots) := by
  refine MetFree.of_bodySF (plainFor_of_name pn_6) hisR ?_
  intro p e s m args below meth c s₁ Bd hml0 hP hK
  obtain ⟨rfl, hZ, hh⟩ := hP
  have hZ0 := hZ
  have hx := Bd.exec
  have hby := Bd.bytes
  have hml : c.maxLocals = 3 := hml0
  have hown : s.vm.findClass "java/lang/StringLatin1" = some m.cls := findClass_of_methodNamed Bd.named
  have hnm := (name_of_methodNamed Bd.named Bd.method).1
  have X0 : Stand p l e ({ frames := 0, cells := 0, slots := 0, locals := 0 } : Room) s m #[(.ref a0), (.ref a1)] below meth c s₁ [] 0 0 := Stand.of_body Bd
  have e0 : s₁.heap = h0 := by rw [← hh, Bd.state]; rfl
  have G0 : own_Go p.tables e below (s₁.setTop (entryFrame m #[(.ref a0), (.ref a1)] 3)) (s₁.setTop (mkF m 0 #[.val (.ref a0), .val (.ref a1), .unset] [])) := fun t k => castTop (ef_6 m a0 a1) k
  rcases own_four hi with rfl | rfl | rfl | rfl
  · have G1 : own_Go p.tables e below (s₁.setTop (entryFrame m #[(.ref a0), (.ref a1)] 3)) (s₁.setTop (mkF m 1 #[.val (.ref a0), .val (.ref a1), .unset] [(.ref a0)])) := fun t k => G0 t (XS.aloadN X0.here hx rfl (hb hby d6_0) rfl rfl k)
    rcases own_four hj with rfl | rfl | rfl | rfl
    · obtain ⟨cla, Ara, qka, Sza, Nna, Hsa, Gfa⟩ := Va
      have G2 : own_Go p.tables e below (s₁.setTop (entryFrame m #[(.ref a0), (.ref a1)] 3)) (s₁.setTop (mkF m 2 #[.val (.ref a0), .val (.ref a1), .unset] [(.int (10 : Int32))])) := fun t k => G1 t (X0.arraylength hx (by rw [e0]; exact Ara.1) (State.isArrayOf_alike hZ.alike Ara.2.1) (g := (mkF m 1 #[.val (.ref a0), .val (.ref a1), .unset] [(.ref a0)])) rfl rfl (hb hby d6_1) t (by rw [show cla.slots.size.toInt32 = (10 : Int32) from (len_of Sza Nna).trans (by decide)]; exact k))
      have G3 : own_Go p.tables e below (s₁.setTop (entryFrame m #[(.ref a0), (.ref a1)] 3)) (s₁.setTop (mkF m 3 #[.val (.ref a0), .val (.ref a1), .unset] [(.ref a1), (.int (10 : Int32))])) := fun t k => G2 t (XS.aloadN X0.here hx rfl (hb hby d6_2) rfl rfl k)
      obtain ⟨clb, Arb, qkb, Szb, Nnb, Hsb, Gfb⟩ := Vb
      have G4 : own_Go p.tables e below (s₁.setTop (entryFrame m #[(.ref a0), (.ref a1)] 3)) (s₁.setTop (mkF m 4 #[.val (.ref a0), .val (.ref a1), .unset] [(.int (10 : Int32)), (.int (10 : Int32))])) := fun t k => G3 t (X0.arraylength hx (by rw [e0]; exact Arb.1) (State.isArrayOf_alike hZ.alike Arb.2.1) (g := (mkF m 3 #[.val (.ref a0), .val (.ref a1), .unset] [(.ref a1), (.int (10 : Int32))])) rfl rfl (hb hby d6_3) t (by rw [show clb.slots.size.toInt32 = (10 : Int32) from (len_of Szb Nnb).trans (by decide)]; exact k))
      have hk5 : (10 : Int32) = (10 : Int32) := by decide
      have G6 : own_Go p.tables e below (s₁.setTop (entryFrame m #[(.ref a0), (.ref a1)] 3)) (s₁.setTop (mkF m 7 #[.val (.ref a0), .val (.ref a1), .unset] [])) := fun t k => G4 t (XS.icmpNo X0.here hx rfl (hb hby d6_4) rfl (teq hk5).2 k)
      have G7 : own_Go p.tables e below (s₁.setTop (entryFrame m #[(.ref a0), (.ref a1)] 3)) (s₁.setTop (mkF m 8 #[.val (.ref a0), .val (.ref a1), .unset] [(.int (0 : Int32))])) := fun t k => G6 t (XT.iconstV X0.here hx rfl (0 : Int32) (hb hby d6_7) (by decide) k)
      have G8 : own_Go p.tables e below (s₁.setTop (entryFrame m #[(.ref a0), (.ref a1)] 3)) (s₁.setTop (mkF m 9 #[.val (.ref a0), .val (.ref a1), .val (.int (0 : Int32))] [])) := fun t k => G7 t (XS.istoreN X0.here hx rfl (hb hby d6_8) rfl (l' := #[.val (.ref a0), .val (.ref a1), .val (.int (0 : Int32))]) rfl k)
      have G9 : own_Go p.tables e below (s₁.setTop (entryFrame m #[(.ref a0), (.ref a1)] 3)) (s₁.setTop (mkF m 10 #[.val (.ref a0), .val (.ref a1), .val (.int (0 : Int32))] [(.int (0 : Int32))])) := fun t k => G8 t (XS.iloadN X0.here hx rfl (hb hby d6_9) rfl k)
      have G10 : own_Go p.tables e below (s₁.setTop (entryFrame m #[(.ref a0), (.ref a1)] 3)) (s₁.setTop (mkF m 11 #[.val (.ref a0), .val (.ref a1), .val (.int (0 : Int32))] [(.ref a0), (.int (0 : Int32))])) := fun t k => G9 t (XS.aloadN X0.here hx rfl (hb hby d6_10) rfl rfl k)
      have G11 : own_Go p.tables e below (s₁.setTop (entryFrame m #[(.ref a0), (.ref a1)] 3)) (s₁.setTop (mkF m 12 #[.val (.ref a0), .val (.ref a1), .val (.int (0 : Int32))] [(.int (10 : Int32)), (.int (0 : Int32))])) := fun t k => G10 t (X0.arraylength hx (by rw [e0]; exact Ara.1) (State.isArrayOf_alike hZ.alike Ara.2.1) (g := (mkF m 11 #[.val (.ref a0), .val (.ref a1), .val (.int (0 : Int32))] [(.ref a0), (.int (0 : Int32))])) rfl rfl (hb hby d6_11) t (by rw [show cla.slots.size.toInt32 = (10 : Int32) from (len_of Sza Nna).trans (by decide)]; exact k))
      have hk12 : (0 : Int32) < (10 : Int32) := by decide
      have G13 : own_Go p.tables e below (s₁.setTop (entryFrame m #[(.ref a0), (.ref a1)] 3)) (s₁.setTop (mkF m 15 #[.val (.ref a0), .val (.ref a1), .val (.int (0 : Int32))] [])) := fun t k => G11 t (XS.icmpNo X0.here hx rfl (hb hby d6_12) rfl (tlt hk12).2.1 k)
      have G14 : own_Go p.tables e below (s₁.setTop (entryFrame m #[(.ref a0), (.ref a1)] 3)) (s₁.setTop (mkF m 16 #[.val (.ref a0), .val (.ref a1), .val (.int (0 : Int32))] [(.ref a0)])) := fun t k => G13 t (XS.aloadN X0.here hx rfl (hb hby d6_15) rfl rfl k)
      have G15 : own_Go p.tables e below (s₁.setTop (entryFrame m #[(.ref a0), (.ref a1)] 3)) (s₁.setTop (mkF m 17 #[.val (.ref a0), .val (.ref a1), .val (.int (0 : Int32))] [(.int (0 : Int32)), (.ref a0)])) := fun t k => G14 t (XS.iloadN X0.here hx rfl (hb hby d6_16) rfl k)
      have hin16 : ¬ ((0 : Int32) < 0 ∨ cla.slots.size ≤ ((0 : Int32)).toNatClampNeg) := inb_of Sza ⟨by decide, by decide⟩
      have G17 : own_Go p.tables e below (s₁.setTop (entryFrame m #[(.ref a0), (.ref a1)] 3)) (s₁.setTop (mkF m 18 #[.val (.ref a0), .val (.ref a1), .val (.int (0 : Int32))] [(.int (98 : Int32))])) := fun t k => G15 t (X0.baloadBytes hx (by rw [e0]; exact Ara.1) (State.isArrayOf_alike hZ.alike Ara.2.1) Ara.2.2 hin16 (Hsa.at hin16 (by decide)) (g := (mkF m 17 #[.val (.ref a0), .val (.ref a1), .val (.int (0 : Int32))] [(.int (0 : Int32)), (.ref a0)])) rfl rfl (hb hby d6_17) t k)
      have G18 : own_Go p.tables e below (s₁.setTop (entryFrame m #[(.ref a0), (.ref a1)] 3)) (s₁.setTop (mkF m 19 #[.val (.ref a0), .val (.ref a1), .val (.int (0 : Int32))] [(.ref a1), (.int (98 : Int32))])) := fun t k => G17 t (XS.aloadN X0.here hx rfl (hb hby d6_18) rfl rfl k)
      have G19 : own_Go p.tables e below (s₁.setTop (entryFrame m #[(.ref a0), (.ref a1)] 3)) (s₁.setTop (mkF m 20 #[.val (.ref a0), .val (.ref a1), .val (.int (0 : Int32))] [(.int (0 : Int32)), (.ref a1), (.int (98 : Int32))])) := fun t k => G18 t (XS.iloadN X0.here hx rfl (hb hby d6_19) rfl k)
      have hin20 : ¬ ((0 : Int32) < 0 ∨ clb.slots.size ≤ ((0 : Int32)).toNatClampNeg) := inb_of Szb ⟨by decide, by decide⟩
      have G21 : own_Go p.tables e below (s₁.setTop (entryFrame m #[(.ref a0), (.ref a1)] 3)) (s₁.setTop (mkF m 21 #[.val (.ref a0), .val (.ref a1), .val (.int (0 : Int32))] [(.int (98 : Int32)), (.int (98 : Int32))])) := fun t k => G19 t (X0.baloadBytes hx (by rw [e0]; exact Arb.1) (State.isArrayOf_alike hZ.alike Arb.2.1) Arb.2.2 hin20 (Hsb.at hin20 (by decide)) (g := (mkF m 20 #[.val (.ref a0), .val (.ref a1), .val (.int (0 : Int32))] [(.int (0 : Int32)), (.ref a1), (.int (98 : Int32))])) rfl rfl (hb hby d6_20) t k)
      have hk22 : (98 : Int32) = (98 : Int32) := by decide
      have G23 : own_Go p.tables e below (s₁.setTop (entryFrame m #[(.ref a0), (.ref a1)] 3)) (s₁.setTop (mkF m 26 #[.val (.ref a0), .val (.ref a1), .val (.int (0 : Int32))] [])) := fun t k => G21 t (XS.icmpYes X0.here hx rfl (pc0 := 21) (pc' := 26) rfl (hb hby d6_21) rfl (teq hk22).1 (by decide) (by decide) k)
      have G24 : own_Go p.tables e below (s₁.setTop (entryFrame m #[(.ref a0), (.ref a1)] 3)) (s₁.setTop (mkF m 29 #[.val (.ref a0), .val (.ref a1), .val (.int (1 : Int32))] [])) := fun t k => G23 t (XT.iincV X0.here hx rfl (1 : Int32) (hb hby d6_26) (by decide) rfl (l' := #[.val (.ref a0), .val (.ref a1), .val (.int (1 : Int32))]) rfl k)
      have G25 : own_Go p.tables e below (s₁.setTop (entryFrame m #[(.ref a0), (.ref a1)] 3)) (s₁.setTop (mkF m 9 #[.val (.ref a0), .val (.ref a1), .val (.int (1 : Int32))] [])) := fun t k => G24 t (XS.goto X0.here hx rfl (pc0 := 29) (pc' := 9) rfl (hb hby d6_29) (by decide) (by decide) k)
      have G26 : own_Go p.tables e below (s₁.setTop (entryFrame m #[(.ref a0), (.ref a1)] 3)) (s₁.setTop (mkF m 10 #[.val (.ref a0), .val (.ref a1), .val (.int (1 : Int32))] [(.int (1 : Int32))])) := fun t k => G25 t (XS.iloadN X0.here hx rfl (hb hby d6_9) rfl k)
      have G27 : own_Go p.tables e below (s₁.setTop (entryFrame m #[(.ref a0), (.ref a1)] 3)) (s₁.setTop (mkF m 11 #[.val (.ref a0), .val (.ref a1), .val (.int (1 : Int32))] [(.ref a0), (.int (1 : Int32))])) := fun t k => G26 t (XS.aloadN X0.here hx rfl (hb hby d6_10) rfl rfl k)
      have G28 : own_Go p.tables e below (s₁.setTop (entryFrame m #[(.ref a0), (.ref a1)] 3)) (s₁.setTop (mkF m 12 #[.val (.ref a0), .val (.ref a1), .val (.int (1 : Int32))] [(.int (10 : Int32)), (.int (1 : Int32))])) := fun t k => G27 t (X0.arraylength hx (by rw [e0]; exact Ara.1) (State.isArrayOf_alike hZ.alike Ara.2.1) (g := (mkF m 11 #[.val (.ref a0), .val (.ref a1), .val (.int (1 : Int32))] [(.ref a0), (.int (1 : Int32))])) rfl rfl (hb hby d6_11) t (by rw [show cla.slots.size.toInt32 = (10 : Int32) from (len_of Sza Nna).trans (by decide)]; exact k))
      have hk29 : (1 : Int32) < (10 : Int32) := by decide
      have G30 : own_Go p.tables e below (s₁.setTop (entryFrame m #[(.ref a0), (.ref a1)] 3)) (s₁.setTop (mkF m 15 #[.val (.ref a0), .val (.ref a1), .val (.int (1 : Int32))] [])) := fun t k => G28 t (XS.icmpNo X0.here hx rfl (hb hby d6_12) rfl (tlt hk29).2.1 k)
      have G31 : own_Go p.tables e below (s₁.setTop (entryFrame m #[(.ref a0), (.ref a1)] 3)) (s₁.setTop (mkF m 16 #[.val (.ref a0), .val (.ref a1), .val (.int (1 : Int32))] [(.ref a0)])) := fun t k => G30 t (XS.aloadN X0.here hx rfl (hb hby d6_15) rfl rfl k)
      have G32 : own_Go p.tables e below (s₁.setTop (entryFrame m #[(.ref a0), (.ref a1)] 3)) (s₁.setTop (mkF m 17 #[.val (.ref a0), .val (.ref a1), .val (.int (1 : Int32))] [(.int (1 : Int32)), (.ref a0)])) := fun t k => G31 t (XS.iloadN X0.here hx rfl (hb hby d6_16) rfl k)
      have hin33 : ¬ ((1 : Int32) < 0 ∨ cla.slots.size ≤ ((1 : Int32)).toNatClampNeg) := inb_of Sza ⟨by decide, by decide⟩
      have G34 : own_Go p.tables e below (s₁.setTop (entryFrame m #[(.ref a0), (.ref a1)] 3)) (s₁.setTop (mkF m 18 #[.val (.ref a0), .val (.ref a1), .val (.int (1 : Int32))] [(.int (111 : Int32))])) := fun t k => G32 t (X0.baloadBytes hx (by rw [e0]; exact Ara.1) (State.isArrayOf_alike hZ.alike Ara.2.1) Ara.2.2 hin33 (Hsa.at hin33 (by decide)) (g := (mkF m 17 #[.val (.ref a0), .val (.ref a1), .val (.int (1 : Int32))] [(.int (1 : Int32)), (.ref a0)])) rfl rfl (hb hby d6_17) t k)
      have G35 : own_Go p.tables e below (s₁.setTop (entryFrame m #[(.ref a0), (.ref a1)] 3)) (s₁.setTop (mkF m 19 #[.val (.ref a0), .val (.ref a1), .val (.int (1 : Int32))] [(.ref a1), (.int (111 : Int32))])) := fun t k => G34 t (XS.aloadN X0.here hx rfl (hb hby d6_18) rfl rfl k)
      have G36 : own_Go p.tables e below (s₁.setTop (entryFrame m #[(.ref a0), (.ref a1)] 3)) (s₁.setTop (mkF m 20 #[.val (.ref a0), .val (.ref a1), .val (.int (1 : Int32))] [(.int (1 : Int32)), (.ref a1), (.int (111 : Int32))])) := fun t k => G35 t (XS.iloadN X0.here hx rfl (hb hby d6_19) rfl k)
      have hin37 : ¬ ((1 : Int32) < 0 ∨ clb.slots.size ≤ ((1 : Int32)).toNatClampNeg) := inb_of Szb ⟨by decide, by decide⟩
      have G38 : own_Go p.tables e below (s₁.setTop (entryFrame m #[(.ref a0), (.ref a1)] 3)) (s₁.setTop (mkF m 21 #[.val (.ref a0), .val (.ref a1), .val (.int (1 : Int32))] [(.int (111 : Int32)), (.int (111 : Int32))])) := fun t k => G36 t (X0.baloadBytes hx (by rw [e0]; exact Arb.1) (State.isArrayOf_alike hZ.alike Arb.2.1) Arb.2.2 hin37 (Hsb.at hin37 (by decide)) (g := (mkF m 20 #[.val (.ref a0), .val (.ref a1), .val (.int (1 : Int32))] [(.int (1 : Int32)), (.ref a1), (.int (111 : Int32))])) rfl rfl (hb hby d6_20) t k)
      have hk39 : (111 : Int32) = (111 : Int32) := by decide
      have G40 : own_Go p.tables e below (s₁.setTop (entryFrame m #[(.ref a0), (.ref a1)] 3)) (s₁.setTop (mkF m 26 #[.val (.ref a0), .val (.ref a1), .val (.int (1 : Int32))] [])) := fun t k => G38 t (XS.icmpYes X0.here hx rfl (pc0 := 21) (pc' := 26) rfl (hb hby d6_21) rfl (teq hk39).1 (by decide) (by decide) k)
      have G41 : own_Go p.tables e below (s₁.setTop (entryFrame m #[(.ref a0), (.ref a1)] 3)) (s₁.setTop (mkF m 29 #[.val (.ref a0), .val (.ref a1), .val (.int (2 : Int32))] [])) := fun t k => G40 t (XT.iincV X0.here hx rfl (1 : Int32) (hb hby d6_26) (by decide) rfl (l' := #[.val (.ref a0), .val (.ref a1), .val (.int (2 : Int32))]) rfl k)
      have G42 : own_Go p.tables e below (s₁.setTop (entryFrame m #[(.ref a0), (.ref a1)] 3)) (s₁.setTop (mkF m 9 #[.val (.ref a0), .val (.ref a1), .val (.int (2 : Int32))] [])) := fun t k => G41 t (XS.goto X0.here hx rfl (pc0 := 29) (pc' := 9) rfl (hb hby d6_29) (by decide) (by decide) k)
      have G43 : own_Go p.tables e below (s₁.setTop (entryFrame m #[(.ref a0), (.ref a1)] 3)) (s₁.setTop (mkF m 10 #[.val (.ref a0), .val (.ref a1), .val (.int (2 : Int32))] [(.int (2 : Int32))])) := fun t k => G42 t (XS.iloadN X0.here hx rfl (hb hby d6_9) rfl k)
      have G44 : own_Go p.tables e below (s₁.setTop (entryFrame m #[(.ref a0), (.ref a1)] 3)) (s₁.setTop (mkF m 11 #[.val (.ref a0), .val (.ref a1), .val (.int (2 : Int32))] [(.ref a0), (.int (2 : Int32))])) := fun t k => G43 t (XS.aloadN X0.here hx rfl (hb hby d6_10) rfl rfl k)
      have G45 : own_Go p.tables e below (s₁.setTop (entryFrame m #[(.ref a0), (.ref a1)] 3)) (s₁.setTop (mkF m 12 #[.val (.ref a0), .val (.ref a1), .val (.int (2 : Int32))] [(.int (10 : Int32)), (.int (2 : Int32))])) := fun t k => G44 t (X0.arraylength hx (by rw [e0]; exact Ara.1) (State.isArrayOf_alike hZ.alike Ara.2.1) (g := (mkF m 11 #[.val (.ref a0), .val (.ref a1), .val (.int (2 : Int32))] [(.ref a0), (.int (2 : Int32))])) rfl rfl (hb hby d6_11) t (by rw [show cla.slots.size.toInt32 = (10 : Int32) from (len_of Sza Nna).trans (by decide)]; exact k))
      have hk46 : (2 : Int32) < (10 : Int32) := by decide
      have G47 : own_Go p.tables e below (s₁.setTop (entryFrame m #[(.ref a0), (.ref a1)] 3)) (s₁.setTop (mkF m 15 #[.val (.ref a0), .val (.ref a1), .val (.int (2 : Int32))] [])) := fun t k => G45 t (XS.icmpNo X0.here hx rfl (hb hby d6_12) rfl (tlt hk46).2.1 k)
      have G48 : own_Go p.tables e below (s₁.setTop (entryFrame m #[(.ref a0), (.ref a1)] 3)) (s₁.setTop (mkF m 16 #[.val (.ref a0), .val (.ref a1), .val (.int (2 : Int32))] [(.ref a0)])) := fun t k => G47 t (XS.aloadN X0.here hx rfl (hb hby d6_15) rfl rfl k)
      have G49 : own_Go p.tables e below (s₁.setTop (entryFrame m #[(.ref a0), (.ref a1)] 3)) (s₁.setTop (mkF m 17 #[.val (.ref a0), .val (.ref a1), .val (.int (2 : Int32))] [(.int (2 : Int32)), (.ref a0)])) := fun t k => G48 t (XS.iloadN X0.here hx rfl (hb hby d6_16) rfl k)
      have hin50 : ¬ ((2 : Int32) < 0 ∨ cla.slots.size ≤ ((2 : Int32)).toNatClampNeg) := inb_of Sza ⟨by decide, by decide⟩
      have G51 : own_Go p.tables e below (s₁.setTop (entryFrame m #[(.ref a0), (.ref a1)] 3)) (s₁.setTop (mkF m 18 #[.val (.ref a0), .val (.ref a1), .val (.int (2 : Int32))] [(.int (116 : Int32))])) := fun t k => G49 t (X0.baloadBytes hx (by rw [e0]; exact Ara.1) (State.isArrayOf_alike hZ.alike Ara.2.1) Ara.2.2 hin50 (Hsa.at hin50 (by decide)) (g := (mkF m 17 #[.val (.ref a0), .val (.ref a1), .val (.int (2 : Int32))] [(.int (2 : Int32)), (.ref a0)])) rfl rfl (hb hby d6_17) t k)
      have G52 : own_Go p.tables e below (s₁.setTop (entryFrame m #[(.ref a0), (.ref a1)] 3)) (s₁.setTop (mkF m 19 #[.val (.ref a0), .val (.ref a1), .val (.int (2 : Int32))] [(.ref a1), (.int (116 : Int32))])) := fun t k => G51 t (XS.aloadN X0.here hx rfl (hb hby d6_18) rfl rfl k)
      have G53 : own_Go p.tables e below (s₁.setTop (entryFrame m #[(.ref a0), (.ref a1)] 3)) (s₁.setTop (mkF m 20 #[.val (.ref a0), .val (.ref a1), .val (.int (2 : Int32))] [(.int (2 : Int32)), (.ref a1), (.int (116 : Int32))])) := fun t k => G52 t (XS.iloadN X0.here hx rfl (hb hby d6_19) rfl k)
      have hin54 : ¬ ((2 : Int32) < 0 ∨ clb.slots.size ≤ ((2 : Int32)).toNatClampNeg) := inb_of Szb ⟨by decide, by decide⟩
      have G55 : own_Go p.tables e below (s₁.setTop (entryFrame m #[(.ref a0), (.ref a1)] 3)) (s₁.setTop (mkF m 21 #[.val (.ref a0), .val (.ref a1), .val (.int (2 : Int32))] [(.int (116 : Int32)), (.int (116 : Int32))])) := fun t k => G53 t (X0.baloadBytes hx (by rw [e0]; exact Arb.1) (State.isArrayOf_alike hZ.alike Arb.2.1) Arb.2.2 hin54 (Hsb.at hin54 (by decide)) (g := (mkF m 20 #[.val (.ref a0), .val (.ref a1), .val (.int (2 : Int32))] [(.int (2 : Int32)), (.ref a1), (.int (116 : Int32))])) rfl rfl (hb hby d6_20) t k)
      have hk56 : (116 : Int32) = (116 : Int32) := by decide
      have G57 : own_Go p.tables e below (s₁.setTop (entryFrame m #[(.ref a0), (.ref a1)] 3)) (s₁.setTop (mkF m 26 #[.val (.ref a0), .val (.ref a1), .val (.int (2 : Int32))] [])) := fun t k => G55 t (XS.icmpYes X0.here hx rfl (pc0 := 21) (pc' := 26) rfl (hb hby d6_21) rfl (teq hk56).1 (by decide) (by decide) k)
      have G58 : own_Go p.tables e below (s₁.setTop (entryFrame m #[(.ref a0), (.ref a1)] 3)) (s₁.setTop (mkF m 29 #[.val (.ref a0), .val (.ref a1), .val (.int (3 : Int32))] [])) := fun t k => G57 t (XT.iincV X0.here hx rfl (1 : Int32) (hb hby d6_26) (by decide) rfl (l' := #[.val (.ref a0), .val (.ref a1), .val (.int (3 : Int32))]) rfl k)
      have G59 : own_Go p.tables e below (s₁.setTop (entryFrame m #[(.ref a0), (.ref a1)] 3)) (s₁.setTop (mkF m 9 #[.val (.ref a0), .val (.ref a1), .val (.int (3 : Int32))] [])) := fun t k => G58 t (XS.goto X0.here hx rfl (pc0 := 29) (pc' := 9) rfl (hb hby d6_29) (by decide) (by decide) k)
      have G60 : own_Go p.tables e below (s₁.setTop (entryFrame m #[(.ref a0), (.ref a1)] 3)) (s₁.setTop (mkF m 10 #[.val (.ref a0), .val (.ref a1), .val (.int (3 : Int32))] [(.int (3 : Int32))])) := fun t k => G59 t (XS.iloadN X0.here hx rfl (hb hby d6_9) rfl k)
      have G61 : own_Go p.tables e below (s₁.setTop (entryFrame m #[(.ref a0), (.ref a1)] 3)) (s₁.setTop (mkF m 11 #[.val (.ref a0), .val (.ref a1), .val (.int (3 : Int32))] [(.ref a0), (.int (3 : Int32))])) := fun t k => G60 t (XS.aloadN X0.here hx rfl (hb hby d6_10) rfl rfl k)
      have G62 : own_Go p.tables e below (s₁.setTop (entryFrame m #[(.ref a0), (.ref a1)] 3)) (s₁.setTop (mkF m 12 #[.val (.ref a0), .val (.ref a1), .val (.int (3 : Int32))] [(.int (10 : Int32)), (.int (3 : Int32))])) := fun t k => G61 t (X0.arraylength hx (by rw [e0]; exact Ara.1) (State.isArrayOf_alike hZ.alike Ara.2.1) (g := (mkF m 11 #[.val (.ref a0), .val (.ref a1), .val (.int (3 : Int32))] [(.ref a0), (.int (3 : Int32))])) rfl rfl (hb hby d6_11) t (by rw [show cla.slots.size.toInt32 = (10 : Int32) from (len_of Sza Nna).trans (by decide)]; exact k))
      have hk63 : (3 : Int32) < (10 : Int32) := by decide
      have G64 : own_Go p.tables e below (s₁.setTop (entryFrame m #[(.ref a0), (.ref a1)] 3)) (s₁.setTop (mkF m 15 #[.val (.ref a0), .val (.ref a1), .val (.int (3 : Int32))] [])) := fun t k => G62 t (XS.icmpNo X0.here hx rfl (hb hby d6_12) rfl (tlt hk63).2.1 k)
      have G65 : own_Go p.tables e below (s₁.setTop (entryFrame m #[(.ref a0), (.ref a1)] 3)) (s₁.setTop (mkF m 16 #[.val (.ref a0), .val (.ref a1), .val (.int (3 : Int32))] [(.ref a0)])) := fun t k => G64 t (XS.aloadN X0.here hx rfl (hb hby d6_15) rfl rfl k)
      have G66 : own_Go p.tables e below (s₁.setTop (entryFrame m #[(.ref a0), (.ref a1)] 3)) (s₁.setTop (mkF m 17 #[.val (.ref a0), .val (.ref a1), .val (.int (3 : Int32))] [(.int (3 : Int32)), (.ref a0)])) := fun t k => G65 t (XS.iloadN X0.here hx rfl (hb hby d6_16) rfl k)
      have hin67 : ¬ ((3 : Int32) < 0 ∨ cla.slots.size ≤ ((3 : Int32)).toNatClampNeg) := inb_of Sza ⟨by decide, by decide⟩
      have G68 : own_Go p.tables e below (s₁.setTop (entryFrame m #[(.ref a0), (.ref a1)] 3)) (s₁.setTop (mkF m 18 #[.val (.ref a0), .val (.ref a1), .val (.int (3 : Int32))] [(.int (104 : Int32))])) := fun t k => G66 t (X0.baloadBytes hx (by rw [e0]; exact Ara.1) (State.isArrayOf_alike hZ.alike Ara.2.1) Ara.2.2 hin67 (Hsa.at hin67 (by decide)) (g := (mkF m 17 #[.val (.ref a0), .val (.ref a1), .val (.int (3 : Int32))] [(.int (3 : Int32)), (.ref a0)])) rfl rfl (hb hby d6_17) t k)
      have G69 : own_Go p.tables e below (s₁.setTop (entryFrame m #[(.ref a0), (.ref a1)] 3)) (s₁.setTop (mkF m 19 #[.val (.ref a0), .val (.ref a1), .val (.int (3 : Int32))] [(.ref a1), (.int (104 : Int32))])) := fun t k => G68 t (XS.aloadN X0.here hx rfl (hb hby d6_18) rfl rfl k)
      have G70 : own_Go p.tables e below (s₁.setTop (entryFrame m #[(.ref a0), (.ref a1)] 3)) (s₁.setTop (mkF m 20 #[.val (.ref a0), .val (.ref a1), .val (.int (3 : Int32))] [(.int (3 : Int32)), (.ref a1), (.int (104 : Int32))])) := fun t k => G69 t (XS.iloadN X0.here hx rfl (hb hby d6_19) rfl k)
      have hin71 : ¬ ((3 : Int32) < 0 ∨ clb.slots.size ≤ ((3 : Int32)).toNatClampNeg) := inb_of Szb ⟨by decide, by decide⟩
      have G72 : own_Go p.tables e below (s₁.setTop (entryFrame m #[(.ref a0), (.ref a1)] 3)) (s₁.setTop (mkF m 21 #[.val (.ref a0), .val (.ref a1), .val (.int (3 : Int32))] [(.int (104 : Int32)), (.int (104 : Int32))])) := fun t k => G70 t (X0.baloadBytes hx (by rw [e0]; exact Arb.1) (State.isArrayOf_alike hZ.alike Arb.2.1) Arb.2.2 hin71 (Hsb.at hin71 (by decide)) (g := (mkF m 20 #[.val (.ref a0), .val (.ref a1), .val (.int (3 : Int32))] [(.int (3 : Int32)), (.ref a1), (.int (104 : Int32))])) rfl rfl (hb hby d6_20) t k)
      have hk73 : (104 : Int32) = (104 : Int32) := by decide
      have G74 : own_Go p.tables e below (s₁.setTop (entryFrame m #[(.ref a0), (.ref a1)] 3)) (s₁.setTop (mkF m 26 #[.val (.ref a0), .val (.ref a1), .val (.int (3 : Int32))] [])) := fun t k => G72 t (XS.icmpYes X0.here hx rfl (pc0 := 21) (pc' := 26) rfl (hb hby d6_21) rfl (teq hk73).1 (by decide) (by decide) k)
      have G75 : own_Go p.tables e below (s₁.setTop (entryFrame m #[(.ref a0), (.ref a1)] 3)) (s₁.setTop (mkF m 29 #[.val (.ref a0), .val (.ref a1), .val (.int (4 : Int32))] [])) := fun t k => G74 t (XT.iincV X0.here hx rfl (1 : Int32) (hb hby d6_26) (by decide) rfl (l' := #[.val (.ref a0), .val (.ref a1), .val (.int (4 : Int32))]) rfl k)
      have G76 : own_Go p.tables e below (s₁.setTop (entryFrame m #[(.ref a0), (.ref a1)] 3)) (s₁.setTop (mkF m 9 #[.val (.ref a0), .val (.ref a1), .val (.int (4 : Int32))] [])) := fun t k => G75 t (XS.goto X0.here hx rfl (pc0 := 29) (pc' := 9) rfl (hb hby d6_29) (by decide) (by decide) k)
      have G77 : own_Go p.tables e below (s₁.setTop (entryFrame m #[(.ref a0), (.ref a1)] 3)) (s₁.setTop (mkF m 10 #[.val (.ref a0), .val (.ref a1), .val (.int (4 : Int32))] [(.int (4 : Int32))])) := fun t k => G76 t (XS.iloadN X0.here hx rfl (hb hby d6_9) rfl k)
      have G78 : own_Go p.tables e below (s₁.setTop (entryFrame m #[(.ref a0), (.ref a1)] 3)) (s₁.setTop (mkF m 11 #[.val (.ref a0), .val (.ref a1), .val (.int (4 : Int32))] [(.ref a0), (.int (4 : Int32))])) := fun t k => G77 t (XS.aloadN X0.here hx rfl (hb hby d6_10) rfl rfl k)
      have G79 : own_Go p.tables e below (s₁.setTop (entryFrame m #[(.ref a0), (.ref a1)] 3)) (s₁.setTop (mkF m 12 #[.val (.ref a0), .val (.ref a1), .val (.int (4 : Int32))] [(.int (10 : Int32)), (.int (4 : Int32))])) := fun t k => G78 t (X0.arraylength hx (by rw [e0]; exact Ara.1) (State.isArrayOf_alike hZ.alike Ara.2.1) (g := (mkF m 11 #[.val (.ref a0), .val (.ref a1), .val (.int (4 : Int32))] [(.ref a0), (.int (4 : Int32))])) rfl rfl (hb hby d6_11) t (by rw [show cla.slots.size.toInt32 = (10 : Int32) from (len_of Sza Nna).trans (by decide)]; exact k))
      have hk80 : (4 : Int32) < (10 : Int32) := by decide
      have G81 : own_Go p.tables e below (s₁.setTop (entryFrame m #[(.ref a0), (.ref a1)] 3)) (s₁.setTop (mkF m 15 #[.val (.ref a0), .val (.ref a1), .val (.int (4 : Int32))] [])) := fun t k => G79 t (XS.icmpNo X0.here hx rfl (hb hby d6_12) rfl (tlt hk80).2.1 k)
      have G82 : own_Go p.tables e below (s₁.setTop (entryFrame m #[(.ref a0), (.ref a1)] 3)) (s₁.setTop (mkF m 16 #[.val (.ref a0), .val (.ref a1), .val (.int (4 : Int32))] [(.ref a0)])) := fun t k => G81 t (XS.aloadN X0.here hx rfl (hb hby d6_15) rfl rfl k)
      have G83 : own_Go p.tables e below (s₁.setTop (entryFrame m #[(.ref a0), (.ref a1)] 3)) (s₁.setTop (mkF m 17 #[.val (.ref a0), .val (.ref a1), .val (.int (4 : Int32))] [(.int (4 : Int32)), (.ref a0)])) := fun t k => G82 t (XS.iloadN X0.here hx rfl (hb hby d6_16) rfl k)
      have hin84 : ¬ ((4 : Int32) < 0 ∨ cla.slots.size ≤ ((4 : Int32)).toNatClampNeg) := inb_of Sza ⟨by decide, by decide⟩
      have G85 : own_Go p.tables e below (s₁.setTop (entryFrame m #[(.ref a0), (.ref a1)] 3)) (s₁.setTop (mkF m 18 #[.val (.ref a0), .val (.ref a1), .val (.int (4 : Int32))] [(.int (45 : Int32))])) := fun t k => G83 t (X0.baloadBytes hx (by rw [e0]; exact Ara.1) (State.isArrayOf_alike hZ.alike Ara.2.1) Ara.2.2 hin84 (Hsa.at hin84 (by decide)) (g := (mkF m 17 #[.val (.ref a0), .val (.ref a1), .val (.int (4 : Int32))] [(.int (4 : Int32)), (.ref a0)])) rfl rfl (hb hby d6_17) t k)
      have G86 : own_Go p.tables e below (s₁.setTop (entryFrame m #[(.ref a0), (.ref a1)] 3)) (s₁.setTop (mkF m 19 #[.val (.ref a0), .val (.ref a1), .val (.int (4 : Int32))] [(.ref a1), (.int (45 : Int32))])) := fun t k => G85 t (XS.aloadN X0.here hx rfl (hb hby d6_18) rfl rfl k)
      have G87 : own_Go p.tables e below (s₁.setTop (entryFrame m #[(.ref a0), (.ref a1)] 3)) (s₁.setTop (mkF m 20 #[.val (.ref a0), .val (.ref a1), .val (.int (4 : Int32))] [(.int (4 : Int32)), (.ref a1), (.int (45 : Int32))])) := fun t k => G86 t (XS.iloadN X0.here hx rfl (hb hby d6_19) rfl k)
      have hin88 : ¬ ((4 : Int32) < 0 ∨ clb.slots.size ≤ ((4 : Int32)).toNatClampNeg) := inb_of Szb ⟨by decide, by decide⟩
      have G89 : own_Go p.tables e below (s₁.setTop (entryFrame m #[(.ref a0), (.ref a1)] 3)) (s₁.setTop (mkF m 21 #[.val (.ref a0), .val (.ref a1), .val (.int (4 : Int32))] [(.int (45 : Int32)), (.int (45 : Int32))])) := fun t k => G87 t (X0.baloadBytes hx (by rw [e0]; exact Arb.1) (State.isArrayOf_alike hZ.alike Arb.2.1) Arb.2.2 hin88 (Hsb.at hin88 (by decide)) (g := (mkF m 20 #[.val (.ref a0), .val (.ref a1), .val (.int (4 : Int32))] [(.int (4 : Int32)), (.ref a1), (.int (45 : Int32))])) rfl rfl (hb hby d6_20) t k)
      have hk90 : (45 : Int32) = (45 : Int32) := by decide
      have G91 : own_Go p.tables e below (s₁.setTop (entryFrame m #[(.ref a0), (.ref a1)] 3)) (s₁.setTop (mkF m 26 #[.val (.ref a0), .val (.ref a1), .val (.int (4 : Int32))] [])) := fun t k => G89 t (XS.icmpYes X0.here hx rfl (pc0 := 21) (pc' := 26) rfl (hb hby d6_21) rfl (teq hk90).1 (by decide) (by decide) k)
      have G92 : own_Go p.tables e below (s₁.setTop (entryFrame m #[(.ref a0), (.ref a1)] 3)) (s₁.setTop (mkF m 29 #[.val (.ref a0), .val (.ref a1), .val (.int (5 : Int32))] [])) := fun t k => G91 t (XT.iincV X0.here hx rfl (1 : Int32) (hb hby d6_26) (by decide) rfl (l' := #[.val (.ref a0), .val (.ref a1), .val (.int (5 : Int32))]) rfl k)
      have G93 : own_Go p.tables e below (s₁.setTop (entryFrame m #[(.ref a0), (.ref a1)] 3)) (s₁.setTop (mkF m 9 #[.val (.ref a0), .val (.ref a1), .val (.int (5 : Int32))] [])) := fun t k => G92 t (XS.goto X0.here hx rfl (pc0 := 29) (pc' := 9) rfl (hb hby d6_29) (by decide) (by decide) k)
      have G94 : own_Go p.tables e below (s₁.setTop (entryFrame m #[(.ref a0), (.ref a1)] 3)) (s₁.setTop (mkF m 10 #[.val (.ref a0), .val (.ref a1), .val (.int (5 : Int32))] [(.int (5 : Int32))])) := fun t k => G93 t (XS.iloadN X0.here hx rfl (hb hby d6_9) rfl k)
      have G95 : own_Go p.tables e below (s₁.setTop (entryFrame m #[(.ref a0), (.ref a1)] 3)) (s₁.setTop (mkF m 11 #[.val (.ref a0), .val (.ref a1), .val (.int (5 : Int32))] [(.ref a0), (.int (5 : Int32))])) := fun t k => G94 t (XS.aloadN X0.here hx rfl (hb hby d6_10) rfl rfl k)
      have G96 : own_Go p.tables e below (s₁.setTop (entryFrame m #[(.ref a0), (.ref a1)] 3)) (s₁.setTop (mkF m 12 #[.val (.ref a0), .val (.ref a1), .val (.int (5 : Int32))] [(.int (10 : Int32)), (.int (5 : Int32))])) := fun t k => G95 t (X0.arraylength hx (by rw [e0]; exact Ara.1) (State.isArrayOf_alike hZ.alike Ara.2.1) (g := (mkF m 11 #[.val (.ref a0), .val (.ref a1), .val (.int (5 : Int32))] [(.ref a0), (.int (5 : Int32))])) rfl rfl (hb hby d6_11) t (by rw [show cla.slots.size.toInt32 = (10 : Int32) from (len_of Sza Nna).trans (by decide)]; exact k))
      have hk97 : (5 : Int32) < (10 : Int32) := by decide
      have G98 : own_Go p.tables e below (s₁.setTop (entryFrame m #[(.ref a0), (.ref a1)] 3)) (s₁.setTop (mkF m 15 #[.val (.ref a0), .val (.ref a1), .val (.int (5 : Int32))] [])) := fun t k => G96 t (XS.icmpNo X0.here hx rfl (hb hby d6_12) rfl (tlt hk97).2.1 k)
      have G99 : own_Go p.tables e below (s₁.setTop (entryFrame m #[(.ref a0), (.ref a1)] 3)) (s₁.setTop (mkF m 16 #[.val (.ref a0), .val (.ref a1), .val (.int (5 : Int32))] [(.ref a0)])) := fun t k => G98 t (XS.aloadN X0.here hx rfl (hb hby d6_15) rfl rfl k)
      have G100 : own_Go p.tables e below (s₁.setTop (entryFrame m #[(.ref a0), (.ref a1)] 3)) (s₁.setTop (mkF m 17 #[.val (.ref a0), .val (.ref a1), .val (.int (5 : Int32))] [(.int (5 : Int32)), (.ref a0)])) := fun t k => G99 t (XS.iloadN X0.here hx rfl (hb hby d6_16) rfl k)
      have hin101 : ¬ ((5 : Int32) < 0 ∨ cla.slots.size ≤ ((5 : Int32)).toNatClampNeg) := inb_of Sza ⟨by decide, by decide⟩
      have G102 : own_Go p.tables e below (s₁.setTop (entryFrame m #[(.ref a0), (.ref a1)] 3)) (s₁.setTop (mkF m 18 #[.val (.ref a0), .val (.ref a1), .val (.int (5 : Int32))] [(.int (119 : Int32))])) := fun t k => G100 t (X0.baloadBytes hx (by rw [e0]; exact Ara.1) (State.isArrayOf_alike hZ.alike Ara.2.1) Ara.2.2 hin101 (Hsa.at hin101 (by decide)) (g := (mkF m 17 #[.val (.ref a0), .val (.ref a1), .val (.int (5 : Int32))] [(.int (5 : Int32)), (.ref a0)])) rfl rfl (hb hby d6_17) t k)
      have G103 : own_Go p.tables e below (s₁.setTop (entryFrame m #[(.ref a0), (.ref a1)] 3)) (s₁.setTop (mkF m 19 #[.val (.ref a0), .val (.ref a1), .val (.int (5 : Int32))] [(.ref a1), (.int (119 : Int32))])) := fun t k => G102 t (XS.aloadN X0.here hx rfl (hb hby d6_18) rfl rfl k)
      have G104 : own_Go p.tables e below (s₁.setTop (entryFrame m #[(.ref a0), (.ref a1)] 3)) (s₁.setTop (mkF m 20 #[.val (.ref a0), .val (.ref a1), .val (.int (5 : Int32))] [(.int (5 : Int32)), (.ref a1), (.int (119 : Int32))])) := fun t k => G103 t (XS.iloadN X0.here hx rfl (hb hby d6_19) rfl k)
      have hin105 : ¬ ((5 : Int32) < 0 ∨ clb.slots.size ≤ ((5 : Int32)).toNatClampNeg) := inb_of Szb ⟨by decide, by decide⟩
      have G106 : own_Go p.tables e below (s₁.setTop (entryFrame m #[(.ref a0), (.ref a1)] 3)) (s₁.setTop (mkF m 21 #[.val (.ref a0), .val (.ref a1), .val (.int (5 : Int32))] [(.int (119 : Int32)), (.int (119 : Int32))])) := fun t k => G104 t (X0.baloadBytes hx (by rw [e0]; exact Arb.1) (State.isArrayOf_alike hZ.alike Arb.2.1) Arb.2.2 hin105 (Hsb.at hin105 (by decide)) (g := (mkF m 20 #[.val (.ref a0), .val (.ref a1), .val (.int (5 : Int32))] [(.int (5 : Int32)), (.ref a1), (.int (119 : Int32))])) rfl rfl (hb hby d6_20) t k)
      have hk107 : (119 : Int32) = (119 : Int32) := by decide
      have G108 : own_Go p.tables e below (s₁.setTop (entryFrame m #[(.ref a0), (.ref a1)] 3)) (s₁.setTop (mkF m 26 #[.val (.ref a0), .val (.ref a1), .val (.int (5 : Int32))] [])) := fun t k => G106 t (XS.icmpYes X0.here hx rfl (pc0 := 21) (pc' := 26) rfl (hb hby d6_21) rfl (teq hk107).1 (by decide) (by decide) k)
      have G109 : own_Go p.tables e below (s₁.setTop (entryFrame m #[(.ref a0), (.ref a1)] 3)) (s₁.setTop (mkF m 29 #[.val (.ref a0), .val (.ref a1), .val (.int (6 : Int32))] [])) := fun t k => G108 t (XT.iincV X0.here hx rfl (1 : Int32) (hb hby d6_26) (by decide) rfl (l' := #[.val (.ref a0), .val (.ref a1), .val (.int (6 : Int32))]) rfl k)
      have G110 : own_Go p.tables e below (s₁.setTop (entryFrame m #[(.ref a0), (.ref a1)] 3)) (s₁.setTop (mkF m 9 #[.val (.ref a0), .val (.ref a1), .val (.int (6 : Int32))] [])) := fun t k => G109 t (XS.goto X0.here hx rfl (pc0 := 29) (pc' := 9) rfl (hb hby d6_29) (by decide) (by decide) k)
      have G111 : own_Go p.tables e below (s₁.setTop (entryFrame m #[(.ref a0), (.ref a1)] 3)) (s₁.setTop (mkF m 10 #[.val (.ref a0), .val (.ref a1), .val (.int (6 : Int32))] [(.int (6 : Int32))])) := fun t k => G110 t (XS.iloadN X0.here hx rfl (hb hby d6_9) rfl k)
      have G112 : own_Go p.tables e below (s₁.setTop (entryFrame m #[(.ref a0), (.ref a1)] 3)) (s₁.setTop (mkF m 11 #[.val (.ref a0), .val (.ref a1), .val (.int (6 : Int32))] [(.ref a0), (.int (6 : Int32))])) := fun t k => G111 t (XS.aloadN X0.here hx rfl (hb hby d6_10) rfl rfl k)
      have G113 : own_Go p.tables e below (s₁.setTop (entryFrame m #[(.ref a0), (.ref a1)] 3)) (s₁.setTop (mkF m 12 #[.val (.ref a0), .val (.ref a1), .val (.int (6 : Int32))] [(.int (10 : Int32)), (.int (6 : Int32))])) := fun t k => G112 t (X0.arraylength hx (by rw [e0]; exact Ara.1) (State.isArrayOf_alike hZ.alike Ara.2.1) (g := (mkF m 11 #[.val (.ref a0), .val (.ref a1), .val (.int (6 : Int32))] [(.ref a0), (.int (6 : Int32))])) rfl rfl (hb hby d6_11) t (by rw [show cla.slots.size.toInt32 = (10 : Int32) from (len_of Sza Nna).trans (by decide)]; exact k))
      have hk114 : (6 : Int32) < (10 : Int32) := by decide
      have G115 : own_Go p.tables e below (s₁.setTop (entryFrame m #[(.ref a0), (.ref a1)] 3)) (s₁.setTop (mkF m 15 #[.val (.ref a0), .val (.ref a1), .val (.int (6 : Int32))] [])) := fun t k => G113 t (XS.icmpNo X0.here hx rfl (hb hby d6_12) rfl (tlt hk114).2.1 k)
      have G116 : own_Go p.tables e below (s₁.setTop (entryFrame m #[(.ref a0), (.ref a1)] 3)) (s₁.setTop (mkF m 16 #[.val (.ref a0), .val (.ref a1), .val (.int (6 : Int32))] [(.ref a0)])) := fun t k => G115 t (XS.aloadN X0.here hx rfl (hb hby d6_15) rfl rfl k)
      have G117 : own_Go p.tables e below (s₁.setTop (entryFrame m #[(.ref a0), (.ref a1)] 3)) (s₁.setTop (mkF m 17 #[.val (.ref a0), .val (.ref a1), .val (.int (6 : Int32))] [(.int (6 : Int32)), (.ref a0)])) := fun t k => G116 t (XS.iloadN X0.here hx rfl (hb hby d6_16) rfl k)
      have hin118 : ¬ ((6 : Int32) < 0 ∨ cla.slots.size ≤ ((6 : Int32)).toNatClampNeg) := inb_of Sza ⟨by decide, by decide⟩
      have G119 : own_Go p.tables e below (s₁.setTop (entryFrame m #[(.ref a0), (.ref a1)] 3)) (s₁.setTop (mkF m 18 #[.val (.ref a0), .val (.ref a1), .val (.int (6 : Int32))] [(.int (114 : Int32))])) := fun t k => G117 t (X0.baloadBytes hx (by rw [e0]; exact Ara.1) (State.isArrayOf_alike hZ.alike Ara.2.1) Ara.2.2 hin118 (Hsa.at hin118 (by decide)) (g := (mkF m 17 #[.val (.ref a0), .val (.ref a1), .val (.int (6 : Int32))] [(.int (6 : Int32)), (.ref a0)])) rfl rfl (hb hby d6_17) t k)
      have G120 : own_Go p.tables e below (s₁.setTop (entryFrame m #[(.ref a0), (.ref a1)] 3)) (s₁.setTop (mkF m 19 #[.val (.ref a0), .val (.ref a1), .val (.int (6 : Int32))] [(.ref a1), (.int (114 : Int32))])) := fun t k => G119 t (XS.aloadN X0.here hx rfl (hb hby d6_18) rfl rfl k)
      have G121 : own_Go p.tables e below (s₁.setTop (entryFrame m #[(.ref a0), (.ref a1)] 3)) (s₁.setTop (mkF m 20 #[.val (.ref a0), .val (.ref a1), .val (.int (6 : Int32))] [(.int (6 : Int32)), (.ref a1), (.int (114 : Int32))])) := fun t k => G120 t (XS.iloadN X0.here hx rfl (hb hby d6_19) rfl k)
      have hin122 : ¬ ((6 : Int32) < 0 ∨ clb.slots.size ≤ ((6 : Int32)).toNatClampNeg) := inb_of Szb ⟨by decide, by decide⟩
      have G123 : own_Go p.tables e below (s₁.setTop (entryFrame m #[(.ref a0), (.ref a1)] 3)) (s₁.setTop (mkF m 21 #[.val (.ref a0), .val (.ref a1), .val (.int (6 : Int32))] [(.int (114 : Int32)), (.int (114 : Int32))])) := fun t k => G121 t (X0.baloadBytes hx (by rw [e0]; exact Arb.1) (State.isArrayOf_alike hZ.alike Arb.2.1) Arb.2.2 hin122 (Hsb.at hin122 (by decide)) (g := (mkF m 20 #[.val (.ref a0), .val (.ref a1), .val (.int (6 : Int32))] [(.int (6 : Int32)), (.ref a1), (.int (114 : Int32))])) rfl rfl (hb hby d6_20) t k)
      have hk124 : (114 : Int32) = (114 : Int32) := by decide
      have G125 : own_Go p.tables e below (s₁.setTop (entryFrame m #[(.ref a0), (.ref a1)] 3)) (s₁.setTop (mkF m 26 #[.val (.ref a0), .val (.ref a1), .val (.int (6 : Int32))] [])) := fun t k => G123 t (XS.icmpYes X0.here hx rfl (pc0 := 21) (pc' := 26) rfl (hb hby d6_21) rfl (teq hk124).1 (by decide) (by decide) k)
      have G126 : own_Go p.tables e below (s₁.setTop (entryFrame m #[(.ref a0), (.ref a1)] 3)) (s₁.setTop (mkF m 29 #[.val (.ref a0), .val (.ref a1), .val (.int (7 : Int32))] [])) := fun t k => G125 t (XT.iincV X0.here hx rfl (1 : Int32) (hb hby d6_26) (by decide) rfl (l' := #[.val (.ref a0), .val (.ref a1), .val (.int (7 : Int32))]) rfl k)
      have G127 : own_Go p.tables e below (s₁.setTop (entryFrame m #[(.ref a0), (.ref a1)] 3)) (s₁.setTop (mkF m 9 #[.val (.ref a0), .val (.ref a1), .val (.int (7 : Int32))] [])) := fun t k => G126 t (XS.goto X0.here hx rfl (pc0 := 29) (pc' := 9) rfl (hb hby d6_29) (by decide) (by decide) k)
      have G128 : own_Go p.tables e below (s₁.setTop (entryFrame m #[(.ref a0), (.ref a1)] 3)) (s₁.setTop (mkF m 10 #[.val (.ref a0), .val (.ref a1), .val (.int (7 : Int32))] [(.int (7 : Int32))])) := fun t k => G127 t (XS.iloadN X0.here hx rfl (hb hby d6_9) rfl k)
      have G129 : own_Go p.tables e below (s₁.setTop (entryFrame m #[(.ref a0), (.ref a1)] 3)) (s₁.setTop (mkF m 11 #[.val (.ref a0), .val (.ref a1), .val (.int (7 : Int32))] [(.ref a0), (.int (7 : Int32))])) := fun t k => G128 t (XS.aloadN X0.here hx rfl (hb hby d6_10) rfl rfl k)
      have G130 : own_Go p.tables e below (s₁.setTop (entryFrame m #[(.ref a0), (.ref a1)] 3)) (s₁.setTop (mkF m 12 #[.val (.ref a0), .val (.ref a1), .val (.int (7 : Int32))] [(.int (10 : Int32)), (.int (7 : Int32))])) := fun t k => G129 t (X0.arraylength hx (by rw [e0]; exact Ara.1) (State.isArrayOf_alike hZ.alike Ara.2.1) (g := (mkF m 11 #[.val (.ref a0), .val (.ref a1), .val (.int (7 : Int32))] [(.ref a0), (.int (7 : Int32))])) rfl rfl (hb hby d6_11) t (by rw [show cla.slots.size.toInt32 = (10 : Int32) from (len_of Sza Nna).trans (by decide)]; exact k))
      have hk131 : (7 : Int32) < (10 : Int32) := by decide
      have G132 : own_Go p.tables e below (s₁.setTop (entryFrame m #[(.ref a0), (.ref a1)] 3)) (s₁.setTop (mkF m 15 #[.val (.ref a0), .val (.ref a1), .val (.int (7 : Int32))] [])) := fun t k => G130 t (XS.icmpNo X0.here hx rfl (hb hby d6_12) rfl (tlt hk131).2.1 k)
      have G133 : own_Go p.tables e below (s₁.setTop (entryFrame m #[(.ref a0), (.ref a1)] 3)) (s₁.setTop (mkF m 16 #[.val (.ref a0), .val (.ref a1), .val (.int (7 : Int32))] [(.ref a0)])) := fun t k => G132 t (XS.aloadN X0.here hx rfl (hb hby d6_15) rfl rfl k)
      have G134 : own_Go p.tables e below (s₁.setTop (entryFrame m #[(.ref a0), (.ref a1)] 3)) (s₁.setTop (mkF m 17 #[.val (.ref a0), .val (.ref a1), .val (.int (7 : Int32))] [(.int (7 : Int32)), (.ref a0)])) := fun t k => G133 t (XS.iloadN X0.here hx rfl (hb hby d6_16) rfl k)
      have hin135 : ¬ ((7 : Int32) < 0 ∨ cla.slots.size ≤ ((7 : Int32)).toNatClampNeg) := inb_of Sza ⟨by decide, by decide⟩
      have G136 : own_Go p.tables e below (s₁.setTop (entryFrame m #[(.ref a0), (.ref a1)] 3)) (s₁.setTop (mkF m 18 #[.val (.ref a0), .val (.ref a1), .val (.int (7 : Int32))] [(.int (105 : Int32))])) := fun t k => G134 t (X0.baloadBytes hx (by rw [e0]; exact Ara.1) (State.isArrayOf_alike hZ.alike Ara.2.1) Ara.2.2 hin135 (Hsa.at hin135 (by decide)) (g := (mkF m 17 #[.val (.ref a0), .val (.ref a1), .val (.int (7 : Int32))] [(.int (7 : Int32)), (.ref a0)])) rfl rfl (hb hby d6_17) t k)
      have G137 : own_Go p.tables e below (s₁.setTop (entryFrame m #[(.ref a0), (.ref a1)] 3)) (s₁.setTop (mkF m 19 #[.val (.ref a0), .val (.ref a1), .val (.int (7 : Int32))] [(.ref a1), (.int (105 : Int32))])) := fun t k => G136 t (XS.aloadN X0.here hx rfl (hb hby d6_18) rfl rfl k)
      have G138 : own_Go p.tables e below (s₁.setTop (entryFrame m #[(.ref a0), (.ref a1)] 3)) (s₁.setTop (mkF m 20 #[.val (.ref a0), .val (.ref a1), .val (.int (7 : Int32))] [(.int (7 : Int32)), (.ref a1), (.int (105 : Int32))])) := fun t k => G137 t (XS.iloadN X0.here hx rfl (hb hby d6_19) rfl k)
      have hin139 : ¬ ((7 : Int32) < 0 ∨ clb.slots.size ≤ ((7 : Int32)).toNatClampNeg) := inb_of Szb ⟨by decide, by decide⟩
      have G140 : own_Go p.tables e below (s₁.setTop (entryFrame m #[(.ref a0), (.ref a1)] 3)) (s₁.setTop (mkF m 21 #[.val (.ref a0), .val (.ref a1), .val (.int (7 : Int32))] [(.int (105 : Int32)), (.int (105 : Int32))])) := fun t k => G138 t (X0.baloadBytes hx (by rw [e0]; exact Arb.1) (State.isArrayOf_alike hZ.alike Arb.2.1) Arb.2.2 hin139 (Hsb.at hin139 (by decide)) (g := (mkF m 20 #[.val (.ref a0), .val (.ref a1), .val (.int (7 : Int32))] [(.int (7 : Int32)), (.ref a1), (.int (105 : Int32))])) rfl rfl (hb hby d6_20) t k)
      have hk141 : (105 : Int32) = (105 : Int32) := by decide
      have G142 : own_Go p.tables e below (s₁.setTop (entryFrame m #[(.ref a0), (.ref a1)] 3)) (s₁.setTop (mkF m 26 #[.val (.ref a0), .val (.ref a1), .val (.int (7 : Int32))] [])) := fun t k => G140 t (XS.icmpYes X0.here hx rfl (pc0 := 21) (pc' := 26) rfl (hb hby d6_21) rfl (teq hk141).1 (by decide) (by decide) k)
      have G143 : own_Go p.tables e below (s₁.setTop (entryFrame m #[(.ref a0), (.ref a1)] 3)) (s₁.setTop (mkF m 29 #[.val (.ref a0), .val (.ref a1), .val (.int (8 : Int32))] [])) := fun t k => G142 t (XT.iincV X0.here hx rfl (1 : Int32) (hb hby d6_26) (by decide) rfl (l' := #[.val (.ref a0), .val (.ref a1), .val (.int (8 : Int32))]) rfl k)
      have G144 : own_Go p.tables e below (s₁.setTop (entryFrame m #[(.ref a0), (.ref a1)] 3)) (s₁.setTop (mkF m 9 #[.val (.ref a0), .val (.ref a1), .val (.int (8 : Int32))] [])) := fun t k => G143 t (XS.goto X0.here hx rfl (pc0 := 29) (pc' := 9) rfl (hb hby d6_29) (by decide) (by decide) k)
      have G145 : own_Go p.tables e below (s₁.setTop (entryFrame m #[(.ref a0), (.ref a1)] 3)) (s₁.setTop (mkF m 10 #[.val (.ref a0), .val (.ref a1), .val (.int (8 : Int32))] [(.int (8 : Int32))])) := fun t k => G144 t (XS.iloadN X0.here hx rfl (hb hby d6_9) rfl k)
      have G146 : own_Go p.tables e below (s₁.setTop (entryFrame m #[(.ref a0), (.ref a1)] 3)) (s₁.setTop (mkF m 11 #[.val (.ref a0), .val (.ref a1), .val (.int (8 : Int32))] [(.ref a0), (.int (8 : Int32))])) := fun t k => G145 t (XS.aloadN X0.here hx rfl (hb hby d6_10) rfl rfl k)
      have G147 : own_Go p.tables e below (s₁.setTop (entryFrame m #[(.ref a0), (.ref a1)] 3)) (s₁.setTop (mkF m 12 #[.val (.ref a0), .val (.ref a1), .val (.int (8 : Int32))] [(.int (10 : Int32)), (.int (8 : Int32))])) := fun t k => G146 t (X0.arraylength hx (by rw [e0]; exact Ara.1) (State.isArrayOf_alike hZ.alike Ara.2.1) (g := (mkF m 11 #[.val (.ref a0), .val (.ref a1), .val (.int (8 : Int32))] [(.ref a0), (.int (8 : Int32))])) rfl rfl (hb hby d6_11) t (by rw [show cla.slots.size.toInt32 = (10 : Int32) from (len_of Sza Nna).trans (by decide)]; exact k))
      have hk148 : (8 : Int32) < (10 : Int32) := by decide
      have G149 : own_Go p.tables e below (s₁.setTop (entryFrame m #[(.ref a0), (.ref a1)] 3)) (s₁.setTop (mkF m 15 #[.val (.ref a0), .val (.ref a1), .val (.int (8 : Int32))] [])) := fun t k => G147 t (XS.icmpNo X0.here hx rfl (hb hby d6_12) rfl (tlt hk148).2.1 k)
      have G150 : own_Go p.tables e below (s₁.setTop (entryFrame m #[(.ref a0), (.ref a1)] 3)) (s₁.setTop (mkF m 16 #[.val (.ref a0), .val (.ref a1), .val (.int (8 : Int32))] [(.ref a0)])) := fun t k => G149 t (XS.aloadN X0.here hx rfl (hb hby d6_15) rfl rfl k)
      have G151 : own_Go p.tables e below (s₁.setTop (entryFrame m #[(.ref a0), (.ref a1)] 3)) (s₁.setTop (mkF m 17 #[.val (.ref a0), .val (.ref a1), .val (.int (8 : Int32))] [(.int (8 : Int32)), (.ref a0)])) := fun t k => G150 t (XS.iloadN X0.here hx rfl (hb hby d6_16) rfl k)
      have hin152 : ¬ ((8 : Int32) < 0 ∨ cla.slots.size ≤ ((8 : Int32)).toNatClampNeg) := inb_of Sza ⟨by decide, by decide⟩
      have G153 : own_Go p.tables e below (s₁.setTop (entryFrame m #[(.ref a0), (.ref a1)] 3)) (s₁.setTop (mkF m 18 #[.val (.ref a0), .val (.ref a1), .val (.int (8 : Int32))] [(.int (116 : Int32))])) := fun t k => G151 t (X0.baloadBytes hx (by rw [e0]; exact Ara.1) (State.isArrayOf_alike hZ.alike Ara.2.1) Ara.2.2 hin152 (Hsa.at hin152 (by decide)) (g := (mkF m 17 #[.val (.ref a0), .val (.ref a1), .val (.int (8 : Int32))] [(.int (8 : Int32)), (.ref a0)])) rfl rfl (hb hby d6_17) t k)
      have G154 : own_Go p.tables e below (s₁.setTop (entryFrame m #[(.ref a0), (.ref a1)] 3)) (s₁.setTop (mkF m 19 #[.val (.ref a0), .val (.ref a1), .val (.int (8 : Int32))] [(.ref a1), (.int (116 : Int32))])) := fun t k => G153 t (XS.aloadN X0.here hx rfl (hb hby d6_18) rfl rfl k)
      have G155 : own_Go p.tables e below (s₁.setTop (entryFrame m #[(.ref a0), (.ref a1)] 3)) (s₁.setTop (mkF m 20 #[.val (.ref a0), .val (.ref a1), .val (.int (8 : Int32))] [(.int (8 : Int32)), (.ref a1), (.int (116 : Int32))])) := fun t k => G154 t (XS.iloadN X0.here hx rfl (hb hby d6_19) rfl k)
      have hin156 : ¬ ((8 : Int32) < 0 ∨ clb.slots.size ≤ ((8 : Int32)).toNatClampNeg) := inb_of Szb ⟨by decide, by decide⟩
      have G157 : own_Go p.tables e below (s₁.setTop (entryFrame m #[(.ref a0), (.ref a1)] 3)) (s₁.setTop (mkF m 21 #[.val (.ref a0), .val (.ref a1), .val (.int (8 : Int32))] [(.int (116 : Int32)), (.int (116 : Int32))])) := fun t k => G155 t (X0.baloadBytes hx (by rw [e0]; exact Arb.1) (State.isArrayOf_alike hZ.alike Arb.2.1) Arb.2.2 hin156 (Hsb.at hin156 (by decide)) (g := (mkF m 20 #[.val (.ref a0), .val (.ref a1), .val (.int (8 : Int32))] [(.int (8 : Int32)), (.ref a1), (.int (116 : Int32))])) rfl rfl (hb hby d6_20) t k)
      have hk158 : (116 : Int32) = (116 : Int32) := by decide
      have G159 : own_Go p.tables e below (s₁.setTop (entryFrame m #[(.ref a0), (.ref a1)] 3)) (s₁.setTop (mkF m 26 #[.val (.ref a0), .val (.ref a1), .val (.int (8 : Int32))] [])) := fun t k => G157 t (XS.icmpYes X0.here hx rfl (pc0 := 21) (pc' := 26) rfl (hb hby d6_21) rfl (teq hk158).1 (by decide) (by decide) k)
      have G160 : own_Go p.tables e below (s₁.setTop (entryFrame m #[(.ref a0), (.ref a1)] 3)) (s₁.setTop (mkF m 29 #[.val (.ref a0), .val (.ref a1), .val (.int (9 : Int32))] [])) := fun t k => G159 t (XT.iincV X0.here hx rfl (1 : Int32) (hb hby d6_26) (by decide) rfl (l' := #[.val (.ref a0), .val (.ref a1), .val (.int (9 : Int32))]) rfl k)
      have G161 : own_Go p.tables e below (s₁.setTop (entryFrame m #[(.ref a0), (.ref a1)] 3)) (s₁.setTop (mkF m 9 #[.val (.ref a0), .val (.ref a1), .val (.int (9 : Int32))] [])) := fun t k => G160 t (XS.goto X0.here hx rfl (pc0 := 29) (pc' := 9) rfl (hb hby d6_29) (by decide) (by decide) k)
      have G162 : own_Go p.tables e below (s₁.setTop (entryFrame m #[(.ref a0), (.ref a1)] 3)) (s₁.setTop (mkF m 10 #[.val (.ref a0), .val (.ref a1), .val (.int (9 : Int32))] [(.int (9 : Int32))])) := fun t k => G161 t (XS.iloadN X0.here hx rfl (hb hby d6_9) rfl k)
      have G163 : own_Go p.tables e below (s₁.setTop (entryFrame m #[(.ref a0), (.ref a1)] 3)) (s₁.setTop (mkF m 11 #[.val (.ref a0), .val (.ref a1), .val (.int (9 : Int32))] [(.ref a0), (.int (9 : Int32))])) := fun t k => G162 t (XS.aloadN X0.here hx rfl (hb hby d6_10) rfl rfl k)
      have G164 : own_Go p.tables e below (s₁.setTop (entryFrame m #[(.ref a0), (.ref a1)] 3)) (s₁.setTop (mkF m 12 #[.val (.ref a0), .val (.ref a1), .val (.int (9 : Int32))] [(.int (10 : Int32)), (.int (9 : Int32))])) := fun t k => G163 t (X0.arraylength hx (by rw [e0]; exact Ara.1) (State.isArrayOf_alike hZ.alike Ara.2.1) (g := (mkF m 11 #[.val (.ref a0), .val (.ref a1), .val (.int (9 : Int32))] [(.ref a0), (.int (9 : Int32))])) rfl rfl (hb hby d6_11) t (by rw [show cla.slots.size.toInt32 = (10 : Int32) from (len_of Sza Nna).trans (by decide)]; exact k))
      have hk165 : (9 : Int32) < (10 : Int32) := by decide
      have G166 : own_Go p.tables e below (s₁.setTop (entryFrame m #[(.ref a0), (.ref a1)] 3)) (s₁.setTop (mkF m 15 #[.val (.ref a0), .val (.ref a1), .val (.int (9 : Int32))] [])) := fun t k => G164 t (XS.icmpNo X0.here hx rfl (hb hby d6_12) rfl (tlt hk165).2.1 k)
      have G167 : own_Go p.tables e below (s₁.setTop (entryFrame m #[(.ref a0), (.ref a1)] 3)) (s₁.setTop (mkF m 16 #[.val (.ref a0), .val (.ref a1), .val (.int (9 : Int32))] [(.ref a0)])) := fun t k => G166 t (XS.aloadN X0.here hx rfl (hb hby d6_15) rfl rfl k)
      have G168 : own_Go p.tables e below (s₁.setTop (entryFrame m #[(.ref a0), (.ref a1)] 3)) (s₁.setTop (mkF m 17 #[.val (.ref a0), .val (.ref a1), .val (.int (9 : Int32))] [(.int (9 : Int32)), (.ref a0)])) := fun t k => G167 t (XS.iloadN X0.here hx rfl (hb hby d6_16) rfl k)
      have hin169 : ¬ ((9 : Int32) < 0 ∨ cla.slots.size ≤ ((9 : Int32)).toNatClampNeg) := inb_of Sza ⟨by decide, by decide⟩
      have G170 : own_Go p.tables e below (s₁.setTop (entryFrame m #[(.ref a0), (.ref a1)] 3)) (s₁.setTop (mkF m 18 #[.val (.ref a0), .val (.ref a1), .val (.int (9 : Int32))] [(.int (101 : Int32))])) := fun t k => G168 t (X0.baloadBytes hx (by rw [e0]; exact Ara.1) (State.isArrayOf_alike hZ.alike Ara.2.1) Ara.2.2 hin169 (Hsa.at hin169 (by decide)) (g := (mkF m 17 #[.val (.ref a0), .val (.ref a1), .val (.int (9 : Int32))] [(.int (9 : Int32)), (.ref a0)])) rfl rfl (hb hby d6_17) t k)
      have G171 : own_Go p.tables e below (s₁.setTop (entryFrame m #[(.ref a0), (.ref a1)] 3)) (s₁.setTop (mkF m 19 #[.val (.ref a0), .val (.ref a1), .val (.int (9 : Int32))] [(.ref a1), (.int (101 : Int32))])) := fun t k => G170 t (XS.aloadN X0.here hx rfl (hb hby d6_18) rfl rfl k)
      have G172 : own_Go p.tables e below (s₁.setTop (entryFrame m #[(.ref a0), (.ref a1)] 3)) (s₁.setTop (mkF m 20 #[.val (.ref a0), .val (.ref a1), .val (.int (9 : Int32))] [(.int (9 : Int32)), (.ref a1), (.int (101 : Int32))])) := fun t k => G171 t (XS.iloadN X0.here hx rfl (hb hby d6_19) rfl k)
      have hin173 : ¬ ((9 : Int32) < 0 ∨ clb.slots.size ≤ ((9 : Int32)).toNatClampNeg) := inb_of Szb ⟨by decide, by decide⟩
      have G174 : own_Go p.tables e below (s₁.setTop (entryFrame m #[(.ref a0), (.ref a1)] 3)) (s₁.setTop (mkF m 21 #[.val (.ref a0), .val (.ref a1), .val (.int (9 : Int32))] [(.int (101 : Int32)), (.int (101 : Int32))])) := fun t k => G172 t (X0.baloadBytes hx (by rw [e0]; exact Arb.1) (State.isArrayOf_alike hZ.alike Arb.2.1) Arb.2.2 hin173 (Hsb.at hin173 (by decide)) (g := (mkF m 20 #[.val (.ref a0), .val (.ref a1), .val (.int (9 : Int32))] [(.int (9 : Int32)), (.ref a1), (.int (101 : Int32))])) rfl rfl (hb hby d6_20) t k)
      have hk175 : (101 : Int32) = (101 : Int32) := by decide
      have G176 : own_Go p.tables e below (s₁.setTop (entryFrame m #[(.ref a0), (.ref a1)] 3)) (s₁.setTop (mkF m 26 #[.val (.ref a0), .val (.ref a1), .val (.int (9 : Int32))] [])) := fun t k => G174 t (XS.icmpYes X0.here hx rfl (pc0 := 21) (pc' := 26) rfl (hb hby d6_21) rfl (teq hk175).1 (by decide) (by decide) k)
      have G177 : own_Go p.tables e below (s₁.setTop (entryFrame m #[(.ref a0), (.ref a1)] 3)) (s₁.setTop (mkF m 29 #[.val (.ref a0), .val (.ref a1), .val (.int (10 : Int32))] [])) := fun t k => G176 t (XT.iincV X0.here hx rfl (1 : Int32) (hb hby d6_26) (by decide) rfl (l' := #[.val (.ref a0), .val (.ref a1), .val (.int (10 : Int32))]) rfl k)
      have G178 : own_Go p.tables e below (s₁.setTop (entryFrame m #[(.ref a0), (.ref a1)] 3)) (s₁.setTop (mkF m 9 #[.val (.ref a0), .val (.ref a1), .val (.int (10 : Int32))] [])) := fun t k => G177 t (XS.goto X0.here hx rfl (pc0 := 29) (pc' := 9) rfl (hb hby d6_29) (by decide) (by decide) k)
      have G179 : own_Go p.tables e below (s₁.setTop (entryFrame m #[(.ref a0), (.ref a1)] 3)) (s₁.setTop (mkF m 10 #[.val (.ref a0), .val (.ref a1), .val (.int (10 : Int32))] [(.int (10 : Int32))])) := fun t k => G178 t (XS.iloadN X0.here hx rfl (hb hby d6_9) rfl k)
      have G180 : own_Go p.tables e below (s₁.setTop (entryFrame m #[(.ref a0), (.ref a1)] 3)) (s₁.setTop (mkF m 11 #[.val (.ref a0), .val (.ref a1), .val (.int (10 : Int32))] [(.ref a0), (.int (10 : Int32))])) := fun t k => G179 t (XS.aloadN X0.here hx rfl (hb hby d6_10) rfl rfl k)
      have G181 : own_Go p.tables e below (s₁.setTop (entryFrame m #[(.ref a0), (.ref a1)] 3)) (s₁.setTop (mkF m 12 #[.val (.ref a0), .val (.ref a1), .val (.int (10 : Int32))] [(.int (10 : Int32)), (.int (10 : Int32))])) := fun t k => G180 t (X0.arraylength hx (by rw [e0]; exact Ara.1) (State.isArrayOf_alike hZ.alike Ara.2.1) (g := (mkF m 11 #[.val (.ref a0), .val (.ref a1), .val (.int (10 : Int32))] [(.ref a0), (.int (10 : Int32))])) rfl rfl (hb hby d6_11) t (by rw [show cla.slots.size.toInt32 = (10 : Int32) from (len_of Sza Nna).trans (by decide)]; exact k))
      have hk182 : ¬ ((10 : Int32) < (10 : Int32)) := by decide
      have G183 : own_Go p.tables e below (s₁.setTop (entryFrame m #[(.ref a0), (.ref a1)] 3)) (s₁.setTop (mkF m 32 #[.val (.ref a0), .val (.ref a1), .val (.int (10 : Int32))] [])) := fun t k => G181 t (XS.icmpYes X0.here hx rfl (pc0 := 12) (pc' := 32) rfl (hb hby d6_12) rfl (flt hk182).2.1 (by decide) (by decide) k)
      have G184 : own_Go p.tables e below (s₁.setTop (entryFrame m #[(.ref a0), (.ref a1)] 3)) (s₁.setTop (mkF m 33 #[.val (.ref a0), .val (.ref a1), .val (.int (10 : Int32))] [(.int (1 : Int32))])) := fun t k => G183 t (XT.iconstV X0.here hx rfl (1 : Int32) (hb hby d6_32) (by decide) k)
      obtain ⟨fs, hr, hrun, hended, hW, hsame⟩ := X0.leave (v := some (.int (nar .boolean (1 : Int32)))) (fun h => by rw [Bd.returns] at h; cases h)
      refine ⟨_, _, G184 _ ?_, hrun, hended, _, _, rfl, ?_, ⟨_, rfl⟩, hW, hsame.mono (by decide) (by decide)⟩
      · exact retN X0 hx (t := .boolean) Bd.returns (by simp) (hb hby d6_33) hr
      · show Q6 Z a0 a1 (0 : Int32) (0 : Int32) ka kb h0 _ s₁.heap _
        rw [e0]
        exact ⟨by decide, rfl, rfl⟩
    · obtain ⟨cla, Ara, qka, Sza, Nna, Hsa, Gfa⟩ := Va
      have G186 : own_Go p.tables e below (s₁.setTop (entryFrame m #[(.ref a0), (.ref a1)] 3)) (s₁.setTop (mkF m 2 #[.val (.ref a0), .val (.ref a1), .unset] [(.int (10 : Int32))])) := fun t k => G1 t (X0.arraylength hx (by rw [e0]; exact Ara.1) (State.isArrayOf_alike hZ.alike Ara.2.1) (g := (mkF m 1 #[.val (.ref a0), .val (.ref a1), .unset] [(.ref a0)])) rfl rfl (hb hby d6_1) t (by rw [show cla.slots.size.toInt32 = (10 : Int32) from (len_of Sza Nna).trans (by decide)]; exact k))
      have G187 : own_Go p.tables e below (s₁.setTop (entryFrame m #[(.ref a0), (.ref a1)] 3)) (s₁.setTop (mkF m 3 #[.val (.ref a0), .val (.ref a1), .unset] [(.ref a1), (.int (10 : Int32))])) := fun t k => G186 t (XS.aloadN X0.here hx rfl (hb hby d6_2) rfl rfl k)
      obtain ⟨clb, Arb, qkb, Szb, Nnb, Hsb, Gfb⟩ := Vb
      have G188 : own_Go p.tables e below (s₁.setTop (entryFrame m #[(.ref a0), (.ref a1)] 3)) (s₁.setTop (mkF m 4 #[.val (.ref a0), .val (.ref a1), .unset] [(.int (11 : Int32)), (.int (10 : Int32))])) := fun t k => G187 t (X0.arraylength hx (by rw [e0]; exact Arb.1) (State.isArrayOf_alike hZ.alike Arb.2.1) (g := (mkF m 3 #[.val (.ref a0), .val (.ref a1), .unset] [(.ref a1), (.int (10 : Int32))])) rfl rfl (hb hby d6_3) t (by rw [show clb.slots.size.toInt32 = (11 : Int32) from (len_of Szb Nnb).trans (by decide)]; exact k))
      have hk189 : ¬ ((10 : Int32) = (11 : Int32)) := by decide
      have G190 : own_Go p.tables e below (s₁.setTop (entryFrame m #[(.ref a0), (.ref a1)] 3)) (s₁.setTop (mkF m 34 #[.val (.ref a0), .val (.ref a1), .unset] [])) := fun t k => G188 t (XS.icmpYes X0.here hx rfl (pc0 := 4) (pc' := 34) rfl (hb hby d6_4) rfl (feq hk189).2 (by decide) (by decide) k)
      have G191 : own_Go p.tables e below (s₁.setTop (entryFrame m #[(.ref a0), (.ref a1)] 3)) (s₁.setTop (mkF m 35 #[.val (.ref a0), .val (.ref a1), .unset] [(.int (0 : Int32))])) := fun t k => G190 t (XT.iconstV X0.here hx rfl (0 : Int32) (hb hby d6_34) (by decide) k)
      obtain ⟨fs, hr, hrun, hended, hW, hsame⟩ := X0.leave (v := some (.int (nar .boolean (0 : Int32)))) (fun h => by rw [Bd.returns] at h; cases h)
      refine ⟨_, _, G191 _ ?_, hrun, hended, _, _, rfl, ?_, ⟨_, rfl⟩, hW, hsame.mono (by decide) (by decide)⟩
      · exact retN X0 hx (t := .boolean) Bd.returns (by simp) (hb hby d6_35) hr
      · show Q6 Z a0 a1 (0 : Int32) (1 : Int32) ka kb h0 _ s₁.heap _
        rw [e0]
        exact ⟨by decide, rfl, rfl⟩
    · obtain ⟨cla, Ara, qka, Sza, Nna, Hsa, Gfa⟩ := Va
      have G193 : own_Go p.tables e below (s₁.setTop (entryFrame m #[(.ref a0), (.ref a1)] 3)) (s₁.setTop (mkF m 2 #[.val (.ref a0), .val (.ref a1), .unset] [(.int (10 : Int32))])) := fun t k => G1 t (X0.arraylength hx (by rw [e0]; exact Ara.1) (State.isArrayOf_alike hZ.alike Ara.2.1) (g := (mkF m 1 #[.val (.ref a0), .val (.ref a1), .unset] [(.ref a0)])) rfl rfl (hb hby d6_1) t (by rw [show cla.slots.size.toInt32 = (10 : Int32) from (len_of Sza Nna).trans (by decide)]; exact k))
      have G194 : own_Go p.tables e below (s₁.setTop (entryFrame m #[(.ref a0), (.ref a1)] 3)) (s₁.setTop (mkF m 3 #[.val (.ref a0), .val (.ref a1), .unset] [(.ref a1), (.int (10 : Int32))])) := fun t k => G193 t (XS.aloadN X0.here hx rfl (hb hby d6_2) rfl rfl k)
      obtain ⟨clb, Arb, qkb, Szb, Nnb, Hsb, Gfb⟩ := Vb
      have G195 : own_Go p.tables e below (s₁.setTop (entryFrame m #[(.ref a0), (.ref a1)] 3)) (s₁.setTop (mkF m 4 #[.val (.ref a0), .val (.ref a1), .unset] [(.int (10 : Int32)), (.int (10 : Int32))])) := fun t k => G194 t (X0.arraylength hx (by rw [e0]; exact Arb.1) (State.isArrayOf_alike hZ.alike Arb.2.1) (g := (mkF m 3 #[.val (.ref a0), .val (.ref a1), .unset] [(.ref a1), (.int (10 : Int32))])) rfl rfl (hb hby d6_3) t (by rw [show clb.slots.size.toInt32 = (10 : Int32) from (len_of Szb Nnb).trans (by decide)]; exact k))
      have hk196 : (10 : Int32) = (10 : Int32) := by decide
      have G197 : own_Go p.tables e below (s₁.setTop (entryFrame m #[(.ref a0), (.ref a1)] 3)) (s₁.setTop (mkF m 7 #[.val (.ref a0), .val (.ref a1), .unset] [])) := fun t k => G195 t (XS.icmpNo X0.here hx rfl (hb hby d6_4) rfl (teq hk196).2 k)
      have G198 : own_Go p.tables e below (s₁.setTop (entryFrame m #[(.ref a0), (.ref a1)] 3)) (s₁.setTop (mkF m 8 #[.val (.ref a0), .val (.ref a1), .unset] [(.int (0 : Int32))])) := fun t k => G197 t (XT.iconstV X0.here hx rfl (0 : Int32) (hb hby d6_7) (by decide) k)
      have G199 : own_Go p.tables e below (s₁.setTop (entryFrame m #[(.ref a0), (.ref a1)] 3)) (s₁.setTop (mkF m 9 #[.val (.ref a0), .val (.ref a1), .val (.int (0 : Int32))] [])) := fun t k => G198 t (XS.istoreN X0.here hx rfl (hb hby d6_8) rfl (l' := #[.val (.ref a0), .val (.ref a1), .val (.int (0 : Int32))]) rfl k)
      have G200 : own_Go p.tables e below (s₁.setTop (entryFrame m #[(.ref a0), (.ref a1)] 3)) (s₁.setTop (mkF m 10 #[.val (.ref a0), .val (.ref a1), .val (.int (0 : Int32))] [(.int (0 : Int32))])) := fun t k => G199 t (XS.iloadN X0.here hx rfl (hb hby d6_9) rfl k)
      have G201 : own_Go p.tables e below (s₁.setTop (entryFrame m #[(.ref a0), (.ref a1)] 3)) (s₁.setTop (mkF m 11 #[.val (.ref a0), .val (.ref a1), .val (.int (0 : Int32))] [(.ref a0), (.int (0 : Int32))])) := fun t k => G200 t (XS.aloadN X0.here hx rfl (hb hby d6_10) rfl rfl k)
      have G202 : own_Go p.tables e below (s₁.setTop (entryFrame m #[(.ref a0), (.ref a1)] 3)) (s₁.setTop (mkF m 12 #[.val (.ref a0), .val (.ref a1), .val (.int (0 : Int32))] [(.int (10 : Int32)), (.int (0 : Int32))])) := fun t k => G201 t (X0.arraylength hx (by rw [e0]; exact Ara.1) (State.isArrayOf_alike hZ.alike Ara.2.1) (g := (mkF m 11 #[.val (.ref a0), .val (.ref a1), .val (.int (0 : Int32))] [(.ref a0), (.int (0 : Int32))])) rfl rfl (hb hby d6_11) t (by rw [show cla.slots.size.toInt32 = (10 : Int32) from (len_of Sza Nna).trans (by decide)]; exact k))
      have hk203 : (0 : Int32) < (10 : Int32) := by decide
      have G204 : own_Go p.tables e below (s₁.setTop (entryFrame m #[(.ref a0), (.ref a1)] 3)) (s₁.setTop (mkF m 15 #[.val (.ref a0), .val (.ref a1), .val (.int (0 : Int32))] [])) := fun t k => G202 t (XS.icmpNo X0.here hx rfl (hb hby d6_12) rfl (tlt hk203).2.1 k)
      have G205 : own_Go p.tables e below (s₁.setTop (entryFrame m #[(.ref a0), (.ref a1)] 3)) (s₁.setTop (mkF m 16 #[.val (.ref a0), .val (.ref a1), .val (.int (0 : Int32))] [(.ref a0)])) := fun t k => G204 t (XS.aloadN X0.here hx rfl (hb hby d6_15) rfl rfl k)
      have G206 : own_Go p.tables e below (s₁.setTop (entryFrame m #[(.ref a0), (.ref a1)] 3)) (s₁.setTop (mkF m 17 #[.val (.ref a0), .val (.ref a1), .val (.int (0 : Int32))] [(.int (0 : Int32)), (.ref a0)])) := fun t k => G205 t (XS.iloadN X0.here hx rfl (hb hby d6_16) rfl k)
      have hin207 : ¬ ((0 : Int32) < 0 ∨ cla.slots.size ≤ ((0 : Int32)).toNatClampNeg) := inb_of Sza ⟨by decide, by decide⟩
      have G208 : own_Go p.tables e below (s₁.setTop (entryFrame m #[(.ref a0), (.ref a1)] 3)) (s₁.setTop (mkF m 18 #[.val (.ref a0), .val (.ref a1), .val (.int (0 : Int32))] [(.int (98 : Int32))])) := fun t k => G206 t (X0.baloadBytes hx (by rw [e0]; exact Ara.1) (State.isArrayOf_alike hZ.alike Ara.2.1) Ara.2.2 hin207 (Hsa.at hin207 (by decide)) (g := (mkF m 17 #[.val (.ref a0), .val (.ref a1), .val (.int (0 : Int32))] [(.int (0 : Int32)), (.ref a0)])) rfl rfl (hb hby d6_17) t k)
      have G209 : own_Go p.tables e below (s₁.setTop (entryFrame m #[(.ref a0), (.ref a1)] 3)) (s₁.setTop (mkF m 19 #[.val (.ref a0), .val (.ref a1), .val (.int (0 : Int32))] [(.ref a1), (.int (98 : Int32))])) := fun t k => G208 t (XS.aloadN X0.here hx rfl (hb hby d6_18) rfl rfl k)
      have G210 : own_Go p.tables e below (s₁.setTop (entryFrame m #[(.ref a0), (.ref a1)] 3)) (s₁.setTop (mkF m 20 #[.val (.ref a0), .val (.ref a1), .val (.int (0 : Int32))] [(.int (0 : Int32)), (.ref a1), (.int (98 : Int32))])) := fun t k => G209 t (XS.iloadN X0.here hx rfl (hb hby d6_19) rfl k)
      have hin211 : ¬ ((0 : Int32) < 0 ∨ clb.slots.size ≤ ((0 : Int32)).toNatClampNeg) := inb_of Szb ⟨by decide, by decide⟩
      have G212 : own_Go p.tables e below (s₁.setTop (entryFrame m #[(.ref a0), (.ref a1)] 3)) (s₁.setTop (mkF m 21 #[.val (.ref a0), .val (.ref a1), .val (.int (0 : Int32))] [(.int (111 : Int32)), (.int (98 : Int32))])) := fun t k => G210 t (X0.baloadBytes hx (by rw [e0]; exact Arb.1) (State.isArrayOf_alike hZ.alike Arb.2.1) Arb.2.2 hin211 (Hsb.at hin211 (by decide)) (g := (mkF m 20 #[.val (.ref a0), .val (.ref a1), .val (.int (0 : Int32))] [(.int (0 : Int32)), (.ref a1), (.int (98 : Int32))])) rfl rfl (hb hby d6_20) t k)
      have hk213 : ¬ ((98 : Int32) = (111 : Int32)) := by decide
      have G214 : own_Go p.tables e below (s₁.setTop (entryFrame m #[(.ref a0), (.ref a1)] 3)) (s₁.setTop (mkF m 24 #[.val (.ref a0), .val (.ref a1), .val (.int (0 : Int32))] [])) := fun t k => G212 t (XS.icmpNo X0.here hx rfl (hb hby d6_21) rfl (feq hk213).1 k)
      have G215 : own_Go p.tables e below (s₁.setTop (entryFrame m #[(.ref a0), (.ref a1)] 3)) (s₁.setTop (mkF m 25 #[.val (.ref a0), .val (.ref a1), .val (.int (0 : Int32))] [(.int (0 : Int32))])) := fun t k => G214 t (XT.iconstV X0.here hx rfl (0 : Int32) (hb hby d6_24) (by decide) k)
      obtain ⟨fs, hr, hrun, hended, hW, hsame⟩ := X0.leave (v := some (.int (nar .boolean (0 : Int32)))) (fun h => by rw [Bd.returns] at h; cases h)
      refine ⟨_, _, G215 _ ?_, hrun, hended, _, _, rfl, ?_, ⟨_, rfl⟩, hW, hsame.mono (by decide) (by decide)⟩
      · exact retN X0 hx (t := .boolean) Bd.returns (by simp) (hb hby d6_25) hr
      · show Q6 Z a0 a1 (0 : Int32) (2 : Int32) ka kb h0 _ s₁.heap _
        rw [e0]
        exact ⟨by decide, rfl, rfl⟩
    · obtain ⟨cla, Ara, qka, Sza, Nna, Hsa, Gfa⟩ := Va
      have G217 : own_Go p.tables e below (s₁.setTop (entryFrame m #[(.ref a0), (.ref a1)] 3)) (s₁.setTop (mkF m 2 #[.val (.ref a0), .val (.ref a1), .unset] [(.int (10 : Int32))])) := fun t k => G1 t (X0.arraylength hx (by rw [e0]; exact Ara.1) (State.isArrayOf_alike hZ.alike Ara.2.1) (g := (mkF m 1 #[.val (.ref a0), .val (.ref a1), .unset] [(.ref a0)])) rfl rfl (hb hby d6_1) t (by rw [show cla.slots.size.toInt32 = (10 : Int32) from (len_of Sza Nna).trans (by decide)]; exact k))
      have G218 : own_Go p.tables e below (s₁.setTop (entryFrame m #[(.ref a0), (.ref a1)] 3)) (s₁.setTop (mkF m 3 #[.val (.ref a0), .val (.ref a1), .unset] [(.ref a1), (.int (10 : Int32))])) := fun t k => G217 t (XS.aloadN X0.here hx rfl (hb hby d6_2) rfl rfl k)
      obtain ⟨clb, Arb, qkb, Szb, Nnb, Hsb, Gfb⟩ := Vb
      have G219 : own_Go p.tables e below (s₁.setTop (entryFrame m #[(.ref a0), (.ref a1)] 3)) (s₁.setTop (mkF m 4 #[.val (.ref a0), .val (.ref a1), .unset] [(.int (4 : Int32)), (.int (10 : Int32))])) := fun t k => G218 t (X0.arraylength hx (by rw [e0]; exact Arb.1) (State.isArrayOf_alike hZ.alike Arb.2.1) (g := (mkF m 3 #[.val (.ref a0), .val (.ref a1), .unset] [(.ref a1), (.int (10 : Int32))])) rfl rfl (hb hby d6_3) t (by rw [show clb.slots.size.toInt32 = (4 : Int32) from (len_of Szb Nnb).trans (by decide)]; exact k))
      have hk220 : ¬ ((10 : Int32) = (4 : Int32)) := by decide
      have G221 : own_Go p.tables e below (s₁.setTop (entryFrame m #[(.ref a0), (.ref a1)] 3)) (s₁.setTop (mkF m 34 #[.val (.ref a0), .val (.ref a1), .unset] [])) := fun t k => G219 t (XS.icmpYes X0.here hx rfl (pc0 := 4) (pc' := 34) rfl (hb hby d6_4) rfl (feq hk220).2 (by decide) (by decide) k)
      have G222 : own_Go p.tables e below (s₁.setTop (entryFrame m #[(.ref a0), (.ref a1)] 3)) (s₁.setTop (mkF m 35 #[.val (.ref a0), .val (.ref a1), .unset] [(.int (0 : Int32))])) := fun t k => G221 t (XT.iconstV X0.here hx rfl (0 : Int32) (hb hby d6_34) (by decide) k)
      obtain ⟨fs, hr, hrun, hended, hW, hsame⟩ := X0.leave (v := some (.int (nar .boolean (0 : Int32)))) (fun h => by rw [Bd.returns] at h; cases h)
      refine ⟨_, _, G222 _ ?_, hrun, hended, _, _, rfl, ?_, ⟨_, rfl⟩, hW, hsame.mono (by decide) (by decide)⟩
      · exact retN X0 hx (t := .boolean) Bd.returns (by simp) (hb hby d6_35) hr
      · show Q6 Z a0 a1 (0 : Int32) (3 : Int32) ka kb h0 _ s₁.heap _
        rw [e0]
        exact ⟨by decide, rfl, rfl⟩
  · have G224 : own_Go p.tables e below (s₁.setTop (entryFrame m #[(.ref a0), (.ref a1)] 3)) (s₁.setTop (mkF m 1 #[.val (.ref a0), .val (.ref a1), .unset] [(.ref a0)])) := fun t k => G0 t (XS.aloadN X0.here hx rfl (hb hby d6_0) rfl rfl k)
    rcases own_four hj with rfl | rfl | rfl | rfl
    · obtain ⟨cla, Ara, qka, Sza, Nna, Hsa, Gfa⟩ := Va
      have G225 : own_Go p.tables e below (s₁.setTop (entryFrame m #[(.ref a0), (.ref a1)] 3)) (s₁.setTop (mkF m 2 #[.val (.ref a0), .val (.ref a1), .unset] [(.int (11 : Int32))])) := fun t k => G224 t (X0.arraylength hx (by rw [e0]; exact Ara.1) (State.isArrayOf_alike hZ.alike Ara.2.1) (g := (mkF m 1 #[.val (.ref a0), .val (.ref a1), .unset] [(.ref a0)])) rfl rfl (hb hby d6_1) t (by rw [show cla.slots.size.toInt32 = (11 : Int32) from (len_of Sza Nna).trans (by decide)]; exact k))
      have G226 : own_Go p.tables e below (s₁.setTop (entryFrame m #[(.ref a0), (.ref a1)] 3)) (s₁.setTop (mkF m 3 #[.val (.ref a0), .val (.ref a1), .unset] [(.ref a1), (.int (11 : Int32))])) := fun t k => G225 t (XS.aloadN X0.here hx rfl (hb hby d6_2) rfl rfl k)
      obtain ⟨clb, Arb, qkb, Szb, Nnb, Hsb, Gfb⟩ := Vb
      have G227 : own_Go p.tables e below (s₁.setTop (entryFrame m #[(.ref a0), (.ref a1)] 3)) (s₁.setTop (mkF m 4 #[.val (.ref a0), .val (.ref a1), .unset] [(.int (10 : Int32)), (.int (11 : Int32))])) := fun t k => G226 t (X0.arraylength hx (by rw [e0]; exact Arb.1) (State.isArrayOf_alike hZ.alike Arb.2.1) (g := (mkF m 3 #[.val (.ref a0), .val (.ref a1), .unset] [(.ref a1), (.int (11 : Int32))])) rfl rfl (hb hby d6_3) t (by rw [show clb.slots.size.toInt32 = (10 : Int32) from (len_of Szb Nnb).trans (by decide)]; exact k))
      have hk228 : ¬ ((11 : Int32) = (10 : Int32)) := by decide
      have G229 : own_Go p.tables e below (s₁.setTop (entryFrame m #[(.ref a0), (.ref a1)] 3)) (s₁.setTop (mkF m 34 #[.val (.ref a0), .val (.ref a1), .unset] [])) := fun t k => G227 t (XS.icmpYes X0.here hx rfl (pc0 := 4) (pc' := 34) rfl (hb hby d6_4) rfl (feq hk228).2 (by decide) (by decide) k)
      have G230 : own_Go p.tables e below (s₁.setTop (entryFrame m #[(.ref a0), (.ref a1)] 3)) (s₁.setTop (mkF m 35 #[.val (.ref a0), .val (.ref a1), .unset] [(.int (0 : Int32))])) := fun t k => G229 t (XT.iconstV X0.here hx rfl (0 : Int32) (hb hby d6_34) (by decide) k)
      obtain ⟨fs, hr, hrun, hended, hW, hsame⟩ := X0.leave (v := some (.int (nar .boolean (0 : Int32)))) (fun h => by rw [Bd.returns] at h; cases h)
      refine ⟨_, _, G230 _ ?_, hrun, hended, _, _, rfl, ?_, ⟨_, rfl⟩, hW, hsame.mono (by decide) (by decide)⟩
      · exact retN X0 hx (t := .boolean) Bd.returns (by simp) (hb hby d6_35) hr
      · show Q6 Z a0 a1 (1 : Int32) (0 : Int32) ka kb h0 _ s₁.heap _
        rw [e0]
        exact ⟨by decide, rfl, rfl⟩
    · obtain ⟨cla, Ara, qka, Sza, Nna, Hsa, Gfa⟩ := Va
      have G232 : own_Go p.tables e below (s₁.setTop (entryFrame m #[(.ref a0), (.ref a1)] 3)) (s₁.setTop (mkF m 2 #[.val (.ref a0), .val (.ref a1), .unset] [(.int (11 : Int32))])) := fun t k => G224 t (X0.arraylength hx (by rw [e0]; exact Ara.1) (State.isArrayOf_alike hZ.alike Ara.2.1) (g := (mkF m 1 #[.val (.ref a0), .val (.ref a1), .unset] [(.ref a0)])) rfl rfl (hb hby d6_1) t (by rw [show cla.slots.size.toInt32 = (11 : Int32) from (len_of Sza Nna).trans (by decide)]; exact k))
      have G233 : own_Go p.tables e below (s₁.setTop (entryFrame m #[(.ref a0), (.ref a1)] 3)) (s₁.setTop (mkF m 3 #[.val (.ref a0), .val (.ref a1), .unset] [(.ref a1), (.int (11 : Int32))])) := fun t k => G232 t (XS.aloadN X0.here hx rfl (hb hby d6_2) rfl rfl k)
      obtain ⟨clb, Arb, qkb, Szb, Nnb, Hsb, Gfb⟩ := Vb
      have G234 : own_Go p.tables e below (s₁.setTop (entryFrame m #[(.ref a0), (.ref a1)] 3)) (s₁.setTop (mkF m 4 #[.val (.ref a0), .val (.ref a1), .unset] [(.int (11 : Int32)), (.int (11 : Int32))])) := fun t k => G233 t (X0.arraylength hx (by rw [e0]; exact Arb.1) (State.isArrayOf_alike hZ.alike Arb.2.1) (g := (mkF m 3 #[.val (.ref a0), .val (.ref a1), .unset] [(.ref a1), (.int (11 : Int32))])) rfl rfl (hb hby d6_3) t (by rw [show clb.slots.size.toInt32 = (11 : Int32) from (len_of Szb Nnb).trans (by decide)]; exact k))
      have hk235 : (11 : Int32) = (11 : Int32) := by decide
      have G236 : own_Go p.tables e below (s₁.setTop (entryFrame m #[(.ref a0), (.ref a1)] 3)) (s₁.setTop (mkF m 7 #[.val (.ref a0), .val (.ref a1), .unset] [])) := fun t k => G234 t (XS.icmpNo X0.here hx rfl (hb hby d6_4) rfl (teq hk235).2 k)
      have G237 : own_Go p.tables e below (s₁.setTop (entryFrame m #[(.ref a0), (.ref a1)] 3)) (s₁.setTop (mkF m 8 #[.val (.ref a0), .val (.ref a1), .unset] [(.int (0 : Int32))])) := fun t k => G236 t (XT.iconstV X0.here hx rfl (0 : Int32) (hb hby d6_7) (by decide) k)
      have G238 : own_Go p.tables e below (s₁.setTop (entryFrame m #[(.ref a0), (.ref a1)] 3)) (s₁.setTop (mkF m 9 #[.val (.ref a0), .val (.ref a1), .val (.int (0 : Int32))] [])) := fun t k => G237 t (XS.istoreN X0.here hx rfl (hb hby d6_8) rfl (l' := #[.val (.ref a0), .val (.ref a1), .val (.int (0 : Int32))]) rfl k)
      have G239 : own_Go p.tables e below (s₁.setTop (entryFrame m #[(.ref a0), (.ref a1)] 3)) (s₁.setTop (mkF m 10 #[.val (.ref a0), .val (.ref a1), .val (.int (0 : Int32))] [(.int (0 : Int32))])) := fun t k => G238 t (XS.iloadN X0.here hx rfl (hb hby d6_9) rfl k)
      have G240 : own_Go p.tables e below (s₁.setTop (entryFrame m #[(.ref a0), (.ref a1)] 3)) (s₁.setTop (mkF m 11 #[.val (.ref a0), .val (.ref a1), .val (.int (0 : Int32))] [(.ref a0), (.int (0 : Int32))])) := fun t k => G239 t (XS.aloadN X0.here hx rfl (hb hby d6_10) rfl rfl k)
      have G241 : own_Go p.tables e below (s₁.setTop (entryFrame m #[(.ref a0), (.ref a1)] 3)) (s₁.setTop (mkF m 12 #[.val (.ref a0), .val (.ref a1), .val (.int (0 : Int32))] [(.int (11 : Int32)), (.int (0 : Int32))])) := fun t k => G240 t (X0.arraylength hx (by rw [e0]; exact Ara.1) (State.isArrayOf_alike hZ.alike Ara.2.1) (g := (mkF m 11 #[.val (.ref a0), .val (.ref a1), .val (.int (0 : Int32))] [(.ref a0), (.int (0 : Int32))])) rfl rfl (hb hby d6_11) t (by rw [show cla.slots.size.toInt32 = (11 : Int32) from (len_of Sza Nna).trans (by decide)]; exact k))
      have hk242 : (0 : Int32) < (11 : Int32) := by decide
      have G243 : own_Go p.tables e below (s₁.setTop (entryFrame m #[(.ref a0), (.ref a1)] 3)) (s₁.setTop (mkF m 15 #[.val (.ref a0), .val (.ref a1), .val (.int (0 : Int32))] [])) := fun t k => G241 t (XS.icmpNo X0.here hx rfl (hb hby d6_12) rfl (tlt hk242).2.1 k)
      have G244 : own_Go p.tables e below (s₁.setTop (entryFrame m #[(.ref a0), (.ref a1)] 3)) (s₁.setTop (mkF m 16 #[.val (.ref a0), .val (.ref a1), .val (.int (0 : Int32))] [(.ref a0)])) := fun t k => G243 t (XS.aloadN X0.here hx rfl (hb hby d6_15) rfl rfl k)
      have G245 : own_Go p.tables e below (s₁.setTop (entryFrame m #[(.ref a0), (.ref a1)] 3)) (s₁.setTop (mkF m 17 #[.val (.ref a0), .val (.ref a1), .val (.int (0 : Int32))] [(.int (0 : Int32)), (.ref a0)])) := fun t k => G244 t (XS.iloadN X0.here hx rfl (hb hby d6_16) rfl k)
      have hin246 : ¬ ((0 : Int32) < 0 ∨ cla.slots.size ≤ ((0 : Int32)).toNatClampNeg) := inb_of Sza ⟨by decide, by decide⟩
      have G247 : own_Go p.tables e below (s₁.setTop (entryFrame m #[(.ref a0), (.ref a1)] 3)) (s₁.setTop (mkF m 18 #[.val (.ref a0), .val (.ref a1), .val (.int (0 : Int32))] [(.int (111 : Int32))])) := fun t k => G245 t (X0.baloadBytes hx (by rw [e0]; exact Ara.1) (State.isArrayOf_alike hZ.alike Ara.2.1) Ara.2.2 hin246 (Hsa.at hin246 (by decide)) (g := (mkF m 17 #[.val (.ref a0), .val (.ref a1), .val (.int (0 : Int32))] [(.int (0 : Int32)), (.ref a0)])) rfl rfl (hb hby d6_17) t k)
      have G248 : own_Go p.tables e below (s₁.setTop (entryFrame m #[(.ref a0), (.ref a1)] 3)) (s₁.setTop (mkF m 19 #[.val (.ref a0), .val (.ref a1), .val (.int (0 : Int32))] [(.ref a1), (.int (111 : Int32))])) := fun t k => G247 t (XS.aloadN X0.here hx rfl (hb hby d6_18) rfl rfl k)
      have G249 : own_Go p.tables e below (s₁.setTop (entryFrame m #[(.ref a0), (.ref a1)] 3)) (s₁.setTop (mkF m 20 #[.val (.ref a0), .val (.ref a1), .val (.int (0 : Int32))] [(.int (0 : Int32)), (.ref a1), (.int (111 : Int32))])) := fun t k => G248 t (XS.iloadN X0.here hx rfl (hb hby d6_19) rfl k)
      have hin250 : ¬ ((0 : Int32) < 0 ∨ clb.slots.size ≤ ((0 : Int32)).toNatClampNeg) := inb_of Szb ⟨by decide, by decide⟩
      have G251 : own_Go p.tables e below (s₁.setTop (entryFrame m #[(.ref a0), (.ref a1)] 3)) (s₁.setTop (mkF m 21 #[.val (.ref a0), .val (.ref a1), .val (.int (0 : Int32))] [(.int (111 : Int32)), (.int (111 : Int32))])) := fun t k => G249 t (X0.baloadBytes hx (by rw [e0]; exact Arb.1) (State.isArrayOf_alike hZ.alike Arb.2.1) Arb.2.2 hin250 (Hsb.at hin250 (by decide)) (g := (mkF m 20 #[.val (.ref a0), .val (.ref a1), .val (.int (0 : Int32))] [(.int (0 : Int32)), (.ref a1), (.int (111 : Int32))])) rfl rfl (hb hby d6_20) t k)
      have hk252 : (111 : Int32) = (111 : Int32) := by decide
      have G253 : own_Go p.tables e below (s₁.setTop (entryFrame m #[(.ref a0), (.ref a1)] 3)) (s₁.setTop (mkF m 26 #[.val (.ref a0), .val (.ref a1), .val (.int (0 : Int32))] [])) := fun t k => G251 t (XS.icmpYes X0.here hx rfl (pc0 := 21) (pc' := 26) rfl (hb hby d6_21) rfl (teq hk252).1 (by decide) (by decide) k)
      have G254 : own_Go p.tables e below (s₁.setTop (entryFrame m #[(.ref a0), (.ref a1)] 3)) (s₁.setTop (mkF m 29 #[.val (.ref a0), .val (.ref a1), .val (.int (1 : Int32))] [])) := fun t k => G253 t (XT.iincV X0.here hx rfl (1 : Int32) (hb hby d6_26) (by decide) rfl (l' := #[.val (.ref a0), .val (.ref a1), .val (.int (1 : Int32))]) rfl k)
      have G255 : own_Go p.tables e below (s₁.setTop (entryFrame m #[(.ref a0), (.ref a1)] 3)) (s₁.setTop (mkF m 9 #[.val (.ref a0), .val (.ref a1), .val (.int (1 : Int32))] [])) := fun t k => G254 t (XS.goto X0.here hx rfl (pc0 := 29) (pc' := 9) rfl (hb hby d6_29) (by decide) (by decide) k)
      have G256 : own_Go p.tables e below (s₁.setTop (entryFrame m #[(.ref a0), (.ref a1)] 3)) (s₁.setTop (mkF m 10 #[.val (.ref a0), .val (.ref a1), .val (.int (1 : Int32))] [(.int (1 : Int32))])) := fun t k => G255 t (XS.iloadN X0.here hx rfl (hb hby d6_9) rfl k)
      have G257 : own_Go p.tables e below (s₁.setTop (entryFrame m #[(.ref a0), (.ref a1)] 3)) (s₁.setTop (mkF m 11 #[.val (.ref a0), .val (.ref a1), .val (.int (1 : Int32))] [(.ref a0), (.int (1 : Int32))])) := fun t k => G256 t (XS.aloadN X0.here hx rfl (hb hby d6_10) rfl rfl k)
      have G258 : own_Go p.tables e below (s₁.setTop (entryFrame m #[(.ref a0), (.ref a1)] 3)) (s₁.setTop (mkF m 12 #[.val (.ref a0), .val (.ref a1), .val (.int (1 : Int32))] [(.int (11 : Int32)), (.int (1 : Int32))])) := fun t k => G257 t (X0.arraylength hx (by rw [e0]; exact Ara.1) (State.isArrayOf_alike hZ.alike Ara.2.1) (g := (mkF m 11 #[.val (.ref a0), .val (.ref a1), .val (.int (1 : Int32))] [(.ref a0), (.int (1 : Int32))])) rfl rfl (hb hby d6_11) t (by rw [show cla.slots.size.toInt32 = (11 : Int32) from (len_of Sza Nna).trans (by decide)]; exact k))
      have hk259 : (1 : Int32) < (11 : Int32) := by decide
      have G260 : own_Go p.tables e below (s₁.setTop (entryFrame m #[(.ref a0), (.ref a1)] 3)) (s₁.setTop (mkF m 15 #[.val (.ref a0), .val (.ref a1), .val (.int (1 : Int32))] [])) := fun t k => G258 t (XS.icmpNo X0.here hx rfl (hb hby d6_12) rfl (tlt hk259).2.1 k)
      have G261 : own_Go p.tables e below (s₁.setTop (entryFrame m #[(.ref a0), (.ref a1)] 3)) (s₁.setTop (mkF m 16 #[.val (.ref a0), .val (.ref a1), .val (.int (1 : Int32))] [(.ref a0)])) := fun t k => G260 t (XS.aloadN X0.here hx rfl (hb hby d6_15) rfl rfl k)
      have G262 : own_Go p.tables e below (s₁.setTop (entryFrame m #[(.ref a0), (.ref a1)] 3)) (s₁.setTop (mkF m 17 #[.val (.ref a0), .val (.ref a1), .val (.int (1 : Int32))] [(.int (1 : Int32)), (.ref a0)])) := fun t k => G261 t (XS.iloadN X0.here hx rfl (hb hby d6_16) rfl k)
      have hin263 : ¬ ((1 : Int32) < 0 ∨ cla.slots.size ≤ ((1 : Int32)).toNatClampNeg) := inb_of Sza ⟨by decide, by decide⟩
      have G264 : own_Go p.tables e below (s₁.setTop (entryFrame m #[(.ref a0), (.ref a1)] 3)) (s₁.setTop (mkF m 18 #[.val (.ref a0), .val (.ref a1), .val (.int (1 : Int32))] [(.int (116 : Int32))])) := fun t k => G262 t (X0.baloadBytes hx (by rw [e0]; exact Ara.1) (State.isArrayOf_alike hZ.alike Ara.2.1) Ara.2.2 hin263 (Hsa.at hin263 (by decide)) (g := (mkF m 17 #[.val (.ref a0), .val (.ref a1), .val (.int (1 : Int32))] [(.int (1 : Int32)), (.ref a0)])) rfl rfl (hb hby d6_17) t k)
      have G265 : own_Go p.tables e below (s₁.setTop (entryFrame m #[(.ref a0), (.ref a1)] 3)) (s₁.setTop (mkF m 19 #[.val (.ref a0), .val (.ref a1), .val (.int (1 : Int32))] [(.ref a1), (.int (116 : Int32))])) := fun t k => G264 t (XS.aloadN X0.here hx rfl (hb hby d6_18) rfl rfl k)
      have G266 : own_Go p.tables e below (s₁.setTop (entryFrame m #[(.ref a0), (.ref a1)] 3)) (s₁.setTop (mkF m 20 #[.val (.ref a0), .val (.ref a1), .val (.int (1 : Int32))] [(.int (1 : Int32)), (.ref a1), (.int (116 : Int32))])) := fun t k => G265 t (XS.iloadN X0.here hx rfl (hb hby d6_19) rfl k)
      have hin267 : ¬ ((1 : Int32) < 0 ∨ clb.slots.size ≤ ((1 : Int32)).toNatClampNeg) := inb_of Szb ⟨by decide, by decide⟩
      have G268 : own_Go p.tables e below (s₁.setTop (entryFrame m #[(.ref a0), (.ref a1)] 3)) (s₁.setTop (mkF m 21 #[.val (.ref a0), .val (.ref a1), .val (.int (1 : Int32))] [(.int (116 : Int32)), (.int (116 : Int32))])) := fun t k => G266 t (X0.baloadBytes hx (by rw [e0]; exact Arb.1) (State.isArrayOf_alike hZ.alike Arb.2.1) Arb.2.2 hin267 (Hsb.at hin267 (by decide)) (g := (mkF m 20 #[.val (.ref a0), .val (.ref a1), .val (.int (1 : Int32))] [(.int (1 : Int32)), (.ref a1), (.int (116 : Int32))])) rfl rfl (hb hby d6_20) t k)
      have hk269 : (116 : Int32) = (116 : Int32) := by decide
      have G270 : own_Go p.tables e below (s₁.setTop (entryFrame m #[(.ref a0), (.ref a1)] 3)) (s₁.setTop (mkF m 26 #[.val (.ref a0), .val (.ref a1), .val (.int (1 : Int32))] [])) := fun t k => G268 t (XS.icmpYes X0.here hx rfl (pc0 := 21) (pc' := 26) rfl (hb hby d6_21) rfl (teq hk269).1 (by decide) (by decide) k)
      have G271 : own_Go p.tables e below (s₁.setTop (entryFrame m #[(.ref a0), (.ref a1)] 3)) (s₁.setTop (mkF m 29 #[.val (.ref a0), .val (.ref a1), .val (.int (2 : Int32))] [])) := fun t k => G270 t (XT.iincV X0.here hx rfl (1 : Int32) (hb hby d6_26) (by decide) rfl (l' := #[.val (.ref a0), .val (.ref a1), .val (.int (2 : Int32))]) rfl k)
      have G272 : own_Go p.tables e below (s₁.setTop (entryFrame m #[(.ref a0), (.ref a1)] 3)) (s₁.setTop (mkF m 9 #[.val (.ref a0), .val (.ref a1), .val (.int (2 : Int32))] [])) := fun t k => G271 t (XS.goto X0.here hx rfl (pc0 := 29) (pc' := 9) rfl (hb hby d6_29) (by decide) (by decide) k)
      have G273 : own_Go p.tables e below (s₁.setTop (entryFrame m #[(.ref a0), (.ref a1)] 3)) (s₁.setTop (mkF m 10 #[.val (.ref a0), .val (.ref a1), .val (.int (2 : Int32))] [(.int (2 : Int32))])) := fun t k => G272 t (XS.iloadN X0.here hx rfl (hb hby d6_9) rfl k)
      have G274 : own_Go p.tables e below (s₁.setTop (entryFrame m #[(.ref a0), (.ref a1)] 3)) (s₁.setTop (mkF m 11 #[.val (.ref a0), .val (.ref a1), .val (.int (2 : Int32))] [(.ref a0), (.int (2 : Int32))])) := fun t k => G273 t (XS.aloadN X0.here hx rfl (hb hby d6_10) rfl rfl k)
      have G275 : own_Go p.tables e below (s₁.setTop (entryFrame m #[(.ref a0), (.ref a1)] 3)) (s₁.setTop (mkF m 12 #[.val (.ref a0), .val (.ref a1), .val (.int (2 : Int32))] [(.int (11 : Int32)), (.int (2 : Int32))])) := fun t k => G274 t (X0.arraylength hx (by rw [e0]; exact Ara.1) (State.isArrayOf_alike hZ.alike Ara.2.1) (g := (mkF m 11 #[.val (.ref a0), .val (.ref a1), .val (.int (2 : Int32))] [(.ref a0), (.int (2 : Int32))])) rfl rfl (hb hby d6_11) t (by rw [show cla.slots.size.toInt32 = (11 : Int32) from (len_of Sza Nna).trans (by decide)]; exact k))
      have hk276 : (2 : Int32) < (11 : Int32) := by decide
      have G277 : own_Go p.tables e below (s₁.setTop (entryFrame m #[(.ref a0), (.ref a1)] 3)) (s₁.setTop (mkF m 15 #[.val (.ref a0), .val (.ref a1), .val (.int (2 : Int32))] [])) := fun t k => G275 t (XS.icmpNo X0.here hx rfl (hb hby d6_12) rfl (tlt hk276).2.1 k)
      have G278 : own_Go p.tables e below (s₁.setTop (entryFrame m #[(.ref a0), (.ref a1)] 3)) (s₁.setTop (mkF m 16 #[.val (.ref a0), .val (.ref a1), .val (.int (2 : Int32))] [(.ref a0)])) := fun t k => G277 t (XS.aloadN X0.here hx rfl (hb hby d6_15) rfl rfl k)
      have G279 : own_Go p.tables e below (s₁.setTop (entryFrame m #[(.ref a0), (.ref a1)] 3)) (s₁.setTop (mkF m 17 #[.val (.ref a0), .val (.ref a1), .val (.int (2 : Int32))] [(.int (2 : Int32)), (.ref a0)])) := fun t k => G278 t (XS.iloadN X0.here hx rfl (hb hby d6_16) rfl k)
      have hin280 : ¬ ((2 : Int32) < 0 ∨ cla.slots.size ≤ ((2 : Int32)).toNatClampNeg) := inb_of Sza ⟨by decide, by decide⟩
      have G281 : own_Go p.tables e below (s₁.setTop (entryFrame m #[(.ref a0), (.ref a1)] 3)) (s₁.setTop (mkF m 18 #[.val (.ref a0), .val (.ref a1), .val (.int (2 : Int32))] [(.int (104 : Int32))])) := fun t k => G279 t (X0.baloadBytes hx (by rw [e0]; exact Ara.1) (State.isArrayOf_alike hZ.alike Ara.2.1) Ara.2.2 hin280 (Hsa.at hin280 (by decide)) (g := (mkF m 17 #[.val (.ref a0), .val (.ref a1), .val (.int (2 : Int32))] [(.int (2 : Int32)), (.ref a0)])) rfl rfl (hb hby d6_17) t k)
      have G282 : own_Go p.tables e below (s₁.setTop (entryFrame m #[(.ref a0), (.ref a1)] 3)) (s₁.setTop (mkF m 19 #[.val (.ref a0), .val (.ref a1), .val (.int (2 : Int32))] [(.ref a1), (.int (104 : Int32))])) := fun t k => G281 t (XS.aloadN X0.here hx rfl (hb hby d6_18) rfl rfl k)
      have G283 : own_Go p.tables e below (s₁.setTop (entryFrame m #[(.ref a0), (.ref a1)] 3)) (s₁.setTop (mkF m 20 #[.val (.ref a0), .val (.ref a1), .val (.int (2 : Int32))] [(.int (2 : Int32)), (.ref a1), (.int (104 : Int32))])) := fun t k => G282 t (XS.iloadN X0.here hx rfl (hb hby d6_19) rfl k)
      have hin284 : ¬ ((2 : Int32) < 0 ∨ clb.slots.size ≤ ((2 : Int32)).toNatClampNeg) := inb_of Szb ⟨by decide, by decide⟩
      have G285 : own_Go p.tables e below (s₁.setTop (entryFrame m #[(.ref a0), (.ref a1)] 3)) (s₁.setTop (mkF m 21 #[.val (.ref a0), .val (.ref a1), .val (.int (2 : Int32))] [(.int (104 : Int32)), (.int (104 : Int32))])) := fun t k => G283 t (X0.baloadBytes hx (by rw [e0]; exact Arb.1) (State.isArrayOf_alike hZ.alike Arb.2.1) Arb.2.2 hin284 (Hsb.at hin284 (by decide)) (g := (mkF m 20 #[.val (.ref a0), .val (.ref a1), .val (.int (2 : Int32))] [(.int (2 : Int32)), (.ref a1), (.int (104 : Int32))])) rfl rfl (hb hby d6_20) t k)
      have hk286 : (104 : Int32) = (104 : Int32) := by decide
      have G287 : own_Go p.tables e below (s₁.setTop (entryFrame m #[(.ref a0), (.ref a1)] 3)) (s₁.setTop (mkF m 26 #[.val (.ref a0), .val (.ref a1), .val (.int (2 : Int32))] [])) := fun t k => G285 t (XS.icmpYes X0.here hx rfl (pc0 := 21) (pc' := 26) rfl (hb hby d6_21) rfl (teq hk286).1 (by decide) (by decide) k)
      have G288 : own_Go p.tables e below (s₁.setTop (entryFrame m #[(.ref a0), (.ref a1)] 3)) (s₁.setTop (mkF m 29 #[.val (.ref a0), .val (.ref a1), .val (.int (3 : Int32))] [])) := fun t k => G287 t (XT.iincV X0.here hx rfl (1 : Int32) (hb hby d6_26) (by decide) rfl (l' := #[.val (.ref a0), .val (.ref a1), .val (.int (3 : Int32))]) rfl k)
      have G289 : own_Go p.tables e below (s₁.setTop (entryFrame m #[(.ref a0), (.ref a1)] 3)) (s₁.setTop (mkF m 9 #[.val (.ref a0), .val (.ref a1), .val (.int (3 : Int32))] [])) := fun t k => G288 t (XS.goto X0.here hx rfl (pc0 := 29) (pc' := 9) rfl (hb hby d6_29) (by decide) (by decide) k)
      have G290 : own_Go p.tables e below (s₁.setTop (entryFrame m #[(.ref a0), (.ref a1)] 3)) (s₁.setTop (mkF m 10 #[.val (.ref a0), .val (.ref a1), .val (.int (3 : Int32))] [(.int (3 : Int32))])) := fun t k => G289 t (XS.iloadN X0.here hx rfl (hb hby d6_9) rfl k)
      have G291 : own_Go p.tables e below (s₁.setTop (entryFrame m #[(.ref a0), (.ref a1)] 3)) (s₁.setTop (mkF m 11 #[.val (.ref a0), .val (.ref a1), .val (.int (3 : Int32))] [(.ref a0), (.int (3 : Int32))])) := fun t k => G290 t (XS.aloadN X0.here hx rfl (hb hby d6_10) rfl rfl k)
      have G292 : own_Go p.tables e below (s₁.setTop (entryFrame m #[(.ref a0), (.ref a1)] 3)) (s₁.setTop (mkF m 12 #[.val (.ref a0), .val (.ref a1), .val (.int (3 : Int32))] [(.int (11 : Int32)), (.int (3 : Int32))])) := fun t k => G291 t (X0.arraylength hx (by rw [e0]; exact Ara.1) (State.isArrayOf_alike hZ.alike Ara.2.1) (g := (mkF m 11 #[.val (.ref a0), .val (.ref a1), .val (.int (3 : Int32))] [(.ref a0), (.int (3 : Int32))])) rfl rfl (hb hby d6_11) t (by rw [show cla.slots.size.toInt32 = (11 : Int32) from (len_of Sza Nna).trans (by decide)]; exact k))
      have hk293 : (3 : Int32) < (11 : Int32) := by decide
      have G294 : own_Go p.tables e below (s₁.setTop (entryFrame m #[(.ref a0), (.ref a1)] 3)) (s₁.setTop (mkF m 15 #[.val (.ref a0), .val (.ref a1), .val (.int (3 : Int32))] [])) := fun t k => G292 t (XS.icmpNo X0.here hx rfl (hb hby d6_12) rfl (tlt hk293).2.1 k)
      have G295 : own_Go p.tables e below (s₁.setTop (entryFrame m #[(.ref a0), (.ref a1)] 3)) (s₁.setTop (mkF m 16 #[.val (.ref a0), .val (.ref a1), .val (.int (3 : Int32))] [(.ref a0)])) := fun t k => G294 t (XS.aloadN X0.here hx rfl (hb hby d6_15) rfl rfl k)
      have G296 : own_Go p.tables e below (s₁.setTop (entryFrame m #[(.ref a0), (.ref a1)] 3)) (s₁.setTop (mkF m 17 #[.val (.ref a0), .val (.ref a1), .val (.int (3 : Int32))] [(.int (3 : Int32)), (.ref a0)])) := fun t k => G295 t (XS.iloadN X0.here hx rfl (hb hby d6_16) rfl k)
      have hin297 : ¬ ((3 : Int32) < 0 ∨ cla.slots.size ≤ ((3 : Int32)).toNatClampNeg) := inb_of Sza ⟨by decide, by decide⟩
      have G298 : own_Go p.tables e below (s₁.setTop (entryFrame m #[(.ref a0), (.ref a1)] 3)) (s₁.setTop (mkF m 18 #[.val (.ref a0), .val (.ref a1), .val (.int (3 : Int32))] [(.int (101 : Int32))])) := fun t k => G296 t (X0.baloadBytes hx (by rw [e0]; exact Ara.1) (State.isArrayOf_alike hZ.alike Ara.2.1) Ara.2.2 hin297 (Hsa.at hin297 (by decide)) (g := (mkF m 17 #[.val (.ref a0), .val (.ref a1), .val (.int (3 : Int32))] [(.int (3 : Int32)), (.ref a0)])) rfl rfl (hb hby d6_17) t k)
      have G299 : own_Go p.tables e below (s₁.setTop (entryFrame m #[(.ref a0), (.ref a1)] 3)) (s₁.setTop (mkF m 19 #[.val (.ref a0), .val (.ref a1), .val (.int (3 : Int32))] [(.ref a1), (.int (101 : Int32))])) := fun t k => G298 t (XS.aloadN X0.here hx rfl (hb hby d6_18) rfl rfl k)
      have G300 : own_Go p.tables e below (s₁.setTop (entryFrame m #[(.ref a0), (.ref a1)] 3)) (s₁.setTop (mkF m 20 #[.val (.ref a0), .val (.ref a1), .val (.int (3 : Int32))] [(.int (3 : Int32)), (.ref a1), (.int (101 : Int32))])) := fun t k => G299 t (XS.iloadN X0.here hx rfl (hb hby d6_19) rfl k)
      have hin301 : ¬ ((3 : Int32) < 0 ∨ clb.slots.size ≤ ((3 : Int32)).toNatClampNeg) := inb_of Szb ⟨by decide, by decide⟩
      have G302 : own_Go p.tables e below (s₁.setTop (entryFrame m #[(.ref a0), (.ref a1)] 3)) (s₁.setTop (mkF m 21 #[.val (.ref a0), .val (.ref a1), .val (.int (3 : Int32))] [(.int (101 : Int32)), (.int (101 : Int32))])) := fun t k => G300 t (X0.baloadBytes hx (by rw [e0]; exact Arb.1) (State.isArrayOf_alike hZ.alike Arb.2.1) Arb.2.2 hin301 (Hsb.at hin301 (by decide)) (g := (mkF m 20 #[.val (.ref a0), .val (.ref a1), .val (.int (3 : Int32))] [(.int (3 : Int32)), (.ref a1), (.int (101 : Int32))])) rfl rfl (hb hby d6_20) t k)
      have hk303 : (101 : Int32) = (101 : Int32) := by decide
      have G304 : own_Go p.tables e below (s₁.setTop (entryFrame m #[(.ref a0), (.ref a1)] 3)) (s₁.setTop (mkF m 26 #[.val (.ref a0), .val (.ref a1), .val (.int (3 : Int32))] [])) := fun t k => G302 t (XS.icmpYes X0.here hx rfl (pc0 := 21) (pc' := 26) rfl (hb hby d6_21) rfl (teq hk303).1 (by decide) (by decide) k)
      have G305 : own_Go p.tables e below (s₁.setTop (entryFrame m #[(.ref a0), (.ref a1)] 3)) (s₁.setTop (mkF m 29 #[.val (.ref a0), .val (.ref a1), .val (.int (4 : Int32))] [])) := fun t k => G304 t (XT.iincV X0.here hx rfl (1 : Int32) (hb hby d6_26) (by decide) rfl (l' := #[.val (.ref a0), .val (.ref a1), .val (.int (4 : Int32))]) rfl k)
      have G306 : own_Go p.tables e below (s₁.setTop (entryFrame m #[(.ref a0), (.ref a1)] 3)) (s₁.setTop (mkF m 9 #[.val (.ref a0), .val (.ref a1), .val (.int (4 : Int32))] [])) := fun t k => G305 t (XS.goto X0.here hx rfl (pc0 := 29) (pc' := 9) rfl (hb hby d6_29) (by decide) (by decide) k)
      have G307 : own_Go p.tables e below (s₁.setTop (entryFrame m #[(.ref a0), (.ref a1)] 3)) (s₁.setTop (mkF m 10 #[.val (.ref a0), .val (.ref a1), .val (.int (4 : Int32))] [(.int (4 : Int32))])) := fun t k => G306 t (XS.iloadN X0.here hx rfl (hb hby d6_9) rfl k)
      have G308 : own_Go p.tables e below (s₁.setTop (entryFrame m #[(.ref a0), (.ref a1)] 3)) (s₁.setTop (mkF m 11 #[.val (.ref a0), .val (.ref a1), .val (.int (4 : Int32))] [(.ref a0), (.int (4 : Int32))])) := fun t k => G307 t (XS.aloadN X0.here hx rfl (hb hby d6_10) rfl rfl k)
      have G309 : own_Go p.tables e below (s₁.setTop (entryFrame m #[(.ref a0), (.ref a1)] 3)) (s₁.setTop (mkF m 12 #[.val (.ref a0), .val (.ref a1), .val (.int (4 : Int32))] [(.int (11 : Int32)), (.int (4 : Int32))])) := fun t k => G308 t (X0.arraylength hx (by rw [e0]; exact Ara.1) (State.isArrayOf_alike hZ.alike Ara.2.1) (g := (mkF m 11 #[.val (.ref a0), .val (.ref a1), .val (.int (4 : Int32))] [(.ref a0), (.int (4 : Int32))])) rfl rfl (hb hby d6_11) t (by rw [show cla.slots.size.toInt32 = (11 : Int32) from (len_of Sza Nna).trans (by decide)]; exact k))
      have hk310 : (4 : Int32) < (11 : Int32) := by decide
      have G311 : own_Go p.tables e below (s₁.setTop (entryFrame m #[(.ref a0), (.ref a1)] 3)) (s₁.setTop (mkF m 15 #[.val (.ref a0), .val (.ref a1), .val (.int (4 : Int32))] [])) := fun t k => G309 t (XS.icmpNo X0.here hx rfl (hb hby d6_12) rfl (tlt hk310).2.1 k)
      have G312 : own_Go p.tables e below (s₁.setTop (entryFrame m #[(.ref a0), (.ref a1)] 3)) (s₁.setTop (mkF m 16 #[.val (.ref a0), .val (.ref a1), .val (.int (4 : Int32))] [(.ref a0)])) := fun t k => G311 t (XS.aloadN X0.here hx rfl (hb hby d6_15) rfl rfl k)
      have G313 : own_Go p.tables e below (s₁.setTop (entryFrame m #[(.ref a0), (.ref a1)] 3)) (s₁.setTop (mkF m 17 #[.val (.ref a0), .val (.ref a1), .val (.int (4 : Int32))] [(.int (4 : Int32)), (.ref a0)])) := fun t k => G312 t (XS.iloadN X0.here hx rfl (hb hby d6_16) rfl k)
      have hin314 : ¬ ((4 : Int32) < 0 ∨ cla.slots.size ≤ ((4 : Int32)).toNatClampNeg) := inb_of Sza ⟨by decide, by decide⟩
      have G315 : own_Go p.tables e below (s₁.setTop (entryFrame m #[(.ref a0), (.ref a1)] 3)) (s₁.setTop (mkF m 18 #[.val (.ref a0), .val (.ref a1), .val (.int (4 : Int32))] [(.int (114 : Int32))])) := fun t k => G313 t (X0.baloadBytes hx (by rw [e0]; exact Ara.1) (State.isArrayOf_alike hZ.alike Ara.2.1) Ara.2.2 hin314 (Hsa.at hin314 (by decide)) (g := (mkF m 17 #[.val (.ref a0), .val (.ref a1), .val (.int (4 : Int32))] [(.int (4 : Int32)), (.ref a0)])) rfl rfl (hb hby d6_17) t k)
      have G316 : own_Go p.tables e below (s₁.setTop (entryFrame m #[(.ref a0), (.ref a1)] 3)) (s₁.setTop (mkF m 19 #[.val (.ref a0), .val (.ref a1), .val (.int (4 : Int32))] [(.ref a1), (.int (114 : Int32))])) := fun t k => G315 t (XS.aloadN X0.here hx rfl (hb hby d6_18) rfl rfl k)
      have G317 : own_Go p.tables e below (s₁.setTop (entryFrame m #[(.ref a0), (.ref a1)] 3)) (s₁.setTop (mkF m 20 #[.val (.ref a0), .val (.ref a1), .val (.int (4 : Int32))] [(.int (4 : Int32)), (.ref a1), (.int (114 : Int32))])) := fun t k => G316 t (XS.iloadN X0.here hx rfl (hb hby d6_19) rfl k)
      have hin318 : ¬ ((4 : Int32) < 0 ∨ clb.slots.size ≤ ((4 : Int32)).toNatClampNeg) := inb_of Szb ⟨by decide, by decide⟩
      have G319 : own_Go p.tables e below (s₁.setTop (entryFrame m #[(.ref a0), (.ref a1)] 3)) (s₁.setTop (mkF m 21 #[.val (.ref a0), .val (.ref a1), .val (.int (4 : Int32))] [(.int (114 : Int32)), (.int (114 : Int32))])) := fun t k => G317 t (X0.baloadBytes hx (by rw [e0]; exact Arb.1) (State.isArrayOf_alike hZ.alike Arb.2.1) Arb.2.2 hin318 (Hsb.at hin318 (by decide)) (g := (mkF m 20 #[.val (.ref a0), .val (.ref a1), .val (.int (4 : Int32))] [(.int (4 : Int32)), (.ref a1), (.int (114 : Int32))])) rfl rfl (hb hby d6_20) t k)
      have hk320 : (114 : Int32) = (114 : Int32) := by decide
      have G321 : own_Go p.tables e below (s₁.setTop (entryFrame m #[(.ref a0), (.ref a1)] 3)) (s₁.setTop (mkF m 26 #[.val (.ref a0), .val (.ref a1), .val (.int (4 : Int32))] [])) := fun t k => G319 t (XS.icmpYes X0.here hx rfl (pc0 := 21) (pc' := 26) rfl (hb hby d6_21) rfl (teq hk320).1 (by decide) (by decide) k)
      have G322 : own_Go p.tables e below (s₁.setTop (entryFrame m #[(.ref a0), (.ref a1)] 3)) (s₁.setTop (mkF m 29 #[.val (.ref a0), .val (.ref a1), .val (.int (5 : Int32))] [])) := fun t k => G321 t (XT.iincV X0.here hx rfl (1 : Int32) (hb hby d6_26) (by decide) rfl (l' := #[.val (.ref a0), .val (.ref a1), .val (.int (5 : Int32))]) rfl k)
      have G323 : own_Go p.tables e below (s₁.setTop (entryFrame m #[(.ref a0), (.ref a1)] 3)) (s₁.setTop (mkF m 9 #[.val (.ref a0), .val (.ref a1), .val (.int (5 : Int32))] [])) := fun t k => G322 t (XS.goto X0.here hx rfl (pc0 := 29) (pc' := 9) rfl (hb hby d6_29) (by decide) (by decide) k)
      have G324 : own_Go p.tables e below (s₁.setTop (entryFrame m #[(.ref a0), (.ref a1)] 3)) (s₁.setTop (mkF m 10 #[.val (.ref a0), .val (.ref a1), .val (.int (5 : Int32))] [(.int (5 : Int32))])) := fun t k => G323 t (XS.iloadN X0.here hx rfl (hb hby d6_9) rfl k)
      have G325 : own_Go p.tables e below (s₁.setTop (entryFrame m #[(.ref a0), (.ref a1)] 3)) (s₁.setTop (mkF m 11 #[.val (.ref a0), .val (.ref a1), .val (.int (5 : Int32))] [(.ref a0), (.int (5 : Int32))])) := fun t k => G324 t (XS.aloadN X0.here hx rfl (hb hby d6_10) rfl rfl k)
      have G326 : own_Go p.tables e below (s₁.setTop (entryFrame m #[(.ref a0), (.ref a1)] 3)) (s₁.setTop (mkF m 12 #[.val (.ref a0), .val (.ref a1), .val (.int (5 : Int32))] [(.int (11 : Int32)), (.int (5 : Int32))])) := fun t k => G325 t (X0.arraylength hx (by rw [e0]; exact Ara.1) (State.isArrayOf_alike hZ.alike Ara.2.1) (g := (mkF m 11 #[.val (.ref a0), .val (.ref a1), .val (.int (5 : Int32))] [(.ref a0), (.int (5 : Int32))])) rfl rfl (hb hby d6_11) t (by rw [show cla.slots.size.toInt32 = (11 : Int32) from (len_of Sza Nna).trans (by decide)]; exact k))
      have hk327 : (5 : Int32) < (11 : Int32) := by decide
      have G328 : own_Go p.tables e below (s₁.setTop (entryFrame m #[(.ref a0), (.ref a1)] 3)) (s₁.setTop (mkF m 15 #[.val (.ref a0), .val (.ref a1), .val (.int (5 : Int32))] [])) := fun t k => G326 t (XS.icmpNo X0.here hx rfl (hb hby d6_12) rfl (tlt hk327).2.1 k)
      have G329 : own_Go p.tables e below (s₁.setTop (entryFrame m #[(.ref a0), (.ref a1)] 3)) (s₁.setTop (mkF m 16 #[.val (.ref a0), .val (.ref a1), .val (.int (5 : Int32))] [(.ref a0)])) := fun t k => G328 t (XS.aloadN X0.here hx rfl (hb hby d6_15) rfl rfl k)
      have G330 : own_Go p.tables e below (s₁.setTop (entryFrame m #[(.ref a0), (.ref a1)] 3)) (s₁.setTop (mkF m 17 #[.val (.ref a0), .val (.ref a1), .val (.int (5 : Int32))] [(.int (5 : Int32)), (.ref a0)])) := fun t k => G329 t (XS.iloadN X0.here hx rfl (hb hby d6_16) rfl k)
      have hin331 : ¬ ((5 : Int32) < 0 ∨ cla.slots.size ≤ ((5 : Int32)).toNatClampNeg) := inb_of Sza ⟨by decide, by decide⟩
      have G332 : own_Go p.tables e below (s₁.setTop (entryFrame m #[(.ref a0), (.ref a1)] 3)) (s₁.setTop (mkF m 18 #[.val (.ref a0), .val (.ref a1), .val (.int (5 : Int32))] [(.int (45 : Int32))])) := fun t k => G330 t (X0.baloadBytes hx (by rw [e0]; exact Ara.1) (State.isArrayOf_alike hZ.alike Ara.2.1) Ara.2.2 hin331 (Hsa.at hin331 (by decide)) (g := (mkF m 17 #[.val (.ref a0), .val (.ref a1), .val (.int (5 : Int32))] [(.int (5 : Int32)), (.ref a0)])) rfl rfl (hb hby d6_17) t k)
      have G333 : own_Go p.tables e below (s₁.setTop (entryFrame m #[(.ref a0), (.ref a1)] 3)) (s₁.setTop (mkF m 19 #[.val (.ref a0), .val (.ref a1), .val (.int (5 : Int32))] [(.ref a1), (.int (45 : Int32))])) := fun t k => G332 t (XS.aloadN X0.here hx rfl (hb hby d6_18) rfl rfl k)
      have G334 : own_Go p.tables e below (s₁.setTop (entryFrame m #[(.ref a0), (.ref a1)] 3)) (s₁.setTop (mkF m 20 #[.val (.ref a0), .val (.ref a1), .val (.int (5 : Int32))] [(.int (5 : Int32)), (.ref a1), (.int (45 : Int32))])) := fun t k => G333 t (XS.iloadN X0.here hx rfl (hb hby d6_19) rfl k)
      have hin335 : ¬ ((5 : Int32) < 0 ∨ clb.slots.size ≤ ((5 : Int32)).toNatClampNeg) := inb_of Szb ⟨by decide, by decide⟩
      have G336 : own_Go p.tables e below (s₁.setTop (entryFrame m #[(.ref a0), (.ref a1)] 3)) (s₁.setTop (mkF m 21 #[.val (.ref a0), .val (.ref a1), .val (.int (5 : Int32))] [(.int (45 : Int32)), (.int (45 : Int32))])) := fun t k => G334 t (X0.baloadBytes hx (by rw [e0]; exact Arb.1) (State.isArrayOf_alike hZ.alike Arb.2.1) Arb.2.2 hin335 (Hsb.at hin335 (by decide)) (g := (mkF m 20 #[.val (.ref a0), .val (.ref a1), .val (.int (5 : Int32))] [(.int (5 : Int32)), (.ref a1), (.int (45 : Int32))])) rfl rfl (hb hby d6_20) t k)
      have hk337 : (45 : Int32) = (45 : Int32) := by decide
      have G338 : own_Go p.tables e below (s₁.setTop (entryFrame m #[(.ref a0), (.ref a1)] 3)) (s₁.setTop (mkF m 26 #[.val (.ref a0), .val (.ref a1), .val (.int (5 : Int32))] [])) := fun t k => G336 t (XS.icmpYes X0.here hx rfl (pc0 := 21) (pc' := 26) rfl (hb hby d6_21) rfl (teq hk337).1 (by decide) (by decide) k)
      have G339 : own_Go p.tables e below (s₁.setTop (entryFrame m #[(.ref a0), (.ref a1)] 3)) (s₁.setTop (mkF m 29 #[.val (.ref a0), .val (.ref a1), .val (.int (6 : Int32))] [])) := fun t k => G338 t (XT.iincV X0.here hx rfl (1 : Int32) (hb hby d6_26) (by decide) rfl (l' := #[.val (.ref a0), .val (.ref a1), .val (.int (6 : Int32))]) rfl k)
      have G340 : own_Go p.tables e below (s₁.setTop (entryFrame m #[(.ref a0), (.ref a1)] 3)) (s₁.setTop (mkF m 9 #[.val (.ref a0), .val (.ref a1), .val (.int (6 : Int32))] [])) := fun t k => G339 t (XS.goto X0.here hx rfl (pc0 := 29) (pc' := 9) rfl (hb hby d6_29) (by decide) (by decide) k)
      have G341 : own_Go p.tables e below (s₁.setTop (entryFrame m #[(.ref a0), (.ref a1)] 3)) (s₁.setTop (mkF m 10 #[.val (.ref a0), .val (.ref a1), .val (.int (6 : Int32))] [(.int (6 : Int32))])) := fun t k => G340 t (XS.iloadN X0.here hx rfl (hb hby d6_9) rfl k)
      have G342 : own_Go p.tables e below (s₁.setTop (entryFrame m #[(.ref a0), (.ref a1)] 3)) (s₁.setTop (mkF m 11 #[.val (.ref a0), .val (.ref a1), .val (.int (6 : Int32))] [(.ref a0), (.int (6 : Int32))])) := fun t k => G341 t (XS.aloadN X0.here hx rfl (hb hby d6_10) rfl rfl k)
      have G343 : own_Go p.tables e below (s₁.setTop (entryFrame m #[(.ref a0), (.ref a1)] 3)) (s₁.setTop (mkF m 12 #[.val (.ref a0), .val (.ref a1), .val (.int (6 : Int32))] [(.int (11 : Int32)), (.int (6 : Int32))])) := fun t k => G342 t (X0.arraylength hx (by rw [e0]; exact Ara.1) (State.isArrayOf_alike hZ.alike Ara.2.1) (g := (mkF m 11 #[.val (.ref a0), .val (.ref a1), .val (.int (6 : Int32))] [(.ref a0), (.int (6 : Int32))])) rfl rfl (hb hby d6_11) t (by rw [show cla.slots.size.toInt32 = (11 : Int32) from (len_of Sza Nna).trans (by decide)]; exact k))
      have hk344 : (6 : Int32) < (11 : Int32) := by decide
      have G345 : own_Go p.tables e below (s₁.setTop (entryFrame m #[(.ref a0), (.ref a1)] 3)) (s₁.setTop (mkF m 15 #[.val (.ref a0), .val (.ref a1), .val (.int (6 : Int32))] [])) := fun t k => G343 t (XS.icmpNo X0.here hx rfl (hb hby d6_12) rfl (tlt hk344).2.1 k)
      have G346 : own_Go p.tables e below (s₁.setTop (entryFrame m #[(.ref a0), (.ref a1)] 3)) (s₁.setTop (mkF m 16 #[.val (.ref a0), .val (.ref a1), .val (.int (6 : Int32))] [(.ref a0)])) := fun t k => G345 t (XS.aloadN X0.here hx rfl (hb hby d6_15) rfl rfl k)
      have G347 : own_Go p.tables e below (s₁.setTop (entryFrame m #[(.ref a0), (.ref a1)] 3)) (s₁.setTop (mkF m 17 #[.val (.ref a0), .val (.ref a1), .val (.int (6 : Int32))] [(.int (6 : Int32)), (.ref a0)])) := fun t k => G346 t (XS.iloadN X0.here hx rfl (hb hby d6_16) rfl k)
      have hin348 : ¬ ((6 : Int32) < 0 ∨ cla.slots.size ≤ ((6 : Int32)).toNatClampNeg) := inb_of Sza ⟨by decide, by decide⟩
      have G349 : own_Go p.tables e below (s₁.setTop (entryFrame m #[(.ref a0), (.ref a1)] 3)) (s₁.setTop (mkF m 18 #[.val (.ref a0), .val (.ref a1), .val (.int (6 : Int32))] [(.int (119 : Int32))])) := fun t k => G347 t (X0.baloadBytes hx (by rw [e0]; exact Ara.1) (State.isArrayOf_alike hZ.alike Ara.2.1) Ara.2.2 hin348 (Hsa.at hin348 (by decide)) (g := (mkF m 17 #[.val (.ref a0), .val (.ref a1), .val (.int (6 : Int32))] [(.int (6 : Int32)), (.ref a0)])) rfl rfl (hb hby d6_17) t k)
      have G350 : own_Go p.tables e below (s₁.setTop (entryFrame m #[(.ref a0), (.ref a1)] 3)) (s₁.setTop (mkF m 19 #[.val (.ref a0), .val (.ref a1), .val (.int (6 : Int32))] [(.ref a1), (.int (119 : Int32))])) := fun t k => G349 t (XS.aloadN X0.here hx rfl (hb hby d6_18) rfl rfl k)
      have G351 : own_Go p.tables e below (s₁.setTop (entryFrame m #[(.ref a0), (.ref a1)] 3)) (s₁.setTop (mkF m 20 #[.val (.ref a0), .val (.ref a1), .val (.int (6 : Int32))] [(.int (6 : Int32)), (.ref a1), (.int (119 : Int32))])) := fun t k => G350 t (XS.iloadN X0.here hx rfl (hb hby d6_19) rfl k)
      have hin352 : ¬ ((6 : Int32) < 0 ∨ clb.slots.size ≤ ((6 : Int32)).toNatClampNeg) := inb_of Szb ⟨by decide, by decide⟩
      have G353 : own_Go p.tables e below (s₁.setTop (entryFrame m #[(.ref a0), (.ref a1)] 3)) (s₁.setTop (mkF m 21 #[.val (.ref a0), .val (.ref a1), .val (.int (6 : Int32))] [(.int (119 : Int32)), (.int (119 : Int32))])) := fun t k => G351 t (X0.baloadBytes hx (by rw [e0]; exact Arb.1) (State.isArrayOf_alike hZ.alike Arb.2.1) Arb.2.2 hin352 (Hsb.at hin352 (by decide)) (g := (mkF m 20 #[.val (.ref a0), .val (.ref a1), .val (.int (6 : Int32))] [(.int (6 : Int32)), (.ref a1), (.int (119 : Int32))])) rfl rfl (hb hby d6_20) t k)
      have hk354 : (119 : Int32) = (119 : Int32) := by decide
      have G355 : own_Go p.tables e below (s₁.setTop (entryFrame m #[(.ref a0), (.ref a1)] 3)) (s₁.setTop (mkF m 26 #[.val (.ref a0), .val (.ref a1), .val (.int (6 : Int32))] [])) := fun t k => G353 t (XS.icmpYes X0.here hx rfl (pc0 := 21) (pc' := 26) rfl (hb hby d6_21) rfl (teq hk354).1 (by decide) (by decide) k)
      have G356 : own_Go p.tables e below (s₁.setTop (entryFrame m #[(.ref a0), (.ref a1)] 3)) (s₁.setTop (mkF m 29 #[.val (.ref a0), .val (.ref a1), .val (.int (7 : Int32))] [])) := fun t k => G355 t (XT.iincV X0.here hx rfl (1 : Int32) (hb hby d6_26) (by decide) rfl (l' := #[.val (.ref a0), .val (.ref a1), .val (.int (7 : Int32))]) rfl k)
      have G357 : own_Go p.tables e below (s₁.setTop (entryFrame m #[(.ref a0), (.ref a1)] 3)) (s₁.setTop (mkF m 9 #[.val (.ref a0), .val (.ref a1), .val (.int (7 : Int32))] [])) := fun t k => G356 t (XS.goto X0.here hx rfl (pc0 := 29) (pc' := 9) rfl (hb hby d6_29) (by decide) (by decide) k)
      have G358 : own_Go p.tables e below (s₁.setTop (entryFrame m #[(.ref a0), (.ref a1)] 3)) (s₁.setTop (mkF m 10 #[.val (.ref a0), .val (.ref a1), .val (.int (7 : Int32))] [(.int (7 : Int32))])) := fun t k => G357 t (XS.iloadN X0.here hx rfl (hb hby d6_9) rfl k)
      have G359 : own_Go p.tables e below (s₁.setTop (entryFrame m #[(.ref a0), (.ref a1)] 3)) (s₁.setTop (mkF m 11 #[.val (.ref a0), .val (.ref a1), .val (.int (7 : Int32))] [(.ref a0), (.int (7 : Int32))])) := fun t k => G358 t (XS.aloadN X0.here hx rfl (hb hby d6_10) rfl rfl k)
      have G360 : own_Go p.tables e below (s₁.setTop (entryFrame m #[(.ref a0), (.ref a1)] 3)) (s₁.setTop (mkF m 12 #[.val (.ref a0), .val (.ref a1), .val (.int (7 : Int32))] [(.int (11 : Int32)), (.int (7 : Int32))])) := fun t k => G359 t (X0.arraylength hx (by rw [e0]; exact Ara.1) (State.isArrayOf_alike hZ.alike Ara.2.1) (g := (mkF m 11 #[.val (.ref a0), .val (.ref a1), .val (.int (7 : Int32))] [(.ref a0), (.int (7 : Int32))])) rfl rfl (hb hby d6_11) t (by rw [show cla.slots.size.toInt32 = (11 : Int32) from (len_of Sza Nna).trans (by decide)]; exact k))
      have hk361 : (7 : Int32) < (11 : Int32) := by decide
      have G362 : own_Go p.tables e below (s₁.setTop (entryFrame m #[(.ref a0), (.ref a1)] 3)) (s₁.setTop (mkF m 15 #[.val (.ref a0), .val (.ref a1), .val (.int (7 : Int32))] [])) := fun t k => G360 t (XS.icmpNo X0.here hx rfl (hb hby d6_12) rfl (tlt hk361).2.1 k)
      have G363 : own_Go p.tables e below (s₁.setTop (entryFrame m #[(.ref a0), (.ref a1)] 3)) (s₁.setTop (mkF m 16 #[.val (.ref a0), .val (.ref a1), .val (.int (7 : Int32))] [(.ref a0)])) := fun t k => G362 t (XS.aloadN X0.here hx rfl (hb hby d6_15) rfl rfl k)
      have G364 : own_Go p.tables e below (s₁.setTop (entryFrame m #[(.ref a0), (.ref a1)] 3)) (s₁.setTop (mkF m 17 #[.val (.ref a0), .val (.ref a1), .val (.int (7 : Int32))] [(.int (7 : Int32)), (.ref a0)])) := fun t k => G363 t (XS.iloadN X0.here hx rfl (hb hby d6_16) rfl k)
      have hin365 : ¬ ((7 : Int32) < 0 ∨ cla.slots.size ≤ ((7 : Int32)).toNatClampNeg) := inb_of Sza ⟨by decide, by decide⟩
      have G366 : own_Go p.tables e below (s₁.setTop (entryFrame m #[(.ref a0), (.ref a1)] 3)) (s₁.setTop (mkF m 18 #[.val (.ref a0), .val (.ref a1), .val (.int (7 : Int32))] [(.int (114 : Int32))])) := fun t k => G364 t (X0.baloadBytes hx (by rw [e0]; exact Ara.1) (State.isArrayOf_alike hZ.alike Ara.2.1) Ara.2.2 hin365 (Hsa.at hin365 (by decide)) (g := (mkF m 17 #[.val (.ref a0), .val (.ref a1), .val (.int (7 : Int32))] [(.int (7 : Int32)), (.ref a0)])) rfl rfl (hb hby d6_17) t k)
      have G367 : own_Go p.tables e below (s₁.setTop (entryFrame m #[(.ref a0), (.ref a1)] 3)) (s₁.setTop (mkF m 19 #[.val (.ref a0), .val (.ref a1), .val (.int (7 : Int32))] [(.ref a1), (.int (114 : Int32))])) := fun t k => G366 t (XS.aloadN X0.here hx rfl (hb hby d6_18) rfl rfl k)
      have G368 : own_Go p.tables e below (s₁.setTop (entryFrame m #[(.ref a0), (.ref a1)] 3)) (s₁.setTop (mkF m 20 #[.val (.ref a0), .val (.ref a1), .val (.int (7 : Int32))] [(.int (7 : Int32)), (.ref a1), (.int (114 : Int32))])) := fun t k => G367 t (XS.iloadN X0.here hx rfl (hb hby d6_19) rfl k)
      have hin369 : ¬ ((7 : Int32) < 0 ∨ clb.slots.size ≤ ((7 : Int32)).toNatClampNeg) := inb_of Szb ⟨by decide, by decide⟩
      have G370 : own_Go p.tables e below (s₁.setTop (entryFrame m #[(.ref a0), (.ref a1)] 3)) (s₁.setTop (mkF m 21 #[.val (.ref a0), .val (.ref a1), .val (.int (7 : Int32))] [(.int (114 : Int32)), (.int (114 : Int32))])) := fun t k => G368 t (X0.baloadBytes hx (by rw [e0]; exact Arb.1) (State.isArrayOf_alike hZ.alike Arb.2.1) Arb.2.2 hin369 (Hsb.at hin369 (by decide)) (g := (mkF m 20 #[.val (.ref a0), .val (.ref a1), .val (.int (7 : Int32))] [(.int (7 : Int32)), (.ref a1), (.int (114 : Int32))])) rfl rfl (hb hby d6_20) t k)
      have hk371 : (114 : Int32) = (114 : Int32) := by decide
      have G372 : own_Go p.tables e below (s₁.setTop (entryFrame m #[(.ref a0), (.ref a1)] 3)) (s₁.setTop (mkF m 26 #[.val (.ref a0), .val (.ref a1), .val (.int (7 : Int32))] [])) := fun t k => G370 t (XS.icmpYes X0.here hx rfl (pc0 := 21) (pc' := 26) rfl (hb hby d6_21) rfl (teq hk371).1 (by decide) (by decide) k)
      have G373 : own_Go p.tables e below (s₁.setTop (entryFrame m #[(.ref a0), (.ref a1)] 3)) (s₁.setTop (mkF m 29 #[.val (.ref a0), .val (.ref a1), .val (.int (8 : Int32))] [])) := fun t k => G372 t (XT.iincV X0.here hx rfl (1 : Int32) (hb hby d6_26) (by decide) rfl (l' := #[.val (.ref a0), .val (.ref a1), .val (.int (8 : Int32))]) rfl k)
      have G374 : own_Go p.tables e below (s₁.setTop (entryFrame m #[(.ref a0), (.ref a1)] 3)) (s₁.setTop (mkF m 9 #[.val (.ref a0), .val (.ref a1), .val (.int (8 : Int32))] [])) := fun t k => G373 t (XS.goto X0.here hx rfl (pc0 := 29) (pc' := 9) rfl (hb hby d6_29) (by decide) (by decide) k)
      have G375 : own_Go p.tables e below (s₁.setTop (entryFrame m #[(.ref a0), (.ref a1)] 3)) (s₁.setTop (mkF m 10 #[.val (.ref a0), .val (.ref a1), .val (.int (8 : Int32))] [(.int (8 : Int32))])) := fun t k => G374 t (XS.iloadN X0.here hx rfl (hb hby d6_9) rfl k)
      have G376 : own_Go p.tables e below (s₁.setTop (entryFrame m #[(.ref a0), (.ref a1)] 3)) (s₁.setTop (mkF m 11 #[.val (.ref a0), .val (.ref a1), .val (.int (8 : Int32))] [(.ref a0), (.int (8 : Int32))])) := fun t k => G375 t (XS.aloadN X0.here hx rfl (hb hby d6_10) rfl rfl k)
      have G377 : own_Go p.tables e below (s₁.setTop (entryFrame m #[(.ref a0), (.ref a1)] 3)) (s₁.setTop (mkF m 12 #[.val (.ref a0), .val (.ref a1), .val (.int (8 : Int32))] [(.int (11 : Int32)), (.int (8 : Int32))])) := fun t k => G376 t (X0.arraylength hx (by rw [e0]; exact Ara.1) (State.isArrayOf_alike hZ.alike Ara.2.1) (g := (mkF m 11 #[.val (.ref a0), .val (.ref a1), .val (.int (8 : Int32))] [(.ref a0), (.int (8 : Int32))])) rfl rfl (hb hby d6_11) t (by rw [show cla.slots.size.toInt32 = (11 : Int32) from (len_of Sza Nna).trans (by decide)]; exact k))
      have hk378 : (8 : Int32) < (11 : Int32) := by decide
      have G379 : own_Go p.tables e below (s₁.setTop (entryFrame m #[(.ref a0), (.ref a1)] 3)) (s₁.setTop (mkF m 15 #[.val (.ref a0), .val (.ref a1), .val (.int (8 : Int32))] [])) := fun t k => G377 t (XS.icmpNo X0.here hx rfl (hb hby d6_12) rfl (tlt hk378).2.1 k)
      have G380 : own_Go p.tables e below (s₁.setTop (entryFrame m #[(.ref a0), (.ref a1)] 3)) (s₁.setTop (mkF m 16 #[.val (.ref a0), .val (.ref a1), .val (.int (8 : Int32))] [(.ref a0)])) := fun t k => G379 t (XS.aloadN X0.here hx rfl (hb hby d6_15) rfl rfl k)
      have G381 : own_Go p.tables e below (s₁.setTop (entryFrame m #[(.ref a0), (.ref a1)] 3)) (s₁.setTop (mkF m 17 #[.val (.ref a0), .val (.ref a1), .val (.int (8 : Int32))] [(.int (8 : Int32)), (.ref a0)])) := fun t k => G380 t (XS.iloadN X0.here hx rfl (hb hby d6_16) rfl k)
      have hin382 : ¬ ((8 : Int32) < 0 ∨ cla.slots.size ≤ ((8 : Int32)).toNatClampNeg) := inb_of Sza ⟨by decide, by decide⟩
      have G383 : own_Go p.tables e below (s₁.setTop (entryFrame m #[(.ref a0), (.ref a1)] 3)) (s₁.setTop (mkF m 18 #[.val (.ref a0), .val (.ref a1), .val (.int (8 : Int32))] [(.int (111 : Int32))])) := fun t k => G381 t (X0.baloadBytes hx (by rw [e0]; exact Ara.1) (State.isArrayOf_alike hZ.alike Ara.2.1) Ara.2.2 hin382 (Hsa.at hin382 (by decide)) (g := (mkF m 17 #[.val (.ref a0), .val (.ref a1), .val (.int (8 : Int32))] [(.int (8 : Int32)), (.ref a0)])) rfl rfl (hb hby d6_17) t k)
      have G384 : own_Go p.tables e below (s₁.setTop (entryFrame m #[(.ref a0), (.ref a1)] 3)) (s₁.setTop (mkF m 19 #[.val (.ref a0), .val (.ref a1), .val (.int (8 : Int32))] [(.ref a1), (.int (111 : Int32))])) := fun t k => G383 t (XS.aloadN X0.here hx rfl (hb hby d6_18) rfl rfl k)
      have G385 : own_Go p.tables e below (s₁.setTop (entryFrame m #[(.ref a0), (.ref a1)] 3)) (s₁.setTop (mkF m 20 #[.val (.ref a0), .val (.ref a1), .val (.int (8 : Int32))] [(.int (8 : Int32)), (.ref a1), (.int (111 : Int32))])) := fun t k => G384 t (XS.iloadN X0.here hx rfl (hb hby d6_19) rfl k)
      have hin386 : ¬ ((8 : Int32) < 0 ∨ clb.slots.size ≤ ((8 : Int32)).toNatClampNeg) := inb_of Szb ⟨by decide, by decide⟩
      have G387 : own_Go p.tables e below (s₁.setTop (entryFrame m #[(.ref a0), (.ref a1)] 3)) (s₁.setTop (mkF m 21 #[.val (.ref a0), .val (.ref a1), .val (.int (8 : Int32))] [(.int (111 : Int32)), (.int (111 : Int32))])) := fun t k => G385 t (X0.baloadBytes hx (by rw [e0]; exact Arb.1) (State.isArrayOf_alike hZ.alike Arb.2.1) Arb.2.2 hin386 (Hsb.at hin386 (by decide)) (g := (mkF m 20 #[.val (.ref a0), .val (.ref a1), .val (.int (8 : Int32))] [(.int (8 : Int32)), (.ref a1), (.int (111 : Int32))])) rfl rfl (hb hby d6_20) t k)
      have hk388 : (111 : Int32) = (111 : Int32) := by decide
      have G389 : own_Go p.tables e below (s₁.setTop (entryFrame m #[(.ref a0), (.ref a1)] 3)) (s₁.setTop (mkF m 26 #[.val (.ref a0), .val (.ref a1), .val (.int (8 : Int32))] [])) := fun t k => G387 t (XS.icmpYes X0.here hx rfl (pc0 := 21) (pc' := 26) rfl (hb hby d6_21) rfl (teq hk388).1 (by decide) (by decide) k)
      have G390 : own_Go p.tables e below (s₁.setTop (entryFrame m #[(.ref a0), (.ref a1)] 3)) (s₁.setTop (mkF m 29 #[.val (.ref a0), .val (.ref a1), .val (.int (9 : Int32))] [])) := fun t k => G389 t (XT.iincV X0.here hx rfl (1 : Int32) (hb hby d6_26) (by decide) rfl (l' := #[.val (.ref a0), .val (.ref a1), .val (.int (9 : Int32))]) rfl k)
      have G391 : own_Go p.tables e below (s₁.setTop (entryFrame m #[(.ref a0), (.ref a1)] 3)) (s₁.setTop (mkF m 9 #[.val (.ref a0), .val (.ref a1), .val (.int (9 : Int32))] [])) := fun t k => G390 t (XS.goto X0.here hx rfl (pc0 := 29) (pc' := 9) rfl (hb hby d6_29) (by decide) (by decide) k)
      have G392 : own_Go p.tables e below (s₁.setTop (entryFrame m #[(.ref a0), (.ref a1)] 3)) (s₁.setTop (mkF m 10 #[.val (.ref a0), .val (.ref a1), .val (.int (9 : Int32))] [(.int (9 : Int32))])) := fun t k => G391 t (XS.iloadN X0.here hx rfl (hb hby d6_9) rfl k)
      have G393 : own_Go p.tables e below (s₁.setTop (entryFrame m #[(.ref a0), (.ref a1)] 3)) (s₁.setTop (mkF m 11 #[.val (.ref a0), .val (.ref a1), .val (.int (9 : Int32))] [(.ref a0), (.int (9 : Int32))])) := fun t k => G392 t (XS.aloadN X0.here hx rfl (hb hby d6_10) rfl rfl k)
      have G394 : own_Go p.tables e below (s₁.setTop (entryFrame m #[(.ref a0), (.ref a1)] 3)) (s₁.setTop (mkF m 12 #[.val (.ref a0), .val (.ref a1), .val (.int (9 : Int32))] [(.int (11 : Int32)), (.int (9 : Int32))])) := fun t k => G393 t (X0.arraylength hx (by rw [e0]; exact Ara.1) (State.isArrayOf_alike hZ.alike Ara.2.1) (g := (mkF m 11 #[.val (.ref a0), .val (.ref a1), .val (.int (9 : Int32))] [(.ref a0), (.int (9 : Int32))])) rfl rfl (hb hby d6_11) t (by rw [show cla.slots.size.toInt32 = (11 : Int32) from (len_of Sza Nna).trans (by decide)]; exact k))
      have hk395 : (9 : Int32) < (11 : Int32) := by decide
      have G396 : own_Go p.tables e below (s₁.setTop (entryFrame m #[(.ref a0), (.ref a1)] 3)) (s₁.setTop (mkF m 15 #[.val (.ref a0), .val (.ref a1), .val (.int (9 : Int32))] [])) := fun t k => G394 t (XS.icmpNo X0.here hx rfl (hb hby d6_12) rfl (tlt hk395).2.1 k)
      have G397 : own_Go p.tables e below (s₁.setTop (entryFrame m #[(.ref a0), (.ref a1)] 3)) (s₁.setTop (mkF m 16 #[.val (.ref a0), .val (.ref a1), .val (.int (9 : Int32))] [(.ref a0)])) := fun t k => G396 t (XS.aloadN X0.here hx rfl (hb hby d6_15) rfl rfl k)
      have G398 : own_Go p.tables e below (s₁.setTop (entryFrame m #[(.ref a0), (.ref a1)] 3)) (s₁.setTop (mkF m 17 #[.val (.ref a0), .val (.ref a1), .val (.int (9 : Int32))] [(.int (9 : Int32)), (.ref a0)])) := fun t k => G397 t (XS.iloadN X0.here hx rfl (hb hby d6_16) rfl k)
      have hin399 : ¬ ((9 : Int32) < 0 ∨ cla.slots.size ≤ ((9 : Int32)).toNatClampNeg) := inb_of Sza ⟨by decide, by decide⟩
      have G400 : own_Go p.tables e below (s₁.setTop (entryFrame m #[(.ref a0), (.ref a1)] 3)) (s₁.setTop (mkF m 18 #[.val (.ref a0), .val (.ref a1), .val (.int (9 : Int32))] [(.int (116 : Int32))])) := fun t k => G398 t (X0.baloadBytes hx (by rw [e0]; exact Ara.1) (State.isArrayOf_alike hZ.alike Ara.2.1) Ara.2.2 hin399 (Hsa.at hin399 (by decide)) (g := (mkF m 17 #[.val (.ref a0), .val (.ref a1), .val (.int (9 : Int32))] [(.int (9 : Int32)), (.ref a0)])) rfl rfl (hb hby d6_17) t k)
      have G401 : own_Go p.tables e below (s₁.setTop (entryFrame m #[(.ref a0), (.ref a1)] 3)) (s₁.setTop (mkF m 19 #[.val (.ref a0), .val (.ref a1), .val (.int (9 : Int32))] [(.ref a1), (.int (116 : Int32))])) := fun t k => G400 t (XS.aloadN X0.here hx rfl (hb hby d6_18) rfl rfl k)
      have G402 : own_Go p.tables e below (s₁.setTop (entryFrame m #[(.ref a0), (.ref a1)] 3)) (s₁.setTop (mkF m 20 #[.val (.ref a0), .val (.ref a1), .val (.int (9 : Int32))] [(.int (9 : Int32)), (.ref a1), (.int (116 : Int32))])) := fun t k => G401 t (XS.iloadN X0.here hx rfl (hb hby d6_19) rfl k)
      have hin403 : ¬ ((9 : Int32) < 0 ∨ clb.slots.size ≤ ((9 : Int32)).toNatClampNeg) := inb_of Szb ⟨by decide, by decide⟩
      have G404 : own_Go p.tables e below (s₁.setTop (entryFrame m #[(.ref a0), (.ref a1)] 3)) (s₁.setTop (mkF m 21 #[.val (.ref a0), .val (.ref a1), .val (.int (9 : Int32))] [(.int (116 : Int32)), (.int (116 : Int32))])) := fun t k => G402 t (X0.baloadBytes hx (by rw [e0]; exact Arb.1) (State.isArrayOf_alike hZ.alike Arb.2.1) Arb.2.2 hin403 (Hsb.at hin403 (by decide)) (g := (mkF m 20 #[.val (.ref a0), .val (.ref a1), .val (.int (9 : Int32))] [(.int (9 : Int32)), (.ref a1), (.int (116 : Int32))])) rfl rfl (hb hby d6_20) t k)
      have hk405 : (116 : Int32) = (116 : Int32) := by decide
      have G406 : own_Go p.tables e below (s₁.setTop (entryFrame m #[(.ref a0), (.ref a1)] 3)) (s₁.setTop (mkF m 26 #[.val (.ref a0), .val (.ref a1), .val (.int (9 : Int32))] [])) := fun t k => G404 t (XS.icmpYes X0.here hx rfl (pc0 := 21) (pc' := 26) rfl (hb hby d6_21) rfl (teq hk405).1 (by decide) (by decide) k)
      have G407 : own_Go p.tables e below (s₁.setTop (entryFrame m #[(.ref a0), (.ref a1)] 3)) (s₁.setTop (mkF m 29 #[.val (.ref a0), .val (.ref a1), .val (.int (10 : Int32))] [])) := fun t k => G406 t (XT.iincV X0.here hx rfl (1 : Int32) (hb hby d6_26) (by decide) rfl (l' := #[.val (.ref a0), .val (.ref a1), .val (.int (10 : Int32))]) rfl k)
      have G408 : own_Go p.tables e below (s₁.setTop (entryFrame m #[(.ref a0), (.ref a1)] 3)) (s₁.setTop (mkF m 9 #[.val (.ref a0), .val (.ref a1), .val (.int (10 : Int32))] [])) := fun t k => G407 t (XS.goto X0.here hx rfl (pc0 := 29) (pc' := 9) rfl (hb hby d6_29) (by decide) (by decide) k)
      have G409 : own_Go p.tables e below (s₁.setTop (entryFrame m #[(.ref a0), (.ref a1)] 3)) (s₁.setTop (mkF m 10 #[.val (.ref a0), .val (.ref a1), .val (.int (10 : Int32))] [(.int (10 : Int32))])) := fun t k => G408 t (XS.iloadN X0.here hx rfl (hb hby d6_9) rfl k)
      have G410 : own_Go p.tables e below (s₁.setTop (entryFrame m #[(.ref a0), (.ref a1)] 3)) (s₁.setTop (mkF m 11 #[.val (.ref a0), .val (.ref a1), .val (.int (10 : Int32))] [(.ref a0), (.int (10 : Int32))])) := fun t k => G409 t (XS.aloadN X0.here hx rfl (hb hby d6_10) rfl rfl k)
      have G411 : own_Go p.tables e below (s₁.setTop (entryFrame m #[(.ref a0), (.ref a1)] 3)) (s₁.setTop (mkF m 12 #[.val (.ref a0), .val (.ref a1), .val (.int (10 : Int32))] [(.int (11 : Int32)), (.int (10 : Int32))])) := fun t k => G410 t (X0.arraylength hx (by rw [e0]; exact Ara.1) (State.isArrayOf_alike hZ.alike Ara.2.1) (g := (mkF m 11 #[.val (.ref a0), .val (.ref a1), .val (.int (10 : Int32))] [(.ref a0), (.int (10 : Int32))])) rfl rfl (hb hby d6_11) t (by rw [show cla.slots.size.toInt32 = (11 : Int32) from (len_of Sza Nna).trans (by decide)]; exact k))
      have hk412 : (10 : Int32) < (11 : Int32) := by decide
      have G413 : own_Go p.tables e below (s₁.setTop (entryFrame m #[(.ref a0), (.ref a1)] 3)) (s₁.setTop (mkF m 15 #[.val (.ref a0), .val (.ref a1), .val (.int (10 : Int32))] [])) := fun t k => G411 t (XS.icmpNo X0.here hx rfl (hb hby d6_12) rfl (tlt hk412).2.1 k)
      have G414 : own_Go p.tables e below (s₁.setTop (entryFrame m #[(.ref a0), (.ref a1)] 3)) (s₁.setTop (mkF m 16 #[.val (.ref a0), .val (.ref a1), .val (.int (10 : Int32))] [(.ref a0)])) := fun t k => G413 t (XS.aloadN X0.here hx rfl (hb hby d6_15) rfl rfl k)
      have G415 : own_Go p.tables e below (s₁.setTop (entryFrame m #[(.ref a0), (.ref a1)] 3)) (s₁.setTop (mkF m 17 #[.val (.ref a0), .val (.ref a1), .val (.int (10 : Int32))] [(.int (10 : Int32)), (.ref a0)])) := fun t k => G414 t (XS.iloadN X0.here hx rfl (hb hby d6_16) rfl k)
      have hin416 : ¬ ((10 : Int32) < 0 ∨ cla.slots.size ≤ ((10 : Int32)).toNatClampNeg) := inb_of Sza ⟨by decide, by decide⟩
      have G417 : own_Go p.tables e below (s₁.setTop (entryFrame m #[(.ref a0), (.ref a1)] 3)) (s₁.setTop (mkF m 18 #[.val (.ref a0), .val (.ref a1), .val (.int (10 : Int32))] [(.int (101 : Int32))])) := fun t k => G415 t (X0.baloadBytes hx (by rw [e0]; exact Ara.1) (State.isArrayOf_alike hZ.alike Ara.2.1) Ara.2.2 hin416 (Hsa.at hin416 (by decide)) (g := (mkF m 17 #[.val (.ref a0), .val (.ref a1), .val (.int (10 : Int32))] [(.int (10 : Int32)), (.ref a0)])) rfl rfl (hb hby d6_17) t k)
      have G418 : own_Go p.tables e below (s₁.setTop (entryFrame m #[(.ref a0), (.ref a1)] 3)) (s₁.setTop (mkF m 19 #[.val (.ref a0), .val (.ref a1), .val (.int (10 : Int32))] [(.ref a1), (.int (101 : Int32))])) := fun t k => G417 t (XS.aloadN X0.here hx rfl (hb hby d6_18) rfl rfl k)
      have G419 : own_Go p.tables e below (s₁.setTop (entryFrame m #[(.ref a0), (.ref a1)] 3)) (s₁.setTop (mkF m 20 #[.val (.ref a0), .val (.ref a1), .val (.int (10 : Int32))] [(.int (10 : Int32)), (.ref a1), (.int (101 : Int32))])) := fun t k => G418 t (XS.iloadN X0.here hx rfl (hb hby d6_19) rfl k)
      have hin420 : ¬ ((10 : Int32) < 0 ∨ clb.slots.size ≤ ((10 : Int32)).toNatClampNeg) := inb_of Szb ⟨by decide, by decide⟩
      have G421 : own_Go p.tables e below (s₁.setTop (entryFrame m #[(.ref a0), (.ref a1)] 3)) (s₁.setTop (mkF m 21 #[.val (.ref a0), .val (.ref a1), .val (.int (10 : Int32))] [(.int (101 : Int32)), (.int (101 : Int32))])) := fun t k => G419 t (X0.baloadBytes hx (by rw [e0]; exact Arb.1) (State.isArrayOf_alike hZ.alike Arb.2.1) Arb.2.2 hin420 (Hsb.at hin420 (by decide)) (g := (mkF m 20 #[.val (.ref a0), .val (.ref a1), .val (.int (10 : Int32))] [(.int (10 : Int32)), (.ref a1), (.int (101 : Int32))])) rfl rfl (hb hby d6_20) t k)
      have hk422 : (101 : Int32) = (101 : Int32) := by decide
      have G423 : own_Go p.tables e below (s₁.setTop (entryFrame m #[(.ref a0), (.ref a1)] 3)) (s₁.setTop (mkF m 26 #[.val (.ref a0), .val (.ref a1), .val (.int (10 : Int32))] [])) := fun t k => G421 t (XS.icmpYes X0.here hx rfl (pc0 := 21) (pc' := 26) rfl (hb hby d6_21) rfl (teq hk422).1 (by decide) (by decide) k)
      have G424 : own_Go p.tables e below (s₁.setTop (entryFrame m #[(.ref a0), (.ref a1)] 3)) (s₁.setTop (mkF m 29 #[.val (.ref a0), .val (.ref a1), .val (.int (11 : Int32))] [])) := fun t k => G423 t (XT.iincV X0.here hx rfl (1 : Int32) (hb hby d6_26) (by decide) rfl (l' := #[.val (.ref a0), .val (.ref a1), .val (.int (11 : Int32))]) rfl k)
      have G425 : own_Go p.tables e below (s₁.setTop (entryFrame m #[(.ref a0), (.ref a1)] 3)) (s₁.setTop (mkF m 9 #[.val (.ref a0), .val (.ref a1), .val (.int (11 : Int32))] [])) := fun t k => G424 t (XS.goto X0.here hx rfl (pc0 := 29) (pc' := 9) rfl (hb hby d6_29) (by decide) (by decide) k)
      have G426 : own_Go p.tables e below (s₁.setTop (entryFrame m #[(.ref a0), (.ref a1)] 3)) (s₁.setTop (mkF m 10 #[.val (.ref a0), .val (.ref a1), .val (.int (11 : Int32))] [(.int (11 : Int32))])) := fun t k => G425 t (XS.iloadN X0.here hx rfl (hb hby d6_9) rfl k)
      have G427 : own_Go p.tables e below (s₁.setTop (entryFrame m #[(.ref a0), (.ref a1)] 3)) (s₁.setTop (mkF m 11 #[.val (.ref a0), .val (.ref a1), .val (.int (11 : Int32))] [(.ref a0), (.int (11 : Int32))])) := fun t k => G426 t (XS.aloadN X0.here hx rfl (hb hby d6_10) rfl rfl k)
      have G428 : own_Go p.tables e below (s₁.setTop (entryFrame m #[(.ref a0), (.ref a1)] 3)) (s₁.setTop (mkF m 12 #[.val (.ref a0), .val (.ref a1), .val (.int (11 : Int32))] [(.int (11 : Int32)), (.int (11 : Int32))])) := fun t k => G427 t (X0.arraylength hx (by rw [e0]; exact Ara.1) (State.isArrayOf_alike hZ.alike Ara.2.1) (g := (mkF m 11 #[.val (.ref a0), .val (.ref a1), .val (.int (11 : Int32))] [(.ref a0), (.int (11 : Int32))])) rfl rfl (hb hby d6_11) t (by rw [show cla.slots.size.toInt32 = (11 : Int32) from (len_of Sza Nna).trans (by decide)]; exact k))
      have hk429 : ¬ ((11 : Int32) < (11 : Int32)) := by decide
      have G430 : own_Go p.tables e below (s₁.setTop (entryFrame m #[(.ref a0), (.ref a1)] 3)) (s₁.setTop (mkF m 32 #[.val (.ref a0), .val (.ref a1), .val (.int (11 : Int32))] [])) := fun t k => G428 t (XS.icmpYes X0.here hx rfl (pc0 := 12) (pc' := 32) rfl (hb hby d6_12) rfl (flt hk429).2.1 (by decide) (by decide) k)
      have G431 : own_Go p.tables e below (s₁.setTop (entryFrame m #[(.ref a0), (.ref a1)] 3)) (s₁.setTop (mkF m 33 #[.val (.ref a0), .val (.ref a1), .val (.int (11 : Int32))] [(.int (1 : Int32))])) := fun t k => G430 t (XT.iconstV X0.here hx rfl (1 : Int32) (hb hby d6_32) (by decide) k)
      obtain ⟨fs, hr, hrun, hended, hW, hsame⟩ := X0.leave (v := some (.int (nar .boolean (1 : Int32)))) (fun h => by rw [Bd.returns] at h; cases h)
      refine ⟨_, _, G431 _ ?_, hrun, hended, _, _, rfl, ?_, ⟨_, rfl⟩, hW, hsame.mono (by decide) (by decide)⟩
      · exact retN X0 hx (t := .boolean) Bd.returns (by simp) (hb hby d6_33) hr
      · show Q6 Z a0 a1 (1 : Int32) (1 : Int32) ka kb h0 _ s₁.heap _
        rw [e0]
        exact ⟨by decide, rfl, rfl⟩
    · obtain ⟨cla, Ara, qka, Sza, Nna, Hsa, Gfa⟩ := Va
      have G433 : own_Go p.tables e below (s₁.setTop (entryFrame m #[(.ref a0), (.ref a1)] 3)) (s₁.setTop (mkF m 2 #[.val (.ref a0), .val (.ref a1), .unset] [(.int (11 : Int32))])) := fun t k => G224 t (X0.arraylength hx (by rw [e0]; exact Ara.1) (State.isArrayOf_alike hZ.alike Ara.2.1) (g := (mkF m 1 #[.val (.ref a0), .val (.ref a1), .unset] [(.ref a0)])) rfl rfl (hb hby d6_1) t (by rw [show cla.slots.size.toInt32 = (11 : Int32) from (len_of Sza Nna).trans (by decide)]; exact k))
      have G434 : own_Go p.tables e below (s₁.setTop (entryFrame m #[(.ref a0), (.ref a1)] 3)) (s₁.setTop (mkF m 3 #[.val (.ref a0), .val (.ref a1), .unset] [(.ref a1), (.int (11 : Int32))])) := fun t k => G433 t (XS.aloadN X0.here hx rfl (hb hby d6_2) rfl rfl k)
      obtain ⟨clb, Arb, qkb, Szb, Nnb, Hsb, Gfb⟩ := Vb
      have G435 : own_Go p.tables e below (s₁.setTop (entryFrame m #[(.ref a0), (.ref a1)] 3)) (s₁.setTop (mkF m 4 #[.val (.ref a0), .val (.ref a1), .unset] [(.int (10 : Int32)), (.int (11 : Int32))])) := fun t k => G434 t (X0.arraylength hx (by rw [e0]; exact Arb.1) (State.isArrayOf_alike hZ.alike Arb.2.1) (g := (mkF m 3 #[.val (.ref a0), .val (.ref a1), .unset] [(.ref a1), (.int (11 : Int32))])) rfl rfl (hb hby d6_3) t (by rw [show clb.slots.size.toInt32 = (10 : Int32) from (len_of Szb Nnb).trans (by decide)]; exact k))
      have hk436 : ¬ ((11 : Int32) = (10 : Int32)) := by decide
      have G437 : own_Go p.tables e below (s₁.setTop (entryFrame m #[(.ref a0), (.ref a1)] 3)) (s₁.setTop (mkF m 34 #[.val (.ref a0), .val (.ref a1), .unset] [])) := fun t k => G435 t (XS.icmpYes X0.here hx rfl (pc0 := 4) (pc' := 34) rfl (hb hby d6_4) rfl (feq hk436).2 (by decide) (by decide) k)
      have G438 : own_Go p.tables e below (s₁.setTop (entryFrame m #[(.ref a0), (.ref a1)] 3)) (s₁.setTop (mkF m 35 #[.val (.ref a0), .val (.ref a1), .unset] [(.int (0 : Int32))])) := fun t k => G437 t (XT.iconstV X0.here hx rfl (0 : Int32) (hb hby d6_34) (by decide) k)
      obtain ⟨fs, hr, hrun, hended, hW, hsame⟩ := X0.leave (v := some (.int (nar .boolean (0 : Int32)))) (fun h => by rw [Bd.returns] at h; cases h)
      refine ⟨_, _, G438 _ ?_, hrun, hended, _, _, rfl, ?_, ⟨_, rfl⟩, hW, hsame.mono (by decide) (by decide)⟩
      · exact retN X0 hx (t := .boolean) Bd.returns (by simp) (hb hby d6_35) hr
      · show Q6 Z a0 a1 (1 : Int32) (2 : Int32) ka kb h0 _ s₁.heap _
        rw [e0]
        exact ⟨by decide, rfl, rfl⟩
    · obtain ⟨cla, Ara, qka, Sza, Nna, Hsa, Gfa⟩ := Va
      have G440 : own_Go p.tables e below (s₁.setTop (entryFrame m #[(.ref a0), (.ref a1)] 3)) (s₁.setTop (mkF m 2 #[.val (.ref a0), .val (.ref a1), .unset] [(.int (11 : Int32))])) := fun t k => G224 t (X0.arraylength hx (by rw [e0]; exact Ara.1) (State.isArrayOf_alike hZ.alike Ara.2.1) (g := (mkF m 1 #[.val (.ref a0), .val (.ref a1), .unset] [(.ref a0)])) rfl rfl (hb hby d6_1) t (by rw [show cla.slots.size.toInt32 = (11 : Int32) from (len_of Sza Nna).trans (by decide)]; exact k))
      have G441 : own_Go p.tables e below (s₁.setTop (entryFrame m #[(.ref a0), (.ref a1)] 3)) (s₁.setTop (mkF m 3 #[.val (.ref a0), .val (.ref a1), .unset] [(.ref a1), (.int (11 : Int32))])) := fun t k => G440 t (XS.aloadN X0.here hx rfl (hb hby d6_2) rfl rfl k)
      obtain ⟨clb, Arb, qkb, Szb, Nnb, Hsb, Gfb⟩ := Vb
      have G442 : own_Go p.tables e below (s₁.setTop (entryFrame m #[(.ref a0), (.ref a1)] 3)) (s₁.setTop (mkF m 4 #[.val (.ref a0), .val (.ref a1), .unset] [(.int (4 : Int32)), (.int (11 : Int32))])) := fun t k => G441 t (X0.arraylength hx (by rw [e0]; exact Arb.1) (State.isArrayOf_alike hZ.alike Arb.2.1) (g := (mkF m 3 #[.val (.ref a0), .val (.ref a1), .unset] [(.ref a1), (.int (11 : Int32))])) rfl rfl (hb hby d6_3) t (by rw [show clb.slots.size.toInt32 = (4 : Int32) from (len_of Szb Nnb).trans (by decide)]; exact k))
      have hk443 : ¬ ((11 : Int32) = (4 : Int32)) := by decide
      have G444 : own_Go p.tables e below (s₁.setTop (entryFrame m #[(.ref a0), (.ref a1)] 3)) (s₁.setTop (mkF m 34 #[.val (.ref a0), .val (.ref a1), .unset] [])) := fun t k => G442 t (XS.icmpYes X0.here hx rfl (pc0 := 4) (pc' := 34) rfl (hb hby d6_4) rfl (feq hk443).2 (by decide) (by decide) k)
      have G445 : own_Go p.tables e below (s₁.setTop (entryFrame m #[(.ref a0), (.ref a1)] 3)) (s₁.setTop (mkF m 35 #[.val (.ref a0), .val (.ref a1), .unset] [(.int (0 : Int32))])) := fun t k => G444 t (XT.iconstV X0.here hx rfl (0 : Int32) (hb hby d6_34) (by decide) k)
      obtain ⟨fs, hr, hrun, hended, hW, hsame⟩ := X0.leave (v := some (.int (nar .boolean (0 : Int32)))) (fun h => by rw [Bd.returns] at h; cases h)
      refine ⟨_, _, G445 _ ?_, hrun, hended, _, _, rfl, ?_, ⟨_, rfl⟩, hW, hsame.mono (by decide) (by decide)⟩
      · exact retN X0 hx (t := .boolean) Bd.returns (by simp) (hb hby d6_35) hr
      · show Q6 Z a0 a1 (1 : Int32) (3 : Int32) ka kb h0 _ s₁.heap _
        rw [e0]
        exact ⟨by decide, rfl, rfl⟩
  · have G447 : own_Go p.tables e below (s₁.setTop (entryFrame m #[(.ref a0), (.ref a1)] 3)) (s₁.setTop (mkF m 1 #[.val (.ref a0), .val (.ref a1), .unset] [(.ref a0)])) := fun t k => G0 t (XS.aloadN X0.here hx rfl (hb hby d6_0) rfl rfl k)
    rcases own_four hj with rfl | rfl | rfl | rfl
    · obtain ⟨cla, Ara, qka, Sza, Nna, Hsa, Gfa⟩ := Va
      have G448 : own_Go p.tables e below (s₁.setTop (entryFrame m #[(.ref a0), (.ref a1)] 3)) (s₁.setTop (mkF m 2 #[.val (.ref a0), .val (.ref a1), .unset] [(.int (10 : Int32))])) := fun t k => G447 t (X0.arraylength hx (by rw [e0]; exact Ara.1) (State.isArrayOf_alike hZ.alike Ara.2.1) (g := (mkF m 1 #[.val (.ref a0), .val (.ref a1), .unset] [(.ref a0)])) rfl rfl (hb hby d6_1) t (by rw [show cla.slots.size.toInt32 = (10 : Int32) from (len_of Sza Nna).trans (by decide)]; exact k))
      have G449 : own_Go p.tables e below (s₁.setTop (entryFrame m #[(.ref a0), (.ref a1)] 3)) (s₁.setTop (mkF m 3 #[.val (.ref a0), .val (.ref a1), .unset] [(.ref a1), (.int (10 : Int32))])) := fun t k => G448 t (XS.aloadN X0.here hx rfl (hb hby d6_2) rfl rfl k)
      obtain ⟨clb, Arb, qkb, Szb, Nnb, Hsb, Gfb⟩ := Vb
      have G450 : own_Go p.tables e below (s₁.setTop (entryFrame m #[(.ref a0), (.ref a1)] 3)) (s₁.setTop (mkF m 4 #[.val (.ref a0), .val (.ref a1), .unset] [(.int (10 : Int32)), (.int (10 : Int32))])) := fun t k => G449 t (X0.arraylength hx (by rw [e0]; exact Arb.1) (State.isArrayOf_alike hZ.alike Arb.2.1) (g := (mkF m 3 #[.val (.ref a0), .val (.ref a1), .unset] [(.ref a1), (.int (10 : Int32))])) rfl rfl (hb hby d6_3) t (by rw [show clb.slots.size.toInt32 = (10 : Int32) from (len_of Szb Nnb).trans (by decide)]; exact k))
      have hk451 : (10 : Int32) = (10 : Int32) := by decide
      have G452 : own_Go p.tables e below (s₁.setTop (entryFrame m #[(.ref a0), (.ref a1)] 3)) (s₁.setTop (mkF m 7 #[.val (.ref a0), .val (.ref a1), .unset] [])) := fun t k => G450 t (XS.icmpNo X0.here hx rfl (hb hby d6_4) rfl (teq hk451).2 k)
      have G453 : own_Go p.tables e below (s₁.setTop (entryFrame m #[(.ref a0), (.ref a1)] 3)) (s₁.setTop (mkF m 8 #[.val (.ref a0), .val (.ref a1), .unset] [(.int (0 : Int32))])) := fun t k => G452 t (XT.iconstV X0.here hx rfl (0 : Int32) (hb hby d6_7) (by decide) k)
      have G454 : own_Go p.tables e below (s₁.setTop (entryFrame m #[(.ref a0), (.ref a1)] 3)) (s₁.setTop (mkF m 9 #[.val (.ref a0), .val (.ref a1), .val (.int (0 : Int32))] [])) := fun t k => G453 t (XS.istoreN X0.here hx rfl (hb hby d6_8) rfl (l' := #[.val (.ref a0), .val (.ref a1), .val (.int (0 : Int32))]) rfl k)
      have G455 : own_Go p.tables e below (s₁.setTop (entryFrame m #[(.ref a0), (.ref a1)] 3)) (s₁.setTop (mkF m 10 #[.val (.ref a0), .val (.ref a1), .val (.int (0 : Int32))] [(.int (0 : Int32))])) := fun t k => G454 t (XS.iloadN X0.here hx rfl (hb hby d6_9) rfl k)
      have G456 : own_Go p.tables e below (s₁.setTop (entryFrame m #[(.ref a0), (.ref a1)] 3)) (s₁.setTop (mkF m 11 #[.val (.ref a0), .val (.ref a1), .val (.int (0 : Int32))] [(.ref a0), (.int (0 : Int32))])) := fun t k => G455 t (XS.aloadN X0.here hx rfl (hb hby d6_10) rfl rfl k)
      have G457 : own_Go p.tables e below (s₁.setTop (entryFrame m #[(.ref a0), (.ref a1)] 3)) (s₁.setTop (mkF m 12 #[.val (.ref a0), .val (.ref a1), .val (.int (0 : Int32))] [(.int (10 : Int32)), (.int (0 : Int32))])) := fun t k => G456 t (X0.arraylength hx (by rw [e0]; exact Ara.1) (State.isArrayOf_alike hZ.alike Ara.2.1) (g := (mkF m 11 #[.val (.ref a0), .val (.ref a1), .val (.int (0 : Int32))] [(.ref a0), (.int (0 : Int32))])) rfl rfl (hb hby d6_11) t (by rw [show cla.slots.size.toInt32 = (10 : Int32) from (len_of Sza Nna).trans (by decide)]; exact k))
      have hk458 : (0 : Int32) < (10 : Int32) := by decide
      have G459 : own_Go p.tables e below (s₁.setTop (entryFrame m #[(.ref a0), (.ref a1)] 3)) (s₁.setTop (mkF m 15 #[.val (.ref a0), .val (.ref a1), .val (.int (0 : Int32))] [])) := fun t k => G457 t (XS.icmpNo X0.here hx rfl (hb hby d6_12) rfl (tlt hk458).2.1 k)
      have G460 : own_Go p.tables e below (s₁.setTop (entryFrame m #[(.ref a0), (.ref a1)] 3)) (s₁.setTop (mkF m 16 #[.val (.ref a0), .val (.ref a1), .val (.int (0 : Int32))] [(.ref a0)])) := fun t k => G459 t (XS.aloadN X0.here hx rfl (hb hby d6_15) rfl rfl k)
      have G461 : own_Go p.tables e below (s₁.setTop (entryFrame m #[(.ref a0), (.ref a1)] 3)) (s₁.setTop (mkF m 17 #[.val (.ref a0), .val (.ref a1), .val (.int (0 : Int32))] [(.int (0 : Int32)), (.ref a0)])) := fun t k => G460 t (XS.iloadN X0.here hx rfl (hb hby d6_16) rfl k)
      have hin462 : ¬ ((0 : Int32) < 0 ∨ cla.slots.size ≤ ((0 : Int32)).toNatClampNeg) := inb_of Sza ⟨by decide, by decide⟩
      have G463 : own_Go p.tables e below (s₁.setTop (entryFrame m #[(.ref a0), (.ref a1)] 3)) (s₁.setTop (mkF m 18 #[.val (.ref a0), .val (.ref a1), .val (.int (0 : Int32))] [(.int (111 : Int32))])) := fun t k => G461 t (X0.baloadBytes hx (by rw [e0]; exact Ara.1) (State.isArrayOf_alike hZ.alike Ara.2.1) Ara.2.2 hin462 (Hsa.at hin462 (by decide)) (g := (mkF m 17 #[.val (.ref a0), .val (.ref a1), .val (.int (0 : Int32))] [(.int (0 : Int32)), (.ref a0)])) rfl rfl (hb hby d6_17) t k)
      have G464 : own_Go p.tables e below (s₁.setTop (entryFrame m #[(.ref a0), (.ref a1)] 3)) (s₁.setTop (mkF m 19 #[.val (.ref a0), .val (.ref a1), .val (.int (0 : Int32))] [(.ref a1), (.int (111 : Int32))])) := fun t k => G463 t (XS.aloadN X0.here hx rfl (hb hby d6_18) rfl rfl k)
      have G465 : own_Go p.tables e below (s₁.setTop (entryFrame m #[(.ref a0), (.ref a1)] 3)) (s₁.setTop (mkF m 20 #[.val (.ref a0), .val (.ref a1), .val (.int (0 : Int32))] [(.int (0 : Int32)), (.ref a1), (.int (111 : Int32))])) := fun t k => G464 t (XS.iloadN X0.here hx rfl (hb hby d6_19) rfl k)
      have hin466 : ¬ ((0 : Int32) < 0 ∨ clb.slots.size ≤ ((0 : Int32)).toNatClampNeg) := inb_of Szb ⟨by decide, by decide⟩
      have G467 : own_Go p.tables e below (s₁.setTop (entryFrame m #[(.ref a0), (.ref a1)] 3)) (s₁.setTop (mkF m 21 #[.val (.ref a0), .val (.ref a1), .val (.int (0 : Int32))] [(.int (98 : Int32)), (.int (111 : Int32))])) := fun t k => G465 t (X0.baloadBytes hx (by rw [e0]; exact Arb.1) (State.isArrayOf_alike hZ.alike Arb.2.1) Arb.2.2 hin466 (Hsb.at hin466 (by decide)) (g := (mkF m 20 #[.val (.ref a0), .val (.ref a1), .val (.int (0 : Int32))] [(.int (0 : Int32)), (.ref a1), (.int (111 : Int32))])) rfl rfl (hb hby d6_20) t k)
      have hk468 : ¬ ((111 : Int32) = (98 : Int32)) := by decide
      have G469 : own_Go p.tables e below (s₁.setTop (entryFrame m #[(.ref a0), (.ref a1)] 3)) (s₁.setTop (mkF m 24 #[.val (.ref a0), .val (.ref a1), .val (.int (0 : Int32))] [])) := fun t k => G467 t (XS.icmpNo X0.here hx rfl (hb hby d6_21) rfl (feq hk468).1 k)
      have G470 : own_Go p.tables e below (s₁.setTop (entryFrame m #[(.ref a0), (.ref a1)] 3)) (s₁.setTop (mkF m 25 #[.val (.ref a0), .val (.ref a1), .val (.int (0 : Int32))] [(.int (0 : Int32))])) := fun t k => G469 t (XT.iconstV X0.here hx rfl (0 : Int32) (hb hby d6_24) (by decide) k)
      obtain ⟨fs, hr, hrun, hended, hW, hsame⟩ := X0.leave (v := some (.int (nar .boolean (0 : Int32)))) (fun h => by rw [Bd.returns] at h; cases h)
      refine ⟨_, _, G470 _ ?_, hrun, hended, _, _, rfl, ?_, ⟨_, rfl⟩, hW, hsame.mono (by decide) (by decide)⟩
      · exact retN X0 hx (t := .boolean) Bd.returns (by simp) (hb hby d6_25) hr
      · show Q6 Z a0 a1 (2 : Int32) (0 : Int32) ka kb h0 _ s₁.heap _
        rw [e0]
        exact ⟨by decide, rfl, rfl⟩
    · obtain ⟨cla, Ara, qka, Sza, Nna, Hsa, Gfa⟩ := Va
      have G472 : own_Go p.tables e below (s₁.setTop (entryFrame m #[(.ref a0), (.ref a1)] 3)) (s₁.setTop (mkF m 2 #[.val (.ref a0), .val (.ref a1), .unset] [(.int (10 : Int32))])) := fun t k => G447 t (X0.arraylength hx (by rw [e0]; exact Ara.1) (State.isArrayOf_alike hZ.alike Ara.2.1) (g := (mkF m 1 #[.val (.ref a0), .val (.ref a1), .unset] [(.ref a0)])) rfl rfl (hb hby d6_1) t (by rw [show cla.slots.size.toInt32 = (10 : Int32) from (len_of Sza Nna).trans (by decide)]; exact k))
      have G473 : own_Go p.tables e below (s₁.setTop (entryFrame m #[(.ref a0), (.ref a1)] 3)) (s₁.setTop (mkF m 3 #[.val (.ref a0), .val (.ref a1), .unset] [(.ref a1), (.int (10 : Int32))])) := fun t k => G472 t (XS.aloadN X0.here hx rfl (hb hby d6_2) rfl rfl k)
      obtain ⟨clb, Arb, qkb, Szb, Nnb, Hsb, Gfb⟩ := Vb
      have G474 : own_Go p.tables e below (s₁.setTop (entryFrame m #[(.ref a0), (.ref a1)] 3)) (s₁.setTop (mkF m 4 #[.val (.ref a0), .val (.ref a1), .unset] [(.int (11 : Int32)), (.int (10 : Int32))])) := fun t k => G473 t (X0.arraylength hx (by rw [e0]; exact Arb.1) (State.isArrayOf_alike hZ.alike Arb.2.1) (g := (mkF m 3 #[.val (.ref a0), .val (.ref a1), .unset] [(.ref a1), (.int (10 : Int32))])) rfl rfl (hb hby d6_3) t (by rw [show clb.slots.size.toInt32 = (11 : Int32) from (len_of Szb Nnb).trans (by decide)]; exact k))
      have hk475 : ¬ ((10 : Int32) = (11 : Int32)) := by decide
      have G476 : own_Go p.tables e below (s₁.setTop (entryFrame m #[(.ref a0), (.ref a1)] 3)) (s₁.setTop (mkF m 34 #[.val (.ref a0), .val (.ref a1), .unset] [])) := fun t k => G474 t (XS.icmpYes X0.here hx rfl (pc0 := 4) (pc' := 34) rfl (hb hby d6_4) rfl (feq hk475).2 (by decide) (by decide) k)
      have G477 : own_Go p.tables e below (s₁.setTop (entryFrame m #[(.ref a0), (.ref a1)] 3)) (s₁.setTop (mkF m 35 #[.val (.ref a0), .val (.ref a1), .unset] [(.int (0 : Int32))])) := fun t k => G476 t (XT.iconstV X0.here hx rfl (0 : Int32) (hb hby d6_34) (by decide) k)
      obtain ⟨fs, hr, hrun, hended, hW, hsame⟩ := X0.leave (v := some (.int (nar .boolean (0 : Int32)))) (fun h => by rw [Bd.returns] at h; cases h)
      refine ⟨_, _, G477 _ ?_, hrun, hended, _, _, rfl, ?_, ⟨_, rfl⟩, hW, hsame.mono (by decide) (by decide)⟩
      · exact retN X0 hx (t := .boolean) Bd.returns (by simp) (hb hby d6_35) hr
      · show Q6 Z a0 a1 (2 : Int32) (1 : Int32) ka kb h0 _ s₁.heap _
        rw [e0]
        exact ⟨by decide, rfl, rfl⟩
    · obtain ⟨cla, Ara, qka, Sza, Nna, Hsa, Gfa⟩ := Va
      have G479 : own_Go p.tables e below (s₁.setTop (entryFrame m #[(.ref a0), (.ref a1)] 3)) (s₁.setTop (mkF m 2 #[.val (.ref a0), .val (.ref a1), .unset] [(.int (10 : Int32))])) := fun t k => G447 t (X0.arraylength hx (by rw [e0]; exact Ara.1) (State.isArrayOf_alike hZ.alike Ara.2.1) (g := (mkF m 1 #[.val (.ref a0), .val (.ref a1), .unset] [(.ref a0)])) rfl rfl (hb hby d6_1) t (by rw [show cla.slots.size.toInt32 = (10 : Int32) from (len_of Sza Nna).trans (by decide)]; exact k))
      have G480 : own_Go p.tables e below (s₁.setTop (entryFrame m #[(.ref a0), (.ref a1)] 3)) (s₁.setTop (mkF m 3 #[.val (.ref a0), .val (.ref a1), .unset] [(.ref a1), (.int (10 : Int32))])) := fun t k => G479 t (XS.aloadN X0.here hx rfl (hb hby d6_2) rfl rfl k)
      obtain ⟨clb, Arb, qkb, Szb, Nnb, Hsb, Gfb⟩ := Vb
      have G481 : own_Go p.tables e below (s₁.setTop (entryFrame m #[(.ref a0), (.ref a1)] 3)) (s₁.setTop (mkF m 4 #[.val (.ref a0), .val (.ref a1), .unset] [(.int (10 : Int32)), (.int (10 : Int32))])) := fun t k => G480 t (X0.arraylength hx (by rw [e0]; exact Arb.1) (State.isArrayOf_alike hZ.alike Arb.2.1) (g := (mkF m 3 #[.val (.ref a0), .val (.ref a1), .unset] [(.ref a1), (.int (10 : Int32))])) rfl rfl (hb hby d6_3) t (by rw [show clb.slots.size.toInt32 = (10 : Int32) from (len_of Szb Nnb).trans (by decide)]; exact k))
      have hk482 : (10 : Int32) = (10 : Int32) := by decide
      have G483 : own_Go p.tables e below (s₁.setTop (entryFrame m #[(.ref a0), (.ref a1)] 3)) (s₁.setTop (mkF m 7 #[.val (.ref a0), .val (.ref a1), .unset] [])) := fun t k => G481 t (XS.icmpNo X0.here hx rfl (hb hby d6_4) rfl (teq hk482).2 k)
      have G484 : own_Go p.tables e below (s₁.setTop (entryFrame m #[(.ref a0), (.ref a1)] 3)) (s₁.setTop (mkF m 8 #[.val (.ref a0), .val (.ref a1), .unset] [(.int (0 : Int32))])) := fun t k => G483 t (XT.iconstV X0.here hx rfl (0 : Int32) (hb hby d6_7) (by decide) k)
      have G485 : own_Go p.tables e below (s₁.setTop (entryFrame m #[(.ref a0), (.ref a1)] 3)) (s₁.setTop (mkF m 9 #[.val (.ref a0), .val (.ref a1), .val (.int (0 : Int32))] [])) := fun t k => G484 t (XS.istoreN X0.here hx rfl (hb hby d6_8) rfl (l' := #[.val (.ref a0), .val (.ref a1), .val (.int (0 : Int32))]) rfl k)
      have G486 : own_Go p.tables e below (s₁.setTop (entryFrame m #[(.ref a0), (.ref a1)] 3)) (s₁.setTop (mkF m 10 #[.val (.ref a0), .val (.ref a1), .val (.int (0 : Int32))] [(.int (0 : Int32))])) := fun t k => G485 t (XS.iloadN X0.here hx rfl (hb hby d6_9) rfl k)
      have G487 : own_Go p.tables e below (s₁.setTop (entryFrame m #[(.ref a0), (.ref a1)] 3)) (s₁.setTop (mkF m 11 #[.val (.ref a0), .val (.ref a1), .val (.int (0 : Int32))] [(.ref a0), (.int (0 : Int32))])) := fun t k => G486 t (XS.aloadN X0.here hx rfl (hb hby d6_10) rfl rfl k)
      have G488 : own_Go p.tables e below (s₁.setTop (entryFrame m #[(.ref a0), (.ref a1)] 3)) (s₁.setTop (mkF m 12 #[.val (.ref a0), .val (.ref a1), .val (.int (0 : Int32))] [(.int (10 : Int32)), (.int (0 : Int32))])) := fun t k => G487 t (X0.arraylength hx (by rw [e0]; exact Ara.1) (State.isArrayOf_alike hZ.alike Ara.2.1) (g := (mkF m 11 #[.val (.ref a0), .val (.ref a1), .val (.int (0 : Int32))] [(.ref a0), (.int (0 : Int32))])) rfl rfl (hb hby d6_11) t (by rw [show cla.slots.size.toInt32 = (10 : Int32) from (len_of Sza Nna).trans (by decide)]; exact k))
      have hk489 : (0 : Int32) < (10 : Int32) := by decide
      have G490 : own_Go p.tables e below (s₁.setTop (entryFrame m #[(.ref a0), (.ref a1)] 3)) (s₁.setTop (mkF m 15 #[.val (.ref a0), .val (.ref a1), .val (.int (0 : Int32))] [])) := fun t k => G488 t (XS.icmpNo X0.here hx rfl (hb hby d6_12) rfl (tlt hk489).2.1 k)
      have G491 : own_Go p.tables e below (s₁.setTop (entryFrame m #[(.ref a0), (.ref a1)] 3)) (s₁.setTop (mkF m 16 #[.val (.ref a0), .val (.ref a1), .val (.int (0 : Int32))] [(.ref a0)])) := fun t k => G490 t (XS.aloadN X0.here hx rfl (hb hby d6_15) rfl rfl k)
      have G492 : own_Go p.tables e below (s₁.setTop (entryFrame m #[(.ref a0), (.ref a1)] 3)) (s₁.setTop (mkF m 17 #[.val (.ref a0), .val (.ref a1), .val (.int (0 : Int32))] [(.int (0 : Int32)), (.ref a0)])) := fun t k => G491 t (XS.iloadN X0.here hx rfl (hb hby d6_16) rfl k)
      have hin493 : ¬ ((0 : Int32) < 0 ∨ cla.slots.size ≤ ((0 : Int32)).toNatClampNeg) := inb_of Sza ⟨by decide, by decide⟩
      have G494 : own_Go p.tables e below (s₁.setTop (entryFrame m #[(.ref a0), (.ref a1)] 3)) (s₁.setTop (mkF m 18 #[.val (.ref a0), .val (.ref a1), .val (.int (0 : Int32))] [(.int (111 : Int32))])) := fun t k => G492 t (X0.baloadBytes hx (by rw [e0]; exact Ara.1) (State.isArrayOf_alike hZ.alike Ara.2.1) Ara.2.2 hin493 (Hsa.at hin493 (by decide)) (g := (mkF m 17 #[.val (.ref a0), .val (.ref a1), .val (.int (0 : Int32))] [(.int (0 : Int32)), (.ref a0)])) rfl rfl (hb hby d6_17) t k)
      have G495 : own_Go p.tables e below (s₁.setTop (entryFrame m #[(.ref a0), (.ref a1)] 3)) (s₁.setTop (mkF m 19 #[.val (.ref a0), .val (.ref a1), .val (.int (0 : Int32))] [(.ref a1), (.int (111 : Int32))])) := fun t k => G494 t (XS.aloadN X0.here hx rfl (hb hby d6_18) rfl rfl k)
      have G496 : own_Go p.tables e below (s₁.setTop (entryFrame m #[(.ref a0), (.ref a1)] 3)) (s₁.setTop (mkF m 20 #[.val (.ref a0), .val (.ref a1), .val (.int (0 : Int32))] [(.int (0 : Int32)), (.ref a1), (.int (111 : Int32))])) := fun t k => G495 t (XS.iloadN X0.here hx rfl (hb hby d6_19) rfl k)
      have hin497 : ¬ ((0 : Int32) < 0 ∨ clb.slots.size ≤ ((0 : Int32)).toNatClampNeg) := inb_of Szb ⟨by decide, by decide⟩
      have G498 : own_Go p.tables e below (s₁.setTop (entryFrame m #[(.ref a0), (.ref a1)] 3)) (s₁.setTop (mkF m 21 #[.val (.ref a0), .val (.ref a1), .val (.int (0 : Int32))] [(.int (111 : Int32)), (.int (111 : Int32))])) := fun t k => G496 t (X0.baloadBytes hx (by rw [e0]; exact Arb.1) (State.isArrayOf_alike hZ.alike Arb.2.1) Arb.2.2 hin497 (Hsb.at hin497 (by decide)) (g := (mkF m 20 #[.val (.ref a0), .val (.ref a1), .val (.int (0 : Int32))] [(.int (0 : Int32)), (.ref a1), (.int (111 : Int32))])) rfl rfl (hb hby d6_20) t k)
      have hk499 : (111 : Int32) = (111 : Int32) := by decide
      have G500 : own_Go p.tables e below (s₁.setTop (entryFrame m #[(.ref a0), (.ref a1)] 3)) (s₁.setTop (mkF m 26 #[.val (.ref a0), .val (.ref a1), .val (.int (0 : Int32))] [])) := fun t k => G498 t (XS.icmpYes X0.here hx rfl (pc0 := 21) (pc' := 26) rfl (hb hby d6_21) rfl (teq hk499).1 (by decide) (by decide) k)
      have G501 : own_Go p.tables e below (s₁.setTop (entryFrame m #[(.ref a0), (.ref a1)] 3)) (s₁.setTop (mkF m 29 #[.val (.ref a0), .val (.ref a1), .val (.int (1 : Int32))] [])) := fun t k => G500 t (XT.iincV X0.here hx rfl (1 : Int32) (hb hby d6_26) (by decide) rfl (l' := #[.val (.ref a0), .val (.ref a1), .val (.int (1 : Int32))]) rfl k)
      have G502 : own_Go p.tables e below (s₁.setTop (entryFrame m #[(.ref a0), (.ref a1)] 3)) (s₁.setTop (mkF m 9 #[.val (.ref a0), .val (.ref a1), .val (.int (1 : Int32))] [])) := fun t k => G501 t (XS.goto X0.here hx rfl (pc0 := 29) (pc' := 9) rfl (hb hby d6_29) (by decide) (by decide) k)
      have G503 : own_Go p.tables e below (s₁.setTop (entryFrame m #[(.ref a0), (.ref a1)] 3)) (s₁.setTop (mkF m 10 #[.val (.ref a0), .val (.ref a1), .val (.int (1 : Int32))] [(.int (1 : Int32))])) := fun t k => G502 t (XS.iloadN X0.here hx rfl (hb hby d6_9) rfl k)
      have G504 : own_Go p.tables e below (s₁.setTop (entryFrame m #[(.ref a0), (.ref a1)] 3)) (s₁.setTop (mkF m 11 #[.val (.ref a0), .val (.ref a1), .val (.int (1 : Int32))] [(.ref a0), (.int (1 : Int32))])) := fun t k => G503 t (XS.aloadN X0.here hx rfl (hb hby d6_10) rfl rfl k)
      have G505 : own_Go p.tables e below (s₁.setTop (entryFrame m #[(.ref a0), (.ref a1)] 3)) (s₁.setTop (mkF m 12 #[.val (.ref a0), .val (.ref a1), .val (.int (1 : Int32))] [(.int (10 : Int32)), (.int (1 : Int32))])) := fun t k => G504 t (X0.arraylength hx (by rw [e0]; exact Ara.1) (State.isArrayOf_alike hZ.alike Ara.2.1) (g := (mkF m 11 #[.val (.ref a0), .val (.ref a1), .val (.int (1 : Int32))] [(.ref a0), (.int (1 : Int32))])) rfl rfl (hb hby d6_11) t (by rw [show cla.slots.size.toInt32 = (10 : Int32) from (len_of Sza Nna).trans (by decide)]; exact k))
      have hk506 : (1 : Int32) < (10 : Int32) := by decide
      have G507 : own_Go p.tables e below (s₁.setTop (entryFrame m #[(.ref a0), (.ref a1)] 3)) (s₁.setTop (mkF m 15 #[.val (.ref a0), .val (.ref a1), .val (.int (1 : Int32))] [])) := fun t k => G505 t (XS.icmpNo X0.here hx rfl (hb hby d6_12) rfl (tlt hk506).2.1 k)
      have G508 : own_Go p.tables e below (s₁.setTop (entryFrame m #[(.ref a0), (.ref a1)] 3)) (s₁.setTop (mkF m 16 #[.val (.ref a0), .val (.ref a1), .val (.int (1 : Int32))] [(.ref a0)])) := fun t k => G507 t (XS.aloadN X0.here hx rfl (hb hby d6_15) rfl rfl k)
      have G509 : own_Go p.tables e below (s₁.setTop (entryFrame m #[(.ref a0), (.ref a1)] 3)) (s₁.setTop (mkF m 17 #[.val (.ref a0), .val (.ref a1), .val (.int (1 : Int32))] [(.int (1 : Int32)), (.ref a0)])) := fun t k => G508 t (XS.iloadN X0.here hx rfl (hb hby d6_16) rfl k)
      have hin510 : ¬ ((1 : Int32) < 0 ∨ cla.slots.size ≤ ((1 : Int32)).toNatClampNeg) := inb_of Sza ⟨by decide, by decide⟩
      have G511 : own_Go p.tables e below (s₁.setTop (entryFrame m #[(.ref a0), (.ref a1)] 3)) (s₁.setTop (mkF m 18 #[.val (.ref a0), .val (.ref a1), .val (.int (1 : Int32))] [(.int (116 : Int32))])) := fun t k => G509 t (X0.baloadBytes hx (by rw [e0]; exact Ara.1) (State.isArrayOf_alike hZ.alike Ara.2.1) Ara.2.2 hin510 (Hsa.at hin510 (by decide)) (g := (mkF m 17 #[.val (.ref a0), .val (.ref a1), .val (.int (1 : Int32))] [(.int (1 : Int32)), (.ref a0)])) rfl rfl (hb hby d6_17) t k)
      have G512 : own_Go p.tables e below (s₁.setTop (entryFrame m #[(.ref a0), (.ref a1)] 3)) (s₁.setTop (mkF m 19 #[.val (.ref a0), .val (.ref a1), .val (.int (1 : Int32))] [(.ref a1), (.int (116 : Int32))])) := fun t k => G511 t (XS.aloadN X0.here hx rfl (hb hby d6_18) rfl rfl k)
      have G513 : own_Go p.tables e below (s₁.setTop (entryFrame m #[(.ref a0), (.ref a1)] 3)) (s₁.setTop (mkF m 20 #[.val (.ref a0), .val (.ref a1), .val (.int (1 : Int32))] [(.int (1 : Int32)), (.ref a1), (.int (116 : Int32))])) := fun t k => G512 t (XS.iloadN X0.here hx rfl (hb hby d6_19) rfl k)
      have hin514 : ¬ ((1 : Int32) < 0 ∨ clb.slots.size ≤ ((1 : Int32)).toNatClampNeg) := inb_of Szb ⟨by decide, by decide⟩
      have G515 : own_Go p.tables e below (s₁.setTop (entryFrame m #[(.ref a0), (.ref a1)] 3)) (s₁.setTop (mkF m 21 #[.val (.ref a0), .val (.ref a1), .val (.int (1 : Int32))] [(.int (116 : Int32)), (.int (116 : Int32))])) := fun t k => G513 t (X0.baloadBytes hx (by rw [e0]; exact Arb.1) (State.isArrayOf_alike hZ.alike Arb.2.1) Arb.2.2 hin514 (Hsb.at hin514 (by decide)) (g := (mkF m 20 #[.val (.ref a0), .val (.ref a1), .val (.int (1 : Int32))] [(.int (1 : Int32)), (.ref a1), (.int (116 : Int32))])) rfl rfl (hb hby d6_20) t k)
      have hk516 : (116 : Int32) = (116 : Int32) := by decide
      have G517 : own_Go p.tables e below (s₁.setTop (entryFrame m #[(.ref a0), (.ref a1)] 3)) (s₁.setTop (mkF m 26 #[.val (.ref a0), .val (.ref a1), .val (.int (1 : Int32))] [])) := fun t k => G515 t (XS.icmpYes X0.here hx rfl (pc0 := 21) (pc' := 26) rfl (hb hby d6_21) rfl (teq hk516).1 (by decide) (by decide) k)
      have G518 : own_Go p.tables e below (s₁.setTop (entryFrame m #[(.ref a0), (.ref a1)] 3)) (s₁.setTop (mkF m 29 #[.val (.ref a0), .val (.ref a1), .val (.int (2 : Int32))] [])) := fun t k => G517 t (XT.iincV X0.here hx rfl (1 : Int32) (hb hby d6_26) (by decide) rfl (l' := #[.val (.ref a0), .val (.ref a1), .val (.int (2 : Int32))]) rfl k)
      have G519 : own_Go p.tables e below (s₁.setTop (entryFrame m #[(.ref a0), (.ref a1)] 3)) (s₁.setTop (mkF m 9 #[.val (.ref a0), .val (.ref a1), .val (.int (2 : Int32))] [])) := fun t k => G518 t (XS.goto X0.here hx rfl (pc0 := 29) (pc' := 9) rfl (hb hby d6_29) (by decide) (by decide) k)
      have G520 : own_Go p.tables e below (s₁.setTop (entryFrame m #[(.ref a0), (.ref a1)] 3)) (s₁.setTop (mkF m 10 #[.val (.ref a0), .val (.ref a1), .val (.int (2 : Int32))] [(.int (2 : Int32))])) := fun t k => G519 t (XS.iloadN X0.here hx rfl (hb hby d6_9) rfl k)
      have G521 : own_Go p.tables e below (s₁.setTop (entryFrame m #[(.ref a0), (.ref a1)] 3)) (s₁.setTop (mkF m 11 #[.val (.ref a0), .val (.ref a1), .val (.int (2 : Int32))] [(.ref a0), (.int (2 : Int32))])) := fun t k => G520 t (XS.aloadN X0.here hx rfl (hb hby d6_10) rfl rfl k)
      have G522 : own_Go p.tables e below (s₁.setTop (entryFrame m #[(.ref a0), (.ref a1)] 3)) (s₁.setTop (mkF m 12 #[.val (.ref a0), .val (.ref a1), .val (.int (2 : Int32))] [(.int (10 : Int32)), (.int (2 : Int32))])) := fun t k => G521 t (X0.arraylength hx (by rw [e0]; exact Ara.1) (State.isArrayOf_alike hZ.alike Ara.2.1) (g := (mkF m 11 #[.val (.ref a0), .val (.ref a1), .val (.int (2 : Int32))] [(.ref a0), (.int (2 : Int32))])) rfl rfl (hb hby d6_11) t (by rw [show cla.slots.size.toInt32 = (10 : Int32) from (len_of Sza Nna).trans (by decide)]; exact k))
      have hk523 : (2 : Int32) < (10 : Int32) := by decide
      have G524 : own_Go p.tables e below (s₁.setTop (entryFrame m #[(.ref a0), (.ref a1)] 3)) (s₁.setTop (mkF m 15 #[.val (.ref a0), .val (.ref a1), .val (.int (2 : Int32))] [])) := fun t k => G522 t (XS.icmpNo X0.here hx rfl (hb hby d6_12) rfl (tlt hk523).2.1 k)
      have G525 : own_Go p.tables e below (s₁.setTop (entryFrame m #[(.ref a0), (.ref a1)] 3)) (s₁.setTop (mkF m 16 #[.val (.ref a0), .val (.ref a1), .val (.int (2 : Int32))] [(.ref a0)])) := fun t k => G524 t (XS.aloadN X0.here hx rfl (hb hby d6_15) rfl rfl k)
      have G526 : own_Go p.tables e below (s₁.setTop (entryFrame m #[(.ref a0), (.ref a1)] 3)) (s₁.setTop (mkF m 17 #[.val (.ref a0), .val (.ref a1), .val (.int (2 : Int32))] [(.int (2 : Int32)), (.ref a0)])) := fun t k => G525 t (XS.iloadN X0.here hx rfl (hb hby d6_16) rfl k)
      have hin527 : ¬ ((2 : Int32) < 0 ∨ cla.slots.size ≤ ((2 : Int32)).toNatClampNeg) := inb_of Sza ⟨by decide, by decide⟩
      have G528 : own_Go p.tables e below (s₁.setTop (entryFrame m #[(.ref a0), (.ref a1)] 3)) (s₁.setTop (mkF m 18 #[.val (.ref a0), .val (.ref a1), .val (.int (2 : Int32))] [(.int (104 : Int32))])) := fun t k => G526 t (X0.baloadBytes hx (by rw [e0]; exact Ara.1) (State.isArrayOf_alike hZ.alike Ara.2.1) Ara.2.2 hin527 (Hsa.at hin527 (by decide)) (g := (mkF m 17 #[.val (.ref a0), .val (.ref a1), .val (.int (2 : Int32))] [(.int (2 : Int32)), (.ref a0)])) rfl rfl (hb hby d6_17) t k)
      have G529 : own_Go p.tables e below (s₁.setTop (entryFrame m #[(.ref a0), (.ref a1)] 3)) (s₁.setTop (mkF m 19 #[.val (.ref a0), .val (.ref a1), .val (.int (2 : Int32))] [(.ref a1), (.int (104 : Int32))])) := fun t k => G528 t (XS.aloadN X0.here hx rfl (hb hby d6_18) rfl rfl k)
      have G530 : own_Go p.tables e below (s₁.setTop (entryFrame m #[(.ref a0), (.ref a1)] 3)) (s₁.setTop (mkF m 20 #[.val (.ref a0), .val (.ref a1), .val (.int (2 : Int32))] [(.int (2 : Int32)), (.ref a1), (.int (104 : Int32))])) := fun t k => G529 t (XS.iloadN X0.here hx rfl (hb hby d6_19) rfl k)
      have hin531 : ¬ ((2 : Int32) < 0 ∨ clb.slots.size ≤ ((2 : Int32)).toNatClampNeg) := inb_of Szb ⟨by decide, by decide⟩
      have G532 : own_Go p.tables e below (s₁.setTop (entryFrame m #[(.ref a0), (.ref a1)] 3)) (s₁.setTop (mkF m 21 #[.val (.ref a0), .val (.ref a1), .val (.int (2 : Int32))] [(.int (104 : Int32)), (.int (104 : Int32))])) := fun t k => G530 t (X0.baloadBytes hx (by rw [e0]; exact Arb.1) (State.isArrayOf_alike hZ.alike Arb.2.1) Arb.2.2 hin531 (Hsb.at hin531 (by decide)) (g := (mkF m 20 #[.val (.ref a0), .val (.ref a1), .val (.int (2 : Int32))] [(.int (2 : Int32)), (.ref a1), (.int (104 : Int32))])) rfl rfl (hb hby d6_20) t k)
      have hk533 : (104 : Int32) = (104 : Int32) := by decide
      have G534 : own_Go p.tables e below (s₁.setTop (entryFrame m #[(.ref a0), (.ref a1)] 3)) (s₁.setTop (mkF m 26 #[.val (.ref a0), .val (.ref a1), .val (.int (2 : Int32))] [])) := fun t k => G532 t (XS.icmpYes X0.here hx rfl (pc0 := 21) (pc' := 26) rfl (hb hby d6_21) rfl (teq hk533).1 (by decide) (by decide) k)
      have G535 : own_Go p.tables e below (s₁.setTop (entryFrame m #[(.ref a0), (.ref a1)] 3)) (s₁.setTop (mkF m 29 #[.val (.ref a0), .val (.ref a1), .val (.int (3 : Int32))] [])) := fun t k => G534 t (XT.iincV X0.here hx rfl (1 : Int32) (hb hby d6_26) (by decide) rfl (l' := #[.val (.ref a0), .val (.ref a1), .val (.int (3 : Int32))]) rfl k)
      have G536 : own_Go p.tables e below (s₁.setTop (entryFrame m #[(.ref a0), (.ref a1)] 3)) (s₁.setTop (mkF m 9 #[.val (.ref a0), .val (.ref a1), .val (.int (3 : Int32))] [])) := fun t k => G535 t (XS.goto X0.here hx rfl (pc0 := 29) (pc' := 9) rfl (hb hby d6_29) (by decide) (by decide) k)
      have G537 : own_Go p.tables e below (s₁.setTop (entryFrame m #[(.ref a0), (.ref a1)] 3)) (s₁.setTop (mkF m 10 #[.val (.ref a0), .val (.ref a1), .val (.int (3 : Int32))] [(.int (3 : Int32))])) := fun t k => G536 t (XS.iloadN X0.here hx rfl (hb hby d6_9) rfl k)
      have G538 : own_Go p.tables e below (s₁.setTop (entryFrame m #[(.ref a0), (.ref a1)] 3)) (s₁.setTop (mkF m 11 #[.val (.ref a0), .val (.ref a1), .val (.int (3 : Int32))] [(.ref a0), (.int (3 : Int32))])) := fun t k => G537 t (XS.aloadN X0.here hx rfl (hb hby d6_10) rfl rfl k)
      have G539 : own_Go p.tables e below (s₁.setTop (entryFrame m #[(.ref a0), (.ref a1)] 3)) (s₁.setTop (mkF m 12 #[.val (.ref a0), .val (.ref a1), .val (.int (3 : Int32))] [(.int (10 : Int32)), (.int (3 : Int32))])) := fun t k => G538 t (X0.arraylength hx (by rw [e0]; exact Ara.1) (State.isArrayOf_alike hZ.alike Ara.2.1) (g := (mkF m 11 #[.val (.ref a0), .val (.ref a1), .val (.int (3 : Int32))] [(.ref a0), (.int (3 : Int32))])) rfl rfl (hb hby d6_11) t (by rw [show cla.slots.size.toInt32 = (10 : Int32) from (len_of Sza Nna).trans (by decide)]; exact k))
      have hk540 : (3 : Int32) < (10 : Int32) := by decide
      have G541 : own_Go p.tables e below (s₁.setTop (entryFrame m #[(.ref a0), (.ref a1)] 3)) (s₁.setTop (mkF m 15 #[.val (.ref a0), .val (.ref a1), .val (.int (3 : Int32))] [])) := fun t k => G539 t (XS.icmpNo X0.here hx rfl (hb hby d6_12) rfl (tlt hk540).2.1 k)
      have G542 : own_Go p.tables e below (s₁.setTop (entryFrame m #[(.ref a0), (.ref a1)] 3)) (s₁.setTop (mkF m 16 #[.val (.ref a0), .val (.ref a1), .val (.int (3 : Int32))] [(.ref a0)])) := fun t k => G541 t (XS.aloadN X0.here hx rfl (hb hby d6_15) rfl rfl k)
      have G543 : own_Go p.tables e below (s₁.setTop (entryFrame m #[(.ref a0), (.ref a1)] 3)) (s₁.setTop (mkF m 17 #[.val (.ref a0), .val (.ref a1), .val (.int (3 : Int32))] [(.int (3 : Int32)), (.ref a0)])) := fun t k => G542 t (XS.iloadN X0.here hx rfl (hb hby d6_16) rfl k)
      have hin544 : ¬ ((3 : Int32) < 0 ∨ cla.slots.size ≤ ((3 : Int32)).toNatClampNeg) := inb_of Sza ⟨by decide, by decide⟩
      have G545 : own_Go p.tables e below (s₁.setTop (entryFrame m #[(.ref a0), (.ref a1)] 3)) (s₁.setTop (mkF m 18 #[.val (.ref a0), .val (.ref a1), .val (.int (3 : Int32))] [(.int (101 : Int32))])) := fun t k => G543 t (X0.baloadBytes hx (by rw [e0]; exact Ara.1) (State.isArrayOf_alike hZ.alike Ara.2.1) Ara.2.2 hin544 (Hsa.at hin544 (by decide)) (g := (mkF m 17 #[.val (.ref a0), .val (.ref a1), .val (.int (3 : Int32))] [(.int (3 : Int32)), (.ref a0)])) rfl rfl (hb hby d6_17) t k)
      have G546 : own_Go p.tables e below (s₁.setTop (entryFrame m #[(.ref a0), (.ref a1)] 3)) (s₁.setTop (mkF m 19 #[.val (.ref a0), .val (.ref a1), .val (.int (3 : Int32))] [(.ref a1), (.int (101 : Int32))])) := fun t k => G545 t (XS.aloadN X0.here hx rfl (hb hby d6_18) rfl rfl k)
      have G547 : own_Go p.tables e below (s₁.setTop (entryFrame m #[(.ref a0), (.ref a1)] 3)) (s₁.setTop (mkF m 20 #[.val (.ref a0), .val (.ref a1), .val (.int (3 : Int32))] [(.int (3 : Int32)), (.ref a1), (.int (101 : Int32))])) := fun t k => G546 t (XS.iloadN X0.here hx rfl (hb hby d6_19) rfl k)
      have hin548 : ¬ ((3 : Int32) < 0 ∨ clb.slots.size ≤ ((3 : Int32)).toNatClampNeg) := inb_of Szb ⟨by decide, by decide⟩
      have G549 : own_Go p.tables e below (s₁.setTop (entryFrame m #[(.ref a0), (.ref a1)] 3)) (s₁.setTop (mkF m 21 #[.val (.ref a0), .val (.ref a1), .val (.int (3 : Int32))] [(.int (101 : Int32)), (.int (101 : Int32))])) := fun t k => G547 t (X0.baloadBytes hx (by rw [e0]; exact Arb.1) (State.isArrayOf_alike hZ.alike Arb.2.1) Arb.2.2 hin548 (Hsb.at hin548 (by decide)) (g := (mkF m 20 #[.val (.ref a0), .val (.ref a1), .val (.int (3 : Int32))] [(.int (3 : Int32)), (.ref a1), (.int (101 : Int32))])) rfl rfl (hb hby d6_20) t k)
      have hk550 : (101 : Int32) = (101 : Int32) := by decide
      have G551 : own_Go p.tables e below (s₁.setTop (entryFrame m #[(.ref a0), (.ref a1)] 3)) (s₁.setTop (mkF m 26 #[.val (.ref a0), .val (.ref a1), .val (.int (3 : Int32))] [])) := fun t k => G549 t (XS.icmpYes X0.here hx rfl (pc0 := 21) (pc' := 26) rfl (hb hby d6_21) rfl (teq hk550).1 (by decide) (by decide) k)
      have G552 : own_Go p.tables e below (s₁.setTop (entryFrame m #[(.ref a0), (.ref a1)] 3)) (s₁.setTop (mkF m 29 #[.val (.ref a0), .val (.ref a1), .val (.int (4 : Int32))] [])) := fun t k => G551 t (XT.iincV X0.here hx rfl (1 : Int32) (hb hby d6_26) (by decide) rfl (l' := #[.val (.ref a0), .val (.ref a1), .val (.int (4 : Int32))]) rfl k)
      have G553 : own_Go p.tables e below (s₁.setTop (entryFrame m #[(.ref a0), (.ref a1)] 3)) (s₁.setTop (mkF m 9 #[.val (.ref a0), .val (.ref a1), .val (.int (4 : Int32))] [])) := fun t k => G552 t (XS.goto X0.here hx rfl (pc0 := 29) (pc' := 9) rfl (hb hby d6_29) (by decide) (by decide) k)
      have G554 : own_Go p.tables e below (s₁.setTop (entryFrame m #[(.ref a0), (.ref a1)] 3)) (s₁.setTop (mkF m 10 #[.val (.ref a0), .val (.ref a1), .val (.int (4 : Int32))] [(.int (4 : Int32))])) := fun t k => G553 t (XS.iloadN X0.here hx rfl (hb hby d6_9) rfl k)
      have G555 : own_Go p.tables e below (s₁.setTop (entryFrame m #[(.ref a0), (.ref a1)] 3)) (s₁.setTop (mkF m 11 #[.val (.ref a0), .val (.ref a1), .val (.int (4 : Int32))] [(.ref a0), (.int (4 : Int32))])) := fun t k => G554 t (XS.aloadN X0.here hx rfl (hb hby d6_10) rfl rfl k)
      have G556 : own_Go p.tables e below (s₁.setTop (entryFrame m #[(.ref a0), (.ref a1)] 3)) (s₁.setTop (mkF m 12 #[.val (.ref a0), .val (.ref a1), .val (.int (4 : Int32))] [(.int (10 : Int32)), (.int (4 : Int32))])) := fun t k => G555 t (X0.arraylength hx (by rw [e0]; exact Ara.1) (State.isArrayOf_alike hZ.alike Ara.2.1) (g := (mkF m 11 #[.val (.ref a0), .val (.ref a1), .val (.int (4 : Int32))] [(.ref a0), (.int (4 : Int32))])) rfl rfl (hb hby d6_11) t (by rw [show cla.slots.size.toInt32 = (10 : Int32) from (len_of Sza Nna).trans (by decide)]; exact k))
      have hk557 : (4 : Int32) < (10 : Int32) := by decide
      have G558 : own_Go p.tables e below (s₁.setTop (entryFrame m #[(.ref a0), (.ref a1)] 3)) (s₁.setTop (mkF m 15 #[.val (.ref a0), .val (.ref a1), .val (.int (4 : Int32))] [])) := fun t k => G556 t (XS.icmpNo X0.here hx rfl (hb hby d6_12) rfl (tlt hk557).2.1 k)
      have G559 : own_Go p.tables e below (s₁.setTop (entryFrame m #[(.ref a0), (.ref a1)] 3)) (s₁.setTop (mkF m 16 #[.val (.ref a0), .val (.ref a1), .val (.int (4 : Int32))] [(.ref a0)])) := fun t k => G558 t (XS.aloadN X0.here hx rfl (hb hby d6_15) rfl rfl k)
      have G560 : own_Go p.tables e below (s₁.setTop (entryFrame m #[(.ref a0), (.ref a1)] 3)) (s₁.setTop (mkF m 17 #[.val (.ref a0), .val (.ref a1), .val (.int (4 : Int32))] [(.int (4 : Int32)), (.ref a0)])) := fun t k => G559 t (XS.iloadN X0.here hx rfl (hb hby d6_16) rfl k)
      have hin561 : ¬ ((4 : Int32) < 0 ∨ cla.slots.size ≤ ((4 : Int32)).toNatClampNeg) := inb_of Sza ⟨by decide, by decide⟩
      have G562 : own_Go p.tables e below (s₁.setTop (entryFrame m #[(.ref a0), (.ref a1)] 3)) (s₁.setTop (mkF m 18 #[.val (.ref a0), .val (.ref a1), .val (.int (4 : Int32))] [(.int (114 : Int32))])) := fun t k => G560 t (X0.baloadBytes hx (by rw [e0]; exact Ara.1) (State.isArrayOf_alike hZ.alike Ara.2.1) Ara.2.2 hin561 (Hsa.at hin561 (by decide)) (g := (mkF m 17 #[.val (.ref a0), .val (.ref a1), .val (.int (4 : Int32))] [(.int (4 : Int32)), (.ref a0)])) rfl rfl (hb hby d6_17) t k)
      have G563 : own_Go p.tables e below (s₁.setTop (entryFrame m #[(.ref a0), (.ref a1)] 3)) (s₁.setTop (mkF m 19 #[.val (.ref a0), .val (.ref a1), .val (.int (4 : Int32))] [(.ref a1), (.int (114 : Int32))])) := fun t k => G562 t (XS.aloadN X0.here hx rfl (hb hby d6_18) rfl rfl k)
      have G564 : own_Go p.tables e below (s₁.setTop (entryFrame m #[(.ref a0), (.ref a1)] 3)) (s₁.setTop (mkF m 20 #[.val (.ref a0), .val (.ref a1), .val (.int (4 : Int32))] [(.int (4 : Int32)), (.ref a1), (.int (114 : Int32))])) := fun t k => G563 t (XS.iloadN X0.here hx rfl (hb hby d6_19) rfl k)
      have hin565 : ¬ ((4 : Int32) < 0 ∨ clb.slots.size ≤ ((4 : Int32)).toNatClampNeg) := inb_of Szb ⟨by decide, by decide⟩
      have G566 : own_Go p.tables e below (s₁.setTop (entryFrame m #[(.ref a0), (.ref a1)] 3)) (s₁.setTop (mkF m 21 #[.val (.ref a0), .val (.ref a1), .val (.int (4 : Int32))] [(.int (114 : Int32)), (.int (114 : Int32))])) := fun t k => G564 t (X0.baloadBytes hx (by rw [e0]; exact Arb.1) (State.isArrayOf_alike hZ.alike Arb.2.1) Arb.2.2 hin565 (Hsb.at hin565 (by decide)) (g := (mkF m 20 #[.val (.ref a0), .val (.ref a1), .val (.int (4 : Int32))] [(.int (4 : Int32)), (.ref a1), (.int (114 : Int32))])) rfl rfl (hb hby d6_20) t k)
      have hk567 : (114 : Int32) = (114 : Int32) := by decide
      have G568 : own_Go p.tables e below (s₁.setTop (entryFrame m #[(.ref a0), (.ref a1)] 3)) (s₁.setTop (mkF m 26 #[.val (.ref a0), .val (.ref a1), .val (.int (4 : Int32))] [])) := fun t k => G566 t (XS.icmpYes X0.here hx rfl (pc0 := 21) (pc' := 26) rfl (hb hby d6_21) rfl (teq hk567).1 (by decide) (by decide) k)
      have G569 : own_Go p.tables e below (s₁.setTop (entryFrame m #[(.ref a0), (.ref a1)] 3)) (s₁.setTop (mkF m 29 #[.val (.ref a0), .val (.ref a1), .val (.int (5 : Int32))] [])) := fun t k => G568 t (XT.iincV X0.here hx rfl (1 : Int32) (hb hby d6_26) (by decide) rfl (l' := #[.val (.ref a0), .val (.ref a1), .val (.int (5 : Int32))]) rfl k)
      have G570 : own_Go p.tables e below (s₁.setTop (entryFrame m #[(.ref a0), (.ref a1)] 3)) (s₁.setTop (mkF m 9 #[.val (.ref a0), .val (.ref a1), .val (.int (5 : Int32))] [])) := fun t k => G569 t (XS.goto X0.here hx rfl (pc0 := 29) (pc' := 9) rfl (hb hby d6_29) (by decide) (by decide) k)
      have G571 : own_Go p.tables e below (s₁.setTop (entryFrame m #[(.ref a0), (.ref a1)] 3)) (s₁.setTop (mkF m 10 #[.val (.ref a0), .val (.ref a1), .val (.int (5 : Int32))] [(.int (5 : Int32))])) := fun t k => G570 t (XS.iloadN X0.here hx rfl (hb hby d6_9) rfl k)
      have G572 : own_Go p.tables e below (s₁.setTop (entryFrame m #[(.ref a0), (.ref a1)] 3)) (s₁.setTop (mkF m 11 #[.val (.ref a0), .val (.ref a1), .val (.int (5 : Int32))] [(.ref a0), (.int (5 : Int32))])) := fun t k => G571 t (XS.aloadN X0.here hx rfl (hb hby d6_10) rfl rfl k)
      have G573 : own_Go p.tables e below (s₁.setTop (entryFrame m #[(.ref a0), (.ref a1)] 3)) (s₁.setTop (mkF m 12 #[.val (.ref a0), .val (.ref a1), .val (.int (5 : Int32))] [(.int (10 : Int32)), (.int (5 : Int32))])) := fun t k => G572 t (X0.arraylength hx (by rw [e0]; exact Ara.1) (State.isArrayOf_alike hZ.alike Ara.2.1) (g := (mkF m 11 #[.val (.ref a0), .val (.ref a1), .val (.int (5 : Int32))] [(.ref a0), (.int (5 : Int32))])) rfl rfl (hb hby d6_11) t (by rw [show cla.slots.size.toInt32 = (10 : Int32) from (len_of Sza Nna).trans (by decide)]; exact k))
      have hk574 : (5 : Int32) < (10 : Int32) := by decide
      have G575 : own_Go p.tables e below (s₁.setTop (entryFrame m #[(.ref a0), (.ref a1)] 3)) (s₁.setTop (mkF m 15 #[.val (.ref a0), .val (.ref a1), .val (.int (5 : Int32))] [])) := fun t k => G573 t (XS.icmpNo X0.here hx rfl (hb hby d6_12) rfl (tlt hk574).2.1 k)
      have G576 : own_Go p.tables e below (s₁.setTop (entryFrame m #[(.ref a0), (.ref a1)] 3)) (s₁.setTop (mkF m 16 #[.val (.ref a0), .val (.ref a1), .val (.int (5 : Int32))] [(.ref a0)])) := fun t k => G575 t (XS.aloadN X0.here hx rfl (hb hby d6_15) rfl rfl k)
      have G577 : own_Go p.tables e below (s₁.setTop (entryFrame m #[(.ref a0), (.ref a1)] 3)) (s₁.setTop (mkF m 17 #[.val (.ref a0), .val (.ref a1), .val (.int (5 : Int32))] [(.int (5 : Int32)), (.ref a0)])) := fun t k => G576 t (XS.iloadN X0.here hx rfl (hb hby d6_16) rfl k)
      have hin578 : ¬ ((5 : Int32) < 0 ∨ cla.slots.size ≤ ((5 : Int32)).toNatClampNeg) := inb_of Sza ⟨by decide, by decide⟩
      have G579 : own_Go p.tables e below (s₁.setTop (entryFrame m #[(.ref a0), (.ref a1)] 3)) (s₁.setTop (mkF m 18 #[.val (.ref a0), .val (.ref a1), .val (.int (5 : Int32))] [(.int (45 : Int32))])) := fun t k => G577 t (X0.baloadBytes hx (by rw [e0]; exact Ara.1) (State.isArrayOf_alike hZ.alike Ara.2.1) Ara.2.2 hin578 (Hsa.at hin578 (by decide)) (g := (mkF m 17 #[.val (.ref a0), .val (.ref a1), .val (.int (5 : Int32))] [(.int (5 : Int32)), (.ref a0)])) rfl rfl (hb hby d6_17) t k)
      have G580 : own_Go p.tables e below (s₁.setTop (entryFrame m #[(.ref a0), (.ref a1)] 3)) (s₁.setTop (mkF m 19 #[.val (.ref a0), .val (.ref a1), .val (.int (5 : Int32))] [(.ref a1), (.int (45 : Int32))])) := fun t k => G579 t (XS.aloadN X0.here hx rfl (hb hby d6_18) rfl rfl k)
      have G581 : own_Go p.tables e below (s₁.setTop (entryFrame m #[(.ref a0), (.ref a1)] 3)) (s₁.setTop (mkF m 20 #[.val (.ref a0), .val (.ref a1), .val (.int (5 : Int32))] [(.int (5 : Int32)), (.ref a1), (.int (45 : Int32))])) := fun t k => G580 t (XS.iloadN X0.here hx rfl (hb hby d6_19) rfl k)
      have hin582 : ¬ ((5 : Int32) < 0 ∨ clb.slots.size ≤ ((5 : Int32)).toNatClampNeg) := inb_of Szb ⟨by decide, by decide⟩
      have G583 : own_Go p.tables e below (s₁.setTop (entryFrame m #[(.ref a0), (.ref a1)] 3)) (s₁.setTop (mkF m 21 #[.val (.ref a0), .val (.ref a1), .val (.int (5 : Int32))] [(.int (45 : Int32)), (.int (45 : Int32))])) := fun t k => G581 t (X0.baloadBytes hx (by rw [e0]; exact Arb.1) (State.isArrayOf_alike hZ.alike Arb.2.1) Arb.2.2 hin582 (Hsb.at hin582 (by decide)) (g := (mkF m 20 #[.val (.ref a0), .val (.ref a1), .val (.int (5 : Int32))] [(.int (5 : Int32)), (.ref a1), (.int (45 : Int32))])) rfl rfl (hb hby d6_20) t k)
      have hk584 : (45 : Int32) = (45 : Int32) := by decide
      have G585 : own_Go p.tables e below (s₁.setTop (entryFrame m #[(.ref a0), (.ref a1)] 3)) (s₁.setTop (mkF m 26 #[.val (.ref a0), .val (.ref a1), .val (.int (5 : Int32))] [])) := fun t k => G583 t (XS.icmpYes X0.here hx rfl (pc0 := 21) (pc' := 26) rfl (hb hby d6_21) rfl (teq hk584).1 (by decide) (by decide) k)
      have G586 : own_Go p.tables e below (s₁.setTop (entryFrame m #[(.ref a0), (.ref a1)] 3)) (s₁.setTop (mkF m 29 #[.val (.ref a0), .val (.ref a1), .val (.int (6 : Int32))] [])) := fun t k => G585 t (XT.iincV X0.here hx rfl (1 : Int32) (hb hby d6_26) (by decide) rfl (l' := #[.val (.ref a0), .val (.ref a1), .val (.int (6 : Int32))]) rfl k)
      have G587 : own_Go p.tables e below (s₁.setTop (entryFrame m #[(.ref a0), (.ref a1)] 3)) (s₁.setTop (mkF m 9 #[.val (.ref a0), .val (.ref a1), .val (.int (6 : Int32))] [])) := fun t k => G586 t (XS.goto X0.here hx rfl (pc0 := 29) (pc' := 9) rfl (hb hby d6_29) (by decide) (by decide) k)
      have G588 : own_Go p.tables e below (s₁.setTop (entryFrame m #[(.ref a0), (.ref a1)] 3)) (s₁.setTop (mkF m 10 #[.val (.ref a0), .val (.ref a1), .val (.int (6 : Int32))] [(.int (6 : Int32))])) := fun t k => G587 t (XS.iloadN X0.here hx rfl (hb hby d6_9) rfl k)
      have G589 : own_Go p.tables e below (s₁.setTop (entryFrame m #[(.ref a0), (.ref a1)] 3)) (s₁.setTop (mkF m 11 #[.val (.ref a0), .val (.ref a1), .val (.int (6 : Int32))] [(.ref a0), (.int (6 : Int32))])) := fun t k => G588 t (XS.aloadN X0.here hx rfl (hb hby d6_10) rfl rfl k)
      have G590 : own_Go p.tables e below (s₁.setTop (entryFrame m #[(.ref a0), (.ref a1)] 3)) (s₁.setTop (mkF m 12 #[.val (.ref a0), .val (.ref a1), .val (.int (6 : Int32))] [(.int (10 : Int32)), (.int (6 : Int32))])) := fun t k => G589 t (X0.arraylength hx (by rw [e0]; exact Ara.1) (State.isArrayOf_alike hZ.alike Ara.2.1) (g := (mkF m 11 #[.val (.ref a0), .val (.ref a1), .val (.int (6 : Int32))] [(.ref a0), (.int (6 : Int32))])) rfl rfl (hb hby d6_11) t (by rw [show cla.slots.size.toInt32 = (10 : Int32) from (len_of Sza Nna).trans (by decide)]; exact k))
      have hk591 : (6 : Int32) < (10 : Int32) := by decide
      have G592 : own_Go p.tables e below (s₁.setTop (entryFrame m #[(.ref a0), (.ref a1)] 3)) (s₁.setTop (mkF m 15 #[.val (.ref a0), .val (.ref a1), .val (.int (6 : Int32))] [])) := fun t k => G590 t (XS.icmpNo X0.here hx rfl (hb hby d6_12) rfl (tlt hk591).2.1 k)
      have G593 : own_Go p.tables e below (s₁.setTop (entryFrame m #[(.ref a0), (.ref a1)] 3)) (s₁.setTop (mkF m 16 #[.val (.ref a0), .val (.ref a1), .val (.int (6 : Int32))] [(.ref a0)])) := fun t k => G592 t (XS.aloadN X0.here hx rfl (hb hby d6_15) rfl rfl k)
      have G594 : own_Go p.tables e below (s₁.setTop (entryFrame m #[(.ref a0), (.ref a1)] 3)) (s₁.setTop (mkF m 17 #[.val (.ref a0), .val (.ref a1), .val (.int (6 : Int32))] [(.int (6 : Int32)), (.ref a0)])) := fun t k => G593 t (XS.iloadN X0.here hx rfl (hb hby d6_16) rfl k)
      have hin595 : ¬ ((6 : Int32) < 0 ∨ cla.slots.size ≤ ((6 : Int32)).toNatClampNeg) := inb_of Sza ⟨by decide, by decide⟩
      have G596 : own_Go p.tables e below (s₁.setTop (entryFrame m #[(.ref a0), (.ref a1)] 3)) (s₁.setTop (mkF m 18 #[.val (.ref a0), .val (.ref a1), .val (.int (6 : Int32))] [(.int (114 : Int32))])) := fun t k => G594 t (X0.baloadBytes hx (by rw [e0]; exact Ara.1) (State.isArrayOf_alike hZ.alike Ara.2.1) Ara.2.2 hin595 (Hsa.at hin595 (by decide)) (g := (mkF m 17 #[.val (.ref a0), .val (.ref a1), .val (.int (6 : Int32))] [(.int (6 : Int32)), (.ref a0)])) rfl rfl (hb hby d6_17) t k)
      have G597 : own_Go p.tables e below (s₁.setTop (entryFrame m #[(.ref a0), (.ref a1)] 3)) (s₁.setTop (mkF m 19 #[.val (.ref a0), .val (.ref a1), .val (.int (6 : Int32))] [(.ref a1), (.int (114 : Int32))])) := fun t k => G596 t (XS.aloadN X0.here hx rfl (hb hby d6_18) rfl rfl k)
      have G598 : own_Go p.tables e below (s₁.setTop (entryFrame m #[(.ref a0), (.ref a1)] 3)) (s₁.setTop (mkF m 20 #[.val (.ref a0), .val (.ref a1), .val (.int (6 : Int32))] [(.int (6 : Int32)), (.ref a1), (.int (114 : Int32))])) := fun t k => G597 t (XS.iloadN X0.here hx rfl (hb hby d6_19) rfl k)
      have hin599 : ¬ ((6 : Int32) < 0 ∨ clb.slots.size ≤ ((6 : Int32)).toNatClampNeg) := inb_of Szb ⟨by decide, by decide⟩
      have G600 : own_Go p.tables e below (s₁.setTop (entryFrame m #[(.ref a0), (.ref a1)] 3)) (s₁.setTop (mkF m 21 #[.val (.ref a0), .val (.ref a1), .val (.int (6 : Int32))] [(.int (114 : Int32)), (.int (114 : Int32))])) := fun t k => G598 t (X0.baloadBytes hx (by rw [e0]; exact Arb.1) (State.isArrayOf_alike hZ.alike Arb.2.1) Arb.2.2 hin599 (Hsb.at hin599 (by decide)) (g := (mkF m 20 #[.val (.ref a0), .val (.ref a1), .val (.int (6 : Int32))] [(.int (6 : Int32)), (.ref a1), (.int (114 : Int32))])) rfl rfl (hb hby d6_20) t k)
      have hk601 : (114 : Int32) = (114 : Int32) := by decide
      have G602 : own_Go p.tables e below (s₁.setTop (entryFrame m #[(.ref a0), (.ref a1)] 3)) (s₁.setTop (mkF m 26 #[.val (.ref a0), .val (.ref a1), .val (.int (6 : Int32))] [])) := fun t k => G600 t (XS.icmpYes X0.here hx rfl (pc0 := 21) (pc' := 26) rfl (hb hby d6_21) rfl (teq hk601).1 (by decide) (by decide) k)
      have G603 : own_Go p.tables e below (s₁.setTop (entryFrame m #[(.ref a0), (.ref a1)] 3)) (s₁.setTop (mkF m 29 #[.val (.ref a0), .val (.ref a1), .val (.int (7 : Int32))] [])) := fun t k => G602 t (XT.iincV X0.here hx rfl (1 : Int32) (hb hby d6_26) (by decide) rfl (l' := #[.val (.ref a0), .val (.ref a1), .val (.int (7 : Int32))]) rfl k)
      have G604 : own_Go p.tables e below (s₁.setTop (entryFrame m #[(.ref a0), (.ref a1)] 3)) (s₁.setTop (mkF m 9 #[.val (.ref a0), .val (.ref a1), .val (.int (7 : Int32))] [])) := fun t k => G603 t (XS.goto X0.here hx rfl (pc0 := 29) (pc' := 9) rfl (hb hby d6_29) (by decide) (by decide) k)
      have G605 : own_Go p.tables e below (s₁.setTop (entryFrame m #[(.ref a0), (.ref a1)] 3)) (s₁.setTop (mkF m 10 #[.val (.ref a0), .val (.ref a1), .val (.int (7 : Int32))] [(.int (7 : Int32))])) := fun t k => G604 t (XS.iloadN X0.here hx rfl (hb hby d6_9) rfl k)
      have G606 : own_Go p.tables e below (s₁.setTop (entryFrame m #[(.ref a0), (.ref a1)] 3)) (s₁.setTop (mkF m 11 #[.val (.ref a0), .val (.ref a1), .val (.int (7 : Int32))] [(.ref a0), (.int (7 : Int32))])) := fun t k => G605 t (XS.aloadN X0.here hx rfl (hb hby d6_10) rfl rfl k)
      have G607 : own_Go p.tables e below (s₁.setTop (entryFrame m #[(.ref a0), (.ref a1)] 3)) (s₁.setTop (mkF m 12 #[.val (.ref a0), .val (.ref a1), .val (.int (7 : Int32))] [(.int (10 : Int32)), (.int (7 : Int32))])) := fun t k => G606 t (X0.arraylength hx (by rw [e0]; exact Ara.1) (State.isArrayOf_alike hZ.alike Ara.2.1) (g := (mkF m 11 #[.val (.ref a0), .val (.ref a1), .val (.int (7 : Int32))] [(.ref a0), (.int (7 : Int32))])) rfl rfl (hb hby d6_11) t (by rw [show cla.slots.size.toInt32 = (10 : Int32) from (len_of Sza Nna).trans (by decide)]; exact k))
      have hk608 : (7 : Int32) < (10 : Int32) := by decide
      have G609 : own_Go p.tables e below (s₁.setTop (entryFrame m #[(.ref a0), (.ref a1)] 3)) (s₁.setTop (mkF m 15 #[.val (.ref a0), .val (.ref a1), .val (.int (7 : Int32))] [])) := fun t k => G607 t (XS.icmpNo X0.here hx rfl (hb hby d6_12) rfl (tlt hk608).2.1 k)
      have G610 : own_Go p.tables e below (s₁.setTop (entryFrame m #[(.ref a0), (.ref a1)] 3)) (s₁.setTop (mkF m 16 #[.val (.ref a0), .val (.ref a1), .val (.int (7 : Int32))] [(.ref a0)])) := fun t k => G609 t (XS.aloadN X0.here hx rfl (hb hby d6_15) rfl rfl k)
      have G611 : own_Go p.tables e below (s₁.setTop (entryFrame m #[(.ref a0), (.ref a1)] 3)) (s₁.setTop (mkF m 17 #[.val (.ref a0), .val (.ref a1), .val (.int (7 : Int32))] [(.int (7 : Int32)), (.ref a0)])) := fun t k => G610 t (XS.iloadN X0.here hx rfl (hb hby d6_16) rfl k)
      have hin612 : ¬ ((7 : Int32) < 0 ∨ cla.slots.size ≤ ((7 : Int32)).toNatClampNeg) := inb_of Sza ⟨by decide, by decide⟩
      have G613 : own_Go p.tables e below (s₁.setTop (entryFrame m #[(.ref a0), (.ref a1)] 3)) (s₁.setTop (mkF m 18 #[.val (.ref a0), .val (.ref a1), .val (.int (7 : Int32))] [(.int (101 : Int32))])) := fun t k => G611 t (X0.baloadBytes hx (by rw [e0]; exact Ara.1) (State.isArrayOf_alike hZ.alike Ara.2.1) Ara.2.2 hin612 (Hsa.at hin612 (by decide)) (g := (mkF m 17 #[.val (.ref a0), .val (.ref a1), .val (.int (7 : Int32))] [(.int (7 : Int32)), (.ref a0)])) rfl rfl (hb hby d6_17) t k)
      have G614 : own_Go p.tables e below (s₁.setTop (entryFrame m #[(.ref a0), (.ref a1)] 3)) (s₁.setTop (mkF m 19 #[.val (.ref a0), .val (.ref a1), .val (.int (7 : Int32))] [(.ref a1), (.int (101 : Int32))])) := fun t k => G613 t (XS.aloadN X0.here hx rfl (hb hby d6_18) rfl rfl k)
      have G615 : own_Go p.tables e below (s₁.setTop (entryFrame m #[(.ref a0), (.ref a1)] 3)) (s₁.setTop (mkF m 20 #[.val (.ref a0), .val (.ref a1), .val (.int (7 : Int32))] [(.int (7 : Int32)), (.ref a1), (.int (101 : Int32))])) := fun t k => G614 t (XS.iloadN X0.here hx rfl (hb hby d6_19) rfl k)
      have hin616 : ¬ ((7 : Int32) < 0 ∨ clb.slots.size ≤ ((7 : Int32)).toNatClampNeg) := inb_of Szb ⟨by decide, by decide⟩
      have G617 : own_Go p.tables e below (s₁.setTop (entryFrame m #[(.ref a0), (.ref a1)] 3)) (s₁.setTop (mkF m 21 #[.val (.ref a0), .val (.ref a1), .val (.int (7 : Int32))] [(.int (101 : Int32)), (.int (101 : Int32))])) := fun t k => G615 t (X0.baloadBytes hx (by rw [e0]; exact Arb.1) (State.isArrayOf_alike hZ.alike Arb.2.1) Arb.2.2 hin616 (Hsb.at hin616 (by decide)) (g := (mkF m 20 #[.val (.ref a0), .val (.ref a1), .val (.int (7 : Int32))] [(.int (7 : Int32)), (.ref a1), (.int (101 : Int32))])) rfl rfl (hb hby d6_20) t k)
      have hk618 : (101 : Int32) = (101 : Int32) := by decide
      have G619 : own_Go p.tables e below (s₁.setTop (entryFrame m #[(.ref a0), (.ref a1)] 3)) (s₁.setTop (mkF m 26 #[.val (.ref a0), .val (.ref a1), .val (.int (7 : Int32))] [])) := fun t k => G617 t (XS.icmpYes X0.here hx rfl (pc0 := 21) (pc' := 26) rfl (hb hby d6_21) rfl (teq hk618).1 (by decide) (by decide) k)
      have G620 : own_Go p.tables e below (s₁.setTop (entryFrame m #[(.ref a0), (.ref a1)] 3)) (s₁.setTop (mkF m 29 #[.val (.ref a0), .val (.ref a1), .val (.int (8 : Int32))] [])) := fun t k => G619 t (XT.iincV X0.here hx rfl (1 : Int32) (hb hby d6_26) (by decide) rfl (l' := #[.val (.ref a0), .val (.ref a1), .val (.int (8 : Int32))]) rfl k)
      have G621 : own_Go p.tables e below (s₁.setTop (entryFrame m #[(.ref a0), (.ref a1)] 3)) (s₁.setTop (mkF m 9 #[.val (.ref a0), .val (.ref a1), .val (.int (8 : Int32))] [])) := fun t k => G620 t (XS.goto X0.here hx rfl (pc0 := 29) (pc' := 9) rfl (hb hby d6_29) (by decide) (by decide) k)
      have G622 : own_Go p.tables e below (s₁.setTop (entryFrame m #[(.ref a0), (.ref a1)] 3)) (s₁.setTop (mkF m 10 #[.val (.ref a0), .val (.ref a1), .val (.int (8 : Int32))] [(.int (8 : Int32))])) := fun t k => G621 t (XS.iloadN X0.here hx rfl (hb hby d6_9) rfl k)
      have G623 : own_Go p.tables e below (s₁.setTop (entryFrame m #[(.ref a0), (.ref a1)] 3)) (s₁.setTop (mkF m 11 #[.val (.ref a0), .val (.ref a1), .val (.int (8 : Int32))] [(.ref a0), (.int (8 : Int32))])) := fun t k => G622 t (XS.aloadN X0.here hx rfl (hb hby d6_10) rfl rfl k)
      have G624 : own_Go p.tables e below (s₁.setTop (entryFrame m #[(.ref a0), (.ref a1)] 3)) (s₁.setTop (mkF m 12 #[.val (.ref a0), .val (.ref a1), .val (.int (8 : Int32))] [(.int (10 : Int32)), (.int (8 : Int32))])) := fun t k => G623 t (X0.arraylength hx (by rw [e0]; exact Ara.1) (State.isArrayOf_alike hZ.alike Ara.2.1) (g := (mkF m 11 #[.val (.ref a0), .val (.ref a1), .val (.int (8 : Int32))] [(.ref a0), (.int (8 : Int32))])) rfl rfl (hb hby d6_11) t (by rw [show cla.slots.size.toInt32 = (10 : Int32) from (len_of Sza Nna).trans (by decide)]; exact k))
      have hk625 : (8 : Int32) < (10 : Int32) := by decide
      have G626 : own_Go p.tables e below (s₁.setTop (entryFrame m #[(.ref a0), (.ref a1)] 3)) (s₁.setTop (mkF m 15 #[.val (.ref a0), .val (.ref a1), .val (.int (8 : Int32))] [])) := fun t k => G624 t (XS.icmpNo X0.here hx rfl (hb hby d6_12) rfl (tlt hk625).2.1 k)
      have G627 : own_Go p.tables e below (s₁.setTop (entryFrame m #[(.ref a0), (.ref a1)] 3)) (s₁.setTop (mkF m 16 #[.val (.ref a0), .val (.ref a1), .val (.int (8 : Int32))] [(.ref a0)])) := fun t k => G626 t (XS.aloadN X0.here hx rfl (hb hby d6_15) rfl rfl k)
      have G628 : own_Go p.tables e below (s₁.setTop (entryFrame m #[(.ref a0), (.ref a1)] 3)) (s₁.setTop (mkF m 17 #[.val (.ref a0), .val (.ref a1), .val (.int (8 : Int32))] [(.int (8 : Int32)), (.ref a0)])) := fun t k => G627 t (XS.iloadN X0.here hx rfl (hb hby d6_16) rfl k)
      have hin629 : ¬ ((8 : Int32) < 0 ∨ cla.slots.size ≤ ((8 : Int32)).toNatClampNeg) := inb_of Sza ⟨by decide, by decide⟩
      have G630 : own_Go p.tables e below (s₁.setTop (entryFrame m #[(.ref a0), (.ref a1)] 3)) (s₁.setTop (mkF m 18 #[.val (.ref a0), .val (.ref a1), .val (.int (8 : Int32))] [(.int (97 : Int32))])) := fun t k => G628 t (X0.baloadBytes hx (by rw [e0]; exact Ara.1) (State.isArrayOf_alike hZ.alike Ara.2.1) Ara.2.2 hin629 (Hsa.at hin629 (by decide)) (g := (mkF m 17 #[.val (.ref a0), .val (.ref a1), .val (.int (8 : Int32))] [(.int (8 : Int32)), (.ref a0)])) rfl rfl (hb hby d6_17) t k)
      have G631 : own_Go p.tables e below (s₁.setTop (entryFrame m #[(.ref a0), (.ref a1)] 3)) (s₁.setTop (mkF m 19 #[.val (.ref a0), .val (.ref a1), .val (.int (8 : Int32))] [(.ref a1), (.int (97 : Int32))])) := fun t k => G630 t (XS.aloadN X0.here hx rfl (hb hby d6_18) rfl rfl k)
      have G632 : own_Go p.tables e below (s₁.setTop (entryFrame m #[(.ref a0), (.ref a1)] 3)) (s₁.setTop (mkF m 20 #[.val (.ref a0), .val (.ref a1), .val (.int (8 : Int32))] [(.int (8 : Int32)), (.ref a1), (.int (97 : Int32))])) := fun t k => G631 t (XS.iloadN X0.here hx rfl (hb hby d6_19) rfl k)
      have hin633 : ¬ ((8 : Int32) < 0 ∨ clb.slots.size ≤ ((8 : Int32)).toNatClampNeg) := inb_of Szb ⟨by decide, by decide⟩
      have G634 : own_Go p.tables e below (s₁.setTop (entryFrame m #[(.ref a0), (.ref a1)] 3)) (s₁.setTop (mkF m 21 #[.val (.ref a0), .val (.ref a1), .val (.int (8 : Int32))] [(.int (97 : Int32)), (.int (97 : Int32))])) := fun t k => G632 t (X0.baloadBytes hx (by rw [e0]; exact Arb.1) (State.isArrayOf_alike hZ.alike Arb.2.1) Arb.2.2 hin633 (Hsb.at hin633 (by decide)) (g := (mkF m 20 #[.val (.ref a0), .val (.ref a1), .val (.int (8 : Int32))] [(.int (8 : Int32)), (.ref a1), (.int (97 : Int32))])) rfl rfl (hb hby d6_20) t k)
      have hk635 : (97 : Int32) = (97 : Int32) := by decide
      have G636 : own_Go p.tables e below (s₁.setTop (entryFrame m #[(.ref a0), (.ref a1)] 3)) (s₁.setTop (mkF m 26 #[.val (.ref a0), .val (.ref a1), .val (.int (8 : Int32))] [])) := fun t k => G634 t (XS.icmpYes X0.here hx rfl (pc0 := 21) (pc' := 26) rfl (hb hby d6_21) rfl (teq hk635).1 (by decide) (by decide) k)
      have G637 : own_Go p.tables e below (s₁.setTop (entryFrame m #[(.ref a0), (.ref a1)] 3)) (s₁.setTop (mkF m 29 #[.val (.ref a0), .val (.ref a1), .val (.int (9 : Int32))] [])) := fun t k => G636 t (XT.iincV X0.here hx rfl (1 : Int32) (hb hby d6_26) (by decide) rfl (l' := #[.val (.ref a0), .val (.ref a1), .val (.int (9 : Int32))]) rfl k)
      have G638 : own_Go p.tables e below (s₁.setTop (entryFrame m #[(.ref a0), (.ref a1)] 3)) (s₁.setTop (mkF m 9 #[.val (.ref a0), .val (.ref a1), .val (.int (9 : Int32))] [])) := fun t k => G637 t (XS.goto X0.here hx rfl (pc0 := 29) (pc' := 9) rfl (hb hby d6_29) (by decide) (by decide) k)
      have G639 : own_Go p.tables e below (s₁.setTop (entryFrame m #[(.ref a0), (.ref a1)] 3)) (s₁.setTop (mkF m 10 #[.val (.ref a0), .val (.ref a1), .val (.int (9 : Int32))] [(.int (9 : Int32))])) := fun t k => G638 t (XS.iloadN X0.here hx rfl (hb hby d6_9) rfl k)
      have G640 : own_Go p.tables e below (s₁.setTop (entryFrame m #[(.ref a0), (.ref a1)] 3)) (s₁.setTop (mkF m 11 #[.val (.ref a0), .val (.ref a1), .val (.int (9 : Int32))] [(.ref a0), (.int (9 : Int32))])) := fun t k => G639 t (XS.aloadN X0.here hx rfl (hb hby d6_10) rfl rfl k)
      have G641 : own_Go p.tables e below (s₁.setTop (entryFrame m #[(.ref a0), (.ref a1)] 3)) (s₁.setTop (mkF m 12 #[.val (.ref a0), .val (.ref a1), .val (.int (9 : Int32))] [(.int (10 : Int32)), (.int (9 : Int32))])) := fun t k => G640 t (X0.arraylength hx (by rw [e0]; exact Ara.1) (State.isArrayOf_alike hZ.alike Ara.2.1) (g := (mkF m 11 #[.val (.ref a0), .val (.ref a1), .val (.int (9 : Int32))] [(.ref a0), (.int (9 : Int32))])) rfl rfl (hb hby d6_11) t (by rw [show cla.slots.size.toInt32 = (10 : Int32) from (len_of Sza Nna).trans (by decide)]; exact k))
      have hk642 : (9 : Int32) < (10 : Int32) := by decide
      have G643 : own_Go p.tables e below (s₁.setTop (entryFrame m #[(.ref a0), (.ref a1)] 3)) (s₁.setTop (mkF m 15 #[.val (.ref a0), .val (.ref a1), .val (.int (9 : Int32))] [])) := fun t k => G641 t (XS.icmpNo X0.here hx rfl (hb hby d6_12) rfl (tlt hk642).2.1 k)
      have G644 : own_Go p.tables e below (s₁.setTop (entryFrame m #[(.ref a0), (.ref a1)] 3)) (s₁.setTop (mkF m 16 #[.val (.ref a0), .val (.ref a1), .val (.int (9 : Int32))] [(.ref a0)])) := fun t k => G643 t (XS.aloadN X0.here hx rfl (hb hby d6_15) rfl rfl k)
      have G645 : own_Go p.tables e below (s₁.setTop (entryFrame m #[(.ref a0), (.ref a1)] 3)) (s₁.setTop (mkF m 17 #[.val (.ref a0), .val (.ref a1), .val (.int (9 : Int32))] [(.int (9 : Int32)), (.ref a0)])) := fun t k => G644 t (XS.iloadN X0.here hx rfl (hb hby d6_16) rfl k)
      have hin646 : ¬ ((9 : Int32) < 0 ∨ cla.slots.size ≤ ((9 : Int32)).toNatClampNeg) := inb_of Sza ⟨by decide, by decide⟩
      have G647 : own_Go p.tables e below (s₁.setTop (entryFrame m #[(.ref a0), (.ref a1)] 3)) (s₁.setTop (mkF m 18 #[.val (.ref a0), .val (.ref a1), .val (.int (9 : Int32))] [(.int (100 : Int32))])) := fun t k => G645 t (X0.baloadBytes hx (by rw [e0]; exact Ara.1) (State.isArrayOf_alike hZ.alike Ara.2.1) Ara.2.2 hin646 (Hsa.at hin646 (by decide)) (g := (mkF m 17 #[.val (.ref a0), .val (.ref a1), .val (.int (9 : Int32))] [(.int (9 : Int32)), (.ref a0)])) rfl rfl (hb hby d6_17) t k)
      have G648 : own_Go p.tables e below (s₁.setTop (entryFrame m #[(.ref a0), (.ref a1)] 3)) (s₁.setTop (mkF m 19 #[.val (.ref a0), .val (.ref a1), .val (.int (9 : Int32))] [(.ref a1), (.int (100 : Int32))])) := fun t k => G647 t (XS.aloadN X0.here hx rfl (hb hby d6_18) rfl rfl k)
      have G649 : own_Go p.tables e below (s₁.setTop (entryFrame m #[(.ref a0), (.ref a1)] 3)) (s₁.setTop (mkF m 20 #[.val (.ref a0), .val (.ref a1), .val (.int (9 : Int32))] [(.int (9 : Int32)), (.ref a1), (.int (100 : Int32))])) := fun t k => G648 t (XS.iloadN X0.here hx rfl (hb hby d6_19) rfl k)
      have hin650 : ¬ ((9 : Int32) < 0 ∨ clb.slots.size ≤ ((9 : Int32)).toNatClampNeg) := inb_of Szb ⟨by decide, by decide⟩
      have G651 : own_Go p.tables e below (s₁.setTop (entryFrame m #[(.ref a0), (.ref a1)] 3)) (s₁.setTop (mkF m 21 #[.val (.ref a0), .val (.ref a1), .val (.int (9 : Int32))] [(.int (100 : Int32)), (.int (100 : Int32))])) := fun t k => G649 t (X0.baloadBytes hx (by rw [e0]; exact Arb.1) (State.isArrayOf_alike hZ.alike Arb.2.1) Arb.2.2 hin650 (Hsb.at hin650 (by decide)) (g := (mkF m 20 #[.val (.ref a0), .val (.ref a1), .val (.int (9 : Int32))] [(.int (9 : Int32)), (.ref a1), (.int (100 : Int32))])) rfl rfl (hb hby d6_20) t k)
      have hk652 : (100 : Int32) = (100 : Int32) := by decide
      have G653 : own_Go p.tables e below (s₁.setTop (entryFrame m #[(.ref a0), (.ref a1)] 3)) (s₁.setTop (mkF m 26 #[.val (.ref a0), .val (.ref a1), .val (.int (9 : Int32))] [])) := fun t k => G651 t (XS.icmpYes X0.here hx rfl (pc0 := 21) (pc' := 26) rfl (hb hby d6_21) rfl (teq hk652).1 (by decide) (by decide) k)
      have G654 : own_Go p.tables e below (s₁.setTop (entryFrame m #[(.ref a0), (.ref a1)] 3)) (s₁.setTop (mkF m 29 #[.val (.ref a0), .val (.ref a1), .val (.int (10 : Int32))] [])) := fun t k => G653 t (XT.iincV X0.here hx rfl (1 : Int32) (hb hby d6_26) (by decide) rfl (l' := #[.val (.ref a0), .val (.ref a1), .val (.int (10 : Int32))]) rfl k)
      have G655 : own_Go p.tables e below (s₁.setTop (entryFrame m #[(.ref a0), (.ref a1)] 3)) (s₁.setTop (mkF m 9 #[.val (.ref a0), .val (.ref a1), .val (.int (10 : Int32))] [])) := fun t k => G654 t (XS.goto X0.here hx rfl (pc0 := 29) (pc' := 9) rfl (hb hby d6_29) (by decide) (by decide) k)
      have G656 : own_Go p.tables e below (s₁.setTop (entryFrame m #[(.ref a0), (.ref a1)] 3)) (s₁.setTop (mkF m 10 #[.val (.ref a0), .val (.ref a1), .val (.int (10 : Int32))] [(.int (10 : Int32))])) := fun t k => G655 t (XS.iloadN X0.here hx rfl (hb hby d6_9) rfl k)
      have G657 : own_Go p.tables e below (s₁.setTop (entryFrame m #[(.ref a0), (.ref a1)] 3)) (s₁.setTop (mkF m 11 #[.val (.ref a0), .val (.ref a1), .val (.int (10 : Int32))] [(.ref a0), (.int (10 : Int32))])) := fun t k => G656 t (XS.aloadN X0.here hx rfl (hb hby d6_10) rfl rfl k)
      have G658 : own_Go p.tables e below (s₁.setTop (entryFrame m #[(.ref a0), (.ref a1)] 3)) (s₁.setTop (mkF m 12 #[.val (.ref a0), .val (.ref a1), .val (.int (10 : Int32))] [(.int (10 : Int32)), (.int (10 : Int32))])) := fun t k => G657 t (X0.arraylength hx (by rw [e0]; exact Ara.1) (State.isArrayOf_alike hZ.alike Ara.2.1) (g := (mkF m 11 #[.val (.ref a0), .val (.ref a1), .val (.int (10 : Int32))] [(.ref a0), (.int (10 : Int32))])) rfl rfl (hb hby d6_11) t (by rw [show cla.slots.size.toInt32 = (10 : Int32) from (len_of Sza Nna).trans (by decide)]; exact k))
      have hk659 : ¬ ((10 : Int32) < (10 : Int32)) := by decide
      have G660 : own_Go p.tables e below (s₁.setTop (entryFrame m #[(.ref a0), (.ref a1)] 3)) (s₁.setTop (mkF m 32 #[.val (.ref a0), .val (.ref a1), .val (.int (10 : Int32))] [])) := fun t k => G658 t (XS.icmpYes X0.here hx rfl (pc0 := 12) (pc' := 32) rfl (hb hby d6_12) rfl (flt hk659).2.1 (by decide) (by decide) k)
      have G661 : own_Go p.tables e below (s₁.setTop (entryFrame m #[(.ref a0), (.ref a1)] 3)) (s₁.setTop (mkF m 33 #[.val (.ref a0), .val (.ref a1), .val (.int (10 : Int32))] [(.int (1 : Int32))])) := fun t k => G660 t (XT.iconstV X0.here hx rfl (1 : Int32) (hb hby d6_32) (by decide) k)
      obtain ⟨fs, hr, hrun, hended, hW, hsame⟩ := X0.leave (v := some (.int (nar .boolean (1 : Int32)))) (fun h => by rw [Bd.returns] at h; cases h)
      refine ⟨_, _, G661 _ ?_, hrun, hended, _, _, rfl, ?_, ⟨_, rfl⟩, hW, hsame.mono (by decide) (by decide)⟩
      · exact retN X0 hx (t := .boolean) Bd.returns (by simp) (hb hby d6_33) hr
      · show Q6 Z a0 a1 (2 : Int32) (2 : Int32) ka kb h0 _ s₁.heap _
        rw [e0]
        exact ⟨by decide, rfl, rfl⟩
    · obtain ⟨cla, Ara, qka, Sza, Nna, Hsa, Gfa⟩ := Va
      have G663 : own_Go p.tables e below (s₁.setTop (entryFrame m #[(.ref a0), (.ref a1)] 3)) (s₁.setTop (mkF m 2 #[.val (.ref a0), .val (.ref a1), .unset] [(.int (10 : Int32))])) := fun t k => G447 t (X0.arraylength hx (by rw [e0]; exact Ara.1) (State.isArrayOf_alike hZ.alike Ara.2.1) (g := (mkF m 1 #[.val (.ref a0), .val (.ref a1), .unset] [(.ref a0)])) rfl rfl (hb hby d6_1) t (by rw [show cla.slots.size.toInt32 = (10 : Int32) from (len_of Sza Nna).trans (by decide)]; exact k))
      have G664 : own_Go p.tables e below (s₁.setTop (entryFrame m #[(.ref a0), (.ref a1)] 3)) (s₁.setTop (mkF m 3 #[.val (.ref a0), .val (.ref a1), .unset] [(.ref a1), (.int (10 : Int32))])) := fun t k => G663 t (XS.aloadN X0.here hx rfl (hb hby d6_2) rfl rfl k)
      obtain ⟨clb, Arb, qkb, Szb, Nnb, Hsb, Gfb⟩ := Vb
      have G665 : own_Go p.tables e below (s₁.setTop (entryFrame m #[(.ref a0), (.ref a1)] 3)) (s₁.setTop (mkF m 4 #[.val (.ref a0), .val (.ref a1), .unset] [(.int (4 : Int32)), (.int (10 : Int32))])) := fun t k => G664 t (X0.arraylength hx (by rw [e0]; exact Arb.1) (State.isArrayOf_alike hZ.alike Arb.2.1) (g := (mkF m 3 #[.val (.ref a0), .val (.ref a1), .unset] [(.ref a1), (.int (10 : Int32))])) rfl rfl (hb hby d6_3) t (by rw [show clb.slots.size.toInt32 = (4 : Int32) from (len_of Szb Nnb).trans (by decide)]; exact k))
      have hk666 : ¬ ((10 : Int32) = (4 : Int32)) := by decide
      have G667 : own_Go p.tables e below (s₁.setTop (entryFrame m #[(.ref a0), (.ref a1)] 3)) (s₁.setTop (mkF m 34 #[.val (.ref a0), .val (.ref a1), .unset] [])) := fun t k => G665 t (XS.icmpYes X0.here hx rfl (pc0 := 4) (pc' := 34) rfl (hb hby d6_4) rfl (feq hk666).2 (by decide) (by decide) k)
      have G668 : own_Go p.tables e below (s₁.setTop (entryFrame m #[(.ref a0), (.ref a1)] 3)) (s₁.setTop (mkF m 35 #[.val (.ref a0), .val (.ref a1), .unset] [(.int (0 : Int32))])) := fun t k => G667 t (XT.iconstV X0.here hx rfl (0 : Int32) (hb hby d6_34) (by decide) k)
      obtain ⟨fs, hr, hrun, hended, hW, hsame⟩ := X0.leave (v := some (.int (nar .boolean (0 : Int32)))) (fun h => by rw [Bd.returns] at h; cases h)
      refine ⟨_, _, G668 _ ?_, hrun, hended, _, _, rfl, ?_, ⟨_, rfl⟩, hW, hsame.mono (by decide) (by decide)⟩
      · exact retN X0 hx (t := .boolean) Bd.returns (by simp) (hb hby d6_35) hr
      · show Q6 Z a0 a1 (2 : Int32) (3 : Int32) ka kb h0 _ s₁.heap _
        rw [e0]
        exact ⟨by decide, rfl, rfl⟩
  · have G670 : own_Go p.tables e below (s₁.setTop (entryFrame m #[(.ref a0), (.ref a1)] 3)) (s₁.setTop (mkF m 1 #[.val (.ref a0), .val (.ref a1), .unset] [(.ref a0)])) := fun t k => G0 t (XS.aloadN X0.here hx rfl (hb hby d6_0) rfl rfl k)
    rcases own_four hj with rfl | rfl | rfl | rfl
    · obtain ⟨cla, Ara, qka, Sza, Nna, Hsa, Gfa⟩ := Va
      have G671 : own_Go p.tables e below (s₁.setTop (entryFrame m #[(.ref a0), (.ref a1)] 3)) (s₁.setTop (mkF m 2 #[.val (.ref a0), .val (.ref a1), .unset] [(.int (4 : Int32))])) := fun t k => G670 t (X0.arraylength hx (by rw [e0]; exact Ara.1) (State.isArrayOf_alike hZ.alike Ara.2.1) (g := (mkF m 1 #[.val (.ref a0), .val (.ref a1), .unset] [(.ref a0)])) rfl rfl (hb hby d6_1) t (by rw [show cla.slots.size.toInt32 = (4 : Int32) from (len_of Sza Nna).trans (by decide)]; exact k))
      have G672 : own_Go p.tables e below (s₁.setTop (entryFrame m #[(.ref a0), (.ref a1)] 3)) (s₁.setTop (mkF m 3 #[.val (.ref a0), .val (.ref a1), .unset] [(.ref a1), (.int (4 : Int32))])) := fun t k => G671 t (XS.aloadN X0.here hx rfl (hb hby d6_2) rfl rfl k)
      obtain ⟨clb, Arb, qkb, Szb, Nnb, Hsb, Gfb⟩ := Vb
      have G673 : own_Go p.tables e below (s₁.setTop (entryFrame m #[(.ref a0), (.ref a1)] 3)) (s₁.setTop (mkF m 4 #[.val (.ref a0), .val (.ref a1), .unset] [(.int (10 : Int32)), (.int (4 : Int32))])) := fun t k => G672 t (X0.arraylength hx (by rw [e0]; exact Arb.1) (State.isArrayOf_alike hZ.alike Arb.2.1) (g := (mkF m 3 #[.val (.ref a0), .val (.ref a1), .unset] [(.ref a1), (.int (4 : Int32))])) rfl rfl (hb hby d6_3) t (by rw [show clb.slots.size.toInt32 = (10 : Int32) from (len_of Szb Nnb).trans (by decide)]; exact k))
      have hk674 : ¬ ((4 : Int32) = (10 : Int32)) := by decide
      have G675 : own_Go p.tables e below (s₁.setTop (entryFrame m #[(.ref a0), (.ref a1)] 3)) (s₁.setTop (mkF m 34 #[.val (.ref a0), .val (.ref a1), .unset] [])) := fun t k => G673 t (XS.icmpYes X0.here hx rfl (pc0 := 4) (pc' := 34) rfl (hb hby d6_4) rfl (feq hk674).2 (by decide) (by decide) k)
      have G676 : own_Go p.tables e below (s₁.setTop (entryFrame m #[(.ref a0), (.ref a1)] 3)) (s₁.setTop (mkF m 35 #[.val (.ref a0), .val (.ref a1), .unset] [(.int (0 : Int32))])) := fun t k => G675 t (XT.iconstV X0.here hx rfl (0 : Int32) (hb hby d6_34) (by decide) k)
      obtain ⟨fs, hr, hrun, hended, hW, hsame⟩ := X0.leave (v := some (.int (nar .boolean (0 : Int32)))) (fun h => by rw [Bd.returns] at h; cases h)
      refine ⟨_, _, G676 _ ?_, hrun, hended, _, _, rfl, ?_, ⟨_, rfl⟩, hW, hsame.mono (by decide) (by decide)⟩
      · exact retN X0 hx (t := .boolean) Bd.returns (by simp) (hb hby d6_35) hr
      · show Q6 Z a0 a1 (3 : Int32) (0 : Int32) ka kb h0 _ s₁.heap _
        rw [e0]
        exact ⟨by decide, rfl, rfl⟩
    · obtain ⟨cla, Ara, qka, Sza, Nna, Hsa, Gfa⟩ := Va
      have G678 : own_Go p.tables e below (s₁.setTop (entryFrame m #[(.ref a0), (.ref a1)] 3)) (s₁.setTop (mkF m 2 #[.val (.ref a0), .val (.ref a1), .unset] [(.int (4 : Int32))])) := fun t k => G670 t (X0.arraylength hx (by rw [e0]; exact Ara.1) (State.isArrayOf_alike hZ.alike Ara.2.1) (g := (mkF m 1 #[.val (.ref a0), .val (.ref a1), .unset] [(.ref a0)])) rfl rfl (hb hby d6_1) t (by rw [show cla.slots.size.toInt32 = (4 : Int32) from (len_of Sza Nna).trans (by decide)]; exact k))
      have G679 : own_Go p.tables e below (s₁.setTop (entryFrame m #[(.ref a0), (.ref a1)] 3)) (s₁.setTop (mkF m 3 #[.val (.ref a0), .val (.ref a1), .unset] [(.ref a1), (.int (4 : Int32))])) := fun t k => G678 t (XS.aloadN X0.here hx rfl (hb hby d6_2) rfl rfl k)
      obtain ⟨clb, Arb, qkb, Szb, Nnb, Hsb, Gfb⟩ := Vb
      have G680 : own_Go p.tables e below (s₁.setTop (entryFrame m #[(.ref a0), (.ref a1)] 3)) (s₁.setTop (mkF m 4 #[.val (.ref a0), .val (.ref a1), .unset] [(.int (11 : Int32)), (.int (4 : Int32))])) := fun t k => G679 t (X0.arraylength hx (by rw [e0]; exact Arb.1) (State.isArrayOf_alike hZ.alike Arb.2.1) (g := (mkF m 3 #[.val (.ref a0), .val (.ref a1), .unset] [(.ref a1), (.int (4 : Int32))])) rfl rfl (hb hby d6_3) t (by rw [show clb.slots.size.toInt32 = (11 : Int32) from (len_of Szb Nnb).trans (by decide)]; exact k))
      have hk681 : ¬ ((4 : Int32) = (11 : Int32)) := by decide
      have G682 : own_Go p.tables e below (s₁.setTop (entryFrame m #[(.ref a0), (.ref a1)] 3)) (s₁.setTop (mkF m 34 #[.val (.ref a0), .val (.ref a1), .unset] [])) := fun t k => G680 t (XS.icmpYes X0.here hx rfl (pc0 := 4) (pc' := 34) rfl (hb hby d6_4) rfl (feq hk681).2 (by decide) (by decide) k)
      have G683 : own_Go p.tables e below (s₁.setTop (entryFrame m #[(.ref a0), (.ref a1)] 3)) (s₁.setTop (mkF m 35 #[.val (.ref a0), .val (.ref a1), .unset] [(.int (0 : Int32))])) := fun t k => G682 t (XT.iconstV X0.here hx rfl (0 : Int32) (hb hby d6_34) (by decide) k)
      obtain ⟨fs, hr, hrun, hended, hW, hsame⟩ := X0.leave (v := some (.int (nar .boolean (0 : Int32)))) (fun h => by rw [Bd.returns] at h; cases h)
      refine ⟨_, _, G683 _ ?_, hrun, hended, _, _, rfl, ?_, ⟨_, rfl⟩, hW, hsame.mono (by decide) (by decide)⟩
      · exact retN X0 hx (t := .boolean) Bd.returns (by simp) (hb hby d6_35) hr
      · show Q6 Z a0 a1 (3 : Int32) (1 : Int32) ka kb h0 _ s₁.heap _
        rw [e0]
        exact ⟨by decide, rfl, rfl⟩
    · obtain ⟨cla, Ara, qka, Sza, Nna, Hsa, Gfa⟩ := Va
      have G685 : own_Go p.tables e below (s₁.setTop (entryFrame m #[(.ref a0), (.ref a1)] 3)) (s₁.setTop (mkF m 2 #[.val (.ref a0), .val (.ref a1), .unset] [(.int (4 : Int32))])) := fun t k => G670 t (X0.arraylength hx (by rw [e0]; exact Ara.1) (State.isArrayOf_alike hZ.alike Ara.2.1) (g := (mkF m 1 #[.val (.ref a0), .val (.ref a1), .unset] [(.ref a0)])) rfl rfl (hb hby d6_1) t (by rw [show cla.slots.size.toInt32 = (4 : Int32) from (len_of Sza Nna).trans (by decide)]; exact k))
      have G686 : own_Go p.tables e below (s₁.setTop (entryFrame m #[(.ref a0), (.ref a1)] 3)) (s₁.setTop (mkF m 3 #[.val (.ref a0), .val (.ref a1), .unset] [(.ref a1), (.int (4 : Int32))])) := fun t k => G685 t (XS.aloadN X0.here hx rfl (hb hby d6_2) rfl rfl k)
      obtain ⟨clb, Arb, qkb, Szb, Nnb, Hsb, Gfb⟩ := Vb
      have G687 : own_Go p.tables e below (s₁.setTop (entryFrame m #[(.ref a0), (.ref a1)] 3)) (s₁.setTop (mkF m 4 #[.val (.ref a0), .val (.ref a1), .unset] [(.int (10 : Int32)), (.int (4 : Int32))])) := fun t k => G686 t (X0.arraylength hx (by rw [e0]; exact Arb.1) (State.isArrayOf_alike hZ.alike Arb.2.1) (g := (mkF m 3 #[.val (.ref a0), .val (.ref a1), .unset] [(.ref a1), (.int (4 : Int32))])) rfl rfl (hb hby d6_3) t (by rw [show clb.slots.size.toInt32 = (10 : Int32) from (len_of Szb Nnb).trans (by decide)]; exact k))
      have hk688 : ¬ ((4 : Int32) = (10 : Int32)) := by decide
      have G689 : own_Go p.tables e below (s₁.setTop (entryFrame m #[(.ref a0), (.ref a1)] 3)) (s₁.setTop (mkF m 34 #[.val (.ref a0), .val (.ref a1), .unset] [])) := fun t k => G687 t (XS.icmpYes X0.here hx rfl (pc0 := 4) (pc' := 34) rfl (hb hby d6_4) rfl (feq hk688).2 (by decide) (by decide) k)
      have G690 : own_Go p.tables e below (s₁.setTop (entryFrame m #[(.ref a0), (.ref a1)] 3)) (s₁.setTop (mkF m 35 #[.val (.ref a0), .val (.ref a1), .unset] [(.int (0 : Int32))])) := fun t k => G689 t (XT.iconstV X0.here hx rfl (0 : Int32) (hb hby d6_34) (by decide) k)
      obtain ⟨fs, hr, hrun, hended, hW, hsame⟩ := X0.leave (v := some (.int (nar .boolean (0 : Int32)))) (fun h => by rw [Bd.returns] at h; cases h)
      refine ⟨_, _, G690 _ ?_, hrun, hended, _, _, rfl, ?_, ⟨_, rfl⟩, hW, hsame.mono (by decide) (by decide)⟩
      · exact retN X0 hx (t := .boolean) Bd.returns (by simp) (hb hby d6_35) hr
      · show Q6 Z a0 a1 (3 : Int32) (2 : Int32) ka kb h0 _ s₁.heap _
        rw [e0]
        exact ⟨by decide, rfl, rfl⟩
    · obtain ⟨cla, Ara, qka, Sza, Nna, Hsa, Gfa⟩ := Va
      have G692 : own_Go p.tables e below (s₁.setTop (entryFrame m #[(.ref a0), (.ref a1)] 3)) (s₁.setTop (mkF m 2 #[.val (.ref a0), .val (.ref a1), .unset] [(.int (4 : Int32))])) := fun t k => G670 t (X0.arraylength hx (by rw [e0]; exact Ara.1) (State.isArrayOf_alike hZ.alike Ara.2.1) (g := (mkF m 1 #[.val (.ref a0), .val (.ref a1), .unset] [(.ref a0)])) rfl rfl (hb hby d6_1) t (by rw [show cla.slots.size.toInt32 = (4 : Int32) from (len_of Sza Nna).trans (by decide)]; exact k))
      have G693 : own_Go p.tables e below (s₁.setTop (entryFrame m #[(.ref a0), (.ref a1)] 3)) (s₁.setTop (mkF m 3 #[.val (.ref a0), .val (.ref a1), .unset] [(.ref a1), (.int (4 : Int32))])) := fun t k => G692 t (XS.aloadN X0.here hx rfl (hb hby d6_2) rfl rfl k)
      obtain ⟨clb, Arb, qkb, Szb, Nnb, Hsb, Gfb⟩ := Vb
      have G694 : own_Go p.tables e below (s₁.setTop (entryFrame m #[(.ref a0), (.ref a1)] 3)) (s₁.setTop (mkF m 4 #[.val (.ref a0), .val (.ref a1), .unset] [(.int (4 : Int32)), (.int (4 : Int32))])) := fun t k => G693 t (X0.arraylength hx (by rw [e0]; exact Arb.1) (State.isArrayOf_alike hZ.alike Arb.2.1) (g := (mkF m 3 #[.val (.ref a0), .val (.ref a1), .unset] [(.ref a1), (.int (4 : Int32))])) rfl rfl (hb hby d6_3) t (by rw [show clb.slots.size.toInt32 = (4 : Int32) from (len_of Szb Nnb).trans (by decide)]; exact k))
      have hk695 : (4 : Int32) = (4 : Int32) := by decide
      have G696 : own_Go p.tables e below (s₁.setTop (entryFrame m #[(.ref a0), (.ref a1)] 3)) (s₁.setTop (mkF m 7 #[.val (.ref a0), .val (.ref a1), .unset] [])) := fun t k => G694 t (XS.icmpNo X0.here hx rfl (hb hby d6_4) rfl (teq hk695).2 k)
      have G697 : own_Go p.tables e below (s₁.setTop (entryFrame m #[(.ref a0), (.ref a1)] 3)) (s₁.setTop (mkF m 8 #[.val (.ref a0), .val (.ref a1), .unset] [(.int (0 : Int32))])) := fun t k => G696 t (XT.iconstV X0.here hx rfl (0 : Int32) (hb hby d6_7) (by decide) k)
      have G698 : own_Go p.tables e below (s₁.setTop (entryFrame m #[(.ref a0), (.ref a1)] 3)) (s₁.setTop (mkF m 9 #[.val (.ref a0), .val (.ref a1), .val (.int (0 : Int32))] [])) := fun t k => G697 t (XS.istoreN X0.here hx rfl (hb hby d6_8) rfl (l' := #[.val (.ref a0), .val (.ref a1), .val (.int (0 : Int32))]) rfl k)
      have G699 : own_Go p.tables e below (s₁.setTop (entryFrame m #[(.ref a0), (.ref a1)] 3)) (s₁.setTop (mkF m 10 #[.val (.ref a0), .val (.ref a1), .val (.int (0 : Int32))] [(.int (0 : Int32))])) := fun t k => G698 t (XS.iloadN X0.here hx rfl (hb hby d6_9) rfl k)
      have G700 : own_Go p.tables e below (s₁.setTop (entryFrame m #[(.ref a0), (.ref a1)] 3)) (s₁.setTop (mkF m 11 #[.val (.ref a0), .val (.ref a1), .val (.int (0 : Int32))] [(.ref a0), (.int (0 : Int32))])) := fun t k => G699 t (XS.aloadN X0.here hx rfl (hb hby d6_10) rfl rfl k)
      have G701 : own_Go p.tables e below (s₁.setTop (entryFrame m #[(.ref a0), (.ref a1)] 3)) (s₁.setTop (mkF m 12 #[.val (.ref a0), .val (.ref a1), .val (.int (0 : Int32))] [(.int (4 : Int32)), (.int (0 : Int32))])) := fun t k => G700 t (X0.arraylength hx (by rw [e0]; exact Ara.1) (State.isArrayOf_alike hZ.alike Ara.2.1) (g := (mkF m 11 #[.val (.ref a0), .val (.ref a1), .val (.int (0 : Int32))] [(.ref a0), (.int (0 : Int32))])) rfl rfl (hb hby d6_11) t (by rw [show cla.slots.size.toInt32 = (4 : Int32) from (len_of Sza Nna).trans (by decide)]; exact k))
      have hk702 : (0 : Int32) < (4 : Int32) := by decide
      have G703 : own_Go p.tables e below (s₁.setTop (entryFrame m #[(.ref a0), (.ref a1)] 3)) (s₁.setTop (mkF m 15 #[.val (.ref a0), .val (.ref a1), .val (.int (0 : Int32))] [])) := fun t k => G701 t (XS.icmpNo X0.here hx rfl (hb hby d6_12) rfl (tlt hk702).2.1 k)
      have G704 : own_Go p.tables e below (s₁.setTop (entryFrame m #[(.ref a0), (.ref a1)] 3)) (s₁.setTop (mkF m 16 #[.val (.ref a0), .val (.ref a1), .val (.int (0 : Int32))] [(.ref a0)])) := fun t k => G703 t (XS.aloadN X0.here hx rfl (hb hby d6_15) rfl rfl k)
      have G705 : own_Go p.tables e below (s₁.setTop (entryFrame m #[(.ref a0), (.ref a1)] 3)) (s₁.setTop (mkF m 17 #[.val (.ref a0), .val (.ref a1), .val (.int (0 : Int32))] [(.int (0 : Int32)), (.ref a0)])) := fun t k => G704 t (XS.iloadN X0.here hx rfl (hb hby d6_16) rfl k)
      have hin706 : ¬ ((0 : Int32) < 0 ∨ cla.slots.size ≤ ((0 : Int32)).toNatClampNeg) := inb_of Sza ⟨by decide, by decide⟩
      have G707 : own_Go p.tables e below (s₁.setTop (entryFrame m #[(.ref a0), (.ref a1)] 3)) (s₁.setTop (mkF m 18 #[.val (.ref a0), .val (.ref a1), .val (.int (0 : Int32))] [(.int (116 : Int32))])) := fun t k => G705 t (X0.baloadBytes hx (by rw [e0]; exact Ara.1) (State.isArrayOf_alike hZ.alike Ara.2.1) Ara.2.2 hin706 (Hsa.at hin706 (by decide)) (g := (mkF m 17 #[.val (.ref a0), .val (.ref a1), .val (.int (0 : Int32))] [(.int (0 : Int32)), (.ref a0)])) rfl rfl (hb hby d6_17) t k)
      have G708 : own_Go p.tables e below (s₁.setTop (entryFrame m #[(.ref a0), (.ref a1)] 3)) (s₁.setTop (mkF m 19 #[.val (.ref a0), .val (.ref a1), .val (.int (0 : Int32))] [(.ref a1), (.int (116 : Int32))])) := fun t k => G707 t (XS.aloadN X0.here hx rfl (hb hby d6_18) rfl rfl k)
      have G709 : own_Go p.tables e below (s₁.setTop (entryFrame m #[(.ref a0), (.ref a1)] 3)) (s₁.setTop (mkF m 20 #[.val (.ref a0), .val (.ref a1), .val (.int (0 : Int32))] [(.int (0 : Int32)), (.ref a1), (.int (116 : Int32))])) := fun t k => G708 t (XS.iloadN X0.here hx rfl (hb hby d6_19) rfl k)
      have hin710 : ¬ ((0 : Int32) < 0 ∨ clb.slots.size ≤ ((0 : Int32)).toNatClampNeg) := inb_of Szb ⟨by decide, by decide⟩
      have G711 : own_Go p.tables e below (s₁.setTop (entryFrame m #[(.ref a0), (.ref a1)] 3)) (s₁.setTop (mkF m 21 #[.val (.ref a0), .val (.ref a1), .val (.int (0 : Int32))] [(.int (116 : Int32)), (.int (116 : Int32))])) := fun t k => G709 t (X0.baloadBytes hx (by rw [e0]; exact Arb.1) (State.isArrayOf_alike hZ.alike Arb.2.1) Arb.2.2 hin710 (Hsb.at hin710 (by decide)) (g := (mkF m 20 #[.val (.ref a0), .val (.ref a1), .val (.int (0 : Int32))] [(.int (0 : Int32)), (.ref a1), (.int (116 : Int32))])) rfl rfl (hb hby d6_20) t k)
      have hk712 : (116 : Int32) = (116 : Int32) := by decide
      have G713 : own_Go p.tables e below (s₁.setTop (entryFrame m #[(.ref a0), (.ref a1)] 3)) (s₁.setTop (mkF m 26 #[.val (.ref a0), .val (.ref a1), .val (.int (0 : Int32))] [])) := fun t k => G711 t (XS.icmpYes X0.here hx rfl (pc0 := 21) (pc' := 26) rfl (hb hby d6_21) rfl (teq hk712).1 (by decide) (by decide) k)
      have G714 : own_Go p.tables e below (s₁.setTop (entryFrame m #[(.ref a0), (.ref a1)] 3)) (s₁.setTop (mkF m 29 #[.val (.ref a0), .val (.ref a1), .val (.int (1 : Int32))] [])) := fun t k => G713 t (XT.iincV X0.here hx rfl (1 : Int32) (hb hby d6_26) (by decide) rfl (l' := #[.val (.ref a0), .val (.ref a1), .val (.int (1 : Int32))]) rfl k)
      have G715 : own_Go p.tables e below (s₁.setTop (entryFrame m #[(.ref a0), (.ref a1)] 3)) (s₁.setTop (mkF m 9 #[.val (.ref a0), .val (.ref a1), .val (.int (1 : Int32))] [])) := fun t k => G714 t (XS.goto X0.here hx rfl (pc0 := 29) (pc' := 9) rfl (hb hby d6_29) (by decide) (by decide) k)
      have G716 : own_Go p.tables e below (s₁.setTop (entryFrame m #[(.ref a0), (.ref a1)] 3)) (s₁.setTop (mkF m 10 #[.val (.ref a0), .val (.ref a1), .val (.int (1 : Int32))] [(.int (1 : Int32))])) := fun t k => G715 t (XS.iloadN X0.here hx rfl (hb hby d6_9) rfl k)
      have G717 : own_Go p.tables e below (s₁.setTop (entryFrame m #[(.ref a0), (.ref a1)] 3)) (s₁.setTop (mkF m 11 #[.val (.ref a0), .val (.ref a1), .val (.int (1 : Int32))] [(.ref a0), (.int (1 : Int32))])) := fun t k => G716 t (XS.aloadN X0.here hx rfl (hb hby d6_10) rfl rfl k)
      have G718 : own_Go p.tables e below (s₁.setTop (entryFrame m #[(.ref a0), (.ref a1)] 3)) (s₁.setTop (mkF m 12 #[.val (.ref a0), .val (.ref a1), .val (.int (1 : Int32))] [(.int (4 : Int32)), (.int (1 : Int32))])) := fun t k => G717 t (X0.arraylength hx (by rw [e0]; exact Ara.1) (State.isArrayOf_alike hZ.alike Ara.2.1) (g := (mkF m 11 #[.val (.ref a0), .val (.ref a1), .val (.int (1 : Int32))] [(.ref a0), (.int (1 : Int32))])) rfl rfl (hb hby d6_11) t (by rw [show cla.slots.size.toInt32 = (4 : Int32) from (len_of Sza Nna).trans (by decide)]; exact k))
      have hk719 : (1 : Int32) < (4 : Int32) := by decide
      have G720 : own_Go p.tables e below (s₁.setTop (entryFrame m #[(.ref a0), (.ref a1)] 3)) (s₁.setTop (mkF m 15 #[.val (.ref a0), .val (.ref a1), .val (.int (1 : Int32))] [])) := fun t k => G718 t (XS.icmpNo X0.here hx rfl (hb hby d6_12) rfl (tlt hk719).2.1 k)
      have G721 : own_Go p.tables e below (s₁.setTop (entryFrame m #[(.ref a0), (.ref a1)] 3)) (s₁.setTop (mkF m 16 #[.val (.ref a0), .val (.ref a1), .val (.int (1 : Int32))] [(.ref a0)])) := fun t k => G720 t (XS.aloadN X0.here hx rfl (hb hby d6_15) rfl rfl k)
      have G722 : own_Go p.tables e below (s₁.setTop (entryFrame m #[(.ref a0), (.ref a1)] 3)) (s₁.setTop (mkF m 17 #[.val (.ref a0), .val (.ref a1), .val (.int (1 : Int32))] [(.int (1 : Int32)), (.ref a0)])) := fun t k => G721 t (XS.iloadN X0.here hx rfl (hb hby d6_16) rfl k)
      have hin723 : ¬ ((1 : Int32) < 0 ∨ cla.slots.size ≤ ((1 : Int32)).toNatClampNeg) := inb_of Sza ⟨by decide, by decide⟩
      have G724 : own_Go p.tables e below (s₁.setTop (entryFrame m #[(.ref a0), (.ref a1)] 3)) (s₁.setTop (mkF m 18 #[.val (.ref a0), .val (.ref a1), .val (.int (1 : Int32))] [(.int (101 : Int32))])) := fun t k => G722 t (X0.baloadBytes hx (by rw [e0]; exact Ara.1) (State.isArrayOf_alike hZ.alike Ara.2.1) Ara.2.2 hin723 (Hsa.at hin723 (by decide)) (g := (mkF m 17 #[.val (.ref a0), .val (.ref a1), .val (.int (1 : Int32))] [(.int (1 : Int32)), (.ref a0)])) rfl rfl (hb hby d6_17) t k)
      have G725 : own_Go p.tables e below (s₁.setTop (entryFrame m #[(.ref a0), (.ref a1)] 3)) (s₁.setTop (mkF m 19 #[.val (.ref a0), .val (.ref a1), .val (.int (1 : Int32))] [(.ref a1), (.int (101 : Int32))])) := fun t k => G724 t (XS.aloadN X0.here hx rfl (hb hby d6_18) rfl rfl k)
      have G726 : own_Go p.tables e below (s₁.setTop (entryFrame m #[(.ref a0), (.ref a1)] 3)) (s₁.setTop (mkF m 20 #[.val (.ref a0), .val (.ref a1), .val (.int (1 : Int32))] [(.int (1 : Int32)), (.ref a1), (.int (101 : Int32))])) := fun t k => G725 t (XS.iloadN X0.here hx rfl (hb hby d6_19) rfl k)
      have hin727 : ¬ ((1 : Int32) < 0 ∨ clb.slots.size ≤ ((1 : Int32)).toNatClampNeg) := inb_of Szb ⟨by decide, by decide⟩
      have G728 : own_Go p.tables e below (s₁.setTop (entryFrame m #[(.ref a0), (.ref a1)] 3)) (s₁.setTop (mkF m 21 #[.val (.ref a0), .val (.ref a1), .val (.int (1 : Int32))] [(.int (101 : Int32)), (.int (101 : Int32))])) := fun t k => G726 t (X0.baloadBytes hx (by rw [e0]; exact Arb.1) (State.isArrayOf_alike hZ.alike Arb.2.1) Arb.2.2 hin727 (Hsb.at hin727 (by decide)) (g := (mkF m 20 #[.val (.ref a0), .val (.ref a1), .val (.int (1 : Int32))] [(.int (1 : Int32)), (.ref a1), (.int (101 : Int32))])) rfl rfl (hb hby d6_20) t k)
      have hk729 : (101 : Int32) = (101 : Int32) := by decide
      have G730 : own_Go p.tables e below (s₁.setTop (entryFrame m #[(.ref a0), (.ref a1)] 3)) (s₁.setTop (mkF m 26 #[.val (.ref a0), .val (.ref a1), .val (.int (1 : Int32))] [])) := fun t k => G728 t (XS.icmpYes X0.here hx rfl (pc0 := 21) (pc' := 26) rfl (hb hby d6_21) rfl (teq hk729).1 (by decide) (by decide) k)
      have G731 : own_Go p.tables e below (s₁.setTop (entryFrame m #[(.ref a0), (.ref a1)] 3)) (s₁.setTop (mkF m 29 #[.val (.ref a0), .val (.ref a1), .val (.int (2 : Int32))] [])) := fun t k => G730 t (XT.iincV X0.here hx rfl (1 : Int32) (hb hby d6_26) (by decide) rfl (l' := #[.val (.ref a0), .val (.ref a1), .val (.int (2 : Int32))]) rfl k)
      have G732 : own_Go p.tables e below (s₁.setTop (entryFrame m #[(.ref a0), (.ref a1)] 3)) (s₁.setTop (mkF m 9 #[.val (.ref a0), .val (.ref a1), .val (.int (2 : Int32))] [])) := fun t k => G731 t (XS.goto X0.here hx rfl (pc0 := 29) (pc' := 9) rfl (hb hby d6_29) (by decide) (by decide) k)
      have G733 : own_Go p.tables e below (s₁.setTop (entryFrame m #[(.ref a0), (.ref a1)] 3)) (s₁.setTop (mkF m 10 #[.val (.ref a0), .val (.ref a1), .val (.int (2 : Int32))] [(.int (2 : Int32))])) := fun t k => G732 t (XS.iloadN X0.here hx rfl (hb hby d6_9) rfl k)
      have G734 : own_Go p.tables e below (s₁.setTop (entryFrame m #[(.ref a0), (.ref a1)] 3)) (s₁.setTop (mkF m 11 #[.val (.ref a0), .val (.ref a1), .val (.int (2 : Int32))] [(.ref a0), (.int (2 : Int32))])) := fun t k => G733 t (XS.aloadN X0.here hx rfl (hb hby d6_10) rfl rfl k)
      have G735 : own_Go p.tables e below (s₁.setTop (entryFrame m #[(.ref a0), (.ref a1)] 3)) (s₁.setTop (mkF m 12 #[.val (.ref a0), .val (.ref a1), .val (.int (2 : Int32))] [(.int (4 : Int32)), (.int (2 : Int32))])) := fun t k => G734 t (X0.arraylength hx (by rw [e0]; exact Ara.1) (State.isArrayOf_alike hZ.alike Ara.2.1) (g := (mkF m 11 #[.val (.ref a0), .val (.ref a1), .val (.int (2 : Int32))] [(.ref a0), (.int (2 : Int32))])) rfl rfl (hb hby d6_11) t (by rw [show cla.slots.size.toInt32 = (4 : Int32) from (len_of Sza Nna).trans (by decide)]; exact k))
      have hk736 : (2 : Int32) < (4 : Int32) := by decide
      have G737 : own_Go p.tables e below (s₁.setTop (entryFrame m #[(.ref a0), (.ref a1)] 3)) (s₁.setTop (mkF m 15 #[.val (.ref a0), .val (.ref a1), .val (.int (2 : Int32))] [])) := fun t k => G735 t (XS.icmpNo X0.here hx rfl (hb hby d6_12) rfl (tlt hk736).2.1 k)
      have G738 : own_Go p.tables e below (s₁.setTop (entryFrame m #[(.ref a0), (.ref a1)] 3)) (s₁.setTop (mkF m 16 #[.val (.ref a0), .val (.ref a1), .val (.int (2 : Int32))] [(.ref a0)])) := fun t k => G737 t (XS.aloadN X0.here hx rfl (hb hby d6_15) rfl rfl k)
      have G739 : own_Go p.tables e below (s₁.setTop (entryFrame m #[(.ref a0), (.ref a1)] 3)) (s₁.setTop (mkF m 17 #[.val (.ref a0), .val (.ref a1), .val (.int (2 : Int32))] [(.int (2 : Int32)), (.ref a0)])) := fun t k => G738 t (XS.iloadN X0.here hx rfl (hb hby d6_16) rfl k)
      have hin740 : ¬ ((2 : Int32) < 0 ∨ cla.slots.size ≤ ((2 : Int32)).toNatClampNeg) := inb_of Sza ⟨by decide, by decide⟩
      have G741 : own_Go p.tables e below (s₁.setTop (entryFrame m #[(.ref a0), (.ref a1)] 3)) (s₁.setTop (mkF m 18 #[.val (.ref a0), .val (.ref a1), .val (.int (2 : Int32))] [(.int (120 : Int32))])) := fun t k => G739 t (X0.baloadBytes hx (by rw [e0]; exact Ara.1) (State.isArrayOf_alike hZ.alike Ara.2.1) Ara.2.2 hin740 (Hsa.at hin740 (by decide)) (g := (mkF m 17 #[.val (.ref a0), .val (.ref a1), .val (.int (2 : Int32))] [(.int (2 : Int32)), (.ref a0)])) rfl rfl (hb hby d6_17) t k)
      have G742 : own_Go p.tables e below (s₁.setTop (entryFrame m #[(.ref a0), (.ref a1)] 3)) (s₁.setTop (mkF m 19 #[.val (.ref a0), .val (.ref a1), .val (.int (2 : Int32))] [(.ref a1), (.int (120 : Int32))])) := fun t k => G741 t (XS.aloadN X0.here hx rfl (hb hby d6_18) rfl rfl k)
      have G743 : own_Go p.tables e below (s₁.setTop (entryFrame m #[(.ref a0), (.ref a1)] 3)) (s₁.setTop (mkF m 20 #[.val (.ref a0), .val (.ref a1), .val (.int (2 : Int32))] [(.int (2 : Int32)), (.ref a1), (.int (120 : Int32))])) := fun t k => G742 t (XS.iloadN X0.here hx rfl (hb hby d6_19) rfl k)
      have hin744 : ¬ ((2 : Int32) < 0 ∨ clb.slots.size ≤ ((2 : Int32)).toNatClampNeg) := inb_of Szb ⟨by decide, by decide⟩
      have G745 : own_Go p.tables e below (s₁.setTop (entryFrame m #[(.ref a0), (.ref a1)] 3)) (s₁.setTop (mkF m 21 #[.val (.ref a0), .val (.ref a1), .val (.int (2 : Int32))] [(.int (120 : Int32)), (.int (120 : Int32))])) := fun t k => G743 t (X0.baloadBytes hx (by rw [e0]; exact Arb.1) (State.isArrayOf_alike hZ.alike Arb.2.1) Arb.2.2 hin744 (Hsb.at hin744 (by decide)) (g := (mkF m 20 #[.val (.ref a0), .val (.ref a1), .val (.int (2 : Int32))] [(.int (2 : Int32)), (.ref a1), (.int (120 : Int32))])) rfl rfl (hb hby d6_20) t k)
      have hk746 : (120 : Int32) = (120 : Int32) := by decide
      have G747 : own_Go p.tables e below (s₁.setTop (entryFrame m #[(.ref a0), (.ref a1)] 3)) (s₁.setTop (mkF m 26 #[.val (.ref a0), .val (.ref a1), .val (.int (2 : Int32))] [])) := fun t k => G745 t (XS.icmpYes X0.here hx rfl (pc0 := 21) (pc' := 26) rfl (hb hby d6_21) rfl (teq hk746).1 (by decide) (by decide) k)
      have G748 : own_Go p.tables e below (s₁.setTop (entryFrame m #[(.ref a0), (.ref a1)] 3)) (s₁.setTop (mkF m 29 #[.val (.ref a0), .val (.ref a1), .val (.int (3 : Int32))] [])) := fun t k => G747 t (XT.iincV X0.here hx rfl (1 : Int32) (hb hby d6_26) (by decide) rfl (l' := #[.val (.ref a0), .val (.ref a1), .val (.int (3 : Int32))]) rfl k)
      have G749 : own_Go p.tables e below (s₁.setTop (entryFrame m #[(.ref a0), (.ref a1)] 3)) (s₁.setTop (mkF m 9 #[.val (.ref a0), .val (.ref a1), .val (.int (3 : Int32))] [])) := fun t k => G748 t (XS.goto X0.here hx rfl (pc0 := 29) (pc' := 9) rfl (hb hby d6_29) (by decide) (by decide) k)
      have G750 : own_Go p.tables e below (s₁.setTop (entryFrame m #[(.ref a0), (.ref a1)] 3)) (s₁.setTop (mkF m 10 #[.val (.ref a0), .val (.ref a1), .val (.int (3 : Int32))] [(.int (3 : Int32))])) := fun t k => G749 t (XS.iloadN X0.here hx rfl (hb hby d6_9) rfl k)
      have G751 : own_Go p.tables e below (s₁.setTop (entryFrame m #[(.ref a0), (.ref a1)] 3)) (s₁.setTop (mkF m 11 #[.val (.ref a0), .val (.ref a1), .val (.int (3 : Int32))] [(.ref a0), (.int (3 : Int32))])) := fun t k => G750 t (XS.aloadN X0.here hx rfl (hb hby d6_10) rfl rfl k)
      have G752 : own_Go p.tables e below (s₁.setTop (entryFrame m #[(.ref a0), (.ref a1)] 3)) (s₁.setTop (mkF m 12 #[.val (.ref a0), .val (.ref a1), .val (.int (3 : Int32))] [(.int (4 : Int32)), (.int (3 : Int32))])) := fun t k => G751 t (X0.arraylength hx (by rw [e0]; exact Ara.1) (State.isArrayOf_alike hZ.alike Ara.2.1) (g := (mkF m 11 #[.val (.ref a0), .val (.ref a1), .val (.int (3 : Int32))] [(.ref a0), (.int (3 : Int32))])) rfl rfl (hb hby d6_11) t (by rw [show cla.slots.size.toInt32 = (4 : Int32) from (len_of Sza Nna).trans (by decide)]; exact k))
      have hk753 : (3 : Int32) < (4 : Int32) := by decide
      have G754 : own_Go p.tables e below (s₁.setTop (entryFrame m #[(.ref a0), (.ref a1)] 3)) (s₁.setTop (mkF m 15 #[.val (.ref a0), .val (.ref a1), .val (.int (3 : Int32))] [])) := fun t k => G752 t (XS.icmpNo X0.here hx rfl (hb hby d6_12) rfl (tlt hk753).2.1 k)
      have G755 : own_Go p.tables e below (s₁.setTop (entryFrame m #[(.ref a0), (.ref a1)] 3)) (s₁.setTop (mkF m 16 #[.val (.ref a0), .val (.ref a1), .val (.int (3 : Int32))] [(.ref a0)])) := fun t k => G754 t (XS.aloadN X0.here hx rfl (hb hby d6_15) rfl rfl k)
      have G756 : own_Go p.tables e below (s₁.setTop (entryFrame m #[(.ref a0), (.ref a1)] 3)) (s₁.setTop (mkF m 17 #[.val (.ref a0), .val (.ref a1), .val (.int (3 : Int32))] [(.int (3 : Int32)), (.ref a0)])) := fun t k => G755 t (XS.iloadN X0.here hx rfl (hb hby d6_16) rfl k)
      have hin757 : ¬ ((3 : Int32) < 0 ∨ cla.slots.size ≤ ((3 : Int32)).toNatClampNeg) := inb_of Sza ⟨by decide, by decide⟩
      have G758 : own_Go p.tables e below (s₁.setTop (entryFrame m #[(.ref a0), (.ref a1)] 3)) (s₁.setTop (mkF m 18 #[.val (.ref a0), .val (.ref a1), .val (.int (3 : Int32))] [(.int (116 : Int32))])) := fun t k => G756 t (X0.baloadBytes hx (by rw [e0]; exact Ara.1) (State.isArrayOf_alike hZ.alike Ara.2.1) Ara.2.2 hin757 (Hsa.at hin757 (by decide)) (g := (mkF m 17 #[.val (.ref a0), .val (.ref a1), .val (.int (3 : Int32))] [(.int (3 : Int32)), (.ref a0)])) rfl rfl (hb hby d6_17) t k)
      have G759 : own_Go p.tables e below (s₁.setTop (entryFrame m #[(.ref a0), (.ref a1)] 3)) (s₁.setTop (mkF m 19 #[.val (.ref a0), .val (.ref a1), .val (.int (3 : Int32))] [(.ref a1), (.int (116 : Int32))])) := fun t k => G758 t (XS.aloadN X0.here hx rfl (hb hby d6_18) rfl rfl k)
      have G760 : own_Go p.tables e below (s₁.setTop (entryFrame m #[(.ref a0), (.ref a1)] 3)) (s₁.setTop (mkF m 20 #[.val (.ref a0), .val (.ref a1), .val (.int (3 : Int32))] [(.int (3 : Int32)), (.ref a1), (.int (116 : Int32))])) := fun t k => G759 t (XS.iloadN X0.here hx rfl (hb hby d6_19) rfl k)
      have hin761 : ¬ ((3 : Int32) < 0 ∨ clb.slots.size ≤ ((3 : Int32)).toNatClampNeg) := inb_of Szb ⟨by decide, by decide⟩
      have G762 : own_Go p.tables e below (s₁.setTop (entryFrame m #[(.ref a0), (.ref a1)] 3)) (s₁.setTop (mkF m 21 #[.val (.ref a0), .val (.ref a1), .val (.int (3 : Int32))] [(.int (116 : Int32)), (.int (116 : Int32))])) := fun t k => G760 t (X0.baloadBytes hx (by rw [e0]; exact Arb.1) (State.isArrayOf_alike hZ.alike Arb.2.1) Arb.2.2 hin761 (Hsb.at hin761 (by decide)) (g := (mkF m 20 #[.val (.ref a0), .val (.ref a1), .val (.int (3 : Int32))] [(.int (3 : Int32)), (.ref a1), (.int (116 : Int32))])) rfl rfl (hb hby d6_20) t k)
      have hk763 : (116 : Int32) = (116 : Int32) := by decide
      have G764 : own_Go p.tables e below (s₁.setTop (entryFrame m #[(.ref a0), (.ref a1)] 3)) (s₁.setTop (mkF m 26 #[.val (.ref a0), .val (.ref a1), .val (.int (3 : Int32))] [])) := fun t k => G762 t (XS.icmpYes X0.here hx rfl (pc0 := 21) (pc' := 26) rfl (hb hby d6_21) rfl (teq hk763).1 (by decide) (by decide) k)
      have G765 : own_Go p.tables e below (s₁.setTop (entryFrame m #[(.ref a0), (.ref a1)] 3)) (s₁.setTop (mkF m 29 #[.val (.ref a0), .val (.ref a1), .val (.int (4 : Int32))] [])) := fun t k => G764 t (XT.iincV X0.here hx rfl (1 : Int32) (hb hby d6_26) (by decide) rfl (l' := #[.val (.ref a0), .val (.ref a1), .val (.int (4 : Int32))]) rfl k)
      have G766 : own_Go p.tables e below (s₁.setTop (entryFrame m #[(.ref a0), (.ref a1)] 3)) (s₁.setTop (mkF m 9 #[.val (.ref a0), .val (.ref a1), .val (.int (4 : Int32))] [])) := fun t k => G765 t (XS.goto X0.here hx rfl (pc0 := 29) (pc' := 9) rfl (hb hby d6_29) (by decide) (by decide) k)
      have G767 : own_Go p.tables e below (s₁.setTop (entryFrame m #[(.ref a0), (.ref a1)] 3)) (s₁.setTop (mkF m 10 #[.val (.ref a0), .val (.ref a1), .val (.int (4 : Int32))] [(.int (4 : Int32))])) := fun t k => G766 t (XS.iloadN X0.here hx rfl (hb hby d6_9) rfl k)
      have G768 : own_Go p.tables e below (s₁.setTop (entryFrame m #[(.ref a0), (.ref a1)] 3)) (s₁.setTop (mkF m 11 #[.val (.ref a0), .val (.ref a1), .val (.int (4 : Int32))] [(.ref a0), (.int (4 : Int32))])) := fun t k => G767 t (XS.aloadN X0.here hx rfl (hb hby d6_10) rfl rfl k)
      have G769 : own_Go p.tables e below (s₁.setTop (entryFrame m #[(.ref a0), (.ref a1)] 3)) (s₁.setTop (mkF m 12 #[.val (.ref a0), .val (.ref a1), .val (.int (4 : Int32))] [(.int (4 : Int32)), (.int (4 : Int32))])) := fun t k => G768 t (X0.arraylength hx (by rw [e0]; exact Ara.1) (State.isArrayOf_alike hZ.alike Ara.2.1) (g := (mkF m 11 #[.val (.ref a0), .val (.ref a1), .val (.int (4 : Int32))] [(.ref a0), (.int (4 : Int32))])) rfl rfl (hb hby d6_11) t (by rw [show cla.slots.size.toInt32 = (4 : Int32) from (len_of Sza Nna).trans (by decide)]; exact k))
      have hk770 : ¬ ((4 : Int32) < (4 : Int32)) := by decide
      have G771 : own_Go p.tables e below (s₁.setTop (entryFrame m #[(.ref a0), (.ref a1)] 3)) (s₁.setTop (mkF m 32 #[.val (.ref a0), .val (.ref a1), .val (.int (4 : Int32))] [])) := fun t k => G769 t (XS.icmpYes X0.here hx rfl (pc0 := 12) (pc' := 32) rfl (hb hby d6_12) rfl (flt hk770).2.1 (by decide) (by decide) k)
      have G772 : own_Go p.tables e below (s₁.setTop (entryFrame m #[(.ref a0), (.ref a1)] 3)) (s₁.setTop (mkF m 33 #[.val (.ref a0), .val (.ref a1), .val (.int (4 : Int32))] [(.int (1 : Int32))])) := fun t k => G771 t (XT.iconstV X0.here hx rfl (1 : Int32) (hb hby d6_32) (by decide) k)
      obtain ⟨fs, hr, hrun, hended, hW, hsame⟩ := X0.leave (v := some (.int (nar .boolean (1 : Int32)))) (fun h => by rw [Bd.returns] at h; cases h)
      refine ⟨_, _, G772 _ ?_, hrun, hended, _, _, rfl, ?_, ⟨_, rfl⟩, hW, hsame.mono (by decide) (by decide)⟩
      · exact retN X0 hx (t := .boolean) Bd.returns (by simp) (hb hby d6_33) hr
      · show Q6 Z a0 a1 (3 : Int32) (3 : Int32) ka kb h0 _ s₁.heap _
        rw [e0]
        exact ⟨by decide, rfl, rfl⟩
theorem d7_0 : decode jdk_42_method_66_code 0 = .ok (.aload_n 0, 1) := by decide +kernel
theorem d7_1 : decode jdk_42_method_66_code 1 = .ok (.aload_n 1, 1) := by decide +kernel
theorem d7_2 : decode jdk_42_method_66_code 2 = .ok (.if_acmp .ne 5, 3) := by decide +kernel
theorem d7_5 : decode jdk_42_method_66_code 5 = .ok (.iconst 1, 1) := by decide +kernel
theorem d7_6 : decode jdk_42_method_66_code 6 = .ok (.ireturn, 1) := by decide +kernel
theorem d7_7 : decode jdk_42_method_66_code 7 = .ok (.aload_n 1, 1) := by decide +kernel
theorem d7_8 : decode jdk_42_method_66_code 8 = .ok (.instanceof 10, 3) := by decide +kernel
theorem d7_11 : decode jdk_42_method_66_code 11 = .ok (.ifCond .eq 43, 3) := by decide +kernel
theorem d7_14 : decode jdk_42_method_66_code 14 = .ok (.aload_n 1, 1) := by decide +kernel
theorem d7_15 : decode jdk_42_method_66_code 15 = .ok (.checkcast 10, 3) := by decide +kernel
theorem d7_18 : decode jdk_42_method_66_code 18 = .ok (.astore_n 2, 1) := by decide +kernel
theorem d7_19 : decode jdk_42_method_66_code 19 = .ok (.getstatic 38, 3) := by decide +kernel
theorem d7_22 : decode jdk_42_method_66_code 22 = .ok (.ifCond .eq 14, 3) := by decide +kernel
theorem d7_25 : decode jdk_42_method_66_code 25 = .ok (.aload_n 0, 1) := by decide +kernel
theorem d7_26 : decode jdk_42_method_66_code 26 = .ok (.getfield 15, 3) := by decide +kernel
theorem d7_29 : decode jdk_42_method_66_code 29 = .ok (.aload_n 2, 1) := by decide +kernel
theorem d7_30 : decode jdk_42_method_66_code 30 = .ok (.getfield 15, 3) := by decide +kernel
theorem d7_33 : decode jdk_42_method_66_code 33 = .ok (.if_icmp .ne 21, 3) := by decide +kernel
theorem d7_36 : decode jdk_42_method_66_code 36 = .ok (.aload_n 0, 1) := by decide +kernel
theorem d7_37 : decode jdk_42_method_66_code 37 = .ok (.getfield 9, 3) := by decide +kernel
theorem d7_40 : decode jdk_42_method_66_code 40 = .ok (.aload_n 2, 1) := by decide +kernel
theorem d7_41 : decode jdk_42_method_66_code 41 = .ok (.getfield 9, 3) := by decide +kernel
theorem d7_44 : decode jdk_42_method_66_code 44 = .ok (.invokestatic 541, 3) := by decide +kernel
theorem d7_47 : decode jdk_42_method_66_code 47 = .ok (.ifCond .eq 7, 3) := by decide +kernel
theorem d7_50 : decode jdk_42_method_66_code 50 = .ok (.iconst 1, 1) := by decide +kernel
theorem d7_51 : decode jdk_42_method_66_code 51 = .ok (.goto 4, 3) := by decide +kernel
theorem d7_54 : decode jdk_42_method_66_code 54 = .ok (.iconst 0, 1) := by decide +kernel
theorem d7_55 : decode jdk_42_method_66_code 55 = .ok (.ireturn, 1) := by decide +kernel
theorem pn_7 : plainName "java/lang/String" = true := by first | (simp [plainName, overriddenIn]; done) | decide +kernel
theorem pd_7_1 : parseMethodDescriptor "([B[B)Z" = some ⟨[(.array .byte), (.array .byte)], some .boolean⟩ := by decide +kernel
theorem ef_7 (m : MethodId) (a0 : Addr) (a1 : Addr) : entryFrame m #[(.ref a0), (.ref a1)] 3 = mkF m 0 #[.val (.ref a0), .val (.ref a1), .unset] [] := by first | (simp [entryFrame, mkF, argsToLocals, Value.category]; done) | rfl
def Q7 (Z : State) (a0 : Addr) (a1 : Addr) (i j : Int32) (b0 b1 : Addr) (ka kb : ClassId) (zc : Int32) (h0 : Heap) (v : Option Value) (h : Heap) (L : List Loc) : Prop := v = some (.int (if i = j then (1 : Int32) else (0 : Int32))) ∧ L = [] ∧ h = h0
set_option maxRecDepth 65536 in
set_option maxHeartbeats 40000000 in
theorem rm7 (l : Launch) (Z : State) (aw : Array Value) (hw : ∀ d ∈ tables_1, d.before aw Z = true) (ws : List Jvm.Cond) (a0 : Addr) (a1 : Addr) (i j : Int32) (b0 b1 : Addr) (ka kb : ClassId) (zc : Int32) (h0 : Heap) (hi : 0 ≤ i.toInt ∧ i.toInt < 4) (hj : 0 ≤ j.toInt ∧ j.toInt < 4) (S_C : Sta Z h0 "java/lang/String" "COMPACT_STRINGS" "Z" (.int zc)) (hCz : ¬ zc = 0) (E_1 : Exa Z h0 a1 "java/lang/String") (C_0 : Fld Z h0 a0 "java/lang/String" "coder" "B" (.int (0 : Int32))) (C_1 : Fld Z h0 a1 "java/lang/String" "coder" "B" (.int (0 : Int32))) (V_0 : Fld Z h0 a0 "java/lang/String" "value" "[B" (.ref b0)) (V_1 : Fld Z h0 a1 "java/lang/String" "value" "[B" (.ref b1)) (Va : Arv Z h0 b0 ka .byte (own_n i) (own_vs i) (.int 0)) (Vb : Arv Z h0 b1 kb .byte (own_n j) (own_vs j) (.int 0)) :
    MetFree l (⟨"java/lang/String", "equals", "(Ljava/lang/Object;)Z"⟩ : MethodName) (head1 (Jvm.Cond.code (⟨"java/lang/String", "equals", "(Ljava/lang/Object;)Z"⟩ : MethodName) jdk_42_method_66_code 3 (some .boolean) :: ws) ({ frames := 1, cells := 0, slots := 0, locals := 14 } : Room)) (fun a U => a = #[(.ref a0), (.ref a1)] ∧ Z.Warmed39 U.vm ∧ U.heap = h0) (fun _ _ _ _ _ => True) (fun _ U o U' => ∃ v L, o = .returned v ∧ Q7 Z a0 a1 i j b0 b1 ka kb zc h0 v U'.heap L ∧ FrameEnd U o U' L ({ frames := 1, cells := 0, slots := 0, locals := 14 } : Room).cells ({ frames := 1, cells := 0, slots := 0, locals := 14 } : Room).slots) := by
  refine MetFree.of_bodySF (plainFor_of_name pn_7) hisR ?_
  intro p e s m args below meth c s₁ Bd hml0 hP hK
  obtain ⟨rfl, hZ, hh⟩ := hP
  have hZ0 := hZ
  have hx := Bd.exec
  have hby := Bd.bytes
  have hml : c.maxLocals = 3 := hml0
  have hown : s.vm.findClass "java/lang/String" = some m.cls := findClass_of_methodNamed Bd.named
  have hnm := (name_of_methodNamed Bd.named Bd.method).1
  have X0 : Stand p l e ({ frames := 1, cells := 0, slots := 0, locals := 14 } : Room) s m #[(.ref a0), (.ref a1)] below meth c s₁ [] 0 0 := Stand.of_body Bd
  have e0 : s₁.heap = h0 := by rw [← hh, Bd.state]; rfl
  have G0 : own_Go p.tables e below (s₁.setTop (entryFrame m #[(.ref a0), (.ref a1)] 3)) (s₁.setTop (mkF m 0 #[.val (.ref a0), .val (.ref a1), .unset] [])) := fun t k => castTop (ef_7 m a0 a1) k
  have G1 : own_Go p.tables e below (s₁.setTop (entryFrame m #[(.ref a0), (.ref a1)] 3)) (s₁.setTop (mkF m 1 #[.val (.ref a0), .val (.ref a1), .unset] [(.ref a0)])) := fun t k => G0 t (XS.aloadN X0.here hx rfl (hb hby d7_0) rfl rfl k)
  have G2 : own_Go p.tables e below (s₁.setTop (entryFrame m #[(.ref a0), (.ref a1)] 3)) (s₁.setTop (mkF m 2 #[.val (.ref a0), .val (.ref a1), .unset] [(.ref a1), (.ref a0)])) := fun t k => G1 t (XS.aloadN X0.here hx rfl (hb hby d7_1) rfl rfl k)
  by_cases hc3 : a0 = a1
  · have G4 : own_Go p.tables e below (s₁.setTop (entryFrame m #[(.ref a0), (.ref a1)] 3)) (s₁.setTop (mkF m 5 #[.val (.ref a0), .val (.ref a1), .unset] [])) := fun t k => G2 t (Jvm.RoadKit.acmp (g := (mkF m 2 #[.val (.ref a0), .val (.ref a1), .unset] [(.ref a1), (.ref a0)])) X0 hx rfl rfl rfl (pc0 := 2) (pc' := 5) (same := true) rfl (hb hby d7_2) rfl (decide_eq_true (congrArg Value.ref hc3)) (by decide) (by decide) k)
    have G5 : own_Go p.tables e below (s₁.setTop (entryFrame m #[(.ref a0), (.ref a1)] 3)) (s₁.setTop (mkF m 6 #[.val (.ref a0), .val (.ref a1), .unset] [(.int (1 : Int32))])) := fun t k => G4 t (XT.iconstV X0.here hx rfl (1 : Int32) (hb hby d7_5) (by decide) k)
    obtain ⟨fs, hr, hrun, hended, hW, hsame⟩ := X0.leave (v := some (.int (nar .boolean (1 : Int32)))) (fun h => by rw [Bd.returns] at h; cases h)
    refine ⟨_, _, G5 _ ?_, hrun, hended, _, _, rfl, ?_, ⟨_, rfl⟩, hW, hsame.mono (by decide) (by decide)⟩
    · exact retN X0 hx (t := .boolean) Bd.returns (by simp) (hb hby d7_6) hr
    · show Q7 Z a0 a1 i j b0 b1 ka kb zc h0 _ s₁.heap _
      rw [e0]
      exact ⟨congrArg (fun z => some (Value.int z)) (by rw [if_pos (own_same hi hj V_0 V_1 Va Vb hc3)]; decide), rfl, rfl⟩
  · have G7 : own_Go p.tables e below (s₁.setTop (entryFrame m #[(.ref a0), (.ref a1)] 3)) (s₁.setTop (mkF m 7 #[.val (.ref a0), .val (.ref a1), .unset] [])) := fun t k => G2 t (Jvm.RoadKit.acmp (g := (mkF m 2 #[.val (.ref a0), .val (.ref a1), .unset] [(.ref a1), (.ref a0)])) X0 hx rfl rfl rfl (pc0 := 2) (pc' := 7) (same := false) rfl (hb hby d7_2) rfl (decide_eq_false fun q => hc3 (Value.ref.inj q)) (by decide) (by decide) k)
    have G8 : own_Go p.tables e below (s₁.setTop (entryFrame m #[(.ref a0), (.ref a1)] 3)) (s₁.setTop (mkF m 8 #[.val (.ref a0), .val (.ref a1), .unset] [(.ref a1)])) := fun t k => G7 t (XS.aloadN X0.here hx rfl (hb hby d7_7) rfl rfl k)
    obtain ⟨T9, X9, e9, st9⟩ := instY X0 hx hZ hown (hw _ (List.mem_of_getElem? (i := 47) rfl)) e0 (Ins.self E_1) (g := (mkF m 8 #[.val (.ref a0), .val (.ref a1), .unset] [(.ref a1)])) rfl rfl (hb hby d7_8)
    have G9 : own_Go p.tables e below (s₁.setTop (entryFrame m #[(.ref a0), (.ref a1)] 3)) (T9.setTop (mkF m 11 #[.val (.ref a0), .val (.ref a1), .unset] [(.int (1 : Int32))])) := fun t k => G8 t (st9 t k)
    have hk10 : ¬ ((1 : Int32) = (0 : Int32)) := by decide
    have G11 : own_Go p.tables e below (s₁.setTop (entryFrame m #[(.ref a0), (.ref a1)] 3)) (T9.setTop (mkF m 14 #[.val (.ref a0), .val (.ref a1), .unset] [])) := fun t k => G9 t (XS.ifNo X9.here hx rfl (hb hby d7_11) rfl ((if0 _ _).trans (feq hk10).1) k)
    have G12 : own_Go p.tables e below (s₁.setTop (entryFrame m #[(.ref a0), (.ref a1)] 3)) (T9.setTop (mkF m 15 #[.val (.ref a0), .val (.ref a1), .unset] [(.ref a1)])) := fun t k => G11 t (XS.aloadN X9.here hx rfl (hb hby d7_14) rfl rfl k)
    obtain ⟨T13, X13, e13, st13⟩ := castY X9 hx hZ hown (hw _ (List.mem_of_getElem? (i := 47) rfl)) e9 (Ins.self E_1) (g := (mkF m 15 #[.val (.ref a0), .val (.ref a1), .unset] [(.ref a1)])) rfl rfl (hb hby d7_15)
    have G13 : own_Go p.tables e below (s₁.setTop (entryFrame m #[(.ref a0), (.ref a1)] 3)) (T13.setTop (mkF m 18 #[.val (.ref a0), .val (.ref a1), .unset] [(.ref a1)])) := fun t k => G12 t (st13 t k)
    have G14 : own_Go p.tables e below (s₁.setTop (entryFrame m #[(.ref a0), (.ref a1)] 3)) (T13.setTop (mkF m 19 #[.val (.ref a0), .val (.ref a1), .val (.ref a1)] [])) := fun t k => G13 t (XS.astoreN X13.here hx rfl (hb hby d7_18) rfl rfl (l' := #[.val (.ref a0), .val (.ref a1), .val (.ref a1)]) rfl k)
    obtain ⟨T15, X15, e15, st15⟩ := getS2 X13 hx hZ hown (host := "") (Or.inl (hw _ (List.mem_of_getElem? (i := 49) rfl))) Via.refl e13 S_C (g := (mkF m 19 #[.val (.ref a0), .val (.ref a1), .val (.ref a1)] [])) rfl (hb hby d7_19)
    have G15 : own_Go p.tables e below (s₁.setTop (entryFrame m #[(.ref a0), (.ref a1)] 3)) (T15.setTop (mkF m 22 #[.val (.ref a0), .val (.ref a1), .val (.ref a1)] [(.int zc)])) := fun t k => G14 t (st15 t k)
    have hk16 : ¬ (zc = (0 : Int32)) := hCz
    have G17 : own_Go p.tables e below (s₁.setTop (entryFrame m #[(.ref a0), (.ref a1)] 3)) (T15.setTop (mkF m 25 #[.val (.ref a0), .val (.ref a1), .val (.ref a1)] [])) := fun t k => G15 t (XS.ifNo X15.here hx rfl (hb hby d7_22) rfl ((if0 _ _).trans (feq hk16).1) k)
    have G18 : own_Go p.tables e below (s₁.setTop (entryFrame m #[(.ref a0), (.ref a1)] 3)) (T15.setTop (mkF m 26 #[.val (.ref a0), .val (.ref a1), .val (.ref a1)] [(.ref a0)])) := fun t k => G17 t (XS.aloadN X15.here hx rfl (hb hby d7_25) rfl rfl k)
    obtain ⟨T19, X19, e19, st19⟩ := getF X15 hx hZ hown (host := "") (Or.inl (hw _ (List.mem_of_getElem? (i := 50) rfl))) Via.refl e15 C_0 (g := (mkF m 26 #[.val (.ref a0), .val (.ref a1), .val (.ref a1)] [(.ref a0)])) rfl rfl (hb hby d7_26)
    have G19 : own_Go p.tables e below (s₁.setTop (entryFrame m #[(.ref a0), (.ref a1)] 3)) (T19.setTop (mkF m 29 #[.val (.ref a0), .val (.ref a1), .val (.ref a1)] [(.int (0 : Int32))])) := fun t k => G18 t (st19 t k)
    have G20 : own_Go p.tables e below (s₁.setTop (entryFrame m #[(.ref a0), (.ref a1)] 3)) (T19.setTop (mkF m 30 #[.val (.ref a0), .val (.ref a1), .val (.ref a1)] [(.ref a1), (.int (0 : Int32))])) := fun t k => G19 t (XS.aloadN X19.here hx rfl (hb hby d7_29) rfl rfl k)
    obtain ⟨T21, X21, e21, st21⟩ := getF X19 hx hZ hown (host := "") (Or.inl (hw _ (List.mem_of_getElem? (i := 50) rfl))) Via.refl e19 C_1 (g := (mkF m 30 #[.val (.ref a0), .val (.ref a1), .val (.ref a1)] [(.ref a1), (.int (0 : Int32))])) rfl rfl (hb hby d7_30)
    have G21 : own_Go p.tables e below (s₁.setTop (entryFrame m #[(.ref a0), (.ref a1)] 3)) (T21.setTop (mkF m 33 #[.val (.ref a0), .val (.ref a1), .val (.ref a1)] [(.int (0 : Int32)), (.int (0 : Int32))])) := fun t k => G20 t (st21 t k)
    have hk22 : (0 : Int32) = (0 : Int32) := by decide
    have G23 : own_Go p.tables e below (s₁.setTop (entryFrame m #[(.ref a0), (.ref a1)] 3)) (T21.setTop (mkF m 36 #[.val (.ref a0), .val (.ref a1), .val (.ref a1)] [])) := fun t k => G21 t (XS.icmpNo X21.here hx rfl (hb hby d7_33) rfl (teq hk22).2 k)
    have G24 : own_Go p.tables e below (s₁.setTop (entryFrame m #[(.ref a0), (.ref a1)] 3)) (T21.setTop (mkF m 37 #[.val (.ref a0), .val (.ref a1), .val (.ref a1)] [(.ref a0)])) := fun t k => G23 t (XS.aloadN X21.here hx rfl (hb hby d7_36) rfl rfl k)
    obtain ⟨T25, X25, e25, st25⟩ := getF X21 hx hZ hown (host := "") (Or.inl (hw _ (List.mem_of_getElem? (i := 51) rfl))) Via.refl e21 V_0 (g := (mkF m 37 #[.val (.ref a0), .val (.ref a1), .val (.ref a1)] [(.ref a0)])) rfl rfl (hb hby d7_37)
    have G25 : own_Go p.tables e below (s₁.setTop (entryFrame m #[(.ref a0), (.ref a1)] 3)) (T25.setTop (mkF m 40 #[.val (.ref a0), .val (.ref a1), .val (.ref a1)] [(.ref b0)])) := fun t k => G24 t (st25 t k)
    have G26 : own_Go p.tables e below (s₁.setTop (entryFrame m #[(.ref a0), (.ref a1)] 3)) (T25.setTop (mkF m 41 #[.val (.ref a0), .val (.ref a1), .val (.ref a1)] [(.ref a1), (.ref b0)])) := fun t k => G25 t (XS.aloadN X25.here hx rfl (hb hby d7_40) rfl rfl k)
    obtain ⟨T27, X27, e27, st27⟩ := getF X25 hx hZ hown (host := "") (Or.inl (hw _ (List.mem_of_getElem? (i := 51) rfl))) Via.refl e25 V_1 (g := (mkF m 41 #[.val (.ref a0), .val (.ref a1), .val (.ref a1)] [(.ref a1), (.ref b0)])) rfl rfl (hb hby d7_41)
    have G27 : own_Go p.tables e below (s₁.setTop (entryFrame m #[(.ref a0), (.ref a1)] 3)) (T27.setTop (mkF m 44 #[.val (.ref a0), .val (.ref a1), .val (.ref a1)] [(.ref b1), (.ref b0)])) := fun t k => G26 t (st27 t k)
    obtain ⟨vv28, _, ⟨T28, L28, k28, n28⟩, -, X28, ⟨Lc28, hQ28, l28, y28, z28⟩, st28⟩ := Jvm.LawKit.callS X27 hx (y := (⟨"java/lang/StringLatin1", "equals", "([B[B)Z"⟩ : MethodName)) hown (mvT hZ (hw _ (List.mem_of_getElem? (i := 52) rfl))) (mvT hZ (hw _ (List.mem_of_getElem? (i := 53) rfl))) (mvT hZ (hw _ (List.mem_of_getElem? (i := 54) rfl))) (mvT hZ (hw _ (List.mem_of_getElem? (i := 55) rfl))) (by decide) (backOf (W := 0) (rm6 l Z aw hw [] b0 b1 i j ka kb h0 hi hj Va Vb) hZ (hw _ (List.mem_of_getElem? (i := 55) rfl)) (hw _ (List.mem_of_getElem? (i := 54) rfl)) (by decide) (by decide)) (g := (mkF m 44 #[.val (.ref a0), .val (.ref a1), .val (.ref a1)] [(.ref b1), (.ref b0)])) rfl (by rw [hml]; rfl) (argsL := [(.ref b0), (.ref b1)]) (rest := []) (lenOf pd_7_1 rfl) rfl (by show 2 * 0 + _ ≤ _; exact Nat.le_of_eq rfl) (hb hby d7_44) (fun _ _ => ⟨rfl, e27, (by decide : 0 + 0 ≤ _), (by decide : 0 + 0 ≤ _)⟩)
    dsimp only [Pt.U, Pt.locs, Pt.cells, Pt.slots] at X28 l28 y28 z28 st28 hQ28
    subst l28 y28 z28
    obtain ⟨rfl, rfl, e28⟩ := hQ28
    have Y28 : Stand p l e ({ frames := 1, cells := 0, slots := 0, locals := 14 } : Room) s m #[(.ref a0), (.ref a1)] below meth c T28 [] 0 0 := X28
    have G28 : own_Go p.tables e below (s₁.setTop (entryFrame m #[(.ref a0), (.ref a1)] 3)) (T28.setTop (mkF m 47 #[.val (.ref a0), .val (.ref a1), .val (.ref a1)] [(.int (if i = j then (1 : Int32) else (0 : Int32)))])) := fun t k => G27 t (st28 t k)
    obtain ⟨z29_0, hz29_0, G29⟩ : ∃ (z29_0 : Int32), z29_0 = (if (if i = j then (1 : Int32) else (0 : Int32)) = (0 : Int32) then (0 : Int32) else (1 : Int32)) ∧ own_Go p.tables e below (s₁.setTop (entryFrame m #[(.ref a0), (.ref a1)] 3)) (T28.setTop (mkF m 55 #[.val (.ref a0), .val (.ref a1), .val (.ref a1)] [(.int z29_0)])) := by
      by_cases hc29 : (if i = j then (1 : Int32) else (0 : Int32)) = (0 : Int32)
      · have G30 : own_Go p.tables e below (s₁.setTop (entryFrame m #[(.ref a0), (.ref a1)] 3)) (T28.setTop (mkF m 54 #[.val (.ref a0), .val (.ref a1), .val (.ref a1)] [])) := fun t k => G28 t (XS.ifYes Y28.here hx rfl (pc0 := 47) (pc' := 54) rfl (hb hby d7_47) rfl ((if0 _ _).trans (teq hc29).1) (by decide) (by decide) k)
        have G31 : own_Go p.tables e below (s₁.setTop (entryFrame m #[(.ref a0), (.ref a1)] 3)) (T28.setTop (mkF m 55 #[.val (.ref a0), .val (.ref a1), .val (.ref a1)] [(.int (0 : Int32))])) := fun t k => G30 t (XT.iconstV Y28.here hx rfl (0 : Int32) (hb hby d7_54) (by decide) k)
        exact ⟨_, (if_pos hc29).symm, G31⟩
      · have G32 : own_Go p.tables e below (s₁.setTop (entryFrame m #[(.ref a0), (.ref a1)] 3)) (T28.setTop (mkF m 50 #[.val (.ref a0), .val (.ref a1), .val (.ref a1)] [])) := fun t k => G28 t (XS.ifNo Y28.here hx rfl (hb hby d7_47) rfl ((if0 _ _).trans (feq hc29).1) k)
        have G33 : own_Go p.tables e below (s₁.setTop (entryFrame m #[(.ref a0), (.ref a1)] 3)) (T28.setTop (mkF m 51 #[.val (.ref a0), .val (.ref a1), .val (.ref a1)] [(.int (1 : Int32))])) := fun t k => G32 t (XT.iconstV Y28.here hx rfl (1 : Int32) (hb hby d7_50) (by decide) k)
        have G34 : own_Go p.tables e below (s₁.setTop (entryFrame m #[(.ref a0), (.ref a1)] 3)) (T28.setTop (mkF m 55 #[.val (.ref a0), .val (.ref a1), .val (.ref a1)] [(.int (1 : Int32))])) := fun t k => G33 t (XS.goto Y28.here hx rfl (pc0 := 51) (pc' := 55) rfl (hb hby d7_51) (by decide) (by decide) k)
        exact ⟨_, (if_neg hc29).symm, G34⟩
    obtain ⟨fs, hr, hrun, hended, hW, hsame⟩ := Y28.leave (v := some (.int (nar .boolean z29_0))) (fun h => by rw [Bd.returns] at h; cases h)
    refine ⟨_, _, G29 _ ?_, hrun, hended, _, _, rfl, ?_, ⟨_, rfl⟩, hW, hsame.mono (by decide) (by decide)⟩
    · exact retN Y28 hx (t := .boolean) Bd.returns (by simp) (hb hby d7_55) hr
    · show Q7 Z a0 a1 i j b0 b1 ka kb zc h0 _ T28.heap _
      rw [e28]
      exact ⟨congrArg (fun z => some (Value.int z)) (by rw [hz29_0]; by_cases q : i = j <;> simp [q] <;> decide), rfl, rfl⟩
theorem pn_0 : plainName "com/example/epsilock/epsilock/workload/RunFormatTestPinLaw" = true := by first | (simp [plainName, overriddenIn]; done) | decide +kernel
theorem pd_0_2 : parseMethodDescriptor "(I)Lcom/example/epsilock/epsilock/engine/Refusal$Test$Kind;" = some ⟨[.int], some (.object "com/example/epsilock/epsilock/engine/Refusal$Test$Kind")⟩ := by decide +kernel
theorem pd_0_3 : parseMethodDescriptor "(Lcom/example/epsilock/epsilock/engine/Refusal$Test$Kind;)Ljava/lang/String;" = some ⟨[(.object "com/example/epsilock/epsilock/engine/Refusal$Test$Kind")], some (.object "java/lang/String")⟩ := by decide +kernel
theorem pd_0_4 : parseMethodDescriptor "(I)Ljava/lang/String;" = some ⟨[.int], some (.object "java/lang/String")⟩ := by decide +kernel
theorem pd_0_5 : parseMethodDescriptor "(Ljava/lang/Object;)Z" = some ⟨[(.object "java/lang/Object")], some .boolean⟩ := by decide +kernel
theorem ef_0 (m : MethodId) (p0 : Int32) (p1 : Int32) : entryFrame m #[(.int p0), (.int p1)] maxLocals = mkF m 0 #[.val (.int p0), .val (.int p1), .unset, .unset, .unset, .unset] [] := by first | (simp [entryFrame, mkF, argsToLocals, Value.category, maxLocals]; done) | rfl
def Q0 (Z : State) (p0 : Int32) (p1 : Int32) (k0 k1 k2 k3 : Addr) (aS : Addr) (clS : Cell) (zc : Int32) (h0 : Heap) (v : Option Value) (h : Heap) (L : List Loc) : Prop := v = some (.int 1) ∧ Fr Z.heap.size L ∧ Keep h0 h []
set_option maxRecDepth 65536 in
set_option maxHeartbeats 40000000 in
theorem rm0 (l : Launch) (Z : State) (aw : Array Value) (hw : ∀ d ∈ tables_1, d.before aw Z = true) (ws : List Jvm.Cond) (p0 : Int32) (p1 : Int32) (k0 k1 k2 k3 : Addr) (aS : Addr) (clS : Cell) (zc : Int32) (h0 : Heap) (O0 : Old Z Z.heap.size h0)  (S_k0 : Sta Z Z.heap "com/example/epsilock/epsilock/engine/Refusal$Test$Kind" "BOTH_WRITE" "Lcom/example/epsilock/epsilock/engine/Refusal$Test$Kind;" (.ref k0)) (E_k0 : Exa Z Z.heap k0 "com/example/epsilock/epsilock/engine/Refusal$Test$Kind") (F_k0 : Fld Z Z.heap k0 "java/lang/Enum" "ordinal" "I" (.int (0 : Int32))) (S_k1 : Sta Z Z.heap "com/example/epsilock/epsilock/engine/Refusal$Test$Kind" "OTHER_WROTE" "Lcom/example/epsilock/epsilock/engine/Refusal$Test$Kind;" (.ref k1)) (E_k1 : Exa Z Z.heap k1 "com/example/epsilock/epsilock/engine/Refusal$Test$Kind") (F_k1 : Fld Z Z.heap k1 "java/lang/Enum" "ordinal" "I" (.int (1 : Int32))) (S_k2 : Sta Z Z.heap "com/example/epsilock/epsilock/engine/Refusal$Test$Kind" "OTHER_READ" "Lcom/example/epsilock/epsilock/engine/Refusal$Test$Kind;" (.ref k2)) (E_k2 : Exa Z Z.heap k2 "com/example/epsilock/epsilock/engine/Refusal$Test$Kind") (F_k2 : Fld Z Z.heap k2 "java/lang/Enum" "ordinal" "I" (.int (2 : Int32))) (S_k3 : Sta Z Z.heap "com/example/epsilock/epsilock/engine/Refusal$Test$Kind" "TEXT" "Lcom/example/epsilock/epsilock/engine/Refusal$Test$Kind;" (.ref k3)) (E_k3 : Exa Z Z.heap k3 "com/example/epsilock/epsilock/engine/Refusal$Test$Kind") (F_k3 : Fld Z Z.heap k3 "java/lang/Enum" "ordinal" "I" (.int (3 : Int32))) (S_S : Sta Z Z.heap "com/example/epsilock/epsilock/workload/RunFormat$1" "$SwitchMap$com$example$epsilock$epsilock$engine$Refusal$Test$Kind" "[I" (.ref aS)) (ArS : Arr Z Z.heap aS clS .int) (SzS : clS.slots.size = (4 : Int32).toNatClampNeg) (hs0 : clS.slots[(0 : Int32).toNatClampNeg]? = some (.int (1 : Int32))) (hs1 : clS.slots[(1 : Int32).toNatClampNeg]? = some (.int (2 : Int32))) (hs2 : clS.slots[(2 : Int32).toNatClampNeg]? = some (.int (3 : Int32))) (hs3 : clS.slots[(3 : Int32).toNatClampNeg]? = some (.int (4 : Int32))) (S_C : Sta Z Z.heap "java/lang/String" "COMPACT_STRINGS" "Z" (.int zc)) (hCz : ¬ zc = 0) :
    MetFree l x (head1 (Jvm.Cond.code x code maxLocals ret :: ws) room_1) (fun a U => a = #[(.int p0), (.int p1)] ∧ Z.Warmed39 U.vm ∧ U.heap = h0 ∧ CHv Z own_EL U.vm h0) (fun _ _ _ _ _ => True) (fun _ U o U' => ∃ v L, o = .returned v ∧ Q0 Z p0 p1 k0 k1 k2 k3 aS clS zc h0 v U'.heap L ∧ ReturnedEndW U o U' L room_1.cells room_1.slots) := by
  refine MetFree.of_bodySF (plainFor_of_name pn_0) hisR ?_
  intro p e s m args below meth c s₁ Bd hml0 hP hK
  obtain ⟨rfl, hZ, hh, hC⟩ := hP
  have hZ0 := hZ
  have hx := Bd.exec
  have hby := Bd.bytes
  have hml : c.maxLocals = 6 := hml0
  have hown : s.vm.findClass "com/example/epsilock/epsilock/workload/RunFormatTestPinLaw" = some m.cls := findClass_of_methodNamed Bd.named
  have hnm := (name_of_methodNamed Bd.named Bd.method).1
  have X0 : Stand p l e room_1 (s.setVm s.vm) m #[(.int p0), (.int p1)] below meth c s₁ [] 0 0 := Stand.of_body Bd
  have e0 : s₁.heap = h0 := by rw [← hh, Bd.state]; rfl
  have G0 : own_Go p.tables e below (s₁.setTop (entryFrame m #[(.int p0), (.int p1)] maxLocals)) (s₁.setTop (mkF m 0 #[.val (.int p0), .val (.int p1), .unset, .unset, .unset, .unset] [])) := fun t k => castTop (ef_0 m p0 p1) k
  have N0 := Fr.nil Z.heap.size
  have K0 := Keep.refl h0 []
  have hS := State.WarmedH.since (State.WarmedH.refl s) 0
  have hk : 0 ≤ h0.size := Nat.zero_le _
  have G1 : own_Go p.tables e below (s₁.setTop (entryFrame m #[(.int p0), (.int p1)] maxLocals)) (s₁.setTop (mkF m 1 #[.val (.int p0), .val (.int p1), .unset, .unset, .unset, .unset] [(.int p0)])) := fun t k => G0 t (XS.iloadN X0.here hx rfl (hb hby at_0) rfl k)
  have G2 : own_Go p.tables e below (s₁.setTop (entryFrame m #[(.int p0), (.int p1)] maxLocals)) (s₁.setTop (mkF m 2 #[.val (.int p0), .val (.int p1), .unset, .unset, .unset, .unset] [(.int (3 : Int32)), (.int p0)])) := fun t k => G1 t (XT.iconstV X0.here hx rfl (3 : Int32) (hb hby at_1) (by decide) k)
  have G3 : own_Go p.tables e below (s₁.setTop (entryFrame m #[(.int p0), (.int p1)] maxLocals)) (s₁.setTop (mkF m 3 #[.val (.int p0), .val (.int p1), .unset, .unset, .unset, .unset] [(.int (p0 &&& (3 : Int32)))])) := fun t k => G2 t (XS.iand X0.here hx rfl (hb hby at_2) rfl k)
  have G4 : own_Go p.tables e below (s₁.setTop (entryFrame m #[(.int p0), (.int p1)] maxLocals)) (s₁.setTop (mkF m 4 #[.val (.int p0), .val (.int p1), .val (.int (p0 &&& (3 : Int32))), .unset, .unset, .unset] [])) := fun t k => G3 t (XS.istoreN X0.here hx rfl (hb hby at_3) rfl (l' := #[.val (.int p0), .val (.int p1), .val (.int (p0 &&& (3 : Int32))), .unset, .unset, .unset]) rfl k)
  obtain ⟨z5, hz5, G5⟩ : ∃ z5 : Int32, z5 = (p0 &&& (3 : Int32)) ∧ own_Go p.tables e below (s₁.setTop (entryFrame m #[(.int p0), (.int p1)] maxLocals)) (s₁.setTop (mkF m 4 #[.val (.int p0), .val (.int p1), .val (.int z5), .unset, .unset, .unset] [])) := ⟨_, rfl, G4⟩
  have G6 : own_Go p.tables e below (s₁.setTop (entryFrame m #[(.int p0), (.int p1)] maxLocals)) (s₁.setTop (mkF m 5 #[.val (.int p0), .val (.int p1), .val (.int z5), .unset, .unset, .unset] [(.int p1)])) := fun t k => G5 t (XS.iloadN X0.here hx rfl (hb hby at_4) rfl k)
  have G7 : own_Go p.tables e below (s₁.setTop (entryFrame m #[(.int p0), (.int p1)] maxLocals)) (s₁.setTop (mkF m 6 #[.val (.int p0), .val (.int p1), .val (.int z5), .unset, .unset, .unset] [(.int (3 : Int32)), (.int p1)])) := fun t k => G6 t (XT.iconstV X0.here hx rfl (3 : Int32) (hb hby at_5) (by decide) k)
  have G8 : own_Go p.tables e below (s₁.setTop (entryFrame m #[(.int p0), (.int p1)] maxLocals)) (s₁.setTop (mkF m 7 #[.val (.int p0), .val (.int p1), .val (.int z5), .unset, .unset, .unset] [(.int (p1 &&& (3 : Int32)))])) := fun t k => G7 t (XS.iand X0.here hx rfl (hb hby at_6) rfl k)
  have G9 : own_Go p.tables e below (s₁.setTop (entryFrame m #[(.int p0), (.int p1)] maxLocals)) (s₁.setTop (mkF m 8 #[.val (.int p0), .val (.int p1), .val (.int z5), .val (.int (p1 &&& (3 : Int32))), .unset, .unset] [])) := fun t k => G8 t (XS.istoreN X0.here hx rfl (hb hby at_7) rfl (l' := #[.val (.int p0), .val (.int p1), .val (.int z5), .val (.int (p1 &&& (3 : Int32))), .unset, .unset]) rfl k)
  obtain ⟨z10, hz10, G10⟩ : ∃ z10 : Int32, z10 = (p1 &&& (3 : Int32)) ∧ own_Go p.tables e below (s₁.setTop (entryFrame m #[(.int p0), (.int p1)] maxLocals)) (s₁.setTop (mkF m 8 #[.val (.int p0), .val (.int p1), .val (.int z5), .val (.int z10), .unset, .unset] [])) := ⟨_, rfl, G9⟩
  have G11 : own_Go p.tables e below (s₁.setTop (entryFrame m #[(.int p0), (.int p1)] maxLocals)) (s₁.setTop (mkF m 9 #[.val (.int p0), .val (.int p1), .val (.int z5), .val (.int z10), .unset, .unset] [(.int z5)])) := fun t k => G10 t (XS.iloadN X0.here hx rfl (hb hby at_8) rfl k)
  obtain ⟨vv12, _, ⟨T12, L12, k12, n12⟩, -, X12, ⟨Lc12, hQ12, l12, y12, z12⟩, st12⟩ := Jvm.LawKit.callS X0 hx (y := (⟨"com/example/epsilock/epsilock/workload/RunFormatTestPinLaw", "kind", "(I)Lcom/example/epsilock/epsilock/engine/Refusal$Test$Kind;"⟩ : MethodName)) hown (mvT hZ (hw _ (List.mem_of_getElem? (i := 0) rfl))) (mvT hZ (hw _ (List.mem_of_getElem? (i := 1) rfl))) (mvT hZ (hw _ (List.mem_of_getElem? (i := 2) rfl))) (mvT hZ (hw _ (List.mem_of_getElem? (i := 3) rfl))) (by decide) (backOf (W := 0) (rm1 l Z aw hw [] z5 k0 k1 k2 k3 h0 (S_k0.ext O0.2) (S_k1.ext O0.2) (S_k2.ext O0.2) (S_k3.ext O0.2)) hZ (hw _ (List.mem_of_getElem? (i := 3) rfl)) (hw _ (List.mem_of_getElem? (i := 2) rfl)) (by decide) (by decide)) (g := (mkF m 9 #[.val (.int p0), .val (.int p1), .val (.int z5), .val (.int z10), .unset, .unset] [(.int z5)])) rfl (by rw [hml]; rfl) (argsL := [(.int z5)]) (rest := []) (lenOf pd_0_2 rfl) rfl (by show 2 * 0 + _ ≤ _; exact Nat.le_of_eq rfl) (hb hby at_9) (fun _ _ => ⟨rfl, e0, (by decide : 0 + 0 ≤ _), (by decide : 0 + 0 ≤ _)⟩)
  dsimp only [Pt.U, Pt.locs, Pt.cells, Pt.slots] at X12 l12 y12 z12 st12 hQ12
  subst l12 y12 z12
  obtain ⟨rfl, rfl, e12⟩ := hQ12
  try rw [List.append_nil] at X12
  obtain ⟨aK12, haaK12⟩ : ∃ z, z = (own_pick z5 k0 k1 k2 k3) := ⟨_, rfl⟩
  rw [← haaK12] at st12
  have hk_z5 : 0 ≤ z5.toInt ∧ z5.toInt < 4 := by rw [hz5]; exact own_k4 _
  have E_aK12 : Exa Z h0 aK12 "com/example/epsilock/epsilock/engine/Refusal$Test$Kind" := by rw [haaK12]; exact own_pickE (P := fun a => Exa Z h0 a "com/example/epsilock/epsilock/engine/Refusal$Test$Kind") (E_k0.ext O0.2) (E_k1.ext O0.2) (E_k2.ext O0.2) (E_k3.ext O0.2)
  have F_aK12 : Fld Z h0 aK12 "java/lang/Enum" "ordinal" "I" (.int z5) := by rw [haaK12]; exact own_pickF (F := fun a k => Fld Z h0 a "java/lang/Enum" "ordinal" "I" (.int k)) hk_z5 (F_k0.ext O0.2) (F_k1.ext O0.2) (F_k2.ext O0.2) (F_k3.ext O0.2)
  have G12 : own_Go p.tables e below (s₁.setTop (entryFrame m #[(.int p0), (.int p1)] maxLocals)) (T12.setTop (mkF m 12 #[.val (.int p0), .val (.int p1), .val (.int z5), .val (.int z10), .unset, .unset] [(.ref aK12)])) := fun t k => G11 t (st12 t k)
  obtain ⟨vv13, _, ⟨T13, L13, k13, n13⟩, -, X13, hSq13, hgr13, ⟨Lc13, hQ13, l13, y13, z13, hR13⟩, st13⟩ := Jvm.RoadKit.callSS X12 hx (y := (⟨"com/example/epsilock/epsilock/workload/RunFormat", "test", "(Lcom/example/epsilock/epsilock/engine/Refusal$Test$Kind;)Ljava/lang/String;"⟩ : MethodName)) hown (mvT hZ (hw _ (List.mem_of_getElem? (i := 7) rfl))) (mvT hZ (hw _ (List.mem_of_getElem? (i := 8) rfl))) (mvT hZ (hw _ (List.mem_of_getElem? (i := 9) rfl))) (mvT hZ (hw _ (List.mem_of_getElem? (i := 10) rfl))) (by decide) (backOfSH (W := 0) (rm3 l Z aw hw [] aK12 z5 aS clS h0 O0  E_aK12 F_aK12 hk_z5 S_S ArS SzS hs0 hs1 hs2 hs3) hZ (hw _ (List.mem_of_getElem? (i := 10) rfl)) (hw _ (List.mem_of_getElem? (i := 9) rfl)) (by decide) (by decide) (own_EW hw) hC) (g := (mkF m 12 #[.val (.int p0), .val (.int p1), .val (.int z5), .val (.int z10), .unset, .unset] [(.ref aK12)])) rfl (by rw [hml]; rfl) (argsL := [(.ref aK12)]) (rest := []) (lenOf pd_0_3 rfl) rfl (by show 2 * 0 + _ ≤ _; exact Nat.le_of_eq rfl) (hb hby at_12) (fun _ _ => ⟨rfl, e12, (by decide : 0 + 2 ≤ _), (by decide : 0 + 48 ≤ _)⟩)
  dsimp only [Pt.U, Pt.locs, Pt.cells, Pt.slots] at X13 l13 y13 z13 st13 hQ13 hSq13 hgr13 hR13
  subst l13 y13 z13
  have hS := foldS hS (by rw [e12]; exact hk) hSq13 hgr13
  have hZ : Z.Warmed39 (s.setVm T13.vm).vm := State.Warmed39.trans (t := (s.setVm s.vm)) hZ hSq13.1
  have hown : (s.setVm T13.vm).vm.findClass "com/example/epsilock/epsilock/workload/RunFormatTestPinLaw" = some m.cls := by rw [show (s.setVm T13.vm).vm = T13.vm from rfl, hSq13.1.alike.findClass]; exact hown
  obtain ⟨r13, rb13, rk13, rfl, Nq13, Kq13, Re13, Rc13, Rv13, Ra13⟩ := hQ13
  have N13 := Fr.app N0 Nq13
  have O13 := O0.keep Kq13 all0
  have K13 := K0.trans Kq13 all0
  have hC := hR13.1
  have X13 : Stand p l e room_1 (s.setVm T13.vm) m #[(.int p0), (.int p1)] below meth c T13 _ _ _ := X13
  have hk := Nat.le_refl T13.heap.size
  have G13 : own_Go p.tables e below (s₁.setTop (entryFrame m #[(.int p0), (.int p1)] maxLocals)) (T13.setTop (mkF m 15 #[.val (.int p0), .val (.int p1), .val (.int z5), .val (.int z10), .unset, .unset] [(.ref r13)])) := fun t k => G12 t (st13.trans k)
  have G14 : own_Go p.tables e below (s₁.setTop (entryFrame m #[(.int p0), (.int p1)] maxLocals)) (T13.setTop (mkF m 17 #[.val (.int p0), .val (.int p1), .val (.int z5), .val (.int z10), .val (.ref r13), .unset] [])) := fun t k => G13 t (XS.astore X13.here hx rfl (hb hby at_15) rfl rfl (l' := #[.val (.int p0), .val (.int p1), .val (.int z5), .val (.int z10), .val (.ref r13), .unset]) rfl k)
  have G15 : own_Go p.tables e below (s₁.setTop (entryFrame m #[(.int p0), (.int p1)] maxLocals)) (T13.setTop (mkF m 18 #[.val (.int p0), .val (.int p1), .val (.int z5), .val (.int z10), .val (.ref r13), .unset] [(.int z10)])) := fun t k => G14 t (XS.iloadN X13.here hx rfl (hb hby at_17) rfl k)
  obtain ⟨vv16, _, ⟨T16, L16, k16, n16⟩, -, X16, ⟨Lc16, hQ16, l16, y16, z16⟩, st16⟩ := Jvm.LawKit.callS X13 hx (y := (⟨"com/example/epsilock/epsilock/workload/RunFormatTestPinLaw", "kind", "(I)Lcom/example/epsilock/epsilock/engine/Refusal$Test$Kind;"⟩ : MethodName)) hown (mvT hZ (hw _ (List.mem_of_getElem? (i := 0) rfl))) (mvT hZ (hw _ (List.mem_of_getElem? (i := 1) rfl))) (mvT hZ (hw _ (List.mem_of_getElem? (i := 2) rfl))) (mvT hZ (hw _ (List.mem_of_getElem? (i := 3) rfl))) (by decide) (backOf (W := 0) (rm1 l Z aw hw [] z10 k0 k1 k2 k3 T13.heap (S_k0.ext O13.2) (S_k1.ext O13.2) (S_k2.ext O13.2) (S_k3.ext O13.2)) hZ (hw _ (List.mem_of_getElem? (i := 3) rfl)) (hw _ (List.mem_of_getElem? (i := 2) rfl)) (by decide) (by decide)) (g := (mkF m 18 #[.val (.int p0), .val (.int p1), .val (.int z5), .val (.int z10), .val (.ref r13), .unset] [(.int z10)])) rfl (by rw [hml]; rfl) (argsL := [(.int z10)]) (rest := []) (lenOf pd_0_2 rfl) rfl (by show 2 * 0 + _ ≤ _; exact Nat.le_of_eq rfl) (hb hby at_18) (fun _ _ => ⟨rfl, rfl, (by decide : 2 + 0 ≤ _), (by decide : 48 + 0 ≤ _)⟩)
  dsimp only [Pt.U, Pt.locs, Pt.cells, Pt.slots] at X16 l16 y16 z16 st16 hQ16
  subst l16 y16 z16
  obtain ⟨rfl, rfl, e16⟩ := hQ16
  try rw [List.append_nil] at X16
  obtain ⟨aK16, haaK16⟩ : ∃ z, z = (own_pick z10 k0 k1 k2 k3) := ⟨_, rfl⟩
  rw [← haaK16] at st16
  have hk_z10 : 0 ≤ z10.toInt ∧ z10.toInt < 4 := by rw [hz10]; exact own_k4 _
  have E_aK16 : Exa Z T13.heap aK16 "com/example/epsilock/epsilock/engine/Refusal$Test$Kind" := by rw [haaK16]; exact own_pickE (P := fun a => Exa Z T13.heap a "com/example/epsilock/epsilock/engine/Refusal$Test$Kind") (E_k0.ext O13.2) (E_k1.ext O13.2) (E_k2.ext O13.2) (E_k3.ext O13.2)
  have F_aK16 : Fld Z T13.heap aK16 "java/lang/Enum" "ordinal" "I" (.int z10) := by rw [haaK16]; exact own_pickF (F := fun a k => Fld Z T13.heap a "java/lang/Enum" "ordinal" "I" (.int k)) hk_z10 (F_k0.ext O13.2) (F_k1.ext O13.2) (F_k2.ext O13.2) (F_k3.ext O13.2)
  have G16 : own_Go p.tables e below (s₁.setTop (entryFrame m #[(.int p0), (.int p1)] maxLocals)) (T16.setTop (mkF m 21 #[.val (.int p0), .val (.int p1), .val (.int z5), .val (.int z10), .val (.ref r13), .unset] [(.ref aK16)])) := fun t k => G15 t (st16 t k)
  obtain ⟨vv17, _, ⟨T17, L17, k17, n17⟩, -, X17, hSq17, hgr17, ⟨Lc17, hQ17, l17, y17, z17, hR17⟩, st17⟩ := Jvm.RoadKit.callSS X16 hx (y := (⟨"com/example/epsilock/epsilock/workload/RunFormat", "test", "(Lcom/example/epsilock/epsilock/engine/Refusal$Test$Kind;)Ljava/lang/String;"⟩ : MethodName)) hown (mvT hZ (hw _ (List.mem_of_getElem? (i := 7) rfl))) (mvT hZ (hw _ (List.mem_of_getElem? (i := 8) rfl))) (mvT hZ (hw _ (List.mem_of_getElem? (i := 9) rfl))) (mvT hZ (hw _ (List.mem_of_getElem? (i := 10) rfl))) (by decide) (backOfSH (W := 0) (rm3 l Z aw hw [] aK16 z10 aS clS T13.heap O13  E_aK16 F_aK16 hk_z10 S_S ArS SzS hs0 hs1 hs2 hs3) hZ (hw _ (List.mem_of_getElem? (i := 10) rfl)) (hw _ (List.mem_of_getElem? (i := 9) rfl)) (by decide) (by decide) (own_EW hw) hC) (g := (mkF m 21 #[.val (.int p0), .val (.int p1), .val (.int z5), .val (.int z10), .val (.ref r13), .unset] [(.ref aK16)])) rfl (by rw [hml]; rfl) (argsL := [(.ref aK16)]) (rest := []) (lenOf pd_0_3 rfl) rfl (by show 2 * 0 + _ ≤ _; exact Nat.le_of_eq rfl) (hb hby at_21) (fun _ _ => ⟨rfl, e16, (by decide : 2 + 2 ≤ _), (by decide : 48 + 48 ≤ _)⟩)
  dsimp only [Pt.U, Pt.locs, Pt.cells, Pt.slots] at X17 l17 y17 z17 st17 hQ17 hSq17 hgr17 hR17
  subst l17 y17 z17
  have hS := foldS hS (by rw [e16]; exact hk) hSq17 hgr17
  have hZ : Z.Warmed39 (s.setVm T17.vm).vm := State.Warmed39.trans (t := (s.setVm T13.vm)) hZ hSq17.1
  have hown : (s.setVm T17.vm).vm.findClass "com/example/epsilock/epsilock/workload/RunFormatTestPinLaw" = some m.cls := by rw [show (s.setVm T17.vm).vm = T17.vm from rfl, hSq17.1.alike.findClass]; exact hown
  obtain ⟨r17, rb17, rk17, rfl, Nq17, Kq17, Re17, Rc17, Rv17, Ra17⟩ := hQ17
  have N17 := Fr.app N13 Nq17
  have O17 := O13.keep Kq17 all0
  have K17 := K13.trans Kq17 all0
  have hC := hR17.1
  have X17 : Stand p l e room_1 (s.setVm T17.vm) m #[(.int p0), (.int p1)] below meth c T17 _ _ _ := X17
  have hk := Nat.le_refl T17.heap.size
  have G17 : own_Go p.tables e below (s₁.setTop (entryFrame m #[(.int p0), (.int p1)] maxLocals)) (T17.setTop (mkF m 24 #[.val (.int p0), .val (.int p1), .val (.int z5), .val (.int z10), .val (.ref r13), .unset] [(.ref r17)])) := fun t k => G16 t (st17.trans k)
  have G18 : own_Go p.tables e below (s₁.setTop (entryFrame m #[(.int p0), (.int p1)] maxLocals)) (T17.setTop (mkF m 26 #[.val (.int p0), .val (.int p1), .val (.int z5), .val (.int z10), .val (.ref r13), .val (.ref r17)] [])) := fun t k => G17 t (XS.astore X17.here hx rfl (hb hby at_24) rfl rfl (l' := #[.val (.int p0), .val (.int p1), .val (.int z5), .val (.int z10), .val (.ref r13), .val (.ref r17)]) rfl k)
  have G19 : own_Go p.tables e below (s₁.setTop (entryFrame m #[(.int p0), (.int p1)] maxLocals)) (T17.setTop (mkF m 28 #[.val (.int p0), .val (.int p1), .val (.int z5), .val (.int z10), .val (.ref r13), .val (.ref r17)] [(.ref r13)])) := fun t k => G18 t (XS.aload X17.here hx rfl (hb hby at_26) rfl rfl k)
  have G20 : own_Go p.tables e below (s₁.setTop (entryFrame m #[(.int p0), (.int p1)] maxLocals)) (T17.setTop (mkF m 31 #[.val (.int p0), .val (.int p1), .val (.int z5), .val (.int z10), .val (.ref r13), .val (.ref r17)] [])) := fun t k => G19 t (XS.ifnullNo X17.here hx rfl (hb hby at_28) rfl k)
  have G21 : own_Go p.tables e below (s₁.setTop (entryFrame m #[(.int p0), (.int p1)] maxLocals)) (T17.setTop (mkF m 33 #[.val (.int p0), .val (.int p1), .val (.int z5), .val (.int z10), .val (.ref r13), .val (.ref r17)] [(.ref r17)])) := fun t k => G20 t (XS.aload X17.here hx rfl (hb hby at_31) rfl rfl k)
  have G22 : own_Go p.tables e below (s₁.setTop (entryFrame m #[(.int p0), (.int p1)] maxLocals)) (T17.setTop (mkF m 38 #[.val (.int p0), .val (.int p1), .val (.int z5), .val (.int z10), .val (.ref r13), .val (.ref r17)] [])) := fun t k => G21 t (XS.ifnonnullYes X17.here hx rfl (pc0 := 33) (pc' := 38) rfl (hb hby at_33) rfl (by decide) (by decide) k)
  have G23 : own_Go p.tables e below (s₁.setTop (entryFrame m #[(.int p0), (.int p1)] maxLocals)) (T17.setTop (mkF m 40 #[.val (.int p0), .val (.int p1), .val (.int z5), .val (.int z10), .val (.ref r13), .val (.ref r17)] [(.ref r13)])) := fun t k => G22 t (XS.aload X17.here hx rfl (hb hby at_38) rfl rfl k)
  have G24 : own_Go p.tables e below (s₁.setTop (entryFrame m #[(.int p0), (.int p1)] maxLocals)) (T17.setTop (mkF m 41 #[.val (.int p0), .val (.int p1), .val (.int z5), .val (.int z10), .val (.ref r13), .val (.ref r17)] [(.int z5), (.ref r13)])) := fun t k => G23 t (XS.iloadN X17.here hx rfl (hb hby at_40) rfl k)
  obtain ⟨vv25, _, ⟨T25, L25, k25, n25⟩, -, X25, hSq25, hgr25, ⟨Lc25, hQ25, l25, y25, z25, hR25⟩, st25⟩ := Jvm.RoadKit.callSS X17 hx (y := (⟨"com/example/epsilock/epsilock/workload/RunFormatTestPinLaw", "word", "(I)Ljava/lang/String;"⟩ : MethodName)) hown (mvT hZ (hw _ (List.mem_of_getElem? (i := 34) rfl))) (mvT hZ (hw _ (List.mem_of_getElem? (i := 35) rfl))) (mvT hZ (hw _ (List.mem_of_getElem? (i := 2) rfl))) (mvT hZ (hw _ (List.mem_of_getElem? (i := 36) rfl))) (by decide) (backOfSH (W := 1) (rm4 l Z aw hw [] z5  T17.heap O17   ) hZ (hw _ (List.mem_of_getElem? (i := 36) rfl)) (hw _ (List.mem_of_getElem? (i := 2) rfl)) (by decide) (by decide) (own_EW hw) hC) (g := (mkF m 41 #[.val (.int p0), .val (.int p1), .val (.int z5), .val (.int z10), .val (.ref r13), .val (.ref r17)] [(.int z5), (.ref r13)])) rfl (by rw [hml]; rfl) (argsL := [(.int z5)]) (rest := [(.ref r13)]) (lenOf pd_0_4 rfl) rfl (by show 2 * 0 + _ ≤ _; exact Nat.le_of_eq rfl) (hb hby at_41) (fun _ _ => ⟨rfl, rfl, (by decide : 4 + 2 ≤ _), (by decide : 96 + 48 ≤ _)⟩)
  dsimp only [Pt.U, Pt.locs, Pt.cells, Pt.slots] at X25 l25 y25 z25 st25 hQ25 hSq25 hgr25 hR25
  subst l25 y25 z25
  have hS := foldS hS hk hSq25 hgr25
  have hZ : Z.Warmed39 (s.setVm T25.vm).vm := State.Warmed39.trans (t := (s.setVm T17.vm)) hZ hSq25.1
  have hown : (s.setVm T25.vm).vm.findClass "com/example/epsilock/epsilock/workload/RunFormatTestPinLaw" = some m.cls := by rw [show (s.setVm T25.vm).vm = T25.vm from rfl, hSq25.1.alike.findClass]; exact hown
  obtain ⟨r25, rb25, rk25, rfl, Nq25, Kq25, Re25, Rc25, Rv25, Ra25⟩ := hQ25
  have N25 := Fr.app N17 Nq25
  have O25 := O17.keep Kq25 all0
  have K25 := K17.trans Kq25 all0
  have hC := hR25.1
  have X25 : Stand p l e room_1 (s.setVm T25.vm) m #[(.int p0), (.int p1)] below meth c T25 _ _ _ := X25
  have hk := Nat.le_refl T25.heap.size
  have G25 : own_Go p.tables e below (s₁.setTop (entryFrame m #[(.int p0), (.int p1)] maxLocals)) (T25.setTop (mkF m 44 #[.val (.int p0), .val (.int p1), .val (.int z5), .val (.int z10), .val (.ref r13), .val (.ref r17)] [(.ref r25), (.ref r13)])) := fun t k => G24 t (st25.trans k)
  have f26 : Exa Z T25.heap r13 "java/lang/String" := ((Re13.keep Kq17).keep Kq25)
  have f27 : Fld Z T25.heap r13 "java/lang/String" "coder" "B" (.int 0) := ((Rc13.keep Kq17 nin0).keep Kq25 nin0)
  have f28 : Fld Z T25.heap r13 "java/lang/String" "value" "[B" (.ref rb13) := ((Rv13.keep Kq17 nin0).keep Kq25 nin0)
  have f29 : Arv Z T25.heap rb13 rk13 .byte (own_n z5) (own_vs z5) (.int 0) := ((Ra13.keep Kq17 nin0).keep Kq25 nin0)
  obtain ⟨cq30, kq30, q30a, q30b, q30c⟩ := isOf hZ rfl f26
  obtain ⟨vv30, _, ⟨T30, L30, k30, n30⟩, -, X30, ⟨Lc30, hQ30, l30, y30, z30⟩, st30⟩ := X25.virtualBack hx (y := (⟨"java/lang/String", "equals", "(Ljava/lang/Object;)Z"⟩ : MethodName)) (z := (⟨"java/lang/String", "equals", "(Ljava/lang/Object;)Z"⟩ : MethodName)) hown (mvT hZ (hw _ (List.mem_of_getElem? (i := 38) rfl))) (mvT hZ (hw _ (List.mem_of_getElem? (i := 39) rfl))) (notFace_of_selects (args := #[]) (mvT hZ (hw _ (List.mem_of_getElem? (i := 41) rfl)))) (mvT hZ (hw _ (List.mem_of_getElem? (i := 41) rfl))) (mvT hZ (hw _ (List.mem_of_getElem? (i := 40) rfl))) (by decide) (backOf (W := 0) (rm7 l Z aw hw [] r13 r25 z5 z5 rb13 rb25 rk13 rk25 zc T25.heap hk_z5 hk_z5 (S_C.ext O25.2) hCz Re25 f27 Rc25 f28 Rv25 f29 Ra25) hZ (hw _ (List.mem_of_getElem? (i := 42) rfl)) (hw _ (List.mem_of_getElem? (i := 24) rfl)) (by decide) (by decide)) q30a q30c (g := (mkF m 44 #[.val (.int p0), .val (.int p1), .val (.int z5), .val (.int z10), .val (.ref r13), .val (.ref r17)] [(.ref r25), (.ref r13)])) rfl (by rw [hml]; rfl) (Steps.refl _) (argsL := [(.ref r25)]) (rest := []) (lenOf pd_0_5 rfl) rfl (by show 2 * 0 + _ ≤ _; exact Nat.le_of_eq rfl) (hb hby at_44) (fun _ _ => ⟨rfl, rfl, (by decide : 6 + 0 ≤ _), (by decide : 144 + 0 ≤ _)⟩)
  dsimp only [Pt.U, Pt.locs, Pt.cells, Pt.slots] at X30 l30 y30 z30 st30 hQ30
  subst l30 y30 z30
  obtain ⟨rfl, rfl, e30⟩ := hQ30
  try rw [List.append_nil] at X30
  have G30 : own_Go p.tables e below (s₁.setTop (entryFrame m #[(.int p0), (.int p1)] maxLocals)) (T30.setTop (mkF m 47 #[.val (.int p0), .val (.int p1), .val (.int z5), .val (.int z10), .val (.ref r13), .val (.ref r17)] [(.int (if z5 = z5 then (1 : Int32) else (0 : Int32)))])) := fun t k => G25 t (st30.trans k)
  have hk31 : ¬ ((if z5 = z5 then (1 : Int32) else (0 : Int32)) = (0 : Int32)) := by rw [if_pos rfl]; decide
  have G32 : own_Go p.tables e below (s₁.setTop (entryFrame m #[(.int p0), (.int p1)] maxLocals)) (T30.setTop (mkF m 52 #[.val (.int p0), .val (.int p1), .val (.int z5), .val (.int z10), .val (.ref r13), .val (.ref r17)] [])) := fun t k => G30 t (XS.ifYes X30.here hx rfl (pc0 := 47) (pc' := 52) rfl (hb hby at_47) rfl ((if0 _ _).trans (feq hk31).2) (by decide) (by decide) k)
  have G33 : own_Go p.tables e below (s₁.setTop (entryFrame m #[(.int p0), (.int p1)] maxLocals)) (T30.setTop (mkF m 54 #[.val (.int p0), .val (.int p1), .val (.int z5), .val (.int z10), .val (.ref r13), .val (.ref r17)] [(.ref r13)])) := fun t k => G32 t (XS.aload X30.here hx rfl (hb hby at_52) rfl rfl k)
  have G34 : own_Go p.tables e below (s₁.setTop (entryFrame m #[(.int p0), (.int p1)] maxLocals)) (T30.setTop (mkF m 55 #[.val (.int p0), .val (.int p1), .val (.int z5), .val (.int z10), .val (.ref r13), .val (.ref r17)] [(.int z5), (.ref r13)])) := fun t k => G33 t (XS.iloadN X30.here hx rfl (hb hby at_54) rfl k)
  obtain ⟨vv35, _, ⟨T35, L35, k35, n35⟩, -, X35, hSq35, hgr35, ⟨Lc35, hQ35, l35, y35, z35, hR35⟩, st35⟩ := Jvm.RoadKit.callSS X30 hx (y := (⟨"com/example/epsilock/epsilock/workload/RunFormatTestPinLaw", "constant", "(I)Ljava/lang/String;"⟩ : MethodName)) hown (mvT hZ (hw _ (List.mem_of_getElem? (i := 43) rfl))) (mvT hZ (hw _ (List.mem_of_getElem? (i := 44) rfl))) (mvT hZ (hw _ (List.mem_of_getElem? (i := 2) rfl))) (mvT hZ (hw _ (List.mem_of_getElem? (i := 45) rfl))) (by decide) (backOfSH (W := 1) (rm5 l Z aw hw [] z5  T25.heap O25   ) hZ (hw _ (List.mem_of_getElem? (i := 45) rfl)) (hw _ (List.mem_of_getElem? (i := 2) rfl)) (by decide) (by decide) (own_EW hw) hC) (g := (mkF m 55 #[.val (.int p0), .val (.int p1), .val (.int z5), .val (.int z10), .val (.ref r13), .val (.ref r17)] [(.int z5), (.ref r13)])) rfl (by rw [hml]; rfl) (argsL := [(.int z5)]) (rest := [(.ref r13)]) (lenOf pd_0_4 rfl) rfl (by show 2 * 0 + _ ≤ _; exact Nat.le_of_eq rfl) (hb hby at_55) (fun _ _ => ⟨rfl, e30, (by decide : 6 + 2 ≤ _), (by decide : 144 + 48 ≤ _)⟩)
  dsimp only [Pt.U, Pt.locs, Pt.cells, Pt.slots] at X35 l35 y35 z35 st35 hQ35 hSq35 hgr35 hR35
  subst l35 y35 z35
  have hS := foldS hS (by rw [e30]; exact hk) hSq35 hgr35
  have hZ : Z.Warmed39 (s.setVm T35.vm).vm := State.Warmed39.trans (t := (s.setVm T25.vm)) hZ hSq35.1
  have hown : (s.setVm T35.vm).vm.findClass "com/example/epsilock/epsilock/workload/RunFormatTestPinLaw" = some m.cls := by rw [show (s.setVm T35.vm).vm = T35.vm from rfl, hSq35.1.alike.findClass]; exact hown
  obtain ⟨r35, rb35, rk35, rfl, Nq35, Kq35, Re35, Rc35, Rv35, Ra35⟩ := hQ35
  have N35 := Fr.app N25 Nq35
  have O35 := O25.keep Kq35 all0
  have K35 := K25.trans Kq35 all0
  have hC := hR35.1
  have X35 : Stand p l e room_1 (s.setVm T35.vm) m #[(.int p0), (.int p1)] below meth c T35 _ _ _ := X35
  have hk := Nat.le_refl T35.heap.size
  have G35 : own_Go p.tables e below (s₁.setTop (entryFrame m #[(.int p0), (.int p1)] maxLocals)) (T35.setTop (mkF m 58 #[.val (.int p0), .val (.int p1), .val (.int z5), .val (.int z10), .val (.ref r13), .val (.ref r17)] [(.ref r35), (.ref r13)])) := fun t k => G34 t (st35.trans k)
  have f36 : Exa Z T35.heap r13 "java/lang/String" := (f26.keep Kq35)
  have f37 : Fld Z T35.heap r13 "java/lang/String" "coder" "B" (.int 0) := (f27.keep Kq35 nin0)
  have f38 : Fld Z T35.heap r13 "java/lang/String" "value" "[B" (.ref rb13) := (f28.keep Kq35 nin0)
  have f39 : Arv Z T35.heap rb13 rk13 .byte (own_n z5) (own_vs z5) (.int 0) := (f29.keep Kq35 nin0)
  obtain ⟨cq40, kq40, q40a, q40b, q40c⟩ := isOf hZ rfl f36
  obtain ⟨vv40, _, ⟨T40, L40, k40, n40⟩, -, X40, ⟨Lc40, hQ40, l40, y40, z40⟩, st40⟩ := X35.virtualBack hx (y := (⟨"java/lang/String", "equals", "(Ljava/lang/Object;)Z"⟩ : MethodName)) (z := (⟨"java/lang/String", "equals", "(Ljava/lang/Object;)Z"⟩ : MethodName)) hown (mvT hZ (hw _ (List.mem_of_getElem? (i := 38) rfl))) (mvT hZ (hw _ (List.mem_of_getElem? (i := 39) rfl))) (notFace_of_selects (args := #[]) (mvT hZ (hw _ (List.mem_of_getElem? (i := 41) rfl)))) (mvT hZ (hw _ (List.mem_of_getElem? (i := 41) rfl))) (mvT hZ (hw _ (List.mem_of_getElem? (i := 40) rfl))) (by decide) (backOf (W := 0) (rm7 l Z aw hw [] r13 r35 z5 z5 rb13 rb35 rk13 rk35 zc T35.heap hk_z5 hk_z5 (S_C.ext O35.2) hCz Re35 f37 Rc35 f38 Rv35 f39 Ra35) hZ (hw _ (List.mem_of_getElem? (i := 42) rfl)) (hw _ (List.mem_of_getElem? (i := 24) rfl)) (by decide) (by decide)) q40a q40c (g := (mkF m 58 #[.val (.int p0), .val (.int p1), .val (.int z5), .val (.int z10), .val (.ref r13), .val (.ref r17)] [(.ref r35), (.ref r13)])) rfl (by rw [hml]; rfl) (Steps.refl _) (argsL := [(.ref r35)]) (rest := []) (lenOf pd_0_5 rfl) rfl (by show 2 * 0 + _ ≤ _; exact Nat.le_of_eq rfl) (hb hby at_58) (fun _ _ => ⟨rfl, rfl, (by decide : 8 + 0 ≤ _), (by decide : 192 + 0 ≤ _)⟩)
  dsimp only [Pt.U, Pt.locs, Pt.cells, Pt.slots] at X40 l40 y40 z40 st40 hQ40
  subst l40 y40 z40
  obtain ⟨rfl, rfl, e40⟩ := hQ40
  try rw [List.append_nil] at X40
  have G40 : own_Go p.tables e below (s₁.setTop (entryFrame m #[(.int p0), (.int p1)] maxLocals)) (T40.setTop (mkF m 61 #[.val (.int p0), .val (.int p1), .val (.int z5), .val (.int z10), .val (.ref r13), .val (.ref r17)] [(.int (if z5 = z5 then (1 : Int32) else (0 : Int32)))])) := fun t k => G35 t (st40.trans k)
  have hk41 : ¬ ((if z5 = z5 then (1 : Int32) else (0 : Int32)) = (0 : Int32)) := by rw [if_pos rfl]; decide
  have G42 : own_Go p.tables e below (s₁.setTop (entryFrame m #[(.int p0), (.int p1)] maxLocals)) (T40.setTop (mkF m 66 #[.val (.int p0), .val (.int p1), .val (.int z5), .val (.int z10), .val (.ref r13), .val (.ref r17)] [])) := fun t k => G40 t (XS.ifYes X40.here hx rfl (pc0 := 61) (pc' := 66) rfl (hb hby at_61) rfl ((if0 _ _).trans (feq hk41).2) (by decide) (by decide) k)
  have G43 : own_Go p.tables e below (s₁.setTop (entryFrame m #[(.int p0), (.int p1)] maxLocals)) (T40.setTop (mkF m 68 #[.val (.int p0), .val (.int p1), .val (.int z5), .val (.int z10), .val (.ref r13), .val (.ref r17)] [(.ref r17)])) := fun t k => G42 t (XS.aload X40.here hx rfl (hb hby at_66) rfl rfl k)
  have G44 : own_Go p.tables e below (s₁.setTop (entryFrame m #[(.int p0), (.int p1)] maxLocals)) (T40.setTop (mkF m 69 #[.val (.int p0), .val (.int p1), .val (.int z5), .val (.int z10), .val (.ref r13), .val (.ref r17)] [(.int z10), (.ref r17)])) := fun t k => G43 t (XS.iloadN X40.here hx rfl (hb hby at_68) rfl k)
  obtain ⟨vv45, _, ⟨T45, L45, k45, n45⟩, -, X45, hSq45, hgr45, ⟨Lc45, hQ45, l45, y45, z45, hR45⟩, st45⟩ := Jvm.RoadKit.callSS X40 hx (y := (⟨"com/example/epsilock/epsilock/workload/RunFormatTestPinLaw", "word", "(I)Ljava/lang/String;"⟩ : MethodName)) hown (mvT hZ (hw _ (List.mem_of_getElem? (i := 34) rfl))) (mvT hZ (hw _ (List.mem_of_getElem? (i := 35) rfl))) (mvT hZ (hw _ (List.mem_of_getElem? (i := 2) rfl))) (mvT hZ (hw _ (List.mem_of_getElem? (i := 36) rfl))) (by decide) (backOfSH (W := 1) (rm4 l Z aw hw [] z10  T35.heap O35   ) hZ (hw _ (List.mem_of_getElem? (i := 36) rfl)) (hw _ (List.mem_of_getElem? (i := 2) rfl)) (by decide) (by decide) (own_EW hw) hC) (g := (mkF m 69 #[.val (.int p0), .val (.int p1), .val (.int z5), .val (.int z10), .val (.ref r13), .val (.ref r17)] [(.int z10), (.ref r17)])) rfl (by rw [hml]; rfl) (argsL := [(.int z10)]) (rest := [(.ref r17)]) (lenOf pd_0_4 rfl) rfl (by show 2 * 0 + _ ≤ _; exact Nat.le_of_eq rfl) (hb hby at_69) (fun _ _ => ⟨rfl, e40, (by decide : 8 + 2 ≤ _), (by decide : 192 + 48 ≤ _)⟩)
  dsimp only [Pt.U, Pt.locs, Pt.cells, Pt.slots] at X45 l45 y45 z45 st45 hQ45 hSq45 hgr45 hR45
  subst l45 y45 z45
  have hS := foldS hS (by rw [e40]; exact hk) hSq45 hgr45
  have hZ : Z.Warmed39 (s.setVm T45.vm).vm := State.Warmed39.trans (t := (s.setVm T35.vm)) hZ hSq45.1
  have hown : (s.setVm T45.vm).vm.findClass "com/example/epsilock/epsilock/workload/RunFormatTestPinLaw" = some m.cls := by rw [show (s.setVm T45.vm).vm = T45.vm from rfl, hSq45.1.alike.findClass]; exact hown
  obtain ⟨r45, rb45, rk45, rfl, Nq45, Kq45, Re45, Rc45, Rv45, Ra45⟩ := hQ45
  have N45 := Fr.app N35 Nq45
  have O45 := O35.keep Kq45 all0
  have K45 := K35.trans Kq45 all0
  have hC := hR45.1
  have X45 : Stand p l e room_1 (s.setVm T45.vm) m #[(.int p0), (.int p1)] below meth c T45 _ _ _ := X45
  have hk := Nat.le_refl T45.heap.size
  have G45 : own_Go p.tables e below (s₁.setTop (entryFrame m #[(.int p0), (.int p1)] maxLocals)) (T45.setTop (mkF m 72 #[.val (.int p0), .val (.int p1), .val (.int z5), .val (.int z10), .val (.ref r13), .val (.ref r17)] [(.ref r45), (.ref r17)])) := fun t k => G44 t (st45.trans k)
  have f46 : Exa Z T45.heap r17 "java/lang/String" := (((Re17.keep Kq25).keep Kq35).keep Kq45)
  have f47 : Fld Z T45.heap r17 "java/lang/String" "coder" "B" (.int 0) := (((Rc17.keep Kq25 nin0).keep Kq35 nin0).keep Kq45 nin0)
  have f48 : Fld Z T45.heap r17 "java/lang/String" "value" "[B" (.ref rb17) := (((Rv17.keep Kq25 nin0).keep Kq35 nin0).keep Kq45 nin0)
  have f49 : Arv Z T45.heap rb17 rk17 .byte (own_n z10) (own_vs z10) (.int 0) := (((Ra17.keep Kq25 nin0).keep Kq35 nin0).keep Kq45 nin0)
  obtain ⟨cq50, kq50, q50a, q50b, q50c⟩ := isOf hZ rfl f46
  obtain ⟨vv50, _, ⟨T50, L50, k50, n50⟩, -, X50, ⟨Lc50, hQ50, l50, y50, z50⟩, st50⟩ := X45.virtualBack hx (y := (⟨"java/lang/String", "equals", "(Ljava/lang/Object;)Z"⟩ : MethodName)) (z := (⟨"java/lang/String", "equals", "(Ljava/lang/Object;)Z"⟩ : MethodName)) hown (mvT hZ (hw _ (List.mem_of_getElem? (i := 38) rfl))) (mvT hZ (hw _ (List.mem_of_getElem? (i := 39) rfl))) (notFace_of_selects (args := #[]) (mvT hZ (hw _ (List.mem_of_getElem? (i := 41) rfl)))) (mvT hZ (hw _ (List.mem_of_getElem? (i := 41) rfl))) (mvT hZ (hw _ (List.mem_of_getElem? (i := 40) rfl))) (by decide) (backOf (W := 0) (rm7 l Z aw hw [] r17 r45 z10 z10 rb17 rb45 rk17 rk45 zc T45.heap hk_z10 hk_z10 (S_C.ext O45.2) hCz Re45 f47 Rc45 f48 Rv45 f49 Ra45) hZ (hw _ (List.mem_of_getElem? (i := 42) rfl)) (hw _ (List.mem_of_getElem? (i := 24) rfl)) (by decide) (by decide)) q50a q50c (g := (mkF m 72 #[.val (.int p0), .val (.int p1), .val (.int z5), .val (.int z10), .val (.ref r13), .val (.ref r17)] [(.ref r45), (.ref r17)])) rfl (by rw [hml]; rfl) (Steps.refl _) (argsL := [(.ref r45)]) (rest := []) (lenOf pd_0_5 rfl) rfl (by show 2 * 0 + _ ≤ _; exact Nat.le_of_eq rfl) (hb hby at_72) (fun _ _ => ⟨rfl, rfl, (by decide : 10 + 0 ≤ _), (by decide : 240 + 0 ≤ _)⟩)
  dsimp only [Pt.U, Pt.locs, Pt.cells, Pt.slots] at X50 l50 y50 z50 st50 hQ50
  subst l50 y50 z50
  obtain ⟨rfl, rfl, e50⟩ := hQ50
  try rw [List.append_nil] at X50
  have G50 : own_Go p.tables e below (s₁.setTop (entryFrame m #[(.int p0), (.int p1)] maxLocals)) (T50.setTop (mkF m 75 #[.val (.int p0), .val (.int p1), .val (.int z5), .val (.int z10), .val (.ref r13), .val (.ref r17)] [(.int (if z10 = z10 then (1 : Int32) else (0 : Int32)))])) := fun t k => G45 t (st50.trans k)
  have hk51 : ¬ ((if z10 = z10 then (1 : Int32) else (0 : Int32)) = (0 : Int32)) := by rw [if_pos rfl]; decide
  have G52 : own_Go p.tables e below (s₁.setTop (entryFrame m #[(.int p0), (.int p1)] maxLocals)) (T50.setTop (mkF m 80 #[.val (.int p0), .val (.int p1), .val (.int z5), .val (.int z10), .val (.ref r13), .val (.ref r17)] [])) := fun t k => G50 t (XS.ifYes X50.here hx rfl (pc0 := 75) (pc' := 80) rfl (hb hby at_75) rfl ((if0 _ _).trans (feq hk51).2) (by decide) (by decide) k)
  have G53 : own_Go p.tables e below (s₁.setTop (entryFrame m #[(.int p0), (.int p1)] maxLocals)) (T50.setTop (mkF m 81 #[.val (.int p0), .val (.int p1), .val (.int z5), .val (.int z10), .val (.ref r13), .val (.ref r17)] [(.int z5)])) := fun t k => G52 t (XS.iloadN X50.here hx rfl (hb hby at_80) rfl k)
  have G54 : own_Go p.tables e below (s₁.setTop (entryFrame m #[(.int p0), (.int p1)] maxLocals)) (T50.setTop (mkF m 82 #[.val (.int p0), .val (.int p1), .val (.int z5), .val (.int z10), .val (.ref r13), .val (.ref r17)] [(.int z10), (.int z5)])) := fun t k => G53 t (XS.iloadN X50.here hx rfl (hb hby at_81) rfl k)
  obtain ⟨z55_0, hz55_0, G55⟩ : ∃ (z55_0 : Int32), z55_0 = (if z5 = z10 then (1 : Int32) else (0 : Int32)) ∧ own_Go p.tables e below (s₁.setTop (entryFrame m #[(.int p0), (.int p1)] maxLocals)) (T50.setTop (mkF m 90 #[.val (.int p0), .val (.int p1), .val (.int z5), .val (.int z10), .val (.ref r13), .val (.ref r17)] [(.int z55_0)])) := by
    by_cases hc55 : z5 = z10
    · have G56 : own_Go p.tables e below (s₁.setTop (entryFrame m #[(.int p0), (.int p1)] maxLocals)) (T50.setTop (mkF m 85 #[.val (.int p0), .val (.int p1), .val (.int z5), .val (.int z10), .val (.ref r13), .val (.ref r17)] [])) := fun t k => G54 t (XS.icmpNo X50.here hx rfl (hb hby at_82) rfl (teq hc55).2 k)
      have G57 : own_Go p.tables e below (s₁.setTop (entryFrame m #[(.int p0), (.int p1)] maxLocals)) (T50.setTop (mkF m 86 #[.val (.int p0), .val (.int p1), .val (.int z5), .val (.int z10), .val (.ref r13), .val (.ref r17)] [(.int (1 : Int32))])) := fun t k => G56 t (XT.iconstV X50.here hx rfl (1 : Int32) (hb hby at_85) (by decide) k)
      have G58 : own_Go p.tables e below (s₁.setTop (entryFrame m #[(.int p0), (.int p1)] maxLocals)) (T50.setTop (mkF m 90 #[.val (.int p0), .val (.int p1), .val (.int z5), .val (.int z10), .val (.ref r13), .val (.ref r17)] [(.int (1 : Int32))])) := fun t k => G57 t (XS.goto X50.here hx rfl (pc0 := 86) (pc' := 90) rfl (hb hby at_86) (by decide) (by decide) k)
      exact ⟨_, (if_pos hc55).symm, G58⟩
    · have G59 : own_Go p.tables e below (s₁.setTop (entryFrame m #[(.int p0), (.int p1)] maxLocals)) (T50.setTop (mkF m 89 #[.val (.int p0), .val (.int p1), .val (.int z5), .val (.int z10), .val (.ref r13), .val (.ref r17)] [])) := fun t k => G54 t (XS.icmpYes X50.here hx rfl (pc0 := 82) (pc' := 89) rfl (hb hby at_82) rfl (feq hc55).2 (by decide) (by decide) k)
      have G60 : own_Go p.tables e below (s₁.setTop (entryFrame m #[(.int p0), (.int p1)] maxLocals)) (T50.setTop (mkF m 90 #[.val (.int p0), .val (.int p1), .val (.int z5), .val (.int z10), .val (.ref r13), .val (.ref r17)] [(.int (0 : Int32))])) := fun t k => G59 t (XT.iconstV X50.here hx rfl (0 : Int32) (hb hby at_89) (by decide) k)
      exact ⟨_, (if_neg hc55).symm, G60⟩
  have G61 : own_Go p.tables e below (s₁.setTop (entryFrame m #[(.int p0), (.int p1)] maxLocals)) (T50.setTop (mkF m 92 #[.val (.int p0), .val (.int p1), .val (.int z5), .val (.int z10), .val (.ref r13), .val (.ref r17)] [(.ref r13), (.int z55_0)])) := fun t k => G55 t (XS.aload X50.here hx rfl (hb hby at_90) rfl rfl k)
  have G62 : own_Go p.tables e below (s₁.setTop (entryFrame m #[(.int p0), (.int p1)] maxLocals)) (T50.setTop (mkF m 94 #[.val (.int p0), .val (.int p1), .val (.int z5), .val (.int z10), .val (.ref r13), .val (.ref r17)] [(.ref r17), (.ref r13), (.int z55_0)])) := fun t k => G61 t (XS.aload X50.here hx rfl (hb hby at_92) rfl rfl k)
  have f63 : Exa Z T45.heap r13 "java/lang/String" := (f36.keep Kq45)
  have f64 : Fld Z T45.heap r13 "java/lang/String" "coder" "B" (.int 0) := (f37.keep Kq45 nin0)
  have f65 : Fld Z T45.heap r13 "java/lang/String" "value" "[B" (.ref rb13) := (f38.keep Kq45 nin0)
  have f66 : Arv Z T45.heap rb13 rk13 .byte (own_n z5) (own_vs z5) (.int 0) := (f39.keep Kq45 nin0)
  obtain ⟨cq67, kq67, q67a, q67b, q67c⟩ := isOf hZ e50 f63
  obtain ⟨vv67, _, ⟨T67, L67, k67, n67⟩, -, X67, ⟨Lc67, hQ67, l67, y67, z67⟩, st67⟩ := X50.virtualBack hx (y := (⟨"java/lang/String", "equals", "(Ljava/lang/Object;)Z"⟩ : MethodName)) (z := (⟨"java/lang/String", "equals", "(Ljava/lang/Object;)Z"⟩ : MethodName)) hown (mvT hZ (hw _ (List.mem_of_getElem? (i := 38) rfl))) (mvT hZ (hw _ (List.mem_of_getElem? (i := 39) rfl))) (notFace_of_selects (args := #[]) (mvT hZ (hw _ (List.mem_of_getElem? (i := 41) rfl)))) (mvT hZ (hw _ (List.mem_of_getElem? (i := 41) rfl))) (mvT hZ (hw _ (List.mem_of_getElem? (i := 40) rfl))) (by decide) (backOf (W := 1) (rm7 l Z aw hw [] r13 r17 z5 z10 rb13 rb17 rk13 rk17 zc T45.heap hk_z5 hk_z10 (S_C.ext O45.2) hCz f46 f64 f47 f65 f48 f66 f49) hZ (hw _ (List.mem_of_getElem? (i := 42) rfl)) (hw _ (List.mem_of_getElem? (i := 24) rfl)) (by decide) (by decide)) q67a q67c (g := (mkF m 94 #[.val (.int p0), .val (.int p1), .val (.int z5), .val (.int z10), .val (.ref r13), .val (.ref r17)] [(.ref r17), (.ref r13), (.int z55_0)])) rfl (by rw [hml]; rfl) (Steps.refl _) (argsL := [(.ref r17)]) (rest := [(.int z55_0)]) (lenOf pd_0_5 rfl) rfl (by show 2 * 0 + _ ≤ _; exact Nat.le_of_eq rfl) (hb hby at_94) (fun _ _ => ⟨rfl, e50, (by decide : 10 + 0 ≤ _), (by decide : 240 + 0 ≤ _)⟩)
  dsimp only [Pt.U, Pt.locs, Pt.cells, Pt.slots] at X67 l67 y67 z67 st67 hQ67
  subst l67 y67 z67
  obtain ⟨rfl, rfl, e67⟩ := hQ67
  try rw [List.append_nil] at X67
  have G67 : own_Go p.tables e below (s₁.setTop (entryFrame m #[(.int p0), (.int p1)] maxLocals)) (T67.setTop (mkF m 97 #[.val (.int p0), .val (.int p1), .val (.int z5), .val (.int z10), .val (.ref r13), .val (.ref r17)] [(.int (if z5 = z10 then (1 : Int32) else (0 : Int32))), (.int z55_0)])) := fun t k => G62 t (st67.trans k)
  have hk68 : z55_0 = (if z5 = z10 then (1 : Int32) else (0 : Int32)) := hz55_0
  have G69 : own_Go p.tables e below (s₁.setTop (entryFrame m #[(.int p0), (.int p1)] maxLocals)) (T67.setTop (mkF m 100 #[.val (.int p0), .val (.int p1), .val (.int z5), .val (.int z10), .val (.ref r13), .val (.ref r17)] [])) := fun t k => G67 t (XS.icmpNo X67.here hx rfl (hb hby at_97) rfl (teq hk68).2 k)
  have G70 : own_Go p.tables e below (s₁.setTop (entryFrame m #[(.int p0), (.int p1)] maxLocals)) (T67.setTop (mkF m 101 #[.val (.int p0), .val (.int p1), .val (.int z5), .val (.int z10), .val (.ref r13), .val (.ref r17)] [(.int (1 : Int32))])) := fun t k => G69 t (XT.iconstV X67.here hx rfl (1 : Int32) (hb hby at_100) (by decide) k)
  have G71 : own_Go p.tables e below (s₁.setTop (entryFrame m #[(.int p0), (.int p1)] maxLocals)) (T67.setTop (mkF m 105 #[.val (.int p0), .val (.int p1), .val (.int z5), .val (.int z10), .val (.ref r13), .val (.ref r17)] [(.int (1 : Int32))])) := fun t k => G70 t (XS.goto X67.here hx rfl (pc0 := 101) (pc' := 105) rfl (hb hby at_101) (by decide) (by decide) k)
  obtain ⟨fs, hr, hrun, hended, hW⟩ := X67.leaveW hS (by rw [e67]; exact hk) (v := some (.int (nar .boolean (1 : Int32)))) (fun h => by rw [Bd.returns] at h; cases h)
  refine ⟨_, _, G71 _ ?_, hrun, hended, _, _, rfl, ?_, ⟨_, rfl⟩, hW.2.1, hW.2.2.1, hW.2.2.2.mono (by decide) (by decide)⟩
  · exact retN X67 hx (t := .boolean) Bd.returns (by simp) (hb hby at_105) hr
  · show Q0 Z p0 p1 k0 k1 k2 k3 aS clS zc h0 _ T67.heap _
    rw [e67]
    exact ⟨rfl, N45, K45⟩
set_option maxRecDepth 65536 in
set_option maxHeartbeats 40000000 in
theorem comes_1 {Post : Tables → Env → Array Value → State → Outcome → State → Prop} (hpost : ∀ tb e args s v u, (limb_1_1.after args s (.returned v) u = true ∧ limb_1_2.after args s (.returned v) u = true ∧ True) → ReturnedEndW s (.returned v) u (Jvm.fieldLocs frame_1_writes args s ++ Jvm.arrayLocs frame_1_arrays args s ++ Jvm.staticLocs frame_1_statics s) 16 8256 → Post tb e args s (.returned v) u) :
    ArmFor flags0 classFile x code maxLocals ret World_1 tables_1 room_1 Calls_1 rest_1 Pre_1 Post := by
  intro l hfl _ _ p e ha hc hk s m args below hf hA hF happ hP
  obtain ⟨hcalls, hrest, hpre⟩ := hP
  obtain ⟨-, -, -, hnamed, -, -, -, hat⟩ := (Spec.applies_iff hf).mp happ
  obtain ⟨hg, hn⟩ := and_e (Cond.before_iff.mp (show (Jvm.Cond.and given_1 narrow_1).before args s = true from hpre))
  obtain ⟨ga1, gb1⟩ := and_e hg
  obtain ⟨ga2, gb2⟩ := and_e gb1
  obtain ⟨w0, w1, rfl⟩ : ∃ w0 w1 : Value, args = #[w0, w1] := by
    have hs : args.size = 2 := by simpa [Cond.value, given_1] using ga1
    obtain ⟨L⟩ := args
    match L, hs with
    | [w0, w1], _ => exact ⟨w0, w1, rfl⟩
  have hw := fun d (hd : d ∈ tables_1) => atoms_spec (ws := Jvm.Cond.code x code maxLocals ret :: tables_1) hat d (List.mem_cons_of_mem _ hd)
  have hfit : Fit s := fun {y c} hc i hi => by
    obtain ⟨ha, rfl⟩ := Array.getElem?_eq_some_iff.mp hc
    have q := List.all_eq_true.mp ((Array.all_eq_true_iff_forall_mem.mp hF) _ (Array.getElem_mem ha)) i (List.mem_range.mpr hi)
    simpa [Array.getElem?_eq_getElem hi] using q
  obtain ⟨hsets, hown0⟩ := atoms_of _ (rest_1_c_eq ▸ (show rest_1_c.before _ s = true from hrest))
  have hr0 := Cond.before_iff.mp hown0
  obtain ⟨i0, ei0⟩ := is_v ga2
  obtain rfl : w0 = (.int i0) := Option.some.inj ei0
  obtain ⟨i1, ei1⟩ := is_v gb2
  obtain rfl : w1 = (.int i1) := Option.some.inj ei1
  obtain ⟨ga101, gb101⟩ := and_e hn
  obtain ⟨ga102, gb102⟩ := and_e gb101
  obtain ⟨ga103, gb103⟩ := and_e gb102
  obtain ⟨ga104, gb104⟩ := and_e gb103
  obtain ⟨ga105, gb105⟩ := and_e gb104
  obtain ⟨ga106, gb106⟩ := and_e gb105
  obtain ⟨ga107, gb107⟩ := and_e gb106
  obtain ⟨ga108, gb108⟩ := and_e gb107
  obtain ⟨ga109, gb109⟩ := and_e gb108
  obtain ⟨ga110, gb110⟩ := and_e gb109
  obtain ⟨ga111, gb111⟩ := and_e gb110
  obtain ⟨ga112, gb112⟩ := and_e gb111
  obtain ⟨ga113, gb113⟩ := and_e gb112
  obtain ⟨a_BOTH_WRITE, ev_BOTH_WRITE⟩ := exa_v ga101
  have S_BOTH_WRITE : Sta s s.heap "com/example/epsilock/epsilock/engine/Refusal$Test$Kind" "BOTH_WRITE" "Lcom/example/epsilock/epsilock/engine/Refusal$Test$Kind;" (.ref a_BOTH_WRITE) := Sta.start ev_BOTH_WRITE (Or.inr ⟨(hw _ (List.mem_of_getElem? (i := 5) rfl)), (hw _ (List.mem_of_getElem? (i := 6) rfl))⟩)
  have E_BOTH_WRITE : Exa s s.heap a_BOTH_WRITE "com/example/epsilock/epsilock/engine/Refusal$Test$Kind" := Exa.start ev_BOTH_WRITE ga101
  obtain ⟨a_TEXT, ev_TEXT⟩ := exa_v ga106
  have S_TEXT : Sta s s.heap "com/example/epsilock/epsilock/engine/Refusal$Test$Kind" "TEXT" "Lcom/example/epsilock/epsilock/engine/Refusal$Test$Kind;" (.ref a_TEXT) := Sta.start ev_TEXT (Or.inr ⟨(hw _ (List.mem_of_getElem? (i := 5) rfl)), (hw _ (List.mem_of_getElem? (i := 32) rfl))⟩)
  have E_TEXT : Exa s s.heap a_TEXT "com/example/epsilock/epsilock/engine/Refusal$Test$Kind" := Exa.start ev_TEXT ga106
  obtain ⟨a_OTHER_READ, ev_OTHER_READ⟩ := exa_v ga109
  have S_OTHER_READ : Sta s s.heap "com/example/epsilock/epsilock/engine/Refusal$Test$Kind" "OTHER_READ" "Lcom/example/epsilock/epsilock/engine/Refusal$Test$Kind;" (.ref a_OTHER_READ) := Sta.start ev_OTHER_READ (Or.inr ⟨(hw _ (List.mem_of_getElem? (i := 5) rfl)), (hw _ (List.mem_of_getElem? (i := 57) rfl))⟩)
  have E_OTHER_READ : Exa s s.heap a_OTHER_READ "com/example/epsilock/epsilock/engine/Refusal$Test$Kind" := Exa.start ev_OTHER_READ ga109
  obtain ⟨a_OTHER_WROTE, ev_OTHER_WROTE⟩ := exa_v ga112
  have S_OTHER_WROTE : Sta s s.heap "com/example/epsilock/epsilock/engine/Refusal$Test$Kind" "OTHER_WROTE" "Lcom/example/epsilock/epsilock/engine/Refusal$Test$Kind;" (.ref a_OTHER_WROTE) := Sta.start ev_OTHER_WROTE (Or.inr ⟨(hw _ (List.mem_of_getElem? (i := 5) rfl)), (hw _ (List.mem_of_getElem? (i := 60) rfl))⟩)
  have E_OTHER_WROTE : Exa s s.heap a_OTHER_WROTE "com/example/epsilock/epsilock/engine/Refusal$Test$Kind" := Exa.start ev_OTHER_WROTE ga112
  have F_BOTH_WRITE_ordinal : Fld s s.heap a_BOTH_WRITE "java/lang/Enum" "ordinal" "I" (.int (0 : Int32)) := own_fld ev_BOTH_WRITE (own_eqI ga104)
  have F_TEXT_ordinal : Fld s s.heap a_TEXT "java/lang/Enum" "ordinal" "I" (.int (3 : Int32)) := own_fld ev_TEXT (own_eqI ga107)
  have F_OTHER_READ_ordinal : Fld s s.heap a_OTHER_READ "java/lang/Enum" "ordinal" "I" (.int (2 : Int32)) := own_fld ev_OTHER_READ (own_eqI ga110)
  have F_OTHER_WROTE_ordinal : Fld s s.heap a_OTHER_WROTE "java/lang/Enum" "ordinal" "I" (.int (1 : Int32)) := own_fld ev_OTHER_WROTE (own_eqI ga113)
  obtain ⟨aS, evS⟩ := arr_v ga102
  have S_S : Sta s s.heap "com/example/epsilock/epsilock/workload/RunFormat$1" "$SwitchMap$com$example$epsilock$epsilock$engine$Refusal$Test$Kind" "[I" (.ref aS) := Sta.start evS (Or.inr ⟨(hw _ (List.mem_of_getElem? (i := 12) rfl)), (hw _ (List.mem_of_getElem? (i := 13) rfl))⟩)
  obtain ⟨clS, ArS⟩ := Arr.start evS ga102
  have h1S : s.arrayAt? aS = some clS := ArS.fin (Vm.Alike.refl _)
  have szS := own_len2 evS h1S (own_eqI ga103)
  have SzS : clS.slots.size = (4 : Int32).toNatClampNeg := by rw [← szS.2]; simp only [Int32.toNatClampNeg, len_toInt szS.1]; rfl
  have hs0 : clS.slots[(0 : Int32).toNatClampNeg]? = some (.int (1 : Int32)) := (elem_f evS (Term.int_eval _) h1S (by decide)).symm.trans (own_eqI ga105)
  have hs1 : clS.slots[(1 : Int32).toNatClampNeg]? = some (.int (2 : Int32)) := (elem_f evS (Term.int_eval _) h1S (by decide)).symm.trans (own_eqI gb113)
  have hs2 : clS.slots[(2 : Int32).toNatClampNeg]? = some (.int (3 : Int32)) := (elem_f evS (Term.int_eval _) h1S (by decide)).symm.trans (own_eqI ga111)
  have hs3 : clS.slots[(3 : Int32).toNatClampNeg]? = some (.int (4 : Int32)) := (elem_f evS (Term.int_eval _) h1S (by decide)).symm.trans (own_eqI ga108)
  obtain ⟨zc, evc⟩ := is_v (Cond.before_iff.mp (hsets _ (List.mem_of_getElem? (i := 1) rfl)))
  have S_C : Sta s s.heap "java/lang/String" "COMPACT_STRINGS" "Z" (.int zc) := Sta.start evc (Or.inl (hsets _ (List.mem_of_getElem? (i := 0) rfl)))
  have hCz : ¬ zc = 0 := gotF (Cond.eq_ints evc (Term.int_eval _)) (not_v (Cond.before_iff.mp (hsets _ (List.mem_of_getElem? (i := 2) rfl))))
  have hCH : CHv s own_EL s.vm s.heap := CHv.start (own_EW hw) (fun p hp => (hcalls.1 : _) p hp) (hsets _ (List.mem_of_getElem? (i := 2) rfl)) (hw _ (List.mem_of_getElem? (i := 26) rfl)) (hw _ (List.mem_of_getElem? (i := 25) rfl))
  obtain ⟨n, o, h1, h2, h3, _, L, rfl, ⟨rfl, N, -⟩, hq⟩ := rm0 l s _ hw tables_1 i0 i1 a_BOTH_WRITE a_OTHER_WROTE a_OTHER_READ a_TEXT aS clS zc s.heap (Old.start s) S_BOTH_WRITE E_BOTH_WRITE F_BOTH_WRITE_ordinal S_OTHER_WROTE E_OTHER_WROTE F_OTHER_WROTE_ordinal S_OTHER_READ E_OTHER_READ F_OTHER_READ_ordinal S_TEXT E_TEXT F_TEXT_ordinal S_S ArS SzS hs0 hs1 hs2 hs3 S_C hCz p e ha hc hk s m _ below hf ((Spec.applies_iff_loose hf).mp happ).1 ⟨rfl, State.Warmed39.refl s, rfl, hCH⟩ trivial
  refine ⟨n, _, h1, h2, h3, hpost _ _ _ _ _ _ ⟨Cond.after_iff.mpr rfl, Cond.after_iff.mpr (eq_i res_at (Term.int_eval (1)) rfl), trivial⟩ ⟨hq.1, hq.2.1, hq.2.2.1, (hq.2.2.2.sift fun y hy => Or.inr (N y hy)).mono (by decide) (by decide)⟩⟩
theorem main_1_1 : Claimed_1_1 := comes_1 fun _ _ _ _ _ _ h hF => ⟨h.1, hF⟩
theorem main_1_2 : Claimed_1_2 := comes_1 fun _ _ _ _ _ _ h hF => ⟨h.2.1, hF⟩
end Jvm.Pilot.@@N@@
namespace Jvm.Pilot.@@N@@
open Jvm Jvm.ClassFile Sem Op Lib Jvm.Free Jvm.Stand Jvm.Pilot.@@N@@.Jvm.D
/-! MADE BY PROGRAM (witnessworld.py) out of the Statement's table words and the real class files: 20 classes; the members and pool entries that the words name. The judged class is class 1, her method 1. -/
namespace start1
open Jvm.ClassFile
def u (s : String) : CpInfo := .utf8 (stringToUtf16 s)
/-- a pool by its gaps: so many unusable entries, then the entry; so many at the end -/
def gap : Nat → List CpInfo → List CpInfo
  | 0, r => r
  | n + 1, r => .unusable :: gap n r
def poolList (es : List (Nat × CpInfo)) (last : Nat) : List CpInfo := es.foldr (fun e r => gap e.1 (e.2 :: r)) (gap last [])
def pool (es : List (Nat × CpInfo)) (last : Nat) : Array CpInfo := ⟨poolList es last⟩
def fileOf (pool : Array CpInfo) (this : Nat) (attrs : Array Attribute := #[]) (ms : Array MethodInfo := #[]) (fl : Nat := 33) (sup : Nat := 0) (ifs : Array Nat := #[]) (fds : Array FieldInfo := #[]) : ClassFile where
  minorVersion := 0
  majorVersion := 65
  constantPool := pool
  accessFlags := fl
  thisClass := this
  superClass := sup
  interfaces := ifs
  fields := fds
  methods := ms
  attributes := attrs
def plain (name : String) (sup : Option ClassId) : Class where
  name := name
  kind := .ordinary
  loader := none
  accessFlags := 33
  super := sup
  interfaces := #[]
  cf := none
  fields := #[]
  methods := #[]
  instanceTypes := #[]
  staticTypes := #[]
  resolved := #[]
  callSites := []
  init := .initialized
  statics := none
  mirror := none

def pool0 : Array CpInfo := pool [(5, u "<init>"), (0, u "()V"), (1, .class_ 10), (1, u "java/lang/Object")] 113

def k0m0 : Method := { name := "<init>", desc := "()V", sig := { parameters := [], returnType := none }, accessFlags := 1, code := none }
/-- java/lang/Object -/
def k0 : Class := { plain "java/lang/Object" none with
  accessFlags := 33
  interfaces := #[]
  cf := some (fileOf pool0 8 #[] #[{ accessFlags := 1, nameIndex := 5, descriptorIndex := 6, attributes := #[] }] 33 0 #[] #[])
  fields := #[]
  methods := #[k0m0]
  instanceTypes := #[]
  staticTypes := #[]
  resolved := Array.replicate 124 none
  statics := none }

def pool1 : Array CpInfo := pool [(2, .class_ 4), (1, u "java/lang/Object"), (0, u "<init>"), (0, u "()V"), (0, .methodref 8 9), (0, .class_ 10), (0, .nameAndType 11 12), (0, u "com/example/epsilock/epsilock/workload/RunFormatTestPinLaw"), (0, u "kind"), (0, u "(I)Lcom/example/epsilock/epsilock/engine/Refusal$Test$Kind;"), (0, .methodref 14 15), (0, .class_ 16), (0, .nameAndType 17 18), (0, u "com/example/epsilock/epsilock/workload/RunFormat"), (0, u "test"), (0, u "(Lcom/example/epsilock/epsilock/engine/Refusal$Test$Kind;)Ljava/lang/String;"), (0, .methodref 8 20), (0, .nameAndType 21 22), (0, u "word"), (0, u "(I)Ljava/lang/String;"), (0, .methodref 24 25), (0, .class_ 26), (0, .nameAndType 27 28), (0, u "java/lang/String"), (0, u "equals"), (0, u "(Ljava/lang/Object;)Z"), (0, .methodref 8 30), (0, .nameAndType 31 22), (0, u "constant"), (0, .fieldref 33 34), (0, .class_ 35), (0, .nameAndType 36 37), (0, u "com/example/epsilock/epsilock/engine/Refusal$Test$Kind"), (0, u "BOTH_WRITE"), (0, u "Lcom/example/epsilock/epsilock/engine/Refusal$Test$Kind;"), (0, .fieldref 33 39), (0, .nameAndType 40 37), (0, u "OTHER_WROTE"), (0, .fieldref 33 42), (0, .nameAndType 43 37), (0, u "OTHER_READ"), (0, .fieldref 33 45), (0, .nameAndType 46 37), (0, u "TEXT"), (0, .string 48), (0, u "both-write"), (0, .string 50), (0, u "other-wrote"), (0, .string 52), (0, u "other-read"), (0, .string 54), (0, u "text"), (2, u "law"), (0, u "(II)Z")] 10

def k1m0 : Method := { name := "<init>", desc := "()V", sig := { parameters := [], returnType := none }, accessFlags := 1, code := none }
def k1c1 : Code := { maxStack := 3, maxLocals := 6, code := code, exceptionTable := #[], attributes := #[] }
def k1m1 : Method := { name := "law", desc := "(II)Z", sig := { parameters := [.int, .int], returnType := some .boolean }, accessFlags := 9, code := some k1c1 }
def k1c2 : Code := { maxStack := 2, maxLocals := 1, code := method_3_code, exceptionTable := #[], attributes := #[] }
def k1m2 : Method := { name := "kind", desc := "(I)Lcom/example/epsilock/epsilock/engine/Refusal$Test$Kind;", sig := { parameters := [.int], returnType := some (.object "com/example/epsilock/epsilock/engine/Refusal$Test$Kind") }, accessFlags := 10, code := some k1c2 }
def k1c3 : Code := { maxStack := 2, maxLocals := 1, code := method_4_code, exceptionTable := #[], attributes := #[] }
def k1m3 : Method := { name := "word", desc := "(I)Ljava/lang/String;", sig := { parameters := [.int], returnType := some (.object "java/lang/String") }, accessFlags := 10, code := some k1c3 }
def k1c4 : Code := { maxStack := 2, maxLocals := 1, code := method_5_code, exceptionTable := #[], attributes := #[] }
def k1m4 : Method := { name := "constant", desc := "(I)Ljava/lang/String;", sig := { parameters := [.int], returnType := some (.object "java/lang/String") }, accessFlags := 10, code := some k1c4 }
/-- com/example/epsilock/epsilock/workload/RunFormatTestPinLaw -/
def k1 : Class := { plain "com/example/epsilock/epsilock/workload/RunFormatTestPinLaw" (some 0) with
  accessFlags := 49
  interfaces := #[]
  cf := some (fileOf pool1 8 #[] #[{ accessFlags := 1, nameIndex := 5, descriptorIndex := 6, attributes := #[] }, { accessFlags := 9, nameIndex := 57, descriptorIndex := 58, attributes := #[] }, { accessFlags := 10, nameIndex := 11, descriptorIndex := 12, attributes := #[] }, { accessFlags := 10, nameIndex := 21, descriptorIndex := 22, attributes := #[] }, { accessFlags := 10, nameIndex := 31, descriptorIndex := 22, attributes := #[] }] 49 2 #[] #[])
  fields := #[]
  methods := #[k1m0, k1m1, k1m2, k1m3, k1m4]
  instanceTypes := #[]
  staticTypes := #[]
  resolved := Array.replicate 69 none
  statics := none }

def pool2 : Array CpInfo := pool [(1, .class_ 2), (0, u "java/lang/constant/Constable"), (0, .class_ 4), (0, u "java/lang/Object")] 6

/-- java/lang/constant/Constable -/
def k2 : Class := { plain "java/lang/constant/Constable" (some 0) with
  accessFlags := 1537
  interfaces := #[]
  cf := some (fileOf pool2 1 #[] #[] 1537 3 #[] #[])
  fields := #[]
  methods := #[]
  instanceTypes := #[]
  staticTypes := #[]
  resolved := Array.replicate 11 none
  statics := none }

def pool3 : Array CpInfo := pool [(1, .class_ 2), (0, u "java/lang/Comparable"), (0, .class_ 4), (0, u "java/lang/Object")] 7

/-- java/lang/Comparable -/
def k3 : Class := { plain "java/lang/Comparable" (some 0) with
  accessFlags := 1537
  interfaces := #[]
  cf := some (fileOf pool3 1 #[] #[] 1537 3 #[] #[])
  fields := #[]
  methods := #[]
  instanceTypes := #[]
  staticTypes := #[]
  resolved := Array.replicate 12 none
  statics := none }

def pool4 : Array CpInfo := pool [(1, .class_ 2), (0, u "java/io/Serializable"), (0, .class_ 4), (0, u "java/lang/Object")] 2

/-- java/io/Serializable -/
def k4 : Class := { plain "java/io/Serializable" (some 0) with
  accessFlags := 1537
  interfaces := #[]
  cf := some (fileOf pool4 1 #[] #[] 1537 3 #[] #[])
  fields := #[]
  methods := #[]
  instanceTypes := #[]
  staticTypes := #[]
  resolved := Array.replicate 7 none
  statics := none }

def pool5 : Array CpInfo := pool [(2, .class_ 4), (1, u "java/lang/Enum"), (0, u "name"), (0, u "Ljava/lang/String;"), (0, .fieldref 2 8), (0, .nameAndType 9 10), (0, u "ordinal"), (0, u "I"), (1, .class_ 14), (1, u "java/lang/Object"), (4, u "hash"), (86, .class_ 108), (1, u "java/lang/Enum$EnumDesc"), (2, .class_ 112), (0, u "java/lang/constant/Constable"), (0, .class_ 114), (0, u "java/lang/Comparable"), (0, .class_ 116), (0, u "java/io/Serializable"), (9, u "()I")] 77

def k5c0 : Code := { maxStack := 1, maxLocals := 1, code := jdk_37_method_2_code, exceptionTable := #[], attributes := #[] }
def k5m0 : Method := { name := "ordinal", desc := "()I", sig := { parameters := [], returnType := some .int }, accessFlags := 17, code := some k5c0 }
/-- java/lang/Enum -/
def k5 : Class := { plain "java/lang/Enum" (some 0) with
  accessFlags := 1057
  interfaces := #[2, 3, 4]
  cf := some (fileOf pool5 2 #[.nestMembers #[106]] #[{ accessFlags := 17, nameIndex := 9, descriptorIndex := 126, attributes := #[] }] 1057 12 #[111, 113, 115] #[{ accessFlags := 18, nameIndex := 5, descriptorIndex := 6, attributes := #[] }, { accessFlags := 18, nameIndex := 9, descriptorIndex := 10, attributes := #[] }, { accessFlags := 2, nameIndex := 19, descriptorIndex := 10, attributes := #[] }])
  fields := #[{ name := "name", type := (.object "java/lang/String"), accessFlags := 18, slot := 0, constantValue := 0 }, { name := "ordinal", type := .int, accessFlags := 18, slot := 1, constantValue := 0 }, { name := "hash", type := .int, accessFlags := 2, slot := 2, constantValue := 0 }]
  methods := #[k5m0]
  instanceTypes := #[(.object "java/lang/String"), .int, .int]
  staticTypes := #[]
  resolved := Array.replicate 204 none
  statics := none }

def pool6 : Array CpInfo := pool [(1, .class_ 2), (0, u "com/example/epsilock/epsilock/engine/Refusal$Test$Kind"), (2, u "BOTH_WRITE"), (0, u "Lcom/example/epsilock/epsilock/engine/Refusal$Test$Kind;"), (2, u "OTHER_WROTE"), (2, u "OTHER_READ"), (2, u "TEXT"), (2, u "$VALUES"), (0, u "[Lcom/example/epsilock/epsilock/engine/Refusal$Test$Kind;"), (6, .class_ 28), (1, u "java/lang/Enum"), (27, .class_ 57), (0, u "com/example/epsilock/epsilock/engine/Refusal")] 5

/-- com/example/epsilock/epsilock/engine/Refusal$Test$Kind -/
def k6 : Class := { plain "com/example/epsilock/epsilock/engine/Refusal$Test$Kind" (some 5) with
  accessFlags := 16433
  interfaces := #[]
  cf := some (fileOf pool6 1 #[.nestHost 56] #[] 16433 26 #[] #[{ accessFlags := 16409, nameIndex := 5, descriptorIndex := 6, attributes := #[] }, { accessFlags := 16409, nameIndex := 9, descriptorIndex := 6, attributes := #[] }, { accessFlags := 16409, nameIndex := 12, descriptorIndex := 6, attributes := #[] }, { accessFlags := 16409, nameIndex := 15, descriptorIndex := 6, attributes := #[] }, { accessFlags := 4122, nameIndex := 18, descriptorIndex := 19, attributes := #[] }])
  fields := #[{ name := "BOTH_WRITE", type := (.object "com/example/epsilock/epsilock/engine/Refusal$Test$Kind"), accessFlags := 16409, slot := 0, constantValue := 0 }, { name := "OTHER_WROTE", type := (.object "com/example/epsilock/epsilock/engine/Refusal$Test$Kind"), accessFlags := 16409, slot := 1, constantValue := 0 }, { name := "OTHER_READ", type := (.object "com/example/epsilock/epsilock/engine/Refusal$Test$Kind"), accessFlags := 16409, slot := 2, constantValue := 0 }, { name := "TEXT", type := (.object "com/example/epsilock/epsilock/engine/Refusal$Test$Kind"), accessFlags := 16409, slot := 3, constantValue := 0 }, { name := "$VALUES", type := (.array (.object "com/example/epsilock/epsilock/engine/Refusal$Test$Kind")), accessFlags := 4122, slot := 4, constantValue := 0 }]
  methods := #[]
  instanceTypes := #[(.object "java/lang/String"), .int, .int]
  staticTypes := #[(.object "com/example/epsilock/epsilock/engine/Refusal$Test$Kind"), (.object "com/example/epsilock/epsilock/engine/Refusal$Test$Kind"), (.object "com/example/epsilock/epsilock/engine/Refusal$Test$Kind"), (.object "com/example/epsilock/epsilock/engine/Refusal$Test$Kind"), (.array (.object "com/example/epsilock/epsilock/engine/Refusal$Test$Kind"))]
  resolved := Array.replicate 63 none
  statics := some 0 }

def pool7 : Array CpInfo := pool [(1, .fieldref 2 3), (0, .class_ 4), (0, .nameAndType 5 6), (0, u "com/example/epsilock/epsilock/workload/RunFormat$1"), (0, u "$SwitchMap$com$example$epsilock$epsilock$engine$Refusal$Test$Kind"), (0, u "[I"), (0, .methodref 8 9), (0, .class_ 10), (0, .nameAndType 11 12), (0, u "com/example/epsilock/epsilock/engine/Refusal$Test$Kind"), (0, u "ordinal"), (0, u "()I"), (4, u "<init>"), (1, .class_ 20), (0, u "com/example/epsilock/epsilock/workload/RunFormat"), (0, .string 22), (0, u "both-write"), (0, .string 24), (0, u "other-wrote"), (0, .string 26), (0, u "other-read"), (0, .string 28), (0, u "text"), (5, .class_ 36), (1, u "java/lang/Object"), (0, u "()V"), (20, u "ENTRY_FIELDS"), (0, u "Ljava/util/List;"), (0, u "TECHNIQUE"), (0, u "Ljava/lang/String;"), (3, u "CONFLICTS"), (2, u "SCHEMA"), (2, u "STEP"), (0, u "READING"), (0, u "TX"), (0, u "ATTEMPT"), (0, u "INVOKE"), (0, u "INVOCATION"), (2, u "AT"), (2, u "OUTCOME"), (2, u "GRANTED"), (2, u "QUEUED"), (2, u "REFUSED"), (2, u "FINISHED"), (2, u "AFTER"), (2, u "STALE"), (2, u "STATE"), (2, u "RETURNS"), (2, u "AFFECTED"), (2, u "OVERRIDE"), (2, u "STALE_OVERRIDE"), (0, u "REASON"), (2, u "RULE"), (2, u "RULE_TEMPORAL"), (2, u "RULE_SEQUENCE"), (2, u "RULE_BOUND"), (2, u "RULE_OVERLAP"), (2, u "ATTRIBUTE"), (2, u "VALID_UNTIL"), (2, u "COST"), (2, u "EARLIER"), (2, u "ARGUMENT"), (2, u "BY"), (2, u "HELD"), (2, u "TEST"), (1, u "test"), (0, u "TEST_BOTH_WRITE"), (0, u "TEST_OTHER_WROTE"), (0, u "TEST_OTHER_READ"), (0, u "TEST_TEXT"), (0, u "COMMIT"), (2, u "END"), (2, u "ABORT"), (2, u "OUTRANKED"), (2, u "VALUE"), (2, u "IMPRECISION"), (2, u "EPSILON"), (2, u "TIME"), (2, u "IMPORT_LIMIT"), (2, u "CAUSE"), (2, u "FINAL"), (2, u "INVOCATIONS"), (2, u "READS"), (2, u "STALE_READS"), (2, u "TEMPORAL_INCONSISTENCY"), (2, u "TRANSACTIONS"), (2, u "COMMITTED"), (2, u "MISSED"), (2, u "MISS_RATIO"), (2, u "MISSED_BY"), (2, u "OBJECTS"), (2, u "WAITING"), (2, u "(Lcom/example/epsilock/epsilock/engine/Refusal$Test$Kind;)Ljava/lang/String;"), (9, .class_ 239), (0, u "com/example/epsilock/epsilock/workload/RunFormat$Cause"), (0, .class_ 241), (0, u "com/example/epsilock/epsilock/workload/RunFormat$End"), (0, .class_ 243), (0, u "com/example/epsilock/epsilock/workload/RunFormat$Input")] 24

def k7c0 : Code := { maxStack := 4, maxLocals := 1, code := prog_82_method_1_code, exceptionTable := #[], attributes := #[] }
def k7m0 : Method := { name := "test", desc := "(Lcom/example/epsilock/epsilock/engine/Refusal$Test$Kind;)Ljava/lang/String;", sig := { parameters := [(.object "com/example/epsilock/epsilock/engine/Refusal$Test$Kind")], returnType := some (.object "java/lang/String") }, accessFlags := 8, code := some k7c0 }
def k7m1 : Method := { name := "<init>", desc := "()V", sig := { parameters := [], returnType := none }, accessFlags := 2, code := none }
/-- com/example/epsilock/epsilock/workload/RunFormat -/
def k7 : Class := { plain "com/example/epsilock/epsilock/workload/RunFormat" (some 0) with
  accessFlags := 48
  interfaces := #[]
  cf := some (fileOf pool7 19 #[.nestMembers #[2, 238, 240, 242]] #[{ accessFlags := 8, nameIndex := 157, descriptorIndex := 228, attributes := #[] }, { accessFlags := 2, nameIndex := 17, descriptorIndex := 37, attributes := #[] }] 48 34 #[] #[{ accessFlags := 24, nameIndex := 60, descriptorIndex := 61, attributes := #[] }, { accessFlags := 24, nameIndex := 65, descriptorIndex := 61, attributes := #[] }, { accessFlags := 24, nameIndex := 68, descriptorIndex := 61, attributes := #[] }, { accessFlags := 24, nameIndex := 71, descriptorIndex := 61, attributes := #[] }, { accessFlags := 24, nameIndex := 72, descriptorIndex := 61, attributes := #[] }, { accessFlags := 24, nameIndex := 73, descriptorIndex := 61, attributes := #[] }, { accessFlags := 24, nameIndex := 74, descriptorIndex := 61, attributes := #[] }, { accessFlags := 24, nameIndex := 75, descriptorIndex := 61, attributes := #[] }, { accessFlags := 24, nameIndex := 76, descriptorIndex := 61, attributes := #[] }, { accessFlags := 24, nameIndex := 58, descriptorIndex := 59, attributes := #[] }, { accessFlags := 24, nameIndex := 79, descriptorIndex := 61, attributes := #[] }, { accessFlags := 24, nameIndex := 82, descriptorIndex := 61, attributes := #[] }, { accessFlags := 24, nameIndex := 85, descriptorIndex := 61, attributes := #[] }, { accessFlags := 24, nameIndex := 88, descriptorIndex := 61, attributes := #[] }, { accessFlags := 24, nameIndex := 91, descriptorIndex := 61, attributes := #[] }, { accessFlags := 24, nameIndex := 94, descriptorIndex := 61, attributes := #[] }, { accessFlags := 24, nameIndex := 97, descriptorIndex := 61, attributes := #[] }, { accessFlags := 24, nameIndex := 100, descriptorIndex := 61, attributes := #[] }, { accessFlags := 24, nameIndex := 103, descriptorIndex := 61, attributes := #[] }, { accessFlags := 24, nameIndex := 106, descriptorIndex := 61, attributes := #[] }, { accessFlags := 24, nameIndex := 109, descriptorIndex := 61, attributes := #[] }, { accessFlags := 24, nameIndex := 112, descriptorIndex := 61, attributes := #[] }, { accessFlags := 24, nameIndex := 115, descriptorIndex := 61, attributes := #[] }, { accessFlags := 24, nameIndex := 116, descriptorIndex := 61, attributes := #[] }, { accessFlags := 24, nameIndex := 119, descriptorIndex := 61, attributes := #[] }, { accessFlags := 24, nameIndex := 122, descriptorIndex := 61, attributes := #[] }, { accessFlags := 24, nameIndex := 125, descriptorIndex := 61, attributes := #[] }, { accessFlags := 24, nameIndex := 128, descriptorIndex := 61, attributes := #[] }, { accessFlags := 24, nameIndex := 131, descriptorIndex := 61, attributes := #[] }, { accessFlags := 24, nameIndex := 134, descriptorIndex := 61, attributes := #[] }, { accessFlags := 24, nameIndex := 137, descriptorIndex := 61, attributes := #[] }, { accessFlags := 24, nameIndex := 140, descriptorIndex := 61, attributes := #[] }, { accessFlags := 24, nameIndex := 143, descriptorIndex := 61, attributes := #[] }, { accessFlags := 24, nameIndex := 146, descriptorIndex := 61, attributes := #[] }, { accessFlags := 24, nameIndex := 149, descriptorIndex := 61, attributes := #[] }, { accessFlags := 24, nameIndex := 152, descriptorIndex := 61, attributes := #[] }, { accessFlags := 24, nameIndex := 155, descriptorIndex := 61, attributes := #[] }, { accessFlags := 24, nameIndex := 158, descriptorIndex := 61, attributes := #[] }, { accessFlags := 24, nameIndex := 159, descriptorIndex := 61, attributes := #[] }, { accessFlags := 24, nameIndex := 160, descriptorIndex := 61, attributes := #[] }, { accessFlags := 24, nameIndex := 161, descriptorIndex := 61, attributes := #[] }, { accessFlags := 24, nameIndex := 162, descriptorIndex := 61, attributes := #[] }, { accessFlags := 24, nameIndex := 165, descriptorIndex := 61, attributes := #[] }, { accessFlags := 24, nameIndex := 168, descriptorIndex := 61, attributes := #[] }, { accessFlags := 24, nameIndex := 171, descriptorIndex := 61, attributes := #[] }, { accessFlags := 24, nameIndex := 174, descriptorIndex := 61, attributes := #[] }, { accessFlags := 24, nameIndex := 177, descriptorIndex := 61, attributes := #[] }, { accessFlags := 24, nameIndex := 180, descriptorIndex := 61, attributes := #[] }, { accessFlags := 24, nameIndex := 183, descriptorIndex := 61, attributes := #[] }, { accessFlags := 24, nameIndex := 186, descriptorIndex := 61, attributes := #[] }, { accessFlags := 24, nameIndex := 189, descriptorIndex := 61, attributes := #[] }, { accessFlags := 24, nameIndex := 192, descriptorIndex := 61, attributes := #[] }, { accessFlags := 24, nameIndex := 195, descriptorIndex := 61, attributes := #[] }, { accessFlags := 24, nameIndex := 198, descriptorIndex := 61, attributes := #[] }, { accessFlags := 24, nameIndex := 201, descriptorIndex := 61, attributes := #[] }, { accessFlags := 24, nameIndex := 204, descriptorIndex := 61, attributes := #[] }, { accessFlags := 24, nameIndex := 207, descriptorIndex := 61, attributes := #[] }, { accessFlags := 24, nameIndex := 210, descriptorIndex := 61, attributes := #[] }, { accessFlags := 24, nameIndex := 213, descriptorIndex := 61, attributes := #[] }, { accessFlags := 24, nameIndex := 216, descriptorIndex := 61, attributes := #[] }, { accessFlags := 24, nameIndex := 219, descriptorIndex := 61, attributes := #[] }, { accessFlags := 24, nameIndex := 222, descriptorIndex := 61, attributes := #[] }, { accessFlags := 24, nameIndex := 225, descriptorIndex := 61, attributes := #[] }])
  fields := #[{ name := "TECHNIQUE", type := (.object "java/lang/String"), accessFlags := 24, slot := 0, constantValue := 0 }, { name := "CONFLICTS", type := (.object "java/lang/String"), accessFlags := 24, slot := 1, constantValue := 0 }, { name := "SCHEMA", type := (.object "java/lang/String"), accessFlags := 24, slot := 2, constantValue := 0 }, { name := "STEP", type := (.object "java/lang/String"), accessFlags := 24, slot := 3, constantValue := 0 }, { name := "READING", type := (.object "java/lang/String"), accessFlags := 24, slot := 4, constantValue := 0 }, { name := "TX", type := (.object "java/lang/String"), accessFlags := 24, slot := 5, constantValue := 0 }, { name := "ATTEMPT", type := (.object "java/lang/String"), accessFlags := 24, slot := 6, constantValue := 0 }, { name := "INVOKE", type := (.object "java/lang/String"), accessFlags := 24, slot := 7, constantValue := 0 }, { name := "INVOCATION", type := (.object "java/lang/String"), accessFlags := 24, slot := 8, constantValue := 0 }, { name := "ENTRY_FIELDS", type := (.object "java/util/List"), accessFlags := 24, slot := 9, constantValue := 0 }, { name := "AT", type := (.object "java/lang/String"), accessFlags := 24, slot := 10, constantValue := 0 }, { name := "OUTCOME", type := (.object "java/lang/String"), accessFlags := 24, slot := 11, constantValue := 0 }, { name := "GRANTED", type := (.object "java/lang/String"), accessFlags := 24, slot := 12, constantValue := 0 }, { name := "QUEUED", type := (.object "java/lang/String"), accessFlags := 24, slot := 13, constantValue := 0 }, { name := "REFUSED", type := (.object "java/lang/String"), accessFlags := 24, slot := 14, constantValue := 0 }, { name := "FINISHED", type := (.object "java/lang/String"), accessFlags := 24, slot := 15, constantValue := 0 }, { name := "AFTER", type := (.object "java/lang/String"), accessFlags := 24, slot := 16, constantValue := 0 }, { name := "STALE", type := (.object "java/lang/String"), accessFlags := 24, slot := 17, constantValue := 0 }, { name := "STATE", type := (.object "java/lang/String"), accessFlags := 24, slot := 18, constantValue := 0 }, { name := "RETURNS", type := (.object "java/lang/String"), accessFlags := 24, slot := 19, constantValue := 0 }, { name := "AFFECTED", type := (.object "java/lang/String"), accessFlags := 24, slot := 20, constantValue := 0 }, { name := "OVERRIDE", type := (.object "java/lang/String"), accessFlags := 24, slot := 21, constantValue := 0 }, { name := "STALE_OVERRIDE", type := (.object "java/lang/String"), accessFlags := 24, slot := 22, constantValue := 0 }, { name := "REASON", type := (.object "java/lang/String"), accessFlags := 24, slot := 23, constantValue := 0 }, { name := "RULE", type := (.object "java/lang/String"), accessFlags := 24, slot := 24, constantValue := 0 }, { name := "RULE_TEMPORAL", type := (.object "java/lang/String"), accessFlags := 24, slot := 25, constantValue := 0 }, { name := "RULE_SEQUENCE", type := (.object "java/lang/String"), accessFlags := 24, slot := 26, constantValue := 0 }, { name := "RULE_BOUND", type := (.object "java/lang/String"), accessFlags := 24, slot := 27, constantValue := 0 }, { name := "RULE_OVERLAP", type := (.object "java/lang/String"), accessFlags := 24, slot := 28, constantValue := 0 }, { name := "ATTRIBUTE", type := (.object "java/lang/String"), accessFlags := 24, slot := 29, constantValue := 0 }, { name := "VALID_UNTIL", type := (.object "java/lang/String"), accessFlags := 24, slot := 30, constantValue := 0 }, { name := "COST", type := (.object "java/lang/String"), accessFlags := 24, slot := 31, constantValue := 0 }, { name := "EARLIER", type := (.object "java/lang/String"), accessFlags := 24, slot := 32, constantValue := 0 }, { name := "ARGUMENT", type := (.object "java/lang/String"), accessFlags := 24, slot := 33, constantValue := 0 }, { name := "BY", type := (.object "java/lang/String"), accessFlags := 24, slot := 34, constantValue := 0 }, { name := "HELD", type := (.object "java/lang/String"), accessFlags := 24, slot := 35, constantValue := 0 }, { name := "TEST", type := (.object "java/lang/String"), accessFlags := 24, slot := 36, constantValue := 0 }, { name := "TEST_BOTH_WRITE", type := (.object "java/lang/String"), accessFlags := 24, slot := 37, constantValue := 0 }, { name := "TEST_OTHER_WROTE", type := (.object "java/lang/String"), accessFlags := 24, slot := 38, constantValue := 0 }, { name := "TEST_OTHER_READ", type := (.object "java/lang/String"), accessFlags := 24, slot := 39, constantValue := 0 }, { name := "TEST_TEXT", type := (.object "java/lang/String"), accessFlags := 24, slot := 40, constantValue := 0 }, { name := "COMMIT", type := (.object "java/lang/String"), accessFlags := 24, slot := 41, constantValue := 0 }, { name := "END", type := (.object "java/lang/String"), accessFlags := 24, slot := 42, constantValue := 0 }, { name := "ABORT", type := (.object "java/lang/String"), accessFlags := 24, slot := 43, constantValue := 0 }, { name := "OUTRANKED", type := (.object "java/lang/String"), accessFlags := 24, slot := 44, constantValue := 0 }, { name := "VALUE", type := (.object "java/lang/String"), accessFlags := 24, slot := 45, constantValue := 0 }, { name := "IMPRECISION", type := (.object "java/lang/String"), accessFlags := 24, slot := 46, constantValue := 0 }, { name := "EPSILON", type := (.object "java/lang/String"), accessFlags := 24, slot := 47, constantValue := 0 }, { name := "TIME", type := (.object "java/lang/String"), accessFlags := 24, slot := 48, constantValue := 0 }, { name := "IMPORT_LIMIT", type := (.object "java/lang/String"), accessFlags := 24, slot := 49, constantValue := 0 }, { name := "CAUSE", type := (.object "java/lang/String"), accessFlags := 24, slot := 50, constantValue := 0 }, { name := "FINAL", type := (.object "java/lang/String"), accessFlags := 24, slot := 51, constantValue := 0 }, { name := "INVOCATIONS", type := (.object "java/lang/String"), accessFlags := 24, slot := 52, constantValue := 0 }, { name := "READS", type := (.object "java/lang/String"), accessFlags := 24, slot := 53, constantValue := 0 }, { name := "STALE_READS", type := (.object "java/lang/String"), accessFlags := 24, slot := 54, constantValue := 0 }, { name := "TEMPORAL_INCONSISTENCY", type := (.object "java/lang/String"), accessFlags := 24, slot := 55, constantValue := 0 }, { name := "TRANSACTIONS", type := (.object "java/lang/String"), accessFlags := 24, slot := 56, constantValue := 0 }, { name := "COMMITTED", type := (.object "java/lang/String"), accessFlags := 24, slot := 57, constantValue := 0 }, { name := "MISSED", type := (.object "java/lang/String"), accessFlags := 24, slot := 58, constantValue := 0 }, { name := "MISS_RATIO", type := (.object "java/lang/String"), accessFlags := 24, slot := 59, constantValue := 0 }, { name := "MISSED_BY", type := (.object "java/lang/String"), accessFlags := 24, slot := 60, constantValue := 0 }, { name := "OBJECTS", type := (.object "java/lang/String"), accessFlags := 24, slot := 61, constantValue := 0 }, { name := "WAITING", type := (.object "java/lang/String"), accessFlags := 24, slot := 62, constantValue := 0 }]
  methods := #[k7m0, k7m1]
  instanceTypes := #[]
  staticTypes := #[(.object "java/lang/String"), (.object "java/lang/String"), (.object "java/lang/String"), (.object "java/lang/String"), (.object "java/lang/String"), (.object "java/lang/String"), (.object "java/lang/String"), (.object "java/lang/String"), (.object "java/lang/String"), (.object "java/util/List"), (.object "java/lang/String"), (.object "java/lang/String"), (.object "java/lang/String"), (.object "java/lang/String"), (.object "java/lang/String"), (.object "java/lang/String"), (.object "java/lang/String"), (.object "java/lang/String"), (.object "java/lang/String"), (.object "java/lang/String"), (.object "java/lang/String"), (.object "java/lang/String"), (.object "java/lang/String"), (.object "java/lang/String"), (.object "java/lang/String"), (.object "java/lang/String"), (.object "java/lang/String"), (.object "java/lang/String"), (.object "java/lang/String"), (.object "java/lang/String"), (.object "java/lang/String"), (.object "java/lang/String"), (.object "java/lang/String"), (.object "java/lang/String"), (.object "java/lang/String"), (.object "java/lang/String"), (.object "java/lang/String"), (.object "java/lang/String"), (.object "java/lang/String"), (.object "java/lang/String"), (.object "java/lang/String"), (.object "java/lang/String"), (.object "java/lang/String"), (.object "java/lang/String"), (.object "java/lang/String"), (.object "java/lang/String"), (.object "java/lang/String"), (.object "java/lang/String"), (.object "java/lang/String"), (.object "java/lang/String"), (.object "java/lang/String"), (.object "java/lang/String"), (.object "java/lang/String"), (.object "java/lang/String"), (.object "java/lang/String"), (.object "java/lang/String"), (.object "java/lang/String"), (.object "java/lang/String"), (.object "java/lang/String"), (.object "java/lang/String"), (.object "java/lang/String"), (.object "java/lang/String"), (.object "java/lang/String")]
  resolved := Array.replicate 268 none
  statics := none }

def pool8 : Array CpInfo := pool [(8, .class_ 10), (1, u "com/example/epsilock/epsilock/workload/RunFormat$1"), (0, u "$SwitchMap$com$example$epsilock$epsilock$engine$Refusal$Test$Kind"), (0, u "[I"), (19, .class_ 33), (0, u "java/lang/Object"), (8, .class_ 43), (0, u "com/example/epsilock/epsilock/workload/RunFormat")] 8

/-- com/example/epsilock/epsilock/workload/RunFormat$1 -/
def k8 : Class := { plain "com/example/epsilock/epsilock/workload/RunFormat$1" (some 0) with
  accessFlags := 4128
  interfaces := #[]
  cf := some (fileOf pool8 8 #[.nestHost 42] #[] 4128 32 #[] #[{ accessFlags := 4120, nameIndex := 11, descriptorIndex := 12, attributes := #[] }])
  fields := #[{ name := "$SwitchMap$com$example$epsilock$epsilock$engine$Refusal$Test$Kind", type := (.array .int), accessFlags := 4120, slot := 0, constantValue := 0 }]
  methods := #[]
  instanceTypes := #[]
  staticTypes := #[(.array .int)]
  resolved := Array.replicate 52 none
  statics := some 1 }

def pool9 : Array CpInfo := pool [(2, .class_ 4), (1, u "java/lang/CharSequence"), (42, .class_ 48), (0, u "java/lang/CharSequence$1CodePointIterator"), (10, .class_ 60), (0, u "java/lang/CharSequence$1CharIterator"), (5, .class_ 67), (0, u "java/lang/Object")] 63

/-- java/lang/CharSequence -/
def k9 : Class := { plain "java/lang/CharSequence" (some 0) with
  accessFlags := 1537
  interfaces := #[]
  cf := some (fileOf pool9 2 #[.nestMembers #[47, 59]] #[] 1537 66 #[] #[])
  fields := #[]
  methods := #[]
  instanceTypes := #[]
  staticTypes := #[]
  resolved := Array.replicate 131 none
  statics := none }

def pool10 : Array CpInfo := pool [(1, .class_ 2), (0, u "java/lang/constant/ConstantDesc"), (0, .class_ 4), (0, u "java/lang/Object")] 32

/-- java/lang/constant/ConstantDesc -/
def k10 : Class := { plain "java/lang/constant/ConstantDesc" (some 0) with
  accessFlags := 1537
  interfaces := #[]
  cf := some (fileOf pool10 1 #[] #[] 1537 3 #[] #[])
  fields := #[]
  methods := #[]
  instanceTypes := #[]
  staticTypes := #[]
  resolved := Array.replicate 37 none
  statics := none }

def pool11 : Array CpInfo := pool [(2, .class_ 4), (1, u "java/lang/Object"), (0, u "<init>"), (0, u "()V"), (2, .fieldref 10 11), (0, .class_ 12), (0, .nameAndType 13 14), (0, u "java/lang/String"), (0, u "value"), (0, u "[B"), (0, .fieldref 10 16), (0, .nameAndType 17 18), (0, u "coder"), (0, u "B"), (2, u "hash"), (0, u "I"), (2, u "hashIsZero"), (0, u "Z"), (11, .fieldref 10 39), (0, .nameAndType 40 26), (0, u "COMPACT_STRINGS"), (66, .class_ 109), (1, u "java/lang/StringLatin1"), (431, .methodref 107 542), (0, .nameAndType 543 544), (0, u "equals"), (0, u "([B[B)Z"), (28, u "(Ljava/lang/Object;)Z"), (1, .class_ 576), (0, u "java/lang/CharSequence"), (22, u "CASE_INSENSITIVE_ORDER"), (0, u "Ljava/util/Comparator;"), (500, u "serialPersistentFields"), (0, u "[Ljava/io/ObjectStreamField;"), (0, .class_ 1104), (0, u "java/lang/String$CaseInsensitiveComparator"), (1, .class_ 1107), (0, u "java/io/Serializable"), (0, .class_ 1109), (0, u "java/lang/Comparable"), (0, .class_ 1111), (0, u "java/lang/constant/Constable"), (0, .class_ 1113), (0, u "java/lang/constant/ConstantDesc"), (2, u "serialVersionUID"), (0, u "J"), (3, u "REPL"), (0, u "C"), (2, u "LATIN1"), (1, u "UTF16")] 323

def k11m0 : Method := { name := "<init>", desc := "()V", sig := { parameters := [], returnType := none }, accessFlags := 1, code := none }
def k11c1 : Code := { maxStack := 2, maxLocals := 3, code := jdk_42_method_66_code, exceptionTable := #[], attributes := #[] }
def k11m1 : Method := { name := "equals", desc := "(Ljava/lang/Object;)Z", sig := { parameters := [(.object "java/lang/Object")], returnType := some .boolean }, accessFlags := 1, code := some k11c1 }
/-- java/lang/String -/
def k11 : Class := { plain "java/lang/String" (some 0) with
  accessFlags := 49
  interfaces := #[4, 3, 9, 2, 10]
  cf := some (fileOf pool11 10 #[.nestMembers #[1103]] #[{ accessFlags := 1, nameIndex := 5, descriptorIndex := 6, attributes := #[] }, { accessFlags := 1, nameIndex := 543, descriptorIndex := 573, attributes := #[] }] 49 2 #[1106, 1108, 575, 1110, 1112] #[{ accessFlags := 18, nameIndex := 13, descriptorIndex := 14, attributes := #[] }, { accessFlags := 18, nameIndex := 17, descriptorIndex := 18, attributes := #[] }, { accessFlags := 2, nameIndex := 21, descriptorIndex := 22, attributes := #[] }, { accessFlags := 2, nameIndex := 25, descriptorIndex := 26, attributes := #[] }, { accessFlags := 26, nameIndex := 1116, descriptorIndex := 1117, attributes := #[] }, { accessFlags := 24, nameIndex := 40, descriptorIndex := 26, attributes := #[] }, { accessFlags := 26, nameIndex := 1101, descriptorIndex := 1102, attributes := #[] }, { accessFlags := 26, nameIndex := 1121, descriptorIndex := 1122, attributes := #[] }, { accessFlags := 25, nameIndex := 599, descriptorIndex := 600, attributes := #[] }, { accessFlags := 24, nameIndex := 1125, descriptorIndex := 18, attributes := #[] }, { accessFlags := 24, nameIndex := 1127, descriptorIndex := 18, attributes := #[] }])
  fields := #[{ name := "value", type := (.array .byte), accessFlags := 18, slot := 0, constantValue := 0 }, { name := "coder", type := .byte, accessFlags := 18, slot := 1, constantValue := 0 }, { name := "hash", type := .int, accessFlags := 2, slot := 2, constantValue := 0 }, { name := "hashIsZero", type := .boolean, accessFlags := 2, slot := 3, constantValue := 0 }, { name := "serialVersionUID", type := .long, accessFlags := 26, slot := 0, constantValue := 0 }, { name := "COMPACT_STRINGS", type := .boolean, accessFlags := 24, slot := 1, constantValue := 0 }, { name := "serialPersistentFields", type := (.array (.object "java/io/ObjectStreamField")), accessFlags := 26, slot := 2, constantValue := 0 }, { name := "REPL", type := .char, accessFlags := 26, slot := 3, constantValue := 0 }, { name := "CASE_INSENSITIVE_ORDER", type := (.object "java/util/Comparator"), accessFlags := 25, slot := 4, constantValue := 0 }, { name := "LATIN1", type := .byte, accessFlags := 24, slot := 5, constantValue := 0 }, { name := "UTF16", type := .byte, accessFlags := 24, slot := 6, constantValue := 0 }]
  methods := #[k11m0, k11m1]
  instanceTypes := #[(.array .byte), .byte, .int, .boolean]
  staticTypes := #[.long, .boolean, (.array (.object "java/io/ObjectStreamField")), .char, (.object "java/util/Comparator"), .byte, .byte]
  resolved := Array.replicate 1451 none
  statics := some 2 }

def pool12 : Array CpInfo := pool [(4, .class_ 6), (1, u "java/lang/Object"), (0, u "<init>"), (0, u "()V"), (5, .class_ 16), (1, u "java/lang/StringLatin1"), (104, u "$assertionsDisabled"), (0, u "Z"), (98, .class_ 223), (1, u "java/lang/StringLatin1$LinesSpliterator"), (57, u "equals"), (0, u "([B[B)Z"), (107, .class_ 391), (0, u "java/lang/StringLatin1$CharsSpliterator")] 3

def k12m0 : Method := { name := "<init>", desc := "()V", sig := { parameters := [], returnType := none }, accessFlags := 0, code := none }
def k12c1 : Code := { maxStack := 3, maxLocals := 3, code := jdk_43_method_13_code, exceptionTable := #[], attributes := #[] }
def k12m1 : Method := { name := "equals", desc := "([B[B)Z", sig := { parameters := [(.array .byte), (.array .byte)], returnType := some .boolean }, accessFlags := 9, code := some k12c1 }
/-- java/lang/StringLatin1 -/
def k12 : Class := { plain "java/lang/StringLatin1" (some 0) with
  accessFlags := 48
  interfaces := #[]
  cf := some (fileOf pool12 14 #[.nestMembers #[390, 221]] #[{ accessFlags := 0, nameIndex := 7, descriptorIndex := 8, attributes := #[] }, { accessFlags := 9, nameIndex := 281, descriptorIndex := 282, attributes := #[] }] 48 4 #[] #[{ accessFlags := 4120, nameIndex := 121, descriptorIndex := 122, attributes := #[] }])
  fields := #[{ name := "$assertionsDisabled", type := .boolean, accessFlags := 4120, slot := 0, constantValue := 0 }]
  methods := #[k12m0, k12m1]
  instanceTypes := #[]
  staticTypes := #[.boolean]
  resolved := Array.replicate 395 none
  statics := none }

def pool13 : Array CpInfo := pool [(2, .class_ 4), (1, u "java/lang/Object"), (0, u "<init>"), (0, u "()V"), (17, .class_ 26), (1, u "jdk/internal/util/Preconditions"), (28, .class_ 56), (0, u "jdk/internal/util/Preconditions$4"), (57, .class_ 115), (0, u "jdk/internal/util/Preconditions$1"), (7, u "SIOOBE_FORMATTER"), (0, u "Ljava/util/function/BiFunction;"), (0, .class_ 126), (0, u "jdk/internal/util/Preconditions$2"), (3, u "AIOOBE_FORMATTER"), (0, .class_ 132), (0, u "jdk/internal/util/Preconditions$3"), (3, u "IOOBE_FORMATTER")] 57

def k13m0 : Method := { name := "<init>", desc := "()V", sig := { parameters := [], returnType := none }, accessFlags := 1, code := none }
/-- jdk/internal/util/Preconditions -/
def k13 : Class := { plain "jdk/internal/util/Preconditions" (some 0) with
  accessFlags := 33
  interfaces := #[]
  cf := some (fileOf pool13 24 #[.nestMembers #[55, 131, 125, 114]] #[{ accessFlags := 1, nameIndex := 5, descriptorIndex := 6, attributes := #[] }] 33 2 #[] #[{ accessFlags := 25, nameIndex := 123, descriptorIndex := 124, attributes := #[] }, { accessFlags := 25, nameIndex := 130, descriptorIndex := 124, attributes := #[] }, { accessFlags := 25, nameIndex := 136, descriptorIndex := 124, attributes := #[] }])
  fields := #[{ name := "SIOOBE_FORMATTER", type := (.object "java/util/function/BiFunction"), accessFlags := 25, slot := 0, constantValue := 0 }, { name := "AIOOBE_FORMATTER", type := (.object "java/util/function/BiFunction"), accessFlags := 25, slot := 1, constantValue := 0 }, { name := "IOOBE_FORMATTER", type := (.object "java/util/function/BiFunction"), accessFlags := 25, slot := 2, constantValue := 0 }]
  methods := #[k13m0]
  instanceTypes := #[]
  staticTypes := #[(.object "java/util/function/BiFunction"), (.object "java/util/function/BiFunction"), (.object "java/util/function/BiFunction")]
  resolved := Array.replicate 194 none
  statics := some 3 }

def pool14 : Array CpInfo := pool [(9, u "<init>"), (6, .class_ 18), (1, u "java/lang/Object"), (0, u "()V"), (1, .class_ 23), (1, u "jdk/internal/util/ArraysSupport"), (0, u "LOG2_ARRAY_LONG_INDEX_SCALE"), (0, u "I"), (2, u "U"), (0, u "Ljdk/internal/misc/Unsafe;"), (8, u "BIG_ENDIAN"), (0, u "Z"), (8, u "LOG2_BYTE_BIT_SIZE"), (4, u "LOG2_ARRAY_INT_INDEX_SCALE"), (54, u "JLA"), (0, u "Ljdk/internal/access/JavaLangAccess;"), (11, u "LOG2_ARRAY_BOOLEAN_INDEX_SCALE"), (9, u "LOG2_ARRAY_BYTE_INDEX_SCALE"), (5, u "LOG2_ARRAY_CHAR_INDEX_SCALE"), (5, u "LOG2_ARRAY_SHORT_INDEX_SCALE"), (18, u "LOG2_ARRAY_FLOAT_INDEX_SCALE"), (24, u "LOG2_ARRAY_DOUBLE_INDEX_SCALE"), (89, u "T_BOOLEAN"), (2, u "T_CHAR"), (1, u "T_FLOAT"), (1, u "T_DOUBLE"), (1, u "T_BYTE"), (1, u "T_SHORT"), (1, u "T_INT"), (1, u "T_LONG"), (1, u "SOFT_MAX_ARRAY_LENGTH")] 83

def k14m0 : Method := { name := "<init>", desc := "()V", sig := { parameters := [], returnType := none }, accessFlags := 2, code := none }
/-- jdk/internal/util/ArraysSupport -/
def k14 : Class := { plain "jdk/internal/util/ArraysSupport" (some 0) with
  accessFlags := 33
  interfaces := #[]
  cf := some (fileOf pool14 21 #[] #[{ accessFlags := 2, nameIndex := 9, descriptorIndex := 19, attributes := #[] }] 33 16 #[] #[{ accessFlags := 24, nameIndex := 28, descriptorIndex := 29, attributes := #[] }, { accessFlags := 26, nameIndex := 38, descriptorIndex := 39, attributes := #[] }, { accessFlags := 25, nameIndex := 121, descriptorIndex := 25, attributes := #[] }, { accessFlags := 25, nameIndex := 131, descriptorIndex := 25, attributes := #[] }, { accessFlags := 25, nameIndex := 137, descriptorIndex := 25, attributes := #[] }, { accessFlags := 25, nameIndex := 143, descriptorIndex := 25, attributes := #[] }, { accessFlags := 25, nameIndex := 53, descriptorIndex := 25, attributes := #[] }, { accessFlags := 25, nameIndex := 24, descriptorIndex := 25, attributes := #[] }, { accessFlags := 25, nameIndex := 162, descriptorIndex := 25, attributes := #[] }, { accessFlags := 25, nameIndex := 187, descriptorIndex := 25, attributes := #[] }, { accessFlags := 26, nameIndex := 48, descriptorIndex := 25, attributes := #[] }, { accessFlags := 25, nameIndex := 277, descriptorIndex := 25, attributes := #[] }, { accessFlags := 25, nameIndex := 280, descriptorIndex := 25, attributes := #[] }, { accessFlags := 25, nameIndex := 282, descriptorIndex := 25, attributes := #[] }, { accessFlags := 25, nameIndex := 284, descriptorIndex := 25, attributes := #[] }, { accessFlags := 25, nameIndex := 286, descriptorIndex := 25, attributes := #[] }, { accessFlags := 25, nameIndex := 288, descriptorIndex := 25, attributes := #[] }, { accessFlags := 25, nameIndex := 290, descriptorIndex := 25, attributes := #[] }, { accessFlags := 25, nameIndex := 292, descriptorIndex := 25, attributes := #[] }, { accessFlags := 26, nameIndex := 108, descriptorIndex := 109, attributes := #[] }, { accessFlags := 25, nameIndex := 294, descriptorIndex := 25, attributes := #[] }])
  fields := #[{ name := "U", type := (.object "jdk/internal/misc/Unsafe"), accessFlags := 24, slot := 0, constantValue := 0 }, { name := "BIG_ENDIAN", type := .boolean, accessFlags := 26, slot := 1, constantValue := 0 }, { name := "LOG2_ARRAY_BOOLEAN_INDEX_SCALE", type := .int, accessFlags := 25, slot := 2, constantValue := 0 }, { name := "LOG2_ARRAY_BYTE_INDEX_SCALE", type := .int, accessFlags := 25, slot := 3, constantValue := 0 }, { name := "LOG2_ARRAY_CHAR_INDEX_SCALE", type := .int, accessFlags := 25, slot := 4, constantValue := 0 }, { name := "LOG2_ARRAY_SHORT_INDEX_SCALE", type := .int, accessFlags := 25, slot := 5, constantValue := 0 }, { name := "LOG2_ARRAY_INT_INDEX_SCALE", type := .int, accessFlags := 25, slot := 6, constantValue := 0 }, { name := "LOG2_ARRAY_LONG_INDEX_SCALE", type := .int, accessFlags := 25, slot := 7, constantValue := 0 }, { name := "LOG2_ARRAY_FLOAT_INDEX_SCALE", type := .int, accessFlags := 25, slot := 8, constantValue := 0 }, { name := "LOG2_ARRAY_DOUBLE_INDEX_SCALE", type := .int, accessFlags := 25, slot := 9, constantValue := 0 }, { name := "LOG2_BYTE_BIT_SIZE", type := .int, accessFlags := 26, slot := 10, constantValue := 0 }, { name := "T_BOOLEAN", type := .int, accessFlags := 25, slot := 11, constantValue := 0 }, { name := "T_CHAR", type := .int, accessFlags := 25, slot := 12, constantValue := 0 }, { name := "T_FLOAT", type := .int, accessFlags := 25, slot := 13, constantValue := 0 }, { name := "T_DOUBLE", type := .int, accessFlags := 25, slot := 14, constantValue := 0 }, { name := "T_BYTE", type := .int, accessFlags := 25, slot := 15, constantValue := 0 }, { name := "T_SHORT", type := .int, accessFlags := 25, slot := 16, constantValue := 0 }, { name := "T_INT", type := .int, accessFlags := 25, slot := 17, constantValue := 0 }, { name := "T_LONG", type := .int, accessFlags := 25, slot := 18, constantValue := 0 }, { name := "JLA", type := (.object "jdk/internal/access/JavaLangAccess"), accessFlags := 26, slot := 19, constantValue := 0 }, { name := "SOFT_MAX_ARRAY_LENGTH", type := .int, accessFlags := 25, slot := 20, constantValue := 0 }]
  methods := #[k14m0]
  instanceTypes := #[]
  staticTypes := #[(.object "jdk/internal/misc/Unsafe"), .boolean, .int, .int, .int, .int, .int, .int, .int, .int, .int, .int, .int, .int, .int, .int, .int, .int, .int, (.object "jdk/internal/access/JavaLangAccess"), .int]
  resolved := Array.replicate 378 none
  statics := none }

def pool15 : Array CpInfo := pool [(1, u "java/lang/Cloneable"), (0, .class_ 1), (0, u "java/lang/Object"), (0, .class_ 3)] 3

/-- java/lang/Cloneable -/
def k15 : Class := { plain "java/lang/Cloneable" (some 0) with
  accessFlags := 1537
  interfaces := #[]
  cf := some (fileOf pool15 2 #[] #[] 1537 4 #[] #[])
  fields := #[]
  methods := #[]
  instanceTypes := #[]
  staticTypes := #[]
  resolved := Array.replicate 8 none
  statics := none }

/-- the primitive byte -/
def k16 : Class := { plain "byte" none with kind := .primitive 'B', accessFlags := 0x411 }
/-- [B -/
def k17 : Class := { plain "[B" (some 0) with kind := .array 16 .byte, interfaces := #[15, 4], accessFlags := 1041 }

/-- the primitive int -/
def k18 : Class := { plain "int" none with kind := .primitive 'I', accessFlags := 0x411 }
/-- [I -/
def k19 : Class := { plain "[I" (some 0) with kind := .array 18 .int, interfaces := #[15, 4], accessFlags := 1041 }

def heap : Heap := #[{ cls := 6, slots := #[.ref 4, .ref 5, .ref 6, .ref 7, .null], vm := .statics 6 },
  { cls := 8, slots := #[.ref 8], vm := .statics 8 },
  { cls := 11, slots := #[.long 0, .int 1, .null, .int 0, .null, .int 0, .int 0], vm := .statics 11 },
  { cls := 13, slots := #[.null, .null, .null], vm := .statics 13 },
  { cls := 6, slots := #[.null, .int 0, .int 0], vm := .none },
  { cls := 6, slots := #[.null, .int 1, .int 0], vm := .none },
  { cls := 6, slots := #[.null, .int 2, .int 0], vm := .none },
  { cls := 6, slots := #[.null, .int 3, .int 0], vm := .none },
  { cls := 19, slots := #[.int 1, .int 2, .int 3, .int 4], vm := .none }]
def classes : Array Class := #[k0, k1, k2, k3, k4, k5, k6, k7, k8, k9, k10, k11, k12, k13, k14, k15, k16, k17, k18, k19]
def interned : List (Array UInt16 × Addr) := []
def slotsUsed : Nat := 32
def theMethod : MethodId := ⟨1, 1⟩
def args0 : Array Value := #[.int 1, .int 2]
def aboutOver (below : List Frame) : State where
  vm := { classes := classes, interned := interned.toArray }
  heap := heap
  slotsUsed := slotsUsed
  threads := #[{ frames := .invoking theMethod args0 :: below }]
def below0 : List Frame := [.native { method := ⟨0, 0⟩, args := #[] }]
def about1 : State := aboutOver below0
def p0 : Program := .bare "" "" ""
def e0 : Env := launch0.env 0 0 0
theorem w_frames : about1.frames = Frame.invoking theMethod args0 :: below0 := rfl
set_option maxRecDepth 65536 in
theorem w_args : argsFit about1.vm theMethod args0 = true := by decide +kernel
set_option maxRecDepth 65536 in
theorem w_heap : heapFits about1 = true := by decide +kernel
set_option maxRecDepth 65536 in
theorem w_runnable : about1.curStatus? = some .runnable := by decide +kernel
set_option maxRecDepth 65536 in
theorem w_alone : about1.alone = true := by decide +kernel
set_option maxRecDepth 65536 in
theorem w_named : about1.methodNamed? x = some theMethod := by decide +kernel
set_option maxRecDepth 65536 in
theorem w_hears : about1.hears theMethod below0 = true := by decide +kernel
set_option maxRecDepth 65536 in
theorem w_ripe : about1.ripe theMethod args0 below0 = true := by decide +kernel
theorem w_running : about1.status = .running := rfl
set_option maxRecDepth 65536 in
theorem w_room : about1.hasRoom e0.platform room_1 = true :=
  launch0.hasRoom_least _ room_1 (by decide +kernel) (by decide +kernel) (by decide +kernel) (by decide +kernel) (by decide +kernel) (by decide +kernel)
theorem allAtoms_all (ts : List Jvm.Cond) (a : Array Jvm.Value) (st : Jvm.State) : (allAtoms ts).before a st = ts.all (fun c => c.before a st) := by
  induction ts with
  | nil => rfl
  | cons c t ih =>
    show (Jvm.Cond.and c (allAtoms t)).before a st = _
    rw [Jvm.Cond.before_and, ih, List.all_cons]
def words1 : List Jvm.Cond := Jvm.Cond.code x code maxLocals ret :: tables_1
/-- a 'code' word, met by the world's own term for the bytes: nothing is compared byte by byte -/
theorem code_word {y : MethodName} {bytes : ByteArray} {mx : Nat} {rt : Option FieldType} {a : Array Value} {s : State} {m : MethodId} {meth : Method} {c : Code} (h1 : s.methodNamed? y = some m) (h2 : s.vm.method? m = some meth) (h3 : meth.code = some c) (h4 : c.code = bytes)
    (h5 : (c.maxLocals == mx && c.exceptionTable.isEmpty && decide (c.maxStack ≤ mostOperands) && decide (meth.sig.returnType = rt) && !meth.locks && decide (parseMethodDescriptor y.desc = some meth.sig)) = true) : (Jvm.Cond.code y bytes mx rt).before a s = true := by
  simp only [Bool.and_eq_true, beq_iff_eq, Bool.not_eq_true', decide_eq_true_eq] at h5
  obtain ⟨⟨⟨⟨⟨g1, g2⟩, g3⟩, g4⟩, g5⟩, g6⟩ := h5
  simp [Cond.before, Cond.holds, Cond.value, h1, h2, h3, h4, g1, g2, g3, g4, g5, g6]
def isCode : Jvm.Cond → Bool
  | .code _ _ _ _ => true
  | _ => false
theorem all_split {L : List Jvm.Cond} {P : Jvm.Cond → Bool} (h1 : L.all (fun c => isCode c || P c) = true) (h2 : ∀ c ∈ L.filter isCode, P c = true) : L.all P = true := by
  refine List.all_eq_true.mpr fun c hc => ?_
  have h := List.all_eq_true.mp h1 c hc
  rcases Bool.eq_false_or_eq_true (isCode c) with hi | hi
  · exact h2 c (List.mem_filter.mpr ⟨hc, hi⟩)
  · simpa [hi] using h
set_option maxRecDepth 65536 in
theorem w_c0 : (Jvm.Cond.code x code maxLocals ret).before args0 about1 = true := code_word (m := ⟨1, 1⟩) (meth := k1m1) (c := k1c1) (by decide +kernel) rfl rfl rfl (by decide +kernel)
set_option maxRecDepth 65536 in
theorem w_c1 : (Jvm.Cond.code ({ cls := "com/example/epsilock/epsilock/workload/RunFormatTestPinLaw", name := "kind", desc := "(I)Lcom/example/epsilock/epsilock/engine/Refusal$Test$Kind;" } : Jvm.MethodName) method_3_code (1 : Nat) (Option.some (Jvm.ClassFile.FieldType.object "com/example/epsilock/epsilock/engine/Refusal$Test$Kind"))).before args0 about1 = true := code_word (m := ⟨1, 2⟩) (meth := k1m2) (c := k1c2) (by decide +kernel) rfl rfl rfl (by decide +kernel)
set_option maxRecDepth 65536 in
theorem w_c2 : (Jvm.Cond.code ({ cls := "com/example/epsilock/epsilock/workload/RunFormat", name := "test", desc := "(Lcom/example/epsilock/epsilock/engine/Refusal$Test$Kind;)Ljava/lang/String;" } : Jvm.MethodName) prog_82_method_1_code (1 : Nat) (Option.some (Jvm.ClassFile.FieldType.object "java/lang/String"))).before args0 about1 = true := code_word (m := ⟨7, 0⟩) (meth := k7m0) (c := k7c0) (by decide +kernel) rfl rfl rfl (by decide +kernel)
set_option maxRecDepth 65536 in
theorem w_c3 : (Jvm.Cond.code ({ cls := "java/lang/Enum", name := "ordinal", desc := "()I" } : Jvm.MethodName) jdk_37_method_2_code (1 : Nat) (Option.some Jvm.ClassFile.FieldType.int)).before args0 about1 = true := code_word (m := ⟨5, 0⟩) (meth := k5m0) (c := k5c0) (by decide +kernel) rfl rfl rfl (by decide +kernel)
set_option maxRecDepth 65536 in
theorem w_c4 : (Jvm.Cond.code ({ cls := "com/example/epsilock/epsilock/workload/RunFormatTestPinLaw", name := "word", desc := "(I)Ljava/lang/String;" } : Jvm.MethodName) method_4_code (1 : Nat) (Option.some (Jvm.ClassFile.FieldType.object "java/lang/String"))).before args0 about1 = true := code_word (m := ⟨1, 3⟩) (meth := k1m3) (c := k1c3) (by decide +kernel) rfl rfl rfl (by decide +kernel)
set_option maxRecDepth 65536 in
theorem w_c5 : (Jvm.Cond.code ({ cls := "java/lang/String", name := "equals", desc := "(Ljava/lang/Object;)Z" } : Jvm.MethodName) jdk_42_method_66_code (3 : Nat) (Option.some Jvm.ClassFile.FieldType.boolean)).before args0 about1 = true := code_word (m := ⟨11, 1⟩) (meth := k11m1) (c := k11c1) (by decide +kernel) rfl rfl rfl (by decide +kernel)
set_option maxRecDepth 65536 in
theorem w_c6 : (Jvm.Cond.code ({ cls := "com/example/epsilock/epsilock/workload/RunFormatTestPinLaw", name := "constant", desc := "(I)Ljava/lang/String;" } : Jvm.MethodName) method_5_code (1 : Nat) (Option.some (Jvm.ClassFile.FieldType.object "java/lang/String"))).before args0 about1 = true := code_word (m := ⟨1, 4⟩) (meth := k1m4) (c := k1c4) (by decide +kernel) rfl rfl rfl (by decide +kernel)
set_option maxRecDepth 65536 in
theorem w_c7 : (Jvm.Cond.code ({ cls := "java/lang/StringLatin1", name := "equals", desc := "([B[B)Z" } : Jvm.MethodName) jdk_43_method_13_code (3 : Nat) (Option.some Jvm.ClassFile.FieldType.boolean)).before args0 about1 = true := code_word (m := ⟨12, 1⟩) (meth := k12m1) (c := k12c1) (by decide +kernel) rfl rfl rfl (by decide +kernel)
def codes1 : List Jvm.Cond := [Jvm.Cond.code x code maxLocals ret, Jvm.Cond.code ({ cls := "com/example/epsilock/epsilock/workload/RunFormatTestPinLaw", name := "kind", desc := "(I)Lcom/example/epsilock/epsilock/engine/Refusal$Test$Kind;" } : Jvm.MethodName) method_3_code (1 : Nat) (Option.some (Jvm.ClassFile.FieldType.object "com/example/epsilock/epsilock/engine/Refusal$Test$Kind")), Jvm.Cond.code ({ cls := "com/example/epsilock/epsilock/workload/RunFormat", name := "test", desc := "(Lcom/example/epsilock/epsilock/engine/Refusal$Test$Kind;)Ljava/lang/String;" } : Jvm.MethodName) prog_82_method_1_code (1 : Nat) (Option.some (Jvm.ClassFile.FieldType.object "java/lang/String")), Jvm.Cond.code ({ cls := "java/lang/Enum", name := "ordinal", desc := "()I" } : Jvm.MethodName) jdk_37_method_2_code (1 : Nat) (Option.some Jvm.ClassFile.FieldType.int), Jvm.Cond.code ({ cls := "com/example/epsilock/epsilock/workload/RunFormatTestPinLaw", name := "word", desc := "(I)Ljava/lang/String;" } : Jvm.MethodName) method_4_code (1 : Nat) (Option.some (Jvm.ClassFile.FieldType.object "java/lang/String")), Jvm.Cond.code ({ cls := "java/lang/String", name := "equals", desc := "(Ljava/lang/Object;)Z" } : Jvm.MethodName) jdk_42_method_66_code (3 : Nat) (Option.some Jvm.ClassFile.FieldType.boolean), Jvm.Cond.code ({ cls := "com/example/epsilock/epsilock/workload/RunFormatTestPinLaw", name := "constant", desc := "(I)Ljava/lang/String;" } : Jvm.MethodName) method_5_code (1 : Nat) (Option.some (Jvm.ClassFile.FieldType.object "java/lang/String")), Jvm.Cond.code ({ cls := "java/lang/StringLatin1", name := "equals", desc := "([B[B)Z" } : Jvm.MethodName) jdk_43_method_13_code (3 : Nat) (Option.some Jvm.ClassFile.FieldType.boolean)]
set_option maxRecDepth 65536 in
theorem codes_eq : words1.filter isCode = codes1 := rfl
theorem w_codes : ∀ c ∈ words1.filter isCode, c.before args0 about1 = true := by
  rw [codes_eq]
  intro c hc
  simp only [codes1, List.mem_cons, List.not_mem_nil, or_false] at hc
  rcases hc with rfl | rfl | rfl | rfl | rfl | rfl | rfl | rfl
  · exact w_c0
  · exact w_c1
  · exact w_c2
  · exact w_c3
  · exact w_c4
  · exact w_c5
  · exact w_c6
  · exact w_c7
set_option maxRecDepth 65536 in
theorem w_t1 : (words1.take 24).all (fun c => isCode c || c.before args0 about1) = true := by decide +kernel
set_option maxRecDepth 65536 in
theorem w_t2 : ((words1.drop 24).take 24).all (fun c => isCode c || c.before args0 about1) = true := by decide +kernel
set_option maxRecDepth 65536 in
theorem w_t3 : ((words1.drop 24).drop 24).all (fun c => isCode c || c.before args0 about1) = true := by decide +kernel
theorem w_tables : (allAtoms (Jvm.Cond.code x code maxLocals ret :: tables_1)).before args0 about1 = true := by
  rw [allAtoms_all]
  show words1.all (fun c => c.before args0 about1) = true
  refine all_split ?_ w_codes
  rw [← List.take_append_drop 24 words1, List.all_append, w_t1, ← List.take_append_drop 24 (words1.drop 24), List.all_append, w_t2, w_t3]
  rfl
set_option maxRecDepth 65536 in
theorem w_rest : rest_1_c.before args0 about1 = true := by decide +kernel
set_option maxRecDepth 65536 in
theorem w_case : (Jvm.Cond.and given_1 narrow_1).before args0 about1 = true := by decide +kernel
set_option maxRecDepth 65536 in
theorem w_consts : constsHeld consts_1 about1 := Jvm.Lit.constsHeldB_iff.mp (by decide +kernel)
theorem w_applies : (headSpec (Jvm.Cond.code x code maxLocals ret :: tables_1) room_1).applies x e0.platform about1 = true :=
  (Spec.applies_iff w_frames).mpr ⟨w_running, w_runnable, w_alone, w_named, w_hears, w_ripe, w_room, w_tables⟩
theorem atStart : AtStart classFile x code maxLocals ret World_1 tables_1 room_1 Calls_1 rest_1 Pre_1 launch0 p0 e0 about1 theMethod args0 below0 :=
  ⟨lists_1, trivial, launch0.admits_env _ _ _, launch0.least_env, fairChoices_fair.cas, fairChoices_fair.clock, w_frames, w_args, w_heap, w_applies, ⟨w_consts, trivial⟩, w_rest, w_case⟩
end start1
theorem witness_1 : WitnessClaimed_1 := ⟨start1.p0, start1.e0, start1.about1, start1.theMethod, start1.args0, start1.below0, start1.atStart⟩
end Jvm.Pilot.@@N@@
