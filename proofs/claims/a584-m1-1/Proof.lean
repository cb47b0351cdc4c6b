import JvmDerived
import JvmDerived.Pilot.@@N@@Statement
import JvmDerived.Pilot.@@N@@Code
set_option linter.unusedVariables false
set_option linter.unusedSimpArgs false
namespace Jvm.RoadKit
open Sem ClassFile Op Lib Jvm.Stand Jvm.Free Jvm.LawKit
section New
variable {p : Program} {l : Launch} {e : Env} {R : Room} {s : State} {m : MethodId} {args : Array Value} {below : List Frame} {meth : Method} {c : Code} {T : State} {locs : List Loc} {cells slots : Nat}
theorem retI (X : Stand p l e R s m args below meth c T locs cells slots) (hx : p.tables.exec = Jvm.exec) {pc : Nat} {Ls : Array Slot} {z : Int32} {rest : List Value} (hret : meth.sig.returnType = some .int) (hd : decode c.code pc = .ok (.ireturn, 1)) {fs : List Frame}
    (hl : ∀ (f : JFrame) (acts : List Action), f.method = m → f.locked = none → f.entered = [] → (doReturn e (T.setTop f) acts (some (.int z))).1 = T.setFrames fs) : Steps p.tables e below (T.setTop (mkF m pc Ls (.int z :: rest))) (T.setFrames fs) :=
  retOut X hx hret rfl (Or.inl ⟨rfl, Or.inl rfl, z, rfl⟩) hd hl
theorem own_retJ (X : Stand p l e R s m args below meth c T locs cells slots) (hx : p.tables.exec = Jvm.exec) {pc : Nat} {Ls : Array Slot} {z : Int64} {rest : List Value} (hret : meth.sig.returnType = some .long) (hd : decode c.code pc = .ok (.lreturn, 1)) {fs : List Frame}
    (hl : ∀ (f : JFrame) (acts : List Action), f.method = m → f.locked = none → f.entered = [] → (doReturn e (T.setTop f) acts (some (.long z))).1 = T.setFrames fs) : Steps p.tables e below (T.setTop (mkF m pc Ls (.long z :: rest))) (T.setFrames fs) :=
  retOut X hx hret rfl (Or.inr (Or.inl ⟨rfl, rfl, z, rfl⟩)) hd hl
theorem own_retA (X : Stand p l e R s m args below meth c T locs cells slots) (hx : p.tables.exec = Jvm.exec) {pc : Nat} {Ls : Array Slot} {w : Value} {t : FieldType} {rest : List Value} (hret : meth.sig.returnType = some t) (ht : t.isReference = true) (hw : w.isRef = true) (hd : decode c.code pc = .ok (.areturn, 1)) {fs : List Frame}
    (hl : ∀ (f : JFrame) (acts : List Action), f.method = m → f.locked = none → f.entered = [] → (doReturn e (T.setTop f) acts (some w)).1 = T.setFrames fs) : Steps p.tables e below (T.setTop (mkF m pc Ls (w :: rest))) (T.setFrames fs) :=
  retOut X hx hret (by cases t <;> first | rfl | cases ht) (Or.inr (Or.inr (Or.inr (Or.inr ⟨rfl, ht, hw⟩)))) hd hl
end New
end Jvm.RoadKit
namespace Jvm.Pilot.@@N@@
open Jvm Jvm.ClassFile Sem Op Lib Jvm.Free Jvm.Stand Jvm.LawKit Jvm.RoadKit Bundle Jvm.Pilot.@@N@@.Jvm.D
abbrev own_Go (tb : Tables) (e : Env) (below : List Frame) (S0 S1 : State) : Prop := ∀ t, Steps tb e below S1 t → Steps tb e below S0 t
theorem own_eqI {args : Array Value} {s : State} {t : Term} {k : Int32} (h : (Jvm.Cond.eq t (.int k)).value args s none s [] = some true) : t.eval args s none [] s = some (.int k) := by
  obtain ⟨x, y, e1, e2, -, -⟩ := cmp_v (Or.inl h)
  obtain rfl : y = .int k := (Option.some.inj e2).symm
  cases x <;> simp [Cond.value, e1, Term.eval] at h <;> simp_all
theorem own_eqL {args : Array Value} {s : State} {t : Term} {k : Int64} (h : (Jvm.Cond.eq t (.long k)).value args s none s [] = some true) : t.eval args s none [] s = some (.long k) := by
  obtain ⟨x, y, e1, e2, -, -⟩ := cmp_v (Or.inl h)
  obtain rfl : y = .long k := (Option.some.inj e2).symm
  cases x <;> simp [Cond.value, e1, Term.eval] at h <;> simp_all
theorem own_nar0 : nar .boolean (0 : Int32) = 0 := by decide
theorem own_nar1 : nar .boolean (1 : Int32) = 1 := by decide
theorem own_nar_ite {P : Prop} [Decidable P] {a b : Int32} (ha : nar .boolean a = a) (hb : nar .boolean b = b) : nar .boolean (if P then a else b) = if P then a else b := by split <;> assumption
theorem own_fld {args : Array Value} {s : State} {t : Term} {a : Addr} {C n d : String} {v : Value} (ht : t.eval args s none [] s = some (.ref a)) (h : (Term.field t C n d).eval args s none [] s = some v) : Fld s s.heap a C n d v :=
  Fld.start (by rw [← fld_at (args := args) (first := s) (o := none) (idx := []) ht]; exact h)


def own_pick (k : Int32) (a0 a1 a2 a3 a4 a5 a6 : Addr) : Addr := if k = 0 then a0 else if k = 1 then a1 else if k = 2 then a2 else if k = 3 then a3 else if k = 4 then a4 else if k = 5 then a5 else a6
theorem own_pickE {P : Addr → Prop} {k : Int32} {a0 a1 a2 a3 a4 a5 a6 : Addr} (h0 : P a0) (h1 : P a1) (h2 : P a2) (h3 : P a3) (h4 : P a4) (h5 : P a5) (h6 : P a6) : P (own_pick k a0 a1 a2 a3 a4 a5 a6) := by
  unfold own_pick
  repeat' split
  all_goals assumption
theorem own_seven {k : Int32} (h : 0 ≤ k.toInt ∧ k.toInt < 7) : k = 0 ∨ k = 1 ∨ k = 2 ∨ k = 3 ∨ k = 4 ∨ k = 5 ∨ k = 6 := by
  have e0 : (0 : Int32).toInt = 0 := by decide
  have e1 : (1 : Int32).toInt = 1 := by decide
  have e2 : (2 : Int32).toInt = 2 := by decide
  have e3 : (3 : Int32).toInt = 3 := by decide
  have e4 : (4 : Int32).toInt = 4 := by decide
  have e5 : (5 : Int32).toInt = 5 := by decide
  have e6 : (6 : Int32).toInt = 6 := by decide
  simp only [← Int32.toInt_inj, e0, e1, e2, e3, e4, e5, e6]
  omega
theorem own_pickF {F : Addr → Int32 → Prop} {k : Int32} {a0 a1 a2 a3 a4 a5 a6 : Addr} (hk : 0 ≤ k.toInt ∧ k.toInt < 7) (h0 : F a0 0) (h1 : F a1 1) (h2 : F a2 2) (h3 : F a3 3) (h4 : F a4 4) (h5 : F a5 5) (h6 : F a6 6) : F (own_pick k a0 a1 a2 a3 a4 a5 a6) k := by
  rcases own_seven hk with rfl | rfl | rfl | rfl | rfl | rfl | rfl <;> assumption
theorem own_k7 (p : Int32) : 0 ≤ ((p &&& (2147483647 : Int32)) % (7 : Int32)).toInt ∧ ((p &&& (2147483647 : Int32)) % (7 : Int32)).toInt < 7 := by
  have h1 := c_and p 2147483647 (by decide)
  have h2 := (c_irem (p &&& (2147483647 : Int32)) 7 7 (by decide)).1 h1.1
  rw [h2]; omega
def own_men (q : Int64) (k : Int32) : Int32 := if ((q.toUInt64 >>> (k &&& 0x3f).toInt64.toUInt64).toInt64 &&& (1 : Int64)) = (0 : Int64) then (0 : Int32) else (1 : Int32)

theorem own_b64 (q : Int64) (n : Nat) (m : Int64) (hm : m.toBitVec = BitVec.twoPow 64 n) : (q &&& m) = 0 ↔ q.toBitVec.getLsbD n = false := by
  rw [← Int64.toBitVec_inj, Int64.toBitVec_and, hm, BitVec.and_twoPow]
  by_cases h : q.toBitVec.getLsbD n = true
  · have hn : n < 64 := by
      apply Classical.byContradiction; intro c
      rw [BitVec.getLsbD_of_ge _ _ (by omega)] at h; cases h
    simp only [h, if_true]
    constructor
    · intro e
      have := congrArg (fun z : BitVec 64 => z.getLsbD n) e
      simp [BitVec.getLsbD_twoPow, hn] at this
    · intro e; cases e
  · simp only [Bool.not_eq_true] at h
    simp [h]
theorem own_men_bit (q : Int64) (k : Int32) (n : Nat) (hn : n < 64) (hk : (k &&& 0x3f).toInt64.toUInt64 = UInt64.ofNat n) : own_men q k = if q.toBitVec.getLsbD n then 1 else 0 := by
  have e : (((q.toUInt64 >>> (k &&& 0x3f).toInt64.toUInt64).toInt64 &&& (1 : Int64)) = (0 : Int64)) ↔ q.toBitVec.getLsbD n = false := by
    rw [own_b64 _ 0 1 (by decide), hk]
    have : (q.toUInt64 >>> UInt64.ofNat n).toInt64.toBitVec.getLsbD 0 = q.toBitVec.getLsbD n := by
      show (q.toUInt64 >>> UInt64.ofNat n).toBitVec.getLsbD 0 = _
      rw [UInt64.toBitVec_shiftRight]
      simp [BitVec.getLsbD_ushiftRight]
      show q.toBitVec.getLsbD _ = _
      congr 1
      omega
    rw [this]
  unfold own_men
  by_cases h : q.toBitVec.getLsbD n = true
  · rw [if_neg (by rw [e, h]; simp), if_pos h]
  · simp only [Bool.not_eq_true] at h
    rw [if_pos (e.mpr h), if_neg (by rw [h]; simp)]
theorem own_inv64 (q m : Int64) (n : Nat) (hn : n < 64) (hm : m.toBitVec = BitVec.twoPow 64 n) : (q ^^^ m).toBitVec.getLsbD n = !(q.toBitVec.getLsbD n) := by
  rw [Int64.toBitVec_xor, BitVec.getLsbD_xor, hm, BitVec.getLsbD_twoPow]; simp [hn]
def own_ab (k : Int32) : Int64 := if k = 0 then 128 else if k = 1 then 256 else if k = 2 then 512 else if k = 3 then 1024 else if k = 4 then 2048 else if k = 5 then 4096 else 8192
theorem own_a7 {k : Int32} (hk : 0 ≤ k.toInt ∧ k.toInt < 7) : ∃ n, n < 64 ∧ (((7 : Int32) + k) &&& 0x3f).toInt64.toUInt64 = UInt64.ofNat n ∧ (own_ab k).toBitVec = BitVec.twoPow 64 n := by
  rcases own_seven hk with rfl | rfl | rfl | rfl | rfl | rfl | rfl
  · exact ⟨7, by decide, by decide, by decide⟩
  · exact ⟨8, by decide, by decide, by decide⟩
  · exact ⟨9, by decide, by decide, by decide⟩
  · exact ⟨10, by decide, by decide, by decide⟩
  · exact ⟨11, by decide, by decide, by decide⟩
  · exact ⟨12, by decide, by decide, by decide⟩
  · exact ⟨13, by decide, by decide, by decide⟩
theorem own_a_dir (q : Int64) {k : Int32} (hk : 0 ≤ k.toInt ∧ k.toInt < 7) : own_men q ((7 : Int32) + k) = (if (q &&& own_ab k) = (0 : Int64) then (0 : Int32) else (1 : Int32)) := by
  obtain ⟨n, hn, h1, h2⟩ := own_a7 hk
  rw [own_men_bit _ _ n hn h1]
  have e := own_b64 q n _ h2
  by_cases h : q.toBitVec.getLsbD n = true
  · rw [if_pos h, if_neg (by rw [e, h]; simp)]
  · simp only [Bool.not_eq_true] at h
    rw [if_neg (by rw [h]; simp), if_pos (e.mpr h)]
theorem own_a_flip (q : Int64) {k : Int32} (hk : 0 ≤ k.toInt ∧ k.toInt < 7) : own_men (q ^^^ own_ab k) ((7 : Int32) + k) = (if (if (q &&& own_ab k) = (0 : Int64) then (0 : Int32) else (1 : Int32)) = (0 : Int32) then (1 : Int32) else (0 : Int32)) := by
  obtain ⟨n, hn, h1, h2⟩ := own_a7 hk
  rw [own_men_bit _ _ n hn h1, own_inv64 _ _ n hn h2]
  have e := own_b64 q n _ h2
  by_cases h : q.toBitVec.getLsbD n = true
  · have h' : ¬ (q &&& own_ab k) = 0 := by rw [e, h]; simp
    simp [h', h]
  · simp only [Bool.not_eq_true] at h
    simp [e.mpr h, h]
theorem d1_0 : decode method_3_code 0 = .ok (.iload_n 0, 1) := by decide +kernel
theorem d1_1 : decode method_3_code 1 = .ok (.ifCond .ne 7, 3) := by decide +kernel
theorem d1_4 : decode method_3_code 4 = .ok (.getstatic 24, 3) := by decide +kernel
theorem d1_7 : decode method_3_code 7 = .ok (.areturn, 1) := by decide +kernel
theorem d1_8 : decode method_3_code 8 = .ok (.iload_n 0, 1) := by decide +kernel
theorem d1_9 : decode method_3_code 9 = .ok (.iconst 1, 1) := by decide +kernel
theorem d1_10 : decode method_3_code 10 = .ok (.if_icmp .ne 7, 3) := by decide +kernel
theorem d1_13 : decode method_3_code 13 = .ok (.getstatic 30, 3) := by decide +kernel
theorem d1_16 : decode method_3_code 16 = .ok (.areturn, 1) := by decide +kernel
theorem d1_17 : decode method_3_code 17 = .ok (.iload_n 0, 1) := by decide +kernel
theorem d1_18 : decode method_3_code 18 = .ok (.iconst 2, 1) := by decide +kernel
theorem d1_19 : decode method_3_code 19 = .ok (.if_icmp .ne 7, 3) := by decide +kernel
theorem d1_22 : decode method_3_code 22 = .ok (.getstatic 33, 3) := by decide +kernel
theorem d1_25 : decode method_3_code 25 = .ok (.areturn, 1) := by decide +kernel
theorem d1_26 : decode method_3_code 26 = .ok (.iload_n 0, 1) := by decide +kernel
theorem d1_27 : decode method_3_code 27 = .ok (.iconst 3, 1) := by decide +kernel
theorem d1_28 : decode method_3_code 28 = .ok (.if_icmp .ne 7, 3) := by decide +kernel
theorem d1_31 : decode method_3_code 31 = .ok (.getstatic 36, 3) := by decide +kernel
theorem d1_34 : decode method_3_code 34 = .ok (.areturn, 1) := by decide +kernel
theorem d1_35 : decode method_3_code 35 = .ok (.iload_n 0, 1) := by decide +kernel
theorem d1_36 : decode method_3_code 36 = .ok (.iconst 4, 1) := by decide +kernel
theorem d1_37 : decode method_3_code 37 = .ok (.if_icmp .ne 7, 3) := by decide +kernel
theorem d1_40 : decode method_3_code 40 = .ok (.getstatic 39, 3) := by decide +kernel
theorem d1_43 : decode method_3_code 43 = .ok (.areturn, 1) := by decide +kernel
theorem d1_44 : decode method_3_code 44 = .ok (.iload_n 0, 1) := by decide +kernel
theorem d1_45 : decode method_3_code 45 = .ok (.iconst 5, 1) := by decide +kernel
theorem d1_46 : decode method_3_code 46 = .ok (.if_icmp .ne 7, 3) := by decide +kernel
theorem d1_49 : decode method_3_code 49 = .ok (.getstatic 42, 3) := by decide +kernel
theorem d1_52 : decode method_3_code 52 = .ok (.areturn, 1) := by decide +kernel
theorem d1_53 : decode method_3_code 53 = .ok (.getstatic 45, 3) := by decide +kernel
theorem d1_56 : decode method_3_code 56 = .ok (.areturn, 1) := by decide +kernel
theorem pn_1 : plainName "com/example/hyrarchy/hyrarchy/PathGrantsAllowsPinLaw" = true := by first | (simp [plainName, overriddenIn]; done) | decide +kernel
theorem ef_1 (m : MethodId) (p0 : Int32) : entryFrame m #[(.int p0)] 1 = mkF m 0 #[.val (.int p0)] [] := by first | (simp [entryFrame, mkF, argsToLocals, Value.category]; done) | rfl
def Q1 (Z : State) (p0 : Int32) (aC aR aU aD aE aA aL : Addr) (h0 : Heap) (v : Option Value) (h : Heap) (L : List Loc) : Prop := v = some (.ref (own_pick p0 aC aR aU aD aE aA aL)) ∧ L = [] ∧ h = h0
set_option maxRecDepth 65536 in
set_option maxHeartbeats 40000000 in
theorem rm1 (l : Launch) (Z : State) (aw : Array Value) (hw : ∀ d ∈ tables_1, d.before aw Z = true) (ws : List Jvm.Cond) (p0 : Int32) (aC aR aU aD aE aA aL : Addr) (h0 : Heap) (S_aC : Sta Z h0 "com/example/hyrarchy/hyrarchy/Permission" "CREATE" "Lcom/example/hyrarchy/hyrarchy/Permission;" (.ref aC)) (S_aR : Sta Z h0 "com/example/hyrarchy/hyrarchy/Permission" "READ" "Lcom/example/hyrarchy/hyrarchy/Permission;" (.ref aR)) (S_aU : Sta Z h0 "com/example/hyrarchy/hyrarchy/Permission" "UPDATE" "Lcom/example/hyrarchy/hyrarchy/Permission;" (.ref aU)) (S_aD : Sta Z h0 "com/example/hyrarchy/hyrarchy/Permission" "DELETE" "Lcom/example/hyrarchy/hyrarchy/Permission;" (.ref aD)) (S_aE : Sta Z h0 "com/example/hyrarchy/hyrarchy/Permission" "EXECUTE" "Lcom/example/hyrarchy/hyrarchy/Permission;" (.ref aE)) (S_aA : Sta Z h0 "com/example/hyrarchy/hyrarchy/Permission" "ALTER" "Lcom/example/hyrarchy/hyrarchy/Permission;" (.ref aA)) (S_aL : Sta Z h0 "com/example/hyrarchy/hyrarchy/Permission" "LANGUAGE" "Lcom/example/hyrarchy/hyrarchy/Permission;" (.ref aL)) :
    MetFree l (⟨"com/example/hyrarchy/hyrarchy/PathGrantsAllowsPinLaw", "permissionAt", "(I)Lcom/example/hyrarchy/hyrarchy/Permission;"⟩ : MethodName) (head1 (Jvm.Cond.code (⟨"com/example/hyrarchy/hyrarchy/PathGrantsAllowsPinLaw", "permissionAt", "(I)Lcom/example/hyrarchy/hyrarchy/Permission;"⟩ : MethodName) method_3_code 1 (some (.object "com/example/hyrarchy/hyrarchy/Permission")) :: ws) ({ frames := 0, cells := 0, slots := 0, locals := 0 } : Room)) (fun a U => a = #[(.int p0)] ∧ Z.Warmed39 U.vm ∧ U.heap = h0) (fun _ _ _ _ _ => True) (fun _ U o U' => ∃ v L, o = .returned v ∧ Q1 Z p0 aC aR aU aD aE aA aL h0 v U'.heap L ∧ FrameEnd U o U' L ({ frames := 0, cells := 0, slots := 0, locals := 0 } : Room).cells ({ frames := 0, cells := 0, slots := 0, locals := 0 } : Room).slots) := by
  refine MetFree.of_bodySF (plainFor_of_name pn_1) hisR ?_
  intro p e s m args below meth c s₁ Bd hml0 hP hK
  obtain ⟨rfl, hZ, hh⟩ := hP
  have hZ0 := hZ
  have hx := Bd.exec
  have hby := Bd.bytes
  have hml : c.maxLocals = 1 := hml0
  have hown : s.vm.findClass "com/example/hyrarchy/hyrarchy/PathGrantsAllowsPinLaw" = some m.cls := findClass_of_methodNamed Bd.named
  have hnm := (name_of_methodNamed Bd.named Bd.method).1
  have X0 : Stand p l e ({ frames := 0, cells := 0, slots := 0, locals := 0 } : Room) s m #[(.int p0)] below meth c s₁ [] 0 0 := Stand.of_body Bd
  have e0 : s₁.heap = h0 := by rw [← hh, Bd.state]; rfl
  have G0 : own_Go p.tables e below (s₁.setTop (entryFrame m #[(.int p0)] 1)) (s₁.setTop (mkF m 0 #[.val (.int p0)] [])) := fun t k => castTop (ef_1 m p0) k
  have G1 : own_Go p.tables e below (s₁.setTop (entryFrame m #[(.int p0)] 1)) (s₁.setTop (mkF m 1 #[.val (.int p0)] [(.int p0)])) := fun t k => G0 t (XS.iloadN X0.here hx rfl (hb hby d1_0) rfl k)
  by_cases hc2 : p0 = (0 : Int32)
  · have G3 : own_Go p.tables e below (s₁.setTop (entryFrame m #[(.int p0)] 1)) (s₁.setTop (mkF m 4 #[.val (.int p0)] [])) := fun t k => G1 t (XS.ifNo X0.here hx rfl (hb hby d1_1) rfl ((if0 _ _).trans (teq hc2).2) k)
    obtain ⟨T4, X4, e4, st4⟩ := getS2 X0 hx hZ hown (host := "") (Or.inl (hw _ (List.mem_of_getElem? (i := 39) rfl))) Via.refl e0 S_aC (g := (mkF m 4 #[.val (.int p0)] [])) rfl (hb hby d1_4)
    have G4 : own_Go p.tables e below (s₁.setTop (entryFrame m #[(.int p0)] 1)) (T4.setTop (mkF m 7 #[.val (.int p0)] [(.ref aC)])) := fun t k => G3 t (st4 t k)
    obtain ⟨fs, hr, hrun, hended, hW, hsame⟩ := X4.leave (v := some (.ref aC)) (fun h => by rw [Bd.returns] at h; cases h)
    refine ⟨_, _, G4 _ ?_, hrun, hended, _, _, rfl, ?_, ⟨_, rfl⟩, hW, hsame.mono (by decide) (by decide)⟩
    · exact own_retA X4 hx Bd.returns rfl rfl (hb hby d1_7) hr
    · show Q1 Z p0 aC aR aU aD aE aA aL h0 _ T4.heap _
      rw [e4]
      exact ⟨congrArg (fun z => some (Value.ref z)) (by simp [own_pick, hc2]), rfl, rfl⟩
  · have G6 : own_Go p.tables e below (s₁.setTop (entryFrame m #[(.int p0)] 1)) (s₁.setTop (mkF m 8 #[.val (.int p0)] [])) := fun t k => G1 t (XS.ifYes X0.here hx rfl (pc0 := 1) (pc' := 8) rfl (hb hby d1_1) rfl ((if0 _ _).trans (feq hc2).2) (by decide) (by decide) k)
    have G7 : own_Go p.tables e below (s₁.setTop (entryFrame m #[(.int p0)] 1)) (s₁.setTop (mkF m 9 #[.val (.int p0)] [(.int p0)])) := fun t k => G6 t (XS.iloadN X0.here hx rfl (hb hby d1_8) rfl k)
    have G8 : own_Go p.tables e below (s₁.setTop (entryFrame m #[(.int p0)] 1)) (s₁.setTop (mkF m 10 #[.val (.int p0)] [(.int (1 : Int32)), (.int p0)])) := fun t k => G7 t (XT.iconstV X0.here hx rfl (1 : Int32) (hb hby d1_9) (by decide) k)
    by_cases hc9 : p0 = (1 : Int32)
    · have G10 : own_Go p.tables e below (s₁.setTop (entryFrame m #[(.int p0)] 1)) (s₁.setTop (mkF m 13 #[.val (.int p0)] [])) := fun t k => G8 t (XS.icmpNo X0.here hx rfl (hb hby d1_10) rfl (teq hc9).2 k)
      obtain ⟨T11, X11, e11, st11⟩ := getS2 X0 hx hZ hown (host := "") (Or.inl (hw _ (List.mem_of_getElem? (i := 33) rfl))) Via.refl e0 S_aR (g := (mkF m 13 #[.val (.int p0)] [])) rfl (hb hby d1_13)
      have G11 : own_Go p.tables e below (s₁.setTop (entryFrame m #[(.int p0)] 1)) (T11.setTop (mkF m 16 #[.val (.int p0)] [(.ref aR)])) := fun t k => G10 t (st11 t k)
      obtain ⟨fs, hr, hrun, hended, hW, hsame⟩ := X11.leave (v := some (.ref aR)) (fun h => by rw [Bd.returns] at h; cases h)
      refine ⟨_, _, G11 _ ?_, hrun, hended, _, _, rfl, ?_, ⟨_, rfl⟩, hW, hsame.mono (by decide) (by decide)⟩
      · exact own_retA X11 hx Bd.returns rfl rfl (hb hby d1_16) hr
      · show Q1 Z p0 aC aR aU aD aE aA aL h0 _ T11.heap _
        rw [e11]
        exact ⟨congrArg (fun z => some (Value.ref z)) (by simp [own_pick, hc2, hc9]), rfl, rfl⟩
    · have G13 : own_Go p.tables e below (s₁.setTop (entryFrame m #[(.int p0)] 1)) (s₁.setTop (mkF m 17 #[.val (.int p0)] [])) := fun t k => G8 t (XS.icmpYes X0.here hx rfl (pc0 := 10) (pc' := 17) rfl (hb hby d1_10) rfl (feq hc9).2 (by decide) (by decide) k)
      have G14 : own_Go p.tables e below (s₁.setTop (entryFrame m #[(.int p0)] 1)) (s₁.setTop (mkF m 18 #[.val (.int p0)] [(.int p0)])) := fun t k => G13 t (XS.iloadN X0.here hx rfl (hb hby d1_17) rfl k)
      have G15 : own_Go p.tables e below (s₁.setTop (entryFrame m #[(.int p0)] 1)) (s₁.setTop (mkF m 19 #[.val (.int p0)] [(.int (2 : Int32)), (.int p0)])) := fun t k => G14 t (XT.iconstV X0.here hx rfl (2 : Int32) (hb hby d1_18) (by decide) k)
      by_cases hc16 : p0 = (2 : Int32)
      · have G17 : own_Go p.tables e below (s₁.setTop (entryFrame m #[(.int p0)] 1)) (s₁.setTop (mkF m 22 #[.val (.int p0)] [])) := fun t k => G15 t (XS.icmpNo X0.here hx rfl (hb hby d1_19) rfl (teq hc16).2 k)
        obtain ⟨T18, X18, e18, st18⟩ := getS2 X0 hx hZ hown (host := "") (Or.inl (hw _ (List.mem_of_getElem? (i := 5) rfl))) Via.refl e0 S_aU (g := (mkF m 22 #[.val (.int p0)] [])) rfl (hb hby d1_22)
        have G18 : own_Go p.tables e below (s₁.setTop (entryFrame m #[(.int p0)] 1)) (T18.setTop (mkF m 25 #[.val (.int p0)] [(.ref aU)])) := fun t k => G17 t (st18 t k)
        obtain ⟨fs, hr, hrun, hended, hW, hsame⟩ := X18.leave (v := some (.ref aU)) (fun h => by rw [Bd.returns] at h; cases h)
        refine ⟨_, _, G18 _ ?_, hrun, hended, _, _, rfl, ?_, ⟨_, rfl⟩, hW, hsame.mono (by decide) (by decide)⟩
        · exact own_retA X18 hx Bd.returns rfl rfl (hb hby d1_25) hr
        · show Q1 Z p0 aC aR aU aD aE aA aL h0 _ T18.heap _
          rw [e18]
          exact ⟨congrArg (fun z => some (Value.ref z)) (by simp [own_pick, hc2, hc9, hc16]), rfl, rfl⟩
      · have G20 : own_Go p.tables e below (s₁.setTop (entryFrame m #[(.int p0)] 1)) (s₁.setTop (mkF m 26 #[.val (.int p0)] [])) := fun t k => G15 t (XS.icmpYes X0.here hx rfl (pc0 := 19) (pc' := 26) rfl (hb hby d1_19) rfl (feq hc16).2 (by decide) (by decide) k)
        have G21 : own_Go p.tables e below (s₁.setTop (entryFrame m #[(.int p0)] 1)) (s₁.setTop (mkF m 27 #[.val (.int p0)] [(.int p0)])) := fun t k => G20 t (XS.iloadN X0.here hx rfl (hb hby d1_26) rfl k)
        have G22 : own_Go p.tables e below (s₁.setTop (entryFrame m #[(.int p0)] 1)) (s₁.setTop (mkF m 28 #[.val (.int p0)] [(.int (3 : Int32)), (.int p0)])) := fun t k => G21 t (XT.iconstV X0.here hx rfl (3 : Int32) (hb hby d1_27) (by decide) k)
        by_cases hc23 : p0 = (3 : Int32)
        · have G24 : own_Go p.tables e below (s₁.setTop (entryFrame m #[(.int p0)] 1)) (s₁.setTop (mkF m 31 #[.val (.int p0)] [])) := fun t k => G22 t (XS.icmpNo X0.here hx rfl (hb hby d1_28) rfl (teq hc23).2 k)
          obtain ⟨T25, X25, e25, st25⟩ := getS2 X0 hx hZ hown (host := "") (Or.inl (hw _ (List.mem_of_getElem? (i := 30) rfl))) Via.refl e0 S_aD (g := (mkF m 31 #[.val (.int p0)] [])) rfl (hb hby d1_31)
          have G25 : own_Go p.tables e below (s₁.setTop (entryFrame m #[(.int p0)] 1)) (T25.setTop (mkF m 34 #[.val (.int p0)] [(.ref aD)])) := fun t k => G24 t (st25 t k)
          obtain ⟨fs, hr, hrun, hended, hW, hsame⟩ := X25.leave (v := some (.ref aD)) (fun h => by rw [Bd.returns] at h; cases h)
          refine ⟨_, _, G25 _ ?_, hrun, hended, _, _, rfl, ?_, ⟨_, rfl⟩, hW, hsame.mono (by decide) (by decide)⟩
          · exact own_retA X25 hx Bd.returns rfl rfl (hb hby d1_34) hr
          · show Q1 Z p0 aC aR aU aD aE aA aL h0 _ T25.heap _
            rw [e25]
            exact ⟨congrArg (fun z => some (Value.ref z)) (by simp [own_pick, hc2, hc9, hc16, hc23]), rfl, rfl⟩
        · have G27 : own_Go p.tables e below (s₁.setTop (entryFrame m #[(.int p0)] 1)) (s₁.setTop (mkF m 35 #[.val (.int p0)] [])) := fun t k => G22 t (XS.icmpYes X0.here hx rfl (pc0 := 28) (pc' := 35) rfl (hb hby d1_28) rfl (feq hc23).2 (by decide) (by decide) k)
          have G28 : own_Go p.tables e below (s₁.setTop (entryFrame m #[(.int p0)] 1)) (s₁.setTop (mkF m 36 #[.val (.int p0)] [(.int p0)])) := fun t k => G27 t (XS.iloadN X0.here hx rfl (hb hby d1_35) rfl k)
          have G29 : own_Go p.tables e below (s₁.setTop (entryFrame m #[(.int p0)] 1)) (s₁.setTop (mkF m 37 #[.val (.int p0)] [(.int (4 : Int32)), (.int p0)])) := fun t k => G28 t (XT.iconstV X0.here hx rfl (4 : Int32) (hb hby d1_36) (by decide) k)
          by_cases hc30 : p0 = (4 : Int32)
          · have G31 : own_Go p.tables e below (s₁.setTop (entryFrame m #[(.int p0)] 1)) (s₁.setTop (mkF m 40 #[.val (.int p0)] [])) := fun t k => G29 t (XS.icmpNo X0.here hx rfl (hb hby d1_37) rfl (teq hc30).2 k)
            obtain ⟨T32, X32, e32, st32⟩ := getS2 X0 hx hZ hown (host := "") (Or.inl (hw _ (List.mem_of_getElem? (i := 27) rfl))) Via.refl e0 S_aE (g := (mkF m 40 #[.val (.int p0)] [])) rfl (hb hby d1_40)
            have G32 : own_Go p.tables e below (s₁.setTop (entryFrame m #[(.int p0)] 1)) (T32.setTop (mkF m 43 #[.val (.int p0)] [(.ref aE)])) := fun t k => G31 t (st32 t k)
            obtain ⟨fs, hr, hrun, hended, hW, hsame⟩ := X32.leave (v := some (.ref aE)) (fun h => by rw [Bd.returns] at h; cases h)
            refine ⟨_, _, G32 _ ?_, hrun, hended, _, _, rfl, ?_, ⟨_, rfl⟩, hW, hsame.mono (by decide) (by decide)⟩
            · exact own_retA X32 hx Bd.returns rfl rfl (hb hby d1_43) hr
            · show Q1 Z p0 aC aR aU aD aE aA aL h0 _ T32.heap _
              rw [e32]
              exact ⟨congrArg (fun z => some (Value.ref z)) (by simp [own_pick, hc2, hc9, hc16, hc23, hc30]), rfl, rfl⟩
          · have G34 : own_Go p.tables e below (s₁.setTop (entryFrame m #[(.int p0)] 1)) (s₁.setTop (mkF m 44 #[.val (.int p0)] [])) := fun t k => G29 t (XS.icmpYes X0.here hx rfl (pc0 := 37) (pc' := 44) rfl (hb hby d1_37) rfl (feq hc30).2 (by decide) (by decide) k)
            have G35 : own_Go p.tables e below (s₁.setTop (entryFrame m #[(.int p0)] 1)) (s₁.setTop (mkF m 45 #[.val (.int p0)] [(.int p0)])) := fun t k => G34 t (XS.iloadN X0.here hx rfl (hb hby d1_44) rfl k)
            have G36 : own_Go p.tables e below (s₁.setTop (entryFrame m #[(.int p0)] 1)) (s₁.setTop (mkF m 46 #[.val (.int p0)] [(.int (5 : Int32)), (.int p0)])) := fun t k => G35 t (XT.iconstV X0.here hx rfl (5 : Int32) (hb hby d1_45) (by decide) k)
            by_cases hc37 : p0 = (5 : Int32)
            · have G38 : own_Go p.tables e below (s₁.setTop (entryFrame m #[(.int p0)] 1)) (s₁.setTop (mkF m 49 #[.val (.int p0)] [])) := fun t k => G36 t (XS.icmpNo X0.here hx rfl (hb hby d1_46) rfl (teq hc37).2 k)
              obtain ⟨T39, X39, e39, st39⟩ := getS2 X0 hx hZ hown (host := "") (Or.inl (hw _ (List.mem_of_getElem? (i := 36) rfl))) Via.refl e0 S_aA (g := (mkF m 49 #[.val (.int p0)] [])) rfl (hb hby d1_49)
              have G39 : own_Go p.tables e below (s₁.setTop (entryFrame m #[(.int p0)] 1)) (T39.setTop (mkF m 52 #[.val (.int p0)] [(.ref aA)])) := fun t k => G38 t (st39 t k)
              obtain ⟨fs, hr, hrun, hended, hW, hsame⟩ := X39.leave (v := some (.ref aA)) (fun h => by rw [Bd.returns] at h; cases h)
              refine ⟨_, _, G39 _ ?_, hrun, hended, _, _, rfl, ?_, ⟨_, rfl⟩, hW, hsame.mono (by decide) (by decide)⟩
              · exact own_retA X39 hx Bd.returns rfl rfl (hb hby d1_52) hr
              · show Q1 Z p0 aC aR aU aD aE aA aL h0 _ T39.heap _
                rw [e39]
                exact ⟨congrArg (fun z => some (Value.ref z)) (by simp [own_pick, hc2, hc9, hc16, hc23, hc30, hc37]), rfl, rfl⟩
            · have G41 : own_Go p.tables e below (s₁.setTop (entryFrame m #[(.int p0)] 1)) (s₁.setTop (mkF m 53 #[.val (.int p0)] [])) := fun t k => G36 t (XS.icmpYes X0.here hx rfl (pc0 := 46) (pc' := 53) rfl (hb hby d1_46) rfl (feq hc37).2 (by decide) (by decide) k)
              obtain ⟨T42, X42, e42, st42⟩ := getS2 X0 hx hZ hown (host := "") (Or.inl (hw _ (List.mem_of_getElem? (i := 42) rfl))) Via.refl e0 S_aL (g := (mkF m 53 #[.val (.int p0)] [])) rfl (hb hby d1_53)
              have G42 : own_Go p.tables e below (s₁.setTop (entryFrame m #[(.int p0)] 1)) (T42.setTop (mkF m 56 #[.val (.int p0)] [(.ref aL)])) := fun t k => G41 t (st42 t k)
              obtain ⟨fs, hr, hrun, hended, hW, hsame⟩ := X42.leave (v := some (.ref aL)) (fun h => by rw [Bd.returns] at h; cases h)
              refine ⟨_, _, G42 _ ?_, hrun, hended, _, _, rfl, ?_, ⟨_, rfl⟩, hW, hsame.mono (by decide) (by decide)⟩
              · exact own_retA X42 hx Bd.returns rfl rfl (hb hby d1_56) hr
              · show Q1 Z p0 aC aR aU aD aE aA aL h0 _ T42.heap _
                rw [e42]
                exact ⟨congrArg (fun z => some (Value.ref z)) (by simp [own_pick, hc2, hc9, hc16, hc23, hc30, hc37]), rfl, rfl⟩
theorem d2_0 : decode method_4_code 0 = .ok (.iload_n 0, 1) := by decide +kernel
theorem d2_1 : decode method_4_code 1 = .ok (.ifCond .ne 7, 3) := by decide +kernel
theorem d2_4 : decode method_4_code 4 = .ok (.ldc2_w 48, 3) := by decide +kernel
theorem d2_7 : decode method_4_code 7 = .ok (.lreturn, 1) := by decide +kernel
theorem d2_8 : decode method_4_code 8 = .ok (.iload_n 0, 1) := by decide +kernel
theorem d2_9 : decode method_4_code 9 = .ok (.iconst 1, 1) := by decide +kernel
theorem d2_10 : decode method_4_code 10 = .ok (.if_icmp .ne 7, 3) := by decide +kernel
theorem d2_13 : decode method_4_code 13 = .ok (.ldc2_w 50, 3) := by decide +kernel
theorem d2_16 : decode method_4_code 16 = .ok (.lreturn, 1) := by decide +kernel
theorem d2_17 : decode method_4_code 17 = .ok (.iload_n 0, 1) := by decide +kernel
theorem d2_18 : decode method_4_code 18 = .ok (.iconst 2, 1) := by decide +kernel
theorem d2_19 : decode method_4_code 19 = .ok (.if_icmp .ne 7, 3) := by decide +kernel
theorem d2_22 : decode method_4_code 22 = .ok (.ldc2_w 52, 3) := by decide +kernel
theorem d2_25 : decode method_4_code 25 = .ok (.lreturn, 1) := by decide +kernel
theorem d2_26 : decode method_4_code 26 = .ok (.iload_n 0, 1) := by decide +kernel
theorem d2_27 : decode method_4_code 27 = .ok (.iconst 3, 1) := by decide +kernel
theorem d2_28 : decode method_4_code 28 = .ok (.if_icmp .ne 7, 3) := by decide +kernel
theorem d2_31 : decode method_4_code 31 = .ok (.ldc2_w 54, 3) := by decide +kernel
theorem d2_34 : decode method_4_code 34 = .ok (.lreturn, 1) := by decide +kernel
theorem d2_35 : decode method_4_code 35 = .ok (.iload_n 0, 1) := by decide +kernel
theorem d2_36 : decode method_4_code 36 = .ok (.iconst 4, 1) := by decide +kernel
theorem d2_37 : decode method_4_code 37 = .ok (.if_icmp .ne 7, 3) := by decide +kernel
theorem d2_40 : decode method_4_code 40 = .ok (.ldc2_w 56, 3) := by decide +kernel
theorem d2_43 : decode method_4_code 43 = .ok (.lreturn, 1) := by decide +kernel
theorem d2_44 : decode method_4_code 44 = .ok (.iload_n 0, 1) := by decide +kernel
theorem d2_45 : decode method_4_code 45 = .ok (.iconst 5, 1) := by decide +kernel
theorem d2_46 : decode method_4_code 46 = .ok (.if_icmp .ne 7, 3) := by decide +kernel
theorem d2_49 : decode method_4_code 49 = .ok (.ldc2_w 58, 3) := by decide +kernel
theorem d2_52 : decode method_4_code 52 = .ok (.lreturn, 1) := by decide +kernel
theorem d2_53 : decode method_4_code 53 = .ok (.ldc2_w 60, 3) := by decide +kernel
theorem d2_56 : decode method_4_code 56 = .ok (.lreturn, 1) := by decide +kernel
theorem pn_2 : plainName "com/example/hyrarchy/hyrarchy/PathGrantsAllowsPinLaw" = true := by first | (simp [plainName, overriddenIn]; done) | decide +kernel
theorem ef_2 (m : MethodId) (p0 : Int32) : entryFrame m #[(.int p0)] 1 = mkF m 0 #[.val (.int p0)] [] := by first | (simp [entryFrame, mkF, argsToLocals, Value.category]; done) | rfl
def Q2 (Z : State) (p0 : Int32)  (h0 : Heap) (v : Option Value) (h : Heap) (L : List Loc) : Prop := v = some (.long (own_ab p0)) ∧ L = [] ∧ h = h0
set_option maxRecDepth 65536 in
set_option maxHeartbeats 40000000 in
theorem rm2 (l : Launch) (Z : State) (aw : Array Value) (hw : ∀ d ∈ tables_1, d.before aw Z = true) (ws : List Jvm.Cond) (p0 : Int32)  (h0 : Heap)  :
    MetFree l (⟨"com/example/hyrarchy/hyrarchy/PathGrantsAllowsPinLaw", "allowBit", "(I)J"⟩ : MethodName) (head1 (Jvm.Cond.code (⟨"com/example/hyrarchy/hyrarchy/PathGrantsAllowsPinLaw", "allowBit", "(I)J"⟩ : MethodName) method_4_code 1 (some .long) :: ws) ({ frames := 0, cells := 0, slots := 0, locals := 0 } : Room)) (fun a U => a = #[(.int p0)] ∧ Z.Warmed39 U.vm ∧ U.heap = h0) (fun _ _ _ _ _ => True) (fun _ U o U' => ∃ v L, o = .returned v ∧ Q2 Z p0 h0 v U'.heap L ∧ FrameEnd U o U' L ({ frames := 0, cells := 0, slots := 0, locals := 0 } : Room).cells ({ frames := 0, cells := 0, slots := 0, locals := 0 } : Room).slots) := by
  refine MetFree.of_bodySF (plainFor_of_name pn_2) hisR ?_
  intro p e s m args below meth c s₁ Bd hml0 hP hK
  obtain ⟨rfl, hZ, hh⟩ := hP
  have hZ0 := hZ
  have hx := Bd.exec
  have hby := Bd.bytes
  have hml : c.maxLocals = 1 := hml0
  have hown : s.vm.findClass "com/example/hyrarchy/hyrarchy/PathGrantsAllowsPinLaw" = some m.cls := findClass_of_methodNamed Bd.named
  have hnm := (name_of_methodNamed Bd.named Bd.method).1
  have X0 : Stand p l e ({ frames := 0, cells := 0, slots := 0, locals := 0 } : Room) s m #[(.int p0)] below meth c s₁ [] 0 0 := Stand.of_body Bd
  have e0 : s₁.heap = h0 := by rw [← hh, Bd.state]; rfl
  have G0 : own_Go p.tables e below (s₁.setTop (entryFrame m #[(.int p0)] 1)) (s₁.setTop (mkF m 0 #[.val (.int p0)] [])) := fun t k => castTop (ef_2 m p0) k
  have G1 : own_Go p.tables e below (s₁.setTop (entryFrame m #[(.int p0)] 1)) (s₁.setTop (mkF m 1 #[.val (.int p0)] [(.int p0)])) := fun t k => G0 t (XS.iloadN X0.here hx rfl (hb hby d2_0) rfl k)
  by_cases hc2 : p0 = (0 : Int32)
  · have G3 : own_Go p.tables e below (s₁.setTop (entryFrame m #[(.int p0)] 1)) (s₁.setTop (mkF m 4 #[.val (.int p0)] [])) := fun t k => G1 t (XS.ifNo X0.here hx rfl (hb hby d2_1) rfl ((if0 _ _).trans (teq hc2).2) k)
    have G4 : own_Go p.tables e below (s₁.setTop (entryFrame m #[(.int p0)] 1)) (s₁.setTop (mkF m 7 #[.val (.int p0)] [(.long (128 : Int64))])) := fun t k => G3 t (X0.ldc2Long hx hown (mvT hZ (hw _ (List.mem_of_getElem? (i := 41) rfl))) (g := (mkF m 4 #[.val (.int p0)] [])) rfl (hb hby d2_4) t k)
    obtain ⟨fs, hr, hrun, hended, hW, hsame⟩ := X0.leave (v := some (.long (128 : Int64))) (fun h => by rw [Bd.returns] at h; cases h)
    refine ⟨_, _, G4 _ ?_, hrun, hended, _, _, rfl, ?_, ⟨_, rfl⟩, hW, hsame.mono (by decide) (by decide)⟩
    · exact own_retJ X0 hx Bd.returns (hb hby d2_7) hr
    · show Q2 Z p0 h0 _ s₁.heap _
      rw [e0]
      exact ⟨congrArg (fun z => some (Value.long z)) (by simp [own_ab, hc2]), rfl, rfl⟩
  · have G6 : own_Go p.tables e below (s₁.setTop (entryFrame m #[(.int p0)] 1)) (s₁.setTop (mkF m 8 #[.val (.int p0)] [])) := fun t k => G1 t (XS.ifYes X0.here hx rfl (pc0 := 1) (pc' := 8) rfl (hb hby d2_1) rfl ((if0 _ _).trans (feq hc2).2) (by decide) (by decide) k)
    have G7 : own_Go p.tables e below (s₁.setTop (entryFrame m #[(.int p0)] 1)) (s₁.setTop (mkF m 9 #[.val (.int p0)] [(.int p0)])) := fun t k => G6 t (XS.iloadN X0.here hx rfl (hb hby d2_8) rfl k)
    have G8 : own_Go p.tables e below (s₁.setTop (entryFrame m #[(.int p0)] 1)) (s₁.setTop (mkF m 10 #[.val (.int p0)] [(.int (1 : Int32)), (.int p0)])) := fun t k => G7 t (XT.iconstV X0.here hx rfl (1 : Int32) (hb hby d2_9) (by decide) k)
    by_cases hc9 : p0 = (1 : Int32)
    · have G10 : own_Go p.tables e below (s₁.setTop (entryFrame m #[(.int p0)] 1)) (s₁.setTop (mkF m 13 #[.val (.int p0)] [])) := fun t k => G8 t (XS.icmpNo X0.here hx rfl (hb hby d2_10) rfl (teq hc9).2 k)
      have G11 : own_Go p.tables e below (s₁.setTop (entryFrame m #[(.int p0)] 1)) (s₁.setTop (mkF m 16 #[.val (.int p0)] [(.long (256 : Int64))])) := fun t k => G10 t (X0.ldc2Long hx hown (mvT hZ (hw _ (List.mem_of_getElem? (i := 35) rfl))) (g := (mkF m 13 #[.val (.int p0)] [])) rfl (hb hby d2_13) t k)
      obtain ⟨fs, hr, hrun, hended, hW, hsame⟩ := X0.leave (v := some (.long (256 : Int64))) (fun h => by rw [Bd.returns] at h; cases h)
      refine ⟨_, _, G11 _ ?_, hrun, hended, _, _, rfl, ?_, ⟨_, rfl⟩, hW, hsame.mono (by decide) (by decide)⟩
      · exact own_retJ X0 hx Bd.returns (hb hby d2_16) hr
      · show Q2 Z p0 h0 _ s₁.heap _
        rw [e0]
        exact ⟨congrArg (fun z => some (Value.long z)) (by simp [own_ab, hc2, hc9]), rfl, rfl⟩
    · have G13 : own_Go p.tables e below (s₁.setTop (entryFrame m #[(.int p0)] 1)) (s₁.setTop (mkF m 17 #[.val (.int p0)] [])) := fun t k => G8 t (XS.icmpYes X0.here hx rfl (pc0 := 10) (pc' := 17) rfl (hb hby d2_10) rfl (feq hc9).2 (by decide) (by decide) k)
      have G14 : own_Go p.tables e below (s₁.setTop (entryFrame m #[(.int p0)] 1)) (s₁.setTop (mkF m 18 #[.val (.int p0)] [(.int p0)])) := fun t k => G13 t (XS.iloadN X0.here hx rfl (hb hby d2_17) rfl k)
      have G15 : own_Go p.tables e below (s₁.setTop (entryFrame m #[(.int p0)] 1)) (s₁.setTop (mkF m 19 #[.val (.int p0)] [(.int (2 : Int32)), (.int p0)])) := fun t k => G14 t (XT.iconstV X0.here hx rfl (2 : Int32) (hb hby d2_18) (by decide) k)
      by_cases hc16 : p0 = (2 : Int32)
      · have G17 : own_Go p.tables e below (s₁.setTop (entryFrame m #[(.int p0)] 1)) (s₁.setTop (mkF m 22 #[.val (.int p0)] [])) := fun t k => G15 t (XS.icmpNo X0.here hx rfl (hb hby d2_19) rfl (teq hc16).2 k)
        have G18 : own_Go p.tables e below (s₁.setTop (entryFrame m #[(.int p0)] 1)) (s₁.setTop (mkF m 25 #[.val (.int p0)] [(.long (512 : Int64))])) := fun t k => G17 t (X0.ldc2Long hx hown (mvT hZ (hw _ (List.mem_of_getElem? (i := 11) rfl))) (g := (mkF m 22 #[.val (.int p0)] [])) rfl (hb hby d2_22) t k)
        obtain ⟨fs, hr, hrun, hended, hW, hsame⟩ := X0.leave (v := some (.long (512 : Int64))) (fun h => by rw [Bd.returns] at h; cases h)
        refine ⟨_, _, G18 _ ?_, hrun, hended, _, _, rfl, ?_, ⟨_, rfl⟩, hW, hsame.mono (by decide) (by decide)⟩
        · exact own_retJ X0 hx Bd.returns (hb hby d2_25) hr
        · show Q2 Z p0 h0 _ s₁.heap _
          rw [e0]
          exact ⟨congrArg (fun z => some (Value.long z)) (by simp [own_ab, hc2, hc9, hc16]), rfl, rfl⟩
      · have G20 : own_Go p.tables e below (s₁.setTop (entryFrame m #[(.int p0)] 1)) (s₁.setTop (mkF m 26 #[.val (.int p0)] [])) := fun t k => G15 t (XS.icmpYes X0.here hx rfl (pc0 := 19) (pc' := 26) rfl (hb hby d2_19) rfl (feq hc16).2 (by decide) (by decide) k)
        have G21 : own_Go p.tables e below (s₁.setTop (entryFrame m #[(.int p0)] 1)) (s₁.setTop (mkF m 27 #[.val (.int p0)] [(.int p0)])) := fun t k => G20 t (XS.iloadN X0.here hx rfl (hb hby d2_26) rfl k)
        have G22 : own_Go p.tables e below (s₁.setTop (entryFrame m #[(.int p0)] 1)) (s₁.setTop (mkF m 28 #[.val (.int p0)] [(.int (3 : Int32)), (.int p0)])) := fun t k => G21 t (XT.iconstV X0.here hx rfl (3 : Int32) (hb hby d2_27) (by decide) k)
        by_cases hc23 : p0 = (3 : Int32)
        · have G24 : own_Go p.tables e below (s₁.setTop (entryFrame m #[(.int p0)] 1)) (s₁.setTop (mkF m 31 #[.val (.int p0)] [])) := fun t k => G22 t (XS.icmpNo X0.here hx rfl (hb hby d2_28) rfl (teq hc23).2 k)
          have G25 : own_Go p.tables e below (s₁.setTop (entryFrame m #[(.int p0)] 1)) (s₁.setTop (mkF m 34 #[.val (.int p0)] [(.long (1024 : Int64))])) := fun t k => G24 t (X0.ldc2Long hx hown (mvT hZ (hw _ (List.mem_of_getElem? (i := 32) rfl))) (g := (mkF m 31 #[.val (.int p0)] [])) rfl (hb hby d2_31) t k)
          obtain ⟨fs, hr, hrun, hended, hW, hsame⟩ := X0.leave (v := some (.long (1024 : Int64))) (fun h => by rw [Bd.returns] at h; cases h)
          refine ⟨_, _, G25 _ ?_, hrun, hended, _, _, rfl, ?_, ⟨_, rfl⟩, hW, hsame.mono (by decide) (by decide)⟩
          · exact own_retJ X0 hx Bd.returns (hb hby d2_34) hr
          · show Q2 Z p0 h0 _ s₁.heap _
            rw [e0]
            exact ⟨congrArg (fun z => some (Value.long z)) (by simp [own_ab, hc2, hc9, hc16, hc23]), rfl, rfl⟩
        · have G27 : own_Go p.tables e below (s₁.setTop (entryFrame m #[(.int p0)] 1)) (s₁.setTop (mkF m 35 #[.val (.int p0)] [])) := fun t k => G22 t (XS.icmpYes X0.here hx rfl (pc0 := 28) (pc' := 35) rfl (hb hby d2_28) rfl (feq hc23).2 (by decide) (by decide) k)
          have G28 : own_Go p.tables e below (s₁.setTop (entryFrame m #[(.int p0)] 1)) (s₁.setTop (mkF m 36 #[.val (.int p0)] [(.int p0)])) := fun t k => G27 t (XS.iloadN X0.here hx rfl (hb hby d2_35) rfl k)
          have G29 : own_Go p.tables e below (s₁.setTop (entryFrame m #[(.int p0)] 1)) (s₁.setTop (mkF m 37 #[.val (.int p0)] [(.int (4 : Int32)), (.int p0)])) := fun t k => G28 t (XT.iconstV X0.here hx rfl (4 : Int32) (hb hby d2_36) (by decide) k)
          by_cases hc30 : p0 = (4 : Int32)
          · have G31 : own_Go p.tables e below (s₁.setTop (entryFrame m #[(.int p0)] 1)) (s₁.setTop (mkF m 40 #[.val (.int p0)] [])) := fun t k => G29 t (XS.icmpNo X0.here hx rfl (hb hby d2_37) rfl (teq hc30).2 k)
            have G32 : own_Go p.tables e below (s₁.setTop (entryFrame m #[(.int p0)] 1)) (s₁.setTop (mkF m 43 #[.val (.int p0)] [(.long (2048 : Int64))])) := fun t k => G31 t (X0.ldc2Long hx hown (mvT hZ (hw _ (List.mem_of_getElem? (i := 29) rfl))) (g := (mkF m 40 #[.val (.int p0)] [])) rfl (hb hby d2_40) t k)
            obtain ⟨fs, hr, hrun, hended, hW, hsame⟩ := X0.leave (v := some (.long (2048 : Int64))) (fun h => by rw [Bd.returns] at h; cases h)
            refine ⟨_, _, G32 _ ?_, hrun, hended, _, _, rfl, ?_, ⟨_, rfl⟩, hW, hsame.mono (by decide) (by decide)⟩
            · exact own_retJ X0 hx Bd.returns (hb hby d2_43) hr
            · show Q2 Z p0 h0 _ s₁.heap _
              rw [e0]
              exact ⟨congrArg (fun z => some (Value.long z)) (by simp [own_ab, hc2, hc9, hc16, hc23, hc30]), rfl, rfl⟩
          · have G34 : own_Go p.tables e below (s₁.setTop (entryFrame m #[(.int p0)] 1)) (s₁.setTop (mkF m 44 #[.val (.int p0)] [])) := fun t k => G29 t (XS.icmpYes X0.here hx rfl (pc0 := 37) (pc' := 44) rfl (hb hby d2_37) rfl (feq hc30).2 (by decide) (by decide) k)
            have G35 : own_Go p.tables e below (s₁.setTop (entryFrame m #[(.int p0)] 1)) (s₁.setTop (mkF m 45 #[.val (.int p0)] [(.int p0)])) := fun t k => G34 t (XS.iloadN X0.here hx rfl (hb hby d2_44) rfl k)
            have G36 : own_Go p.tables e below (s₁.setTop (entryFrame m #[(.int p0)] 1)) (s₁.setTop (mkF m 46 #[.val (.int p0)] [(.int (5 : Int32)), (.int p0)])) := fun t k => G35 t (XT.iconstV X0.here hx rfl (5 : Int32) (hb hby d2_45) (by decide) k)
            by_cases hc37 : p0 = (5 : Int32)
            · have G38 : own_Go p.tables e below (s₁.setTop (entryFrame m #[(.int p0)] 1)) (s₁.setTop (mkF m 49 #[.val (.int p0)] [])) := fun t k => G36 t (XS.icmpNo X0.here hx rfl (hb hby d2_46) rfl (teq hc37).2 k)
              have G39 : own_Go p.tables e below (s₁.setTop (entryFrame m #[(.int p0)] 1)) (s₁.setTop (mkF m 52 #[.val (.int p0)] [(.long (4096 : Int64))])) := fun t k => G38 t (X0.ldc2Long hx hown (mvT hZ (hw _ (List.mem_of_getElem? (i := 38) rfl))) (g := (mkF m 49 #[.val (.int p0)] [])) rfl (hb hby d2_49) t k)
              obtain ⟨fs, hr, hrun, hended, hW, hsame⟩ := X0.leave (v := some (.long (4096 : Int64))) (fun h => by rw [Bd.returns] at h; cases h)
              refine ⟨_, _, G39 _ ?_, hrun, hended, _, _, rfl, ?_, ⟨_, rfl⟩, hW, hsame.mono (by decide) (by decide)⟩
              · exact own_retJ X0 hx Bd.returns (hb hby d2_52) hr
              · show Q2 Z p0 h0 _ s₁.heap _
                rw [e0]
                exact ⟨congrArg (fun z => some (Value.long z)) (by simp [own_ab, hc2, hc9, hc16, hc23, hc30, hc37]), rfl, rfl⟩
            · have G41 : own_Go p.tables e below (s₁.setTop (entryFrame m #[(.int p0)] 1)) (s₁.setTop (mkF m 53 #[.val (.int p0)] [])) := fun t k => G36 t (XS.icmpYes X0.here hx rfl (pc0 := 46) (pc' := 53) rfl (hb hby d2_46) rfl (feq hc37).2 (by decide) (by decide) k)
              have G42 : own_Go p.tables e below (s₁.setTop (entryFrame m #[(.int p0)] 1)) (s₁.setTop (mkF m 56 #[.val (.int p0)] [(.long (8192 : Int64))])) := fun t k => G41 t (X0.ldc2Long hx hown (mvT hZ (hw _ (List.mem_of_getElem? (i := 44) rfl))) (g := (mkF m 53 #[.val (.int p0)] [])) rfl (hb hby d2_53) t k)
              obtain ⟨fs, hr, hrun, hended, hW, hsame⟩ := X0.leave (v := some (.long (8192 : Int64))) (fun h => by rw [Bd.returns] at h; cases h)
              refine ⟨_, _, G42 _ ?_, hrun, hended, _, _, rfl, ?_, ⟨_, rfl⟩, hW, hsame.mono (by decide) (by decide)⟩
              · exact own_retJ X0 hx Bd.returns (hb hby d2_56) hr
              · show Q2 Z p0 h0 _ s₁.heap _
                rw [e0]
                exact ⟨congrArg (fun z => some (Value.long z)) (by simp [own_ab, hc2, hc9, hc16, hc23, hc30, hc37]), rfl, rfl⟩
theorem d4_0 : decode jdk_37_method_2_code 0 = .ok (.aload_n 0, 1) := by decide +kernel
theorem d4_1 : decode jdk_37_method_2_code 1 = .ok (.getfield 7, 3) := by decide +kernel
theorem d4_4 : decode jdk_37_method_2_code 4 = .ok (.ireturn, 1) := by decide +kernel
theorem pn_4 : plainName "java/lang/Enum" = true := by first | (simp [plainName, overriddenIn]; done) | decide +kernel
theorem ef_4 (m : MethodId) (a0 : Addr) : entryFrame m #[(.ref a0)] 1 = mkF m 0 #[.val (.ref a0)] [] := by first | (simp [entryFrame, mkF, argsToLocals, Value.category]; done) | rfl
def Q4 (Z : State) (a0 : Addr) (oo : Int32) (h0 : Heap) (v : Option Value) (h : Heap) (L : List Loc) : Prop := v = some (.int oo) ∧ L = [] ∧ h = h0
set_option maxRecDepth 65536 in
set_option maxHeartbeats 40000000 in
theorem rm4 (l : Launch) (Z : State) (aw : Array Value) (hw : ∀ d ∈ tables_1, d.before aw Z = true) (ws : List Jvm.Cond) (a0 : Addr) (oo : Int32) (h0 : Heap) (F_o : Fld Z h0 a0 "java/lang/Enum" "ordinal" "I" (.int oo)) :
    MetFree l (⟨"java/lang/Enum", "ordinal", "()I"⟩ : MethodName) (head1 (Jvm.Cond.code (⟨"java/lang/Enum", "ordinal", "()I"⟩ : MethodName) jdk_37_method_2_code 1 (some .int) :: ws) ({ frames := 0, cells := 0, slots := 0, locals := 0 } : Room)) (fun a U => a = #[(.ref a0)] ∧ Z.Warmed39 U.vm ∧ U.heap = h0) (fun _ _ _ _ _ => True) (fun _ U o U' => ∃ v L, o = .returned v ∧ Q4 Z a0 oo h0 v U'.heap L ∧ FrameEnd U o U' L ({ frames := 0, cells := 0, slots := 0, locals := 0 } : Room).cells ({ frames := 0, cells := 0, slots := 0, locals := 0 } : Room).slots) := by
  refine MetFree.of_bodySF (plainFor_of_name pn_4) hisR ?_
  intro p e s m args below meth c s₁ Bd hml0 hP hK
  obtain ⟨rfl, hZ, hh⟩ := hP
  have hZ0 := hZ
  have hx := Bd.exec
  have hby := Bd.bytes
  have hml : c.maxLocals = 1 := hml0
  have hown : s.vm.findClass "java/lang/Enum" = some m.cls := findClass_of_methodNamed Bd.named
  have hnm := (name_of_methodNamed Bd.named Bd.method).1
  have X0 : Stand p l e ({ frames := 0, cells := 0, slots := 0, locals := 0 } : Room) s m #[(.ref a0)] below meth c s₁ [] 0 0 := Stand.of_body Bd
  have e0 : s₁.heap = h0 := by rw [← hh, Bd.state]; rfl
  have G0 : own_Go p.tables e below (s₁.setTop (entryFrame m #[(.ref a0)] 1)) (s₁.setTop (mkF m 0 #[.val (.ref a0)] [])) := fun t k => castTop (ef_4 m a0) k
  have G1 : own_Go p.tables e below (s₁.setTop (entryFrame m #[(.ref a0)] 1)) (s₁.setTop (mkF m 1 #[.val (.ref a0)] [(.ref a0)])) := fun t k => G0 t (XS.aloadN X0.here hx rfl (hb hby d4_0) rfl rfl k)
  obtain ⟨T2, X2, e2, st2⟩ := getF X0 hx hZ hown (host := "") (Or.inl (hw _ (List.mem_of_getElem? (i := 25) rfl))) Via.refl e0 F_o (g := (mkF m 1 #[.val (.ref a0)] [(.ref a0)])) rfl rfl (hb hby d4_1)
  have G2 : own_Go p.tables e below (s₁.setTop (entryFrame m #[(.ref a0)] 1)) (T2.setTop (mkF m 4 #[.val (.ref a0)] [(.int oo)])) := fun t k => G1 t (st2 t k)
  obtain ⟨fs, hr, hrun, hended, hW, hsame⟩ := X2.leave (v := some (.int oo)) (fun h => by rw [Bd.returns] at h; cases h)
  refine ⟨_, _, G2 _ ?_, hrun, hended, _, _, rfl, ?_, ⟨_, rfl⟩, hW, hsame.mono (by decide) (by decide)⟩
  · exact retI X2 hx Bd.returns (hb hby d4_4) hr
  · show Q4 Z a0 oo h0 _ T2.heap _
    rw [e2]
    exact ⟨rfl, rfl, rfl⟩
theorem d3_0 : decode prog_7_method_9_code 0 = .ok (.lload_n 0, 1) := by decide +kernel
theorem d3_1 : decode prog_7_method_9_code 1 = .ok (.getstatic 64, 3) := by decide +kernel
theorem d3_4 : decode prog_7_method_9_code 4 = .ok (.aload_n 2, 1) := by decide +kernel
theorem d3_5 : decode prog_7_method_9_code 5 = .ok (.invokevirtual 63, 3) := by decide +kernel
theorem d3_8 : decode prog_7_method_9_code 8 = .ok (.iadd, 1) := by decide +kernel
theorem d3_9 : decode prog_7_method_9_code 9 = .ok (.lushr, 1) := by decide +kernel
theorem d3_10 : decode prog_7_method_9_code 10 = .ok (.lconst 1, 1) := by decide +kernel
theorem d3_11 : decode prog_7_method_9_code 11 = .ok (.land, 1) := by decide +kernel
theorem d3_12 : decode prog_7_method_9_code 12 = .ok (.lconst 0, 1) := by decide +kernel
theorem d3_13 : decode prog_7_method_9_code 13 = .ok (.lcmp, 1) := by decide +kernel
theorem d3_14 : decode prog_7_method_9_code 14 = .ok (.ifCond .eq 7, 3) := by decide +kernel
theorem d3_17 : decode prog_7_method_9_code 17 = .ok (.iconst 1, 1) := by decide +kernel
theorem d3_18 : decode prog_7_method_9_code 18 = .ok (.goto 4, 3) := by decide +kernel
theorem d3_21 : decode prog_7_method_9_code 21 = .ok (.iconst 0, 1) := by decide +kernel
theorem d3_22 : decode prog_7_method_9_code 22 = .ok (.ireturn, 1) := by decide +kernel
theorem pn_3 : plainName "com/example/hyrarchy/hyrarchy/PathGrants" = true := by first | (simp [plainName, overriddenIn]; done) | decide +kernel
theorem pd_3_0 : parseMethodDescriptor "()I" = some ⟨[], some .int⟩ := by decide +kernel
theorem ef_3 (m : MethodId) (q0 : Int64) (a1 : Addr) : entryFrame m #[(.long q0), (.ref a1)] 3 = mkF m 0 #[.val (.long q0), .second, .val (.ref a1)] [] := by first | (simp [entryFrame, mkF, argsToLocals, Value.category]; done) | rfl
def Q3 (Z : State) (q0 : Int64) (a1 : Addr) (oo : Int32) (h0 : Heap) (v : Option Value) (h : Heap) (L : List Loc) : Prop := v = some (.int (own_men q0 ((7 : Int32) + oo))) ∧ L = [] ∧ h = h0
set_option maxRecDepth 65536 in
set_option maxHeartbeats 40000000 in
theorem rm3 (l : Launch) (Z : State) (aw : Array Value) (hw : ∀ d ∈ tables_1, d.before aw Z = true) (ws : List Jvm.Cond) (q0 : Int64) (a1 : Addr) (oo : Int32) (h0 : Heap) (S_7 : Sta Z h0 "com/example/hyrarchy/hyrarchy/PathGrants" "PERMISSIONS" "I" (.int (7 : Int32))) (E_1 : Exa Z h0 a1 "com/example/hyrarchy/hyrarchy/Permission") (F_1 : Fld Z h0 a1 "java/lang/Enum" "ordinal" "I" (.int oo)) :
    MetFree l (⟨"com/example/hyrarchy/hyrarchy/PathGrants", "allows", "(JLcom/example/hyrarchy/hyrarchy/Permission;)Z"⟩ : MethodName) (head1 (Jvm.Cond.code (⟨"com/example/hyrarchy/hyrarchy/PathGrants", "allows", "(JLcom/example/hyrarchy/hyrarchy/Permission;)Z"⟩ : MethodName) prog_7_method_9_code 3 (some .boolean) :: ws) ({ frames := 1, cells := 0, slots := 0, locals := 15 } : Room)) (fun a U => a = #[(.long q0), (.ref a1)] ∧ Z.Warmed39 U.vm ∧ U.heap = h0) (fun _ _ _ _ _ => True) (fun _ U o U' => ∃ v L, o = .returned v ∧ Q3 Z q0 a1 oo h0 v U'.heap L ∧ FrameEnd U o U' L ({ frames := 1, cells := 0, slots := 0, locals := 15 } : Room).cells ({ frames := 1, cells := 0, slots := 0, locals := 15 } : Room).slots) := by
  refine MetFree.of_bodySF (plainFor_of_name pn_3) hisR ?_
  intro p e s m args below meth c s₁ Bd hml0 hP hK
  obtain ⟨rfl, hZ, hh⟩ := hP
  have hZ0 := hZ
  have hx := Bd.exec
  have hby := Bd.bytes
  have hml : c.maxLocals = 3 := hml0
  have hown : s.vm.findClass "com/example/hyrarchy/hyrarchy/PathGrants" = some m.cls := findClass_of_methodNamed Bd.named
  have hnm := (name_of_methodNamed Bd.named Bd.method).1
  have X0 : Stand p l e ({ frames := 1, cells := 0, slots := 0, locals := 15 } : Room) s m #[(.long q0), (.ref a1)] below meth c s₁ [] 0 0 := Stand.of_body Bd
  have e0 : s₁.heap = h0 := by rw [← hh, Bd.state]; rfl
  have G0 : own_Go p.tables e below (s₁.setTop (entryFrame m #[(.long q0), (.ref a1)] 3)) (s₁.setTop (mkF m 0 #[.val (.long q0), .second, .val (.ref a1)] [])) := fun t k => castTop (ef_3 m q0 a1) k
  have G1 : own_Go p.tables e below (s₁.setTop (entryFrame m #[(.long q0), (.ref a1)] 3)) (s₁.setTop (mkF m 1 #[.val (.long q0), .second, .val (.ref a1)] [(.long q0)])) := fun t k => G0 t (XS.lloadN X0.here hx rfl (hb hby d3_0) rfl k)
  obtain ⟨T2, X2, e2, st2⟩ := getS2 X0 hx hZ hown (host := "") (Or.inl (hw _ (List.mem_of_getElem? (i := 16) rfl))) Via.refl e0 S_7 (g := (mkF m 1 #[.val (.long q0), .second, .val (.ref a1)] [(.long q0)])) rfl (hb hby d3_1)
  have G2 : own_Go p.tables e below (s₁.setTop (entryFrame m #[(.long q0), (.ref a1)] 3)) (T2.setTop (mkF m 4 #[.val (.long q0), .second, .val (.ref a1)] [(.int (7 : Int32)), (.long q0)])) := fun t k => G1 t (st2 t k)
  have G3 : own_Go p.tables e below (s₁.setTop (entryFrame m #[(.long q0), (.ref a1)] 3)) (T2.setTop (mkF m 5 #[.val (.long q0), .second, .val (.ref a1)] [(.ref a1), (.int (7 : Int32)), (.long q0)])) := fun t k => G2 t (XS.aloadN X2.here hx rfl (hb hby d3_4) rfl rfl k)
  obtain ⟨cq4, kq4, q4a, q4b, q4c⟩ := isOf hZ e2 E_1
  obtain ⟨vv4, _, ⟨T4, L4, k4, n4⟩, -, X4, ⟨Lc4, hQ4, l4, y4, z4⟩, st4⟩ := X2.virtualBackUp hx (C := "com/example/hyrarchy/hyrarchy/Permission") (owner := "java/lang/Enum") (x := (⟨"com/example/hyrarchy/hyrarchy/Permission", "ordinal", "()I"⟩ : MethodName)) (y := (⟨"java/lang/Enum", "ordinal", "()I"⟩ : MethodName)) hown (mvT hZ (hw _ (List.mem_of_getElem? (i := 18) rfl))) (mvT hZ (hw _ (List.mem_of_getElem? (i := 19) rfl))) (mvT hZ (hw _ (List.mem_of_getElem? (i := 20) rfl))) (by decide) (mvT hZ (hw _ (List.mem_of_getElem? (i := 22) rfl))) (mvT hZ (hw _ (List.mem_of_getElem? (i := 21) rfl))) (backOf (W := 3) (rm4 l Z aw hw [] a1 oo h0 F_1) hZ (hw _ (List.mem_of_getElem? (i := 24) rfl)) (hw _ (List.mem_of_getElem? (i := 23) rfl)) (by decide) (by decide)) q4a q4c (g := (mkF m 5 #[.val (.long q0), .second, .val (.ref a1)] [(.ref a1), (.int (7 : Int32)), (.long q0)])) rfl (by rw [hml]; rfl) (Steps.refl _) (argsL := []) (rest := [(.int (7 : Int32)), (.long q0)]) (lenOf pd_3_0 rfl) rfl (by show 2 * 0 + _ ≤ _; exact Nat.le_of_eq rfl) (hb hby d3_5) (fun _ _ => ⟨rfl, e2, (by decide : 0 + 0 ≤ _), (by decide : 0 + 0 ≤ _)⟩)
  dsimp only [Pt.U, Pt.locs, Pt.cells, Pt.slots] at X4 l4 y4 z4 st4 hQ4
  subst l4 y4 z4
  obtain ⟨rfl, rfl, e4⟩ := hQ4
  have Y4 : Stand p l e ({ frames := 1, cells := 0, slots := 0, locals := 15 } : Room) s m #[(.long q0), (.ref a1)] below meth c T4 [] 0 0 := X4
  have G4 : own_Go p.tables e below (s₁.setTop (entryFrame m #[(.long q0), (.ref a1)] 3)) (T4.setTop (mkF m 8 #[.val (.long q0), .second, .val (.ref a1)] [(.int oo), (.int (7 : Int32)), (.long q0)])) := fun t k => G3 t (st4.trans k)
  have G5 : own_Go p.tables e below (s₁.setTop (entryFrame m #[(.long q0), (.ref a1)] 3)) (T4.setTop (mkF m 9 #[.val (.long q0), .second, .val (.ref a1)] [(.int ((7 : Int32) + oo)), (.long q0)])) := fun t k => G4 t (XS.iadd Y4.here hx rfl (hb hby d3_8) rfl k)
  have G6 : own_Go p.tables e below (s₁.setTop (entryFrame m #[(.long q0), (.ref a1)] 3)) (T4.setTop (mkF m 10 #[.val (.long q0), .second, .val (.ref a1)] [(.long ((q0.toUInt64 >>> (((7 : Int32) + oo) &&& 0x3f).toInt64.toUInt64).toInt64))])) := fun t k => G5 t (XS.lushr Y4.here hx rfl (hb hby d3_9) rfl k)
  have G7 : own_Go p.tables e below (s₁.setTop (entryFrame m #[(.long q0), (.ref a1)] 3)) (T4.setTop (mkF m 11 #[.val (.long q0), .second, .val (.ref a1)] [(.long (1 : Int64)), (.long ((q0.toUInt64 >>> (((7 : Int32) + oo) &&& 0x3f).toInt64.toUInt64).toInt64))])) := fun t k => G6 t (XT.lconstV Y4.here hx rfl (1 : Int64) (hb hby d3_10) (by decide) k)
  have G8 : own_Go p.tables e below (s₁.setTop (entryFrame m #[(.long q0), (.ref a1)] 3)) (T4.setTop (mkF m 12 #[.val (.long q0), .second, .val (.ref a1)] [(.long (((q0.toUInt64 >>> (((7 : Int32) + oo) &&& 0x3f).toInt64.toUInt64).toInt64) &&& (1 : Int64)))])) := fun t k => G7 t (XS.land Y4.here hx rfl (hb hby d3_11) rfl k)
  have G9 : own_Go p.tables e below (s₁.setTop (entryFrame m #[(.long q0), (.ref a1)] 3)) (T4.setTop (mkF m 13 #[.val (.long q0), .second, .val (.ref a1)] [(.long (0 : Int64)), (.long (((q0.toUInt64 >>> (((7 : Int32) + oo) &&& 0x3f).toInt64.toUInt64).toInt64) &&& (1 : Int64)))])) := fun t k => G8 t (XT.lconstV Y4.here hx rfl (0 : Int64) (hb hby d3_12) (by decide) k)
  have G10 : own_Go p.tables e below (s₁.setTop (entryFrame m #[(.long q0), (.ref a1)] 3)) (T4.setTop (mkF m 14 #[.val (.long q0), .second, .val (.ref a1)] [(.int (lcmpW (((q0.toUInt64 >>> (((7 : Int32) + oo) &&& 0x3f).toInt64.toUInt64).toInt64) &&& (1 : Int64)) (0 : Int64)))])) := fun t k => G9 t (XS.lcmp Y4.here hx rfl (hb hby d3_13) rfl k)
  obtain ⟨z11_0, hz11_0, G11⟩ : ∃ (z11_0 : Int32), z11_0 = (if (((q0.toUInt64 >>> (((7 : Int32) + oo) &&& 0x3f).toInt64.toUInt64).toInt64) &&& (1 : Int64)) = (0 : Int64) then (0 : Int32) else (1 : Int32)) ∧ own_Go p.tables e below (s₁.setTop (entryFrame m #[(.long q0), (.ref a1)] 3)) (T4.setTop (mkF m 22 #[.val (.long q0), .second, .val (.ref a1)] [(.int z11_0)])) := by
    by_cases hc11 : (((q0.toUInt64 >>> (((7 : Int32) + oo) &&& 0x3f).toInt64.toUInt64).toInt64) &&& (1 : Int64)) = (0 : Int64)
    · have G12 : own_Go p.tables e below (s₁.setTop (entryFrame m #[(.long q0), (.ref a1)] 3)) (T4.setTop (mkF m 21 #[.val (.long q0), .second, .val (.ref a1)] [])) := fun t k => G10 t (XS.ifYes Y4.here hx rfl (pc0 := 14) (pc' := 21) rfl (hb hby d3_14) rfl ((if0 _ _).trans (teq (((lw_eq _ _).mpr hc11) : (lcmpW (((q0.toUInt64 >>> (((7 : Int32) + oo) &&& 0x3f).toInt64.toUInt64).toInt64) &&& (1 : Int64)) (0 : Int64)) = (0 : Int32))).1) (by decide) (by decide) k)
      have G13 : own_Go p.tables e below (s₁.setTop (entryFrame m #[(.long q0), (.ref a1)] 3)) (T4.setTop (mkF m 22 #[.val (.long q0), .second, .val (.ref a1)] [(.int (0 : Int32))])) := fun t k => G12 t (XT.iconstV Y4.here hx rfl (0 : Int32) (hb hby d3_21) (by decide) k)
      exact ⟨_, (if_pos hc11).symm, G13⟩
    · have G14 : own_Go p.tables e below (s₁.setTop (entryFrame m #[(.long q0), (.ref a1)] 3)) (T4.setTop (mkF m 17 #[.val (.long q0), .second, .val (.ref a1)] [])) := fun t k => G10 t (XS.ifNo Y4.here hx rfl (hb hby d3_14) rfl ((if0 _ _).trans (feq ((fun q => hc11 ((lw_eq _ _).mp q)) : ¬ ((lcmpW (((q0.toUInt64 >>> (((7 : Int32) + oo) &&& 0x3f).toInt64.toUInt64).toInt64) &&& (1 : Int64)) (0 : Int64)) = (0 : Int32)))).1) k)
      have G15 : own_Go p.tables e below (s₁.setTop (entryFrame m #[(.long q0), (.ref a1)] 3)) (T4.setTop (mkF m 18 #[.val (.long q0), .second, .val (.ref a1)] [(.int (1 : Int32))])) := fun t k => G14 t (XT.iconstV Y4.here hx rfl (1 : Int32) (hb hby d3_17) (by decide) k)
      have G16 : own_Go p.tables e below (s₁.setTop (entryFrame m #[(.long q0), (.ref a1)] 3)) (T4.setTop (mkF m 22 #[.val (.long q0), .second, .val (.ref a1)] [(.int (1 : Int32))])) := fun t k => G15 t (XS.goto Y4.here hx rfl (pc0 := 18) (pc' := 22) rfl (hb hby d3_18) (by decide) (by decide) k)
      exact ⟨_, (if_neg hc11).symm, G16⟩
  obtain ⟨fs, hr, hrun, hended, hW, hsame⟩ := Y4.leave (v := some (.int (nar .boolean z11_0))) (fun h => by rw [Bd.returns] at h; cases h)
  refine ⟨_, _, G11 _ ?_, hrun, hended, _, _, rfl, ?_, ⟨_, rfl⟩, hW, hsame.mono (by decide) (by decide)⟩
  · exact retN Y4 hx (t := .boolean) Bd.returns (by simp) (hb hby d3_22) hr
  · show Q3 Z q0 a1 oo h0 _ T4.heap _
    rw [e4]
    exact ⟨congrArg (fun z => some (Value.int z)) (by rw [hz11_0]; unfold own_men; (repeat (first | exact own_nar0 | exact own_nar1 | apply own_nar_ite))), rfl, rfl⟩
theorem pn_0 : plainName "com/example/hyrarchy/hyrarchy/PathGrantsAllowsPinLaw" = true := by first | (simp [plainName, overriddenIn]; done) | decide +kernel
theorem pd_0_1 : parseMethodDescriptor "(I)Lcom/example/hyrarchy/hyrarchy/Permission;" = some ⟨[.int], some (.object "com/example/hyrarchy/hyrarchy/Permission")⟩ := by decide +kernel
theorem pd_0_2 : parseMethodDescriptor "(I)J" = some ⟨[.int], some .long⟩ := by decide +kernel
theorem pd_0_3 : parseMethodDescriptor "(JLcom/example/hyrarchy/hyrarchy/Permission;)Z" = some ⟨[.long, (.object "com/example/hyrarchy/hyrarchy/Permission")], some .boolean⟩ := by decide +kernel
theorem ef_0 (m : MethodId) (q0 : Int64) (p1 : Int32) : entryFrame m #[(.long q0), (.int p1)] maxLocals = mkF m 0 #[.val (.long q0), .second, .val (.int p1), .unset, .unset, .unset, .unset, .unset, .unset, .unset] [] := by first | (simp [entryFrame, mkF, argsToLocals, Value.category, maxLocals]; done) | rfl
def Q0 (Z : State) (q0 : Int64) (p1 : Int32) (aC aR aU aD aE aA aL : Addr) (h0 : Heap) (v : Option Value) (h : Heap) (L : List Loc) : Prop := v = some (.int 1) ∧ L = [] ∧ h = h0
set_option maxRecDepth 65536 in
set_option maxHeartbeats 40000000 in
theorem rm0 (l : Launch) (Z : State) (aw : Array Value) (hw : ∀ d ∈ tables_1, d.before aw Z = true) (ws : List Jvm.Cond) (q0 : Int64) (p1 : Int32) (aC aR aU aD aE aA aL : Addr) (h0 : Heap) (S_7 : Sta Z h0 "com/example/hyrarchy/hyrarchy/PathGrants" "PERMISSIONS" "I" (.int (7 : Int32))) (S_aC : Sta Z h0 "com/example/hyrarchy/hyrarchy/Permission" "CREATE" "Lcom/example/hyrarchy/hyrarchy/Permission;" (.ref aC)) (E_aC : Exa Z h0 aC "com/example/hyrarchy/hyrarchy/Permission") (F_aC : Fld Z h0 aC "java/lang/Enum" "ordinal" "I" (.int (0 : Int32))) (S_aR : Sta Z h0 "com/example/hyrarchy/hyrarchy/Permission" "READ" "Lcom/example/hyrarchy/hyrarchy/Permission;" (.ref aR)) (E_aR : Exa Z h0 aR "com/example/hyrarchy/hyrarchy/Permission") (F_aR : Fld Z h0 aR "java/lang/Enum" "ordinal" "I" (.int (1 : Int32))) (S_aU : Sta Z h0 "com/example/hyrarchy/hyrarchy/Permission" "UPDATE" "Lcom/example/hyrarchy/hyrarchy/Permission;" (.ref aU)) (E_aU : Exa Z h0 aU "com/example/hyrarchy/hyrarchy/Permission") (F_aU : Fld Z h0 aU "java/lang/Enum" "ordinal" "I" (.int (2 : Int32))) (S_aD : Sta Z h0 "com/example/hyrarchy/hyrarchy/Permission" "DELETE" "Lcom/example/hyrarchy/hyrarchy/Permission;" (.ref aD)) (E_aD : Exa Z h0 aD "com/example/hyrarchy/hyrarchy/Permission") (F_aD : Fld Z h0 aD "java/lang/Enum" "ordinal" "I" (.int (3 : Int32))) (S_aE : Sta Z h0 "com/example/hyrarchy/hyrarchy/Permission" "EXECUTE" "Lcom/example/hyrarchy/hyrarchy/Permission;" (.ref aE)) (E_aE : Exa Z h0 aE "com/example/hyrarchy/hyrarchy/Permission") (F_aE : Fld Z h0 aE "java/lang/Enum" "ordinal" "I" (.int (4 : Int32))) (S_aA : Sta Z h0 "com/example/hyrarchy/hyrarchy/Permission" "ALTER" "Lcom/example/hyrarchy/hyrarchy/Permission;" (.ref aA)) (E_aA : Exa Z h0 aA "com/example/hyrarchy/hyrarchy/Permission") (F_aA : Fld Z h0 aA "java/lang/Enum" "ordinal" "I" (.int (5 : Int32))) (S_aL : Sta Z h0 "com/example/hyrarchy/hyrarchy/Permission" "LANGUAGE" "Lcom/example/hyrarchy/hyrarchy/Permission;" (.ref aL)) (E_aL : Exa Z h0 aL "com/example/hyrarchy/hyrarchy/Permission") (F_aL : Fld Z h0 aL "java/lang/Enum" "ordinal" "I" (.int (6 : Int32))) :
    MetFree l x (head1 (Jvm.Cond.code x code maxLocals ret :: ws) room_1) (fun a U => a = #[(.long q0), (.int p1)] ∧ Z.Warmed39 U.vm ∧ U.heap = h0) (fun _ _ _ _ _ => True) (fun _ U o U' => ∃ v L, o = .returned v ∧ Q0 Z q0 p1 aC aR aU aD aE aA aL h0 v U'.heap L ∧ FrameEnd U o U' L room_1.cells room_1.slots) := by
  refine MetFree.of_bodySF (plainFor_of_name pn_0) hisR ?_
  intro p e s m args below meth c s₁ Bd hml0 hP hK
  obtain ⟨rfl, hZ, hh⟩ := hP
  have hZ0 := hZ
  have hx := Bd.exec
  have hby := Bd.bytes
  have hml : c.maxLocals = 10 := hml0
  have hown : s.vm.findClass "com/example/hyrarchy/hyrarchy/PathGrantsAllowsPinLaw" = some m.cls := findClass_of_methodNamed Bd.named
  have hnm := (name_of_methodNamed Bd.named Bd.method).1
  have X0 : Stand p l e room_1 s m #[(.long q0), (.int p1)] below meth c s₁ [] 0 0 := Stand.of_body Bd
  have e0 : s₁.heap = h0 := by rw [← hh, Bd.state]; rfl
  have G0 : own_Go p.tables e below (s₁.setTop (entryFrame m #[(.long q0), (.int p1)] maxLocals)) (s₁.setTop (mkF m 0 #[.val (.long q0), .second, .val (.int p1), .unset, .unset, .unset, .unset, .unset, .unset, .unset] [])) := fun t k => castTop (ef_0 m q0 p1) k
  have G1 : own_Go p.tables e below (s₁.setTop (entryFrame m #[(.long q0), (.int p1)] maxLocals)) (s₁.setTop (mkF m 1 #[.val (.long q0), .second, .val (.int p1), .unset, .unset, .unset, .unset, .unset, .unset, .unset] [(.int p1)])) := fun t k => G0 t (XS.iloadN X0.here hx rfl (hb hby at_0) rfl k)
  have G2 : own_Go p.tables e below (s₁.setTop (entryFrame m #[(.long q0), (.int p1)] maxLocals)) (s₁.setTop (mkF m 3 #[.val (.long q0), .second, .val (.int p1), .unset, .unset, .unset, .unset, .unset, .unset, .unset] [(.int (2147483647 : Int32)), (.int p1)])) := fun t k => G1 t (X0.ldcInt hx hown (mvT hZ (hw _ (List.mem_of_getElem? (i := 0) rfl))) (g := (mkF m 1 #[.val (.long q0), .second, .val (.int p1), .unset, .unset, .unset, .unset, .unset, .unset, .unset] [(.int p1)])) rfl (hb hby at_1) t k)
  have G3 : own_Go p.tables e below (s₁.setTop (entryFrame m #[(.long q0), (.int p1)] maxLocals)) (s₁.setTop (mkF m 4 #[.val (.long q0), .second, .val (.int p1), .unset, .unset, .unset, .unset, .unset, .unset, .unset] [(.int (p1 &&& (2147483647 : Int32)))])) := fun t k => G2 t (XS.iand X0.here hx rfl (hb hby at_3) rfl k)
  have G4 : own_Go p.tables e below (s₁.setTop (entryFrame m #[(.long q0), (.int p1)] maxLocals)) (s₁.setTop (mkF m 6 #[.val (.long q0), .second, .val (.int p1), .unset, .unset, .unset, .unset, .unset, .unset, .unset] [(.int (7 : Int32)), (.int (p1 &&& (2147483647 : Int32)))])) := fun t k => G3 t (XT.bipushV X0.here hx rfl (7 : Int32) (hb hby at_4) (by decide) k)
  have G5 : own_Go p.tables e below (s₁.setTop (entryFrame m #[(.long q0), (.int p1)] maxLocals)) (s₁.setTop (mkF m 7 #[.val (.long q0), .second, .val (.int p1), .unset, .unset, .unset, .unset, .unset, .unset, .unset] [(.int ((p1 &&& (2147483647 : Int32)) % (7 : Int32)))])) := fun t k => G4 t (iremM X0 hx rfl (hb hby at_6) rfl (by decide) k)
  have G6 : own_Go p.tables e below (s₁.setTop (entryFrame m #[(.long q0), (.int p1)] maxLocals)) (s₁.setTop (mkF m 8 #[.val (.long q0), .second, .val (.int p1), .val (.int ((p1 &&& (2147483647 : Int32)) % (7 : Int32))), .unset, .unset, .unset, .unset, .unset, .unset] [])) := fun t k => G5 t (XS.istoreN X0.here hx rfl (hb hby at_7) rfl (l' := #[.val (.long q0), .second, .val (.int p1), .val (.int ((p1 &&& (2147483647 : Int32)) % (7 : Int32))), .unset, .unset, .unset, .unset, .unset, .unset]) rfl k)
  obtain ⟨z7, hz7, G7⟩ : ∃ z7 : Int32, z7 = ((p1 &&& (2147483647 : Int32)) % (7 : Int32)) ∧ own_Go p.tables e below (s₁.setTop (entryFrame m #[(.long q0), (.int p1)] maxLocals)) (s₁.setTop (mkF m 8 #[.val (.long q0), .second, .val (.int p1), .val (.int z7), .unset, .unset, .unset, .unset, .unset, .unset] [])) := ⟨_, rfl, G6⟩
  have G8 : own_Go p.tables e below (s₁.setTop (entryFrame m #[(.long q0), (.int p1)] maxLocals)) (s₁.setTop (mkF m 9 #[.val (.long q0), .second, .val (.int p1), .val (.int z7), .unset, .unset, .unset, .unset, .unset, .unset] [(.int z7)])) := fun t k => G7 t (XS.iloadN X0.here hx rfl (hb hby at_8) rfl k)
  obtain ⟨vv9, _, ⟨T9, L9, k9, n9⟩, -, X9, ⟨Lc9, hQ9, l9, y9, z9⟩, st9⟩ := Jvm.LawKit.callS X0 hx (y := (⟨"com/example/hyrarchy/hyrarchy/PathGrantsAllowsPinLaw", "permissionAt", "(I)Lcom/example/hyrarchy/hyrarchy/Permission;"⟩ : MethodName)) hown (mvT hZ (hw _ (List.mem_of_getElem? (i := 1) rfl))) (mvT hZ (hw _ (List.mem_of_getElem? (i := 2) rfl))) (mvT hZ (hw _ (List.mem_of_getElem? (i := 3) rfl))) (mvT hZ (hw _ (List.mem_of_getElem? (i := 4) rfl))) (by decide) (backOf (W := 0) (rm1 l Z aw hw [] z7 aC aR aU aD aE aA aL h0 S_aC S_aR S_aU S_aD S_aE S_aA S_aL) hZ (hw _ (List.mem_of_getElem? (i := 4) rfl)) (hw _ (List.mem_of_getElem? (i := 3) rfl)) (by decide) (by decide)) (g := (mkF m 9 #[.val (.long q0), .second, .val (.int p1), .val (.int z7), .unset, .unset, .unset, .unset, .unset, .unset] [(.int z7)])) rfl (by rw [hml]; rfl) (argsL := [(.int z7)]) (rest := []) (lenOf pd_0_1 rfl) rfl (by show 2 * 0 + _ ≤ _; exact Nat.le_of_eq rfl) (hb hby at_9) (fun _ _ => ⟨rfl, e0, (by decide : 0 + 0 ≤ _), (by decide : 0 + 0 ≤ _)⟩)
  dsimp only [Pt.U, Pt.locs, Pt.cells, Pt.slots] at X9 l9 y9 z9 st9 hQ9
  subst l9 y9 z9
  obtain ⟨rfl, rfl, e9⟩ := hQ9
  have Y9 : Stand p l e room_1 s m #[(.long q0), (.int p1)] below meth c T9 [] 0 0 := X9
  obtain ⟨aP, haP⟩ : ∃ z, z = (own_pick z7 aC aR aU aD aE aA aL) := ⟨_, rfl⟩
  rw [← haP] at st9
  have hk : 0 ≤ z7.toInt ∧ z7.toInt < 7 := by rw [hz7]; exact own_k7 _
  have E_P : Exa Z h0 aP "com/example/hyrarchy/hyrarchy/Permission" := by rw [haP]; exact own_pickE (P := fun a => Exa Z h0 a "com/example/hyrarchy/hyrarchy/Permission") E_aC E_aR E_aU E_aD E_aE E_aA E_aL
  have F_P : Fld Z h0 aP "java/lang/Enum" "ordinal" "I" (.int z7) := by rw [haP]; exact own_pickF (F := fun a k => Fld Z h0 a "java/lang/Enum" "ordinal" "I" (.int k)) hk F_aC F_aR F_aU F_aD F_aE F_aA F_aL
  have G9 : own_Go p.tables e below (s₁.setTop (entryFrame m #[(.long q0), (.int p1)] maxLocals)) (T9.setTop (mkF m 12 #[.val (.long q0), .second, .val (.int p1), .val (.int z7), .unset, .unset, .unset, .unset, .unset, .unset] [(.ref aP)])) := fun t k => G8 t (st9 t k)
  have G10 : own_Go p.tables e below (s₁.setTop (entryFrame m #[(.long q0), (.int p1)] maxLocals)) (T9.setTop (mkF m 14 #[.val (.long q0), .second, .val (.int p1), .val (.int z7), .val (.ref aP), .unset, .unset, .unset, .unset, .unset] [])) := fun t k => G9 t (XS.astore Y9.here hx rfl (hb hby at_12) rfl rfl (l' := #[.val (.long q0), .second, .val (.int p1), .val (.int z7), .val (.ref aP), .unset, .unset, .unset, .unset, .unset]) rfl k)
  have G11 : own_Go p.tables e below (s₁.setTop (entryFrame m #[(.long q0), (.int p1)] maxLocals)) (T9.setTop (mkF m 15 #[.val (.long q0), .second, .val (.int p1), .val (.int z7), .val (.ref aP), .unset, .unset, .unset, .unset, .unset] [(.int z7)])) := fun t k => G10 t (XS.iloadN Y9.here hx rfl (hb hby at_14) rfl k)
  obtain ⟨vv12, _, ⟨T12, L12, k12, n12⟩, -, X12, ⟨Lc12, hQ12, l12, y12, z12⟩, st12⟩ := Jvm.LawKit.callS Y9 hx (y := (⟨"com/example/hyrarchy/hyrarchy/PathGrantsAllowsPinLaw", "allowBit", "(I)J"⟩ : MethodName)) hown (mvT hZ (hw _ (List.mem_of_getElem? (i := 8) rfl))) (mvT hZ (hw _ (List.mem_of_getElem? (i := 9) rfl))) (mvT hZ (hw _ (List.mem_of_getElem? (i := 3) rfl))) (mvT hZ (hw _ (List.mem_of_getElem? (i := 10) rfl))) (by decide) (backOf (W := 0) (rm2 l Z aw hw [] z7  h0 ) hZ (hw _ (List.mem_of_getElem? (i := 10) rfl)) (hw _ (List.mem_of_getElem? (i := 3) rfl)) (by decide) (by decide)) (g := (mkF m 15 #[.val (.long q0), .second, .val (.int p1), .val (.int z7), .val (.ref aP), .unset, .unset, .unset, .unset, .unset] [(.int z7)])) rfl (by rw [hml]; rfl) (argsL := [(.int z7)]) (rest := []) (lenOf pd_0_2 rfl) rfl (by show 2 * 0 + _ ≤ _; exact Nat.le_of_eq rfl) (hb hby at_15) (fun _ _ => ⟨rfl, e9, (by decide : 0 + 0 ≤ _), (by decide : 0 + 0 ≤ _)⟩)
  dsimp only [Pt.U, Pt.locs, Pt.cells, Pt.slots] at X12 l12 y12 z12 st12 hQ12
  subst l12 y12 z12
  obtain ⟨rfl, rfl, e12⟩ := hQ12
  have Y12 : Stand p l e room_1 s m #[(.long q0), (.int p1)] below meth c T12 [] 0 0 := X12
  have G12 : own_Go p.tables e below (s₁.setTop (entryFrame m #[(.long q0), (.int p1)] maxLocals)) (T12.setTop (mkF m 18 #[.val (.long q0), .second, .val (.int p1), .val (.int z7), .val (.ref aP), .unset, .unset, .unset, .unset, .unset] [(.long (own_ab z7))])) := fun t k => G11 t (st12 t k)
  have G13 : own_Go p.tables e below (s₁.setTop (entryFrame m #[(.long q0), (.int p1)] maxLocals)) (T12.setTop (mkF m 20 #[.val (.long q0), .second, .val (.int p1), .val (.int z7), .val (.ref aP), .val (.long (own_ab z7)), .second, .unset, .unset, .unset] [])) := fun t k => G12 t (XS.lstore Y12.here hx rfl (hb hby at_18) rfl (l' := #[.val (.long q0), .second, .val (.int p1), .val (.int z7), .val (.ref aP), .val (.long (own_ab z7)), .second, .unset, .unset, .unset]) rfl k)
  obtain ⟨z14, hz14, G14⟩ : ∃ z14 : Int64, z14 = (own_ab z7) ∧ own_Go p.tables e below (s₁.setTop (entryFrame m #[(.long q0), (.int p1)] maxLocals)) (T12.setTop (mkF m 20 #[.val (.long q0), .second, .val (.int p1), .val (.int z7), .val (.ref aP), .val (.long z14), .second, .unset, .unset, .unset] [])) := ⟨_, rfl, G13⟩
  have G15 : own_Go p.tables e below (s₁.setTop (entryFrame m #[(.long q0), (.int p1)] maxLocals)) (T12.setTop (mkF m 21 #[.val (.long q0), .second, .val (.int p1), .val (.int z7), .val (.ref aP), .val (.long z14), .second, .unset, .unset, .unset] [(.long q0)])) := fun t k => G14 t (XS.lloadN Y12.here hx rfl (hb hby at_20) rfl k)
  have G16 : own_Go p.tables e below (s₁.setTop (entryFrame m #[(.long q0), (.int p1)] maxLocals)) (T12.setTop (mkF m 23 #[.val (.long q0), .second, .val (.int p1), .val (.int z7), .val (.ref aP), .val (.long z14), .second, .unset, .unset, .unset] [(.long z14), (.long q0)])) := fun t k => G15 t (XS.lload Y12.here hx rfl (hb hby at_21) rfl k)
  have G17 : own_Go p.tables e below (s₁.setTop (entryFrame m #[(.long q0), (.int p1)] maxLocals)) (T12.setTop (mkF m 24 #[.val (.long q0), .second, .val (.int p1), .val (.int z7), .val (.ref aP), .val (.long z14), .second, .unset, .unset, .unset] [(.long (q0 &&& z14))])) := fun t k => G16 t (XS.land Y12.here hx rfl (hb hby at_23) rfl k)
  have G18 : own_Go p.tables e below (s₁.setTop (entryFrame m #[(.long q0), (.int p1)] maxLocals)) (T12.setTop (mkF m 25 #[.val (.long q0), .second, .val (.int p1), .val (.int z7), .val (.ref aP), .val (.long z14), .second, .unset, .unset, .unset] [(.long (0 : Int64)), (.long (q0 &&& z14))])) := fun t k => G17 t (XT.lconstV Y12.here hx rfl (0 : Int64) (hb hby at_24) (by decide) k)
  have G19 : own_Go p.tables e below (s₁.setTop (entryFrame m #[(.long q0), (.int p1)] maxLocals)) (T12.setTop (mkF m 26 #[.val (.long q0), .second, .val (.int p1), .val (.int z7), .val (.ref aP), .val (.long z14), .second, .unset, .unset, .unset] [(.int (lcmpW (q0 &&& z14) (0 : Int64)))])) := fun t k => G18 t (XS.lcmp Y12.here hx rfl (hb hby at_25) rfl k)
  obtain ⟨z20_0, hz20_0, G20⟩ : ∃ (z20_0 : Int32), z20_0 = (if (q0 &&& z14) = (0 : Int64) then (0 : Int32) else (1 : Int32)) ∧ own_Go p.tables e below (s₁.setTop (entryFrame m #[(.long q0), (.int p1)] maxLocals)) (T12.setTop (mkF m 34 #[.val (.long q0), .second, .val (.int p1), .val (.int z7), .val (.ref aP), .val (.long z14), .second, .unset, .unset, .unset] [(.int z20_0)])) := by
    by_cases hc20 : (q0 &&& z14) = (0 : Int64)
    · have G21 : own_Go p.tables e below (s₁.setTop (entryFrame m #[(.long q0), (.int p1)] maxLocals)) (T12.setTop (mkF m 33 #[.val (.long q0), .second, .val (.int p1), .val (.int z7), .val (.ref aP), .val (.long z14), .second, .unset, .unset, .unset] [])) := fun t k => G19 t (XS.ifYes Y12.here hx rfl (pc0 := 26) (pc' := 33) rfl (hb hby at_26) rfl ((if0 _ _).trans (teq (((lw_eq _ _).mpr hc20) : (lcmpW (q0 &&& z14) (0 : Int64)) = (0 : Int32))).1) (by decide) (by decide) k)
      have G22 : own_Go p.tables e below (s₁.setTop (entryFrame m #[(.long q0), (.int p1)] maxLocals)) (T12.setTop (mkF m 34 #[.val (.long q0), .second, .val (.int p1), .val (.int z7), .val (.ref aP), .val (.long z14), .second, .unset, .unset, .unset] [(.int (0 : Int32))])) := fun t k => G21 t (XT.iconstV Y12.here hx rfl (0 : Int32) (hb hby at_33) (by decide) k)
      exact ⟨_, (if_pos hc20).symm, G22⟩
    · have G23 : own_Go p.tables e below (s₁.setTop (entryFrame m #[(.long q0), (.int p1)] maxLocals)) (T12.setTop (mkF m 29 #[.val (.long q0), .second, .val (.int p1), .val (.int z7), .val (.ref aP), .val (.long z14), .second, .unset, .unset, .unset] [])) := fun t k => G19 t (XS.ifNo Y12.here hx rfl (hb hby at_26) rfl ((if0 _ _).trans (feq ((fun q => hc20 ((lw_eq _ _).mp q)) : ¬ ((lcmpW (q0 &&& z14) (0 : Int64)) = (0 : Int32)))).1) k)
      have G24 : own_Go p.tables e below (s₁.setTop (entryFrame m #[(.long q0), (.int p1)] maxLocals)) (T12.setTop (mkF m 30 #[.val (.long q0), .second, .val (.int p1), .val (.int z7), .val (.ref aP), .val (.long z14), .second, .unset, .unset, .unset] [(.int (1 : Int32))])) := fun t k => G23 t (XT.iconstV Y12.here hx rfl (1 : Int32) (hb hby at_29) (by decide) k)
      have G25 : own_Go p.tables e below (s₁.setTop (entryFrame m #[(.long q0), (.int p1)] maxLocals)) (T12.setTop (mkF m 34 #[.val (.long q0), .second, .val (.int p1), .val (.int z7), .val (.ref aP), .val (.long z14), .second, .unset, .unset, .unset] [(.int (1 : Int32))])) := fun t k => G24 t (XS.goto Y12.here hx rfl (pc0 := 30) (pc' := 34) rfl (hb hby at_30) (by decide) (by decide) k)
      exact ⟨_, (if_neg hc20).symm, G25⟩
  have G26 : own_Go p.tables e below (s₁.setTop (entryFrame m #[(.long q0), (.int p1)] maxLocals)) (T12.setTop (mkF m 36 #[.val (.long q0), .second, .val (.int p1), .val (.int z7), .val (.ref aP), .val (.long z14), .second, .val (.int z20_0), .unset, .unset] [])) := fun t k => G20 t (XS.istore Y12.here hx rfl (hb hby at_34) rfl (l' := #[.val (.long q0), .second, .val (.int p1), .val (.int z7), .val (.ref aP), .val (.long z14), .second, .val (.int z20_0), .unset, .unset]) rfl k)
  have G27 : own_Go p.tables e below (s₁.setTop (entryFrame m #[(.long q0), (.int p1)] maxLocals)) (T12.setTop (mkF m 37 #[.val (.long q0), .second, .val (.int p1), .val (.int z7), .val (.ref aP), .val (.long z14), .second, .val (.int z20_0), .unset, .unset] [(.long q0)])) := fun t k => G26 t (XS.lloadN Y12.here hx rfl (hb hby at_36) rfl k)
  have G28 : own_Go p.tables e below (s₁.setTop (entryFrame m #[(.long q0), (.int p1)] maxLocals)) (T12.setTop (mkF m 39 #[.val (.long q0), .second, .val (.int p1), .val (.int z7), .val (.ref aP), .val (.long z14), .second, .val (.int z20_0), .unset, .unset] [(.ref aP), (.long q0)])) := fun t k => G27 t (XS.aload Y12.here hx rfl (hb hby at_37) rfl rfl k)
  obtain ⟨vv29, _, ⟨T29, L29, k29, n29⟩, -, X29, ⟨Lc29, hQ29, l29, y29, z29⟩, st29⟩ := Jvm.LawKit.callS Y12 hx (y := (⟨"com/example/hyrarchy/hyrarchy/PathGrants", "allows", "(JLcom/example/hyrarchy/hyrarchy/Permission;)Z"⟩ : MethodName)) hown (mvT hZ (hw _ (List.mem_of_getElem? (i := 12) rfl))) (mvT hZ (hw _ (List.mem_of_getElem? (i := 13) rfl))) (mvT hZ (hw _ (List.mem_of_getElem? (i := 14) rfl))) (mvT hZ (hw _ (List.mem_of_getElem? (i := 15) rfl))) (by decide) (backOf (W := 0) (rm3 l Z aw hw [] q0 aP z7 h0 S_7 E_P F_P) hZ (hw _ (List.mem_of_getElem? (i := 15) rfl)) (hw _ (List.mem_of_getElem? (i := 14) rfl)) (by decide) (by decide)) (g := (mkF m 39 #[.val (.long q0), .second, .val (.int p1), .val (.int z7), .val (.ref aP), .val (.long z14), .second, .val (.int z20_0), .unset, .unset] [(.ref aP), (.long q0)])) rfl (by rw [hml]; rfl) (argsL := [(.long q0), (.ref aP)]) (rest := []) (lenOf pd_0_3 rfl) rfl (by show 2 * 0 + _ ≤ _; exact Nat.le_of_eq rfl) (hb hby at_39) (fun _ _ => ⟨rfl, e12, (by decide : 0 + 0 ≤ _), (by decide : 0 + 0 ≤ _)⟩)
  dsimp only [Pt.U, Pt.locs, Pt.cells, Pt.slots] at X29 l29 y29 z29 st29 hQ29
  subst l29 y29 z29
  obtain ⟨rfl, rfl, e29⟩ := hQ29
  have Y29 : Stand p l e room_1 s m #[(.long q0), (.int p1)] below meth c T29 [] 0 0 := X29
  have G29 : own_Go p.tables e below (s₁.setTop (entryFrame m #[(.long q0), (.int p1)] maxLocals)) (T29.setTop (mkF m 42 #[.val (.long q0), .second, .val (.int p1), .val (.int z7), .val (.ref aP), .val (.long z14), .second, .val (.int z20_0), .unset, .unset] [(.int (own_men q0 ((7 : Int32) + z7)))])) := fun t k => G28 t (st29 t k)
  have G30 : own_Go p.tables e below (s₁.setTop (entryFrame m #[(.long q0), (.int p1)] maxLocals)) (T29.setTop (mkF m 44 #[.val (.long q0), .second, .val (.int p1), .val (.int z7), .val (.ref aP), .val (.long z14), .second, .val (.int z20_0), .unset, .unset] [(.int z20_0), (.int (own_men q0 ((7 : Int32) + z7)))])) := fun t k => G29 t (XS.iload Y29.here hx rfl (hb hby at_42) rfl k)
  have hk31 : (own_men q0 ((7 : Int32) + z7)) = z20_0 := by rw [hz20_0, hz14]; exact own_a_dir _ hk
  have G32 : own_Go p.tables e below (s₁.setTop (entryFrame m #[(.long q0), (.int p1)] maxLocals)) (T29.setTop (mkF m 47 #[.val (.long q0), .second, .val (.int p1), .val (.int z7), .val (.ref aP), .val (.long z14), .second, .val (.int z20_0), .unset, .unset] [])) := fun t k => G30 t (XS.icmpNo Y29.here hx rfl (hb hby at_44) rfl (teq hk31).2 k)
  have G33 : own_Go p.tables e below (s₁.setTop (entryFrame m #[(.long q0), (.int p1)] maxLocals)) (T29.setTop (mkF m 48 #[.val (.long q0), .second, .val (.int p1), .val (.int z7), .val (.ref aP), .val (.long z14), .second, .val (.int z20_0), .unset, .unset] [(.int (1 : Int32))])) := fun t k => G32 t (XT.iconstV Y29.here hx rfl (1 : Int32) (hb hby at_47) (by decide) k)
  have G34 : own_Go p.tables e below (s₁.setTop (entryFrame m #[(.long q0), (.int p1)] maxLocals)) (T29.setTop (mkF m 52 #[.val (.long q0), .second, .val (.int p1), .val (.int z7), .val (.ref aP), .val (.long z14), .second, .val (.int z20_0), .unset, .unset] [(.int (1 : Int32))])) := fun t k => G33 t (XS.goto Y29.here hx rfl (pc0 := 48) (pc' := 52) rfl (hb hby at_48) (by decide) (by decide) k)
  have G35 : own_Go p.tables e below (s₁.setTop (entryFrame m #[(.long q0), (.int p1)] maxLocals)) (T29.setTop (mkF m 54 #[.val (.long q0), .second, .val (.int p1), .val (.int z7), .val (.ref aP), .val (.long z14), .second, .val (.int z20_0), .val (.int (1 : Int32)), .unset] [])) := fun t k => G34 t (XS.istore Y29.here hx rfl (hb hby at_52) rfl (l' := #[.val (.long q0), .second, .val (.int p1), .val (.int z7), .val (.ref aP), .val (.long z14), .second, .val (.int z20_0), .val (.int (1 : Int32)), .unset]) rfl k)
  have G36 : own_Go p.tables e below (s₁.setTop (entryFrame m #[(.long q0), (.int p1)] maxLocals)) (T29.setTop (mkF m 55 #[.val (.long q0), .second, .val (.int p1), .val (.int z7), .val (.ref aP), .val (.long z14), .second, .val (.int z20_0), .val (.int (1 : Int32)), .unset] [(.long q0)])) := fun t k => G35 t (XS.lloadN Y29.here hx rfl (hb hby at_54) rfl k)
  have G37 : own_Go p.tables e below (s₁.setTop (entryFrame m #[(.long q0), (.int p1)] maxLocals)) (T29.setTop (mkF m 57 #[.val (.long q0), .second, .val (.int p1), .val (.int z7), .val (.ref aP), .val (.long z14), .second, .val (.int z20_0), .val (.int (1 : Int32)), .unset] [(.long z14), (.long q0)])) := fun t k => G36 t (XS.lload Y29.here hx rfl (hb hby at_55) rfl k)
  have G38 : own_Go p.tables e below (s₁.setTop (entryFrame m #[(.long q0), (.int p1)] maxLocals)) (T29.setTop (mkF m 58 #[.val (.long q0), .second, .val (.int p1), .val (.int z7), .val (.ref aP), .val (.long z14), .second, .val (.int z20_0), .val (.int (1 : Int32)), .unset] [(.long (q0 ^^^ z14))])) := fun t k => G37 t (XS.lxor Y29.here hx rfl (hb hby at_57) rfl k)
  have G39 : own_Go p.tables e below (s₁.setTop (entryFrame m #[(.long q0), (.int p1)] maxLocals)) (T29.setTop (mkF m 60 #[.val (.long q0), .second, .val (.int p1), .val (.int z7), .val (.ref aP), .val (.long z14), .second, .val (.int z20_0), .val (.int (1 : Int32)), .unset] [(.ref aP), (.long (q0 ^^^ z14))])) := fun t k => G38 t (XS.aload Y29.here hx rfl (hb hby at_58) rfl rfl k)
  obtain ⟨vv40, _, ⟨T40, L40, k40, n40⟩, -, X40, ⟨Lc40, hQ40, l40, y40, z40⟩, st40⟩ := Jvm.LawKit.callS Y29 hx (y := (⟨"com/example/hyrarchy/hyrarchy/PathGrants", "allows", "(JLcom/example/hyrarchy/hyrarchy/Permission;)Z"⟩ : MethodName)) hown (mvT hZ (hw _ (List.mem_of_getElem? (i := 12) rfl))) (mvT hZ (hw _ (List.mem_of_getElem? (i := 13) rfl))) (mvT hZ (hw _ (List.mem_of_getElem? (i := 14) rfl))) (mvT hZ (hw _ (List.mem_of_getElem? (i := 15) rfl))) (by decide) (backOf (W := 0) (rm3 l Z aw hw [] (q0 ^^^ z14) aP z7 h0 S_7 E_P F_P) hZ (hw _ (List.mem_of_getElem? (i := 15) rfl)) (hw _ (List.mem_of_getElem? (i := 14) rfl)) (by decide) (by decide)) (g := (mkF m 60 #[.val (.long q0), .second, .val (.int p1), .val (.int z7), .val (.ref aP), .val (.long z14), .second, .val (.int z20_0), .val (.int (1 : Int32)), .unset] [(.ref aP), (.long (q0 ^^^ z14))])) rfl (by rw [hml]; rfl) (argsL := [(.long (q0 ^^^ z14)), (.ref aP)]) (rest := []) (lenOf pd_0_3 rfl) rfl (by show 2 * 0 + _ ≤ _; exact Nat.le_of_eq rfl) (hb hby at_60) (fun _ _ => ⟨rfl, e29, (by decide : 0 + 0 ≤ _), (by decide : 0 + 0 ≤ _)⟩)
  dsimp only [Pt.U, Pt.locs, Pt.cells, Pt.slots] at X40 l40 y40 z40 st40 hQ40
  subst l40 y40 z40
  obtain ⟨rfl, rfl, e40⟩ := hQ40
  have Y40 : Stand p l e room_1 s m #[(.long q0), (.int p1)] below meth c T40 [] 0 0 := X40
  have G40 : own_Go p.tables e below (s₁.setTop (entryFrame m #[(.long q0), (.int p1)] maxLocals)) (T40.setTop (mkF m 63 #[.val (.long q0), .second, .val (.int p1), .val (.int z7), .val (.ref aP), .val (.long z14), .second, .val (.int z20_0), .val (.int (1 : Int32)), .unset] [(.int (own_men (q0 ^^^ z14) ((7 : Int32) + z7)))])) := fun t k => G39 t (st40 t k)
  have G41 : own_Go p.tables e below (s₁.setTop (entryFrame m #[(.long q0), (.int p1)] maxLocals)) (T40.setTop (mkF m 65 #[.val (.long q0), .second, .val (.int p1), .val (.int z7), .val (.ref aP), .val (.long z14), .second, .val (.int z20_0), .val (.int (1 : Int32)), .unset] [(.int z20_0), (.int (own_men (q0 ^^^ z14) ((7 : Int32) + z7)))])) := fun t k => G40 t (XS.iload Y40.here hx rfl (hb hby at_63) rfl k)
  obtain ⟨z42_0, hz42_0, G42⟩ : ∃ (z42_0 : Int32), z42_0 = (if z20_0 = (0 : Int32) then (1 : Int32) else (0 : Int32)) ∧ own_Go p.tables e below (s₁.setTop (entryFrame m #[(.long q0), (.int p1)] maxLocals)) (T40.setTop (mkF m 73 #[.val (.long q0), .second, .val (.int p1), .val (.int z7), .val (.ref aP), .val (.long z14), .second, .val (.int z20_0), .val (.int (1 : Int32)), .unset] [(.int z42_0), (.int (own_men (q0 ^^^ z14) ((7 : Int32) + z7)))])) := by
    by_cases hc42 : z20_0 = (0 : Int32)
    · have G43 : own_Go p.tables e below (s₁.setTop (entryFrame m #[(.long q0), (.int p1)] maxLocals)) (T40.setTop (mkF m 68 #[.val (.long q0), .second, .val (.int p1), .val (.int z7), .val (.ref aP), .val (.long z14), .second, .val (.int z20_0), .val (.int (1 : Int32)), .unset] [(.int (own_men (q0 ^^^ z14) ((7 : Int32) + z7)))])) := fun t k => G41 t (XS.ifNo Y40.here hx rfl (hb hby at_65) rfl ((if0 _ _).trans (teq hc42).2) k)
      have G44 : own_Go p.tables e below (s₁.setTop (entryFrame m #[(.long q0), (.int p1)] maxLocals)) (T40.setTop (mkF m 69 #[.val (.long q0), .second, .val (.int p1), .val (.int z7), .val (.ref aP), .val (.long z14), .second, .val (.int z20_0), .val (.int (1 : Int32)), .unset] [(.int (1 : Int32)), (.int (own_men (q0 ^^^ z14) ((7 : Int32) + z7)))])) := fun t k => G43 t (XT.iconstV Y40.here hx rfl (1 : Int32) (hb hby at_68) (by decide) k)
      have G45 : own_Go p.tables e below (s₁.setTop (entryFrame m #[(.long q0), (.int p1)] maxLocals)) (T40.setTop (mkF m 73 #[.val (.long q0), .second, .val (.int p1), .val (.int z7), .val (.ref aP), .val (.long z14), .second, .val (.int z20_0), .val (.int (1 : Int32)), .unset] [(.int (1 : Int32)), (.int (own_men (q0 ^^^ z14) ((7 : Int32) + z7)))])) := fun t k => G44 t (XS.goto Y40.here hx rfl (pc0 := 69) (pc' := 73) rfl (hb hby at_69) (by decide) (by decide) k)
      exact ⟨_, (if_pos hc42).symm, G45⟩
    · have G46 : own_Go p.tables e below (s₁.setTop (entryFrame m #[(.long q0), (.int p1)] maxLocals)) (T40.setTop (mkF m 72 #[.val (.long q0), .second, .val (.int p1), .val (.int z7), .val (.ref aP), .val (.long z14), .second, .val (.int z20_0), .val (.int (1 : Int32)), .unset] [(.int (own_men (q0 ^^^ z14) ((7 : Int32) + z7)))])) := fun t k => G41 t (XS.ifYes Y40.here hx rfl (pc0 := 65) (pc' := 72) rfl (hb hby at_65) rfl ((if0 _ _).trans (feq hc42).2) (by decide) (by decide) k)
      have G47 : own_Go p.tables e below (s₁.setTop (entryFrame m #[(.long q0), (.int p1)] maxLocals)) (T40.setTop (mkF m 73 #[.val (.long q0), .second, .val (.int p1), .val (.int z7), .val (.ref aP), .val (.long z14), .second, .val (.int z20_0), .val (.int (1 : Int32)), .unset] [(.int (0 : Int32)), (.int (own_men (q0 ^^^ z14) ((7 : Int32) + z7)))])) := fun t k => G46 t (XT.iconstV Y40.here hx rfl (0 : Int32) (hb hby at_72) (by decide) k)
      exact ⟨_, (if_neg hc42).symm, G47⟩
  have hk48 : (own_men (q0 ^^^ z14) ((7 : Int32) + z7)) = z42_0 := by rw [hz42_0, hz20_0, hz14]; exact own_a_flip _ hk
  have G49 : own_Go p.tables e below (s₁.setTop (entryFrame m #[(.long q0), (.int p1)] maxLocals)) (T40.setTop (mkF m 76 #[.val (.long q0), .second, .val (.int p1), .val (.int z7), .val (.ref aP), .val (.long z14), .second, .val (.int z20_0), .val (.int (1 : Int32)), .unset] [])) := fun t k => G42 t (XS.icmpNo Y40.here hx rfl (hb hby at_73) rfl (teq hk48).2 k)
  have G50 : own_Go p.tables e below (s₁.setTop (entryFrame m #[(.long q0), (.int p1)] maxLocals)) (T40.setTop (mkF m 77 #[.val (.long q0), .second, .val (.int p1), .val (.int z7), .val (.ref aP), .val (.long z14), .second, .val (.int z20_0), .val (.int (1 : Int32)), .unset] [(.int (1 : Int32))])) := fun t k => G49 t (XT.iconstV Y40.here hx rfl (1 : Int32) (hb hby at_76) (by decide) k)
  have G51 : own_Go p.tables e below (s₁.setTop (entryFrame m #[(.long q0), (.int p1)] maxLocals)) (T40.setTop (mkF m 81 #[.val (.long q0), .second, .val (.int p1), .val (.int z7), .val (.ref aP), .val (.long z14), .second, .val (.int z20_0), .val (.int (1 : Int32)), .unset] [(.int (1 : Int32))])) := fun t k => G50 t (XS.goto Y40.here hx rfl (pc0 := 77) (pc' := 81) rfl (hb hby at_77) (by decide) (by decide) k)
  have G52 : own_Go p.tables e below (s₁.setTop (entryFrame m #[(.long q0), (.int p1)] maxLocals)) (T40.setTop (mkF m 83 #[.val (.long q0), .second, .val (.int p1), .val (.int z7), .val (.ref aP), .val (.long z14), .second, .val (.int z20_0), .val (.int (1 : Int32)), .val (.int (1 : Int32))] [])) := fun t k => G51 t (XS.istore Y40.here hx rfl (hb hby at_81) rfl (l' := #[.val (.long q0), .second, .val (.int p1), .val (.int z7), .val (.ref aP), .val (.long z14), .second, .val (.int z20_0), .val (.int (1 : Int32)), .val (.int (1 : Int32))]) rfl k)
  have G53 : own_Go p.tables e below (s₁.setTop (entryFrame m #[(.long q0), (.int p1)] maxLocals)) (T40.setTop (mkF m 85 #[.val (.long q0), .second, .val (.int p1), .val (.int z7), .val (.ref aP), .val (.long z14), .second, .val (.int z20_0), .val (.int (1 : Int32)), .val (.int (1 : Int32))] [(.int (1 : Int32))])) := fun t k => G52 t (XS.iload Y40.here hx rfl (hb hby at_83) rfl k)
  have hk54 : ¬ ((1 : Int32) = (0 : Int32)) := by decide
  have G55 : own_Go p.tables e below (s₁.setTop (entryFrame m #[(.long q0), (.int p1)] maxLocals)) (T40.setTop (mkF m 88 #[.val (.long q0), .second, .val (.int p1), .val (.int z7), .val (.ref aP), .val (.long z14), .second, .val (.int z20_0), .val (.int (1 : Int32)), .val (.int (1 : Int32))] [])) := fun t k => G53 t (XS.ifNo Y40.here hx rfl (hb hby at_85) rfl ((if0 _ _).trans (feq hk54).1) k)
  have G56 : own_Go p.tables e below (s₁.setTop (entryFrame m #[(.long q0), (.int p1)] maxLocals)) (T40.setTop (mkF m 90 #[.val (.long q0), .second, .val (.int p1), .val (.int z7), .val (.ref aP), .val (.long z14), .second, .val (.int z20_0), .val (.int (1 : Int32)), .val (.int (1 : Int32))] [(.int (1 : Int32))])) := fun t k => G55 t (XS.iload Y40.here hx rfl (hb hby at_88) rfl k)
  have hk57 : ¬ ((1 : Int32) = (0 : Int32)) := by decide
  have G58 : own_Go p.tables e below (s₁.setTop (entryFrame m #[(.long q0), (.int p1)] maxLocals)) (T40.setTop (mkF m 93 #[.val (.long q0), .second, .val (.int p1), .val (.int z7), .val (.ref aP), .val (.long z14), .second, .val (.int z20_0), .val (.int (1 : Int32)), .val (.int (1 : Int32))] [])) := fun t k => G56 t (XS.ifNo Y40.here hx rfl (hb hby at_90) rfl ((if0 _ _).trans (feq hk57).1) k)
  have G59 : own_Go p.tables e below (s₁.setTop (entryFrame m #[(.long q0), (.int p1)] maxLocals)) (T40.setTop (mkF m 94 #[.val (.long q0), .second, .val (.int p1), .val (.int z7), .val (.ref aP), .val (.long z14), .second, .val (.int z20_0), .val (.int (1 : Int32)), .val (.int (1 : Int32))] [(.int (1 : Int32))])) := fun t k => G58 t (XT.iconstV Y40.here hx rfl (1 : Int32) (hb hby at_93) (by decide) k)
  have G60 : own_Go p.tables e below (s₁.setTop (entryFrame m #[(.long q0), (.int p1)] maxLocals)) (T40.setTop (mkF m 98 #[.val (.long q0), .second, .val (.int p1), .val (.int z7), .val (.ref aP), .val (.long z14), .second, .val (.int z20_0), .val (.int (1 : Int32)), .val (.int (1 : Int32))] [(.int (1 : Int32))])) := fun t k => G59 t (XS.goto Y40.here hx rfl (pc0 := 94) (pc' := 98) rfl (hb hby at_94) (by decide) (by decide) k)
  obtain ⟨fs, hr, hrun, hended, hW, hsame⟩ := Y40.leave (v := some (.int (nar .boolean (1 : Int32)))) (fun h => by rw [Bd.returns] at h; cases h)
  refine ⟨_, _, G60 _ ?_, hrun, hended, _, _, rfl, ?_, ⟨_, rfl⟩, hW, hsame.mono (by decide) (by decide)⟩
  · exact retN Y40 hx (t := .boolean) Bd.returns (by simp) (hb hby at_98) hr
  · show Q0 Z q0 p1 aC aR aU aD aE aA aL h0 _ T40.heap _
    rw [e40]
    exact ⟨rfl, rfl, rfl⟩
set_option maxRecDepth 65536 in
set_option maxHeartbeats 40000000 in
theorem comes_1 {Post : Tables → Env → Array Value → State → Outcome → State → Prop} (hpost : ∀ tb e args s v u, (limb_1_1.after args s (.returned v) u = true ∧ limb_1_2.after args s (.returned v) u = true ∧ True) → FrameEnd s (.returned v) u (Jvm.fieldLocs frame_1_writes args s ++ Jvm.arrayLocs frame_1_arrays args s ++ Jvm.staticLocs frame_1_statics s) 0 0 → Post tb e args s (.returned v) u) :
    ArmFor flags0 classFile x code maxLocals ret World_1 tables_1 room_1 Calls_1 rest_1 Pre_1 Post := by
  intro l hfl _ _ p e ha hc hk s m args below hf hA hF happ hP
  obtain ⟨hcalls, hrest, hpre⟩ := hP
  obtain ⟨-, -, -, hnamed, -, -, -, hat⟩ := (Spec.applies_iff hf).mp happ
  obtain ⟨hg, hn⟩ := and_e (Cond.before_iff.mp (show (Jvm.Cond.and given_1 narrow_1).before args s = true from hpre))
  obtain ⟨ga1, gb1⟩ := and_e hg
  obtain ⟨ga2, gb2⟩ := and_e gb1
  obtain ⟨w0, w1, rfl⟩ : ∃ w0 w1 : Value, args = #[w0, w1] := by
    have hs : args.size = 2 := by simpa [Cond.value, given_1] using ga1
    obtain ⟨L⟩ := args
    match L, hs with
    | [w0, w1], _ => exact ⟨w0, w1, rfl⟩
  have hw := fun d (hd : d ∈ tables_1) => atoms_spec (ws := Jvm.Cond.code x code maxLocals ret :: tables_1) hat d (List.mem_cons_of_mem _ hd)
  have hfit : Fit s := fun {y c} hc i hi => by
    obtain ⟨ha, rfl⟩ := Array.getElem?_eq_some_iff.mp hc
    have q := List.all_eq_true.mp ((Array.all_eq_true_iff_forall_mem.mp hF) _ (Array.getElem_mem ha)) i (List.mem_range.mpr hi)
    simpa [Array.getElem?_eq_getElem hi] using q
  obtain ⟨i0, ei0⟩ := isL_v ga2
  obtain rfl : w0 = (.long i0) := Option.some.inj ei0
  obtain ⟨i1, ei1⟩ := is_v gb2
  obtain rfl : w1 = (.int i1) := Option.some.inj ei1
  obtain ⟨ga101, gb101⟩ := and_e hn
  obtain ⟨ga102, gb102⟩ := and_e gb101
  obtain ⟨ga103, gb103⟩ := and_e gb102
  obtain ⟨ga104, gb104⟩ := and_e gb103
  obtain ⟨ga105, gb105⟩ := and_e gb104
  obtain ⟨ga106, gb106⟩ := and_e gb105
  obtain ⟨ga107, gb107⟩ := and_e gb106
  obtain ⟨ga108, gb108⟩ := and_e gb107
  obtain ⟨ga109, gb109⟩ := and_e gb108
  obtain ⟨ga110, gb110⟩ := and_e gb109
  obtain ⟨ga111, gb111⟩ := and_e gb110
  obtain ⟨ga112, gb112⟩ := and_e gb111
  obtain ⟨ga113, gb113⟩ := and_e gb112
  obtain ⟨ga114, gb114⟩ := and_e gb113
  obtain ⟨a_UPDATE, ev_UPDATE⟩ := exa_v ga101
  have S_UPDATE : Sta s s.heap "com/example/hyrarchy/hyrarchy/Permission" "UPDATE" "Lcom/example/hyrarchy/hyrarchy/Permission;" (.ref a_UPDATE) := Sta.start ev_UPDATE (Or.inr ⟨(hw _ (List.mem_of_getElem? (i := 6) rfl)), (hw _ (List.mem_of_getElem? (i := 7) rfl))⟩)
  have E_UPDATE : Exa s s.heap a_UPDATE "com/example/hyrarchy/hyrarchy/Permission" := Exa.start ev_UPDATE ga101
  obtain ⟨a_EXECUTE, ev_EXECUTE⟩ := exa_v ga104
  have S_EXECUTE : Sta s s.heap "com/example/hyrarchy/hyrarchy/Permission" "EXECUTE" "Lcom/example/hyrarchy/hyrarchy/Permission;" (.ref a_EXECUTE) := Sta.start ev_EXECUTE (Or.inr ⟨(hw _ (List.mem_of_getElem? (i := 6) rfl)), (hw _ (List.mem_of_getElem? (i := 28) rfl))⟩)
  have E_EXECUTE : Exa s s.heap a_EXECUTE "com/example/hyrarchy/hyrarchy/Permission" := Exa.start ev_EXECUTE ga104
  obtain ⟨a_DELETE, ev_DELETE⟩ := exa_v ga106
  have S_DELETE : Sta s s.heap "com/example/hyrarchy/hyrarchy/Permission" "DELETE" "Lcom/example/hyrarchy/hyrarchy/Permission;" (.ref a_DELETE) := Sta.start ev_DELETE (Or.inr ⟨(hw _ (List.mem_of_getElem? (i := 6) rfl)), (hw _ (List.mem_of_getElem? (i := 31) rfl))⟩)
  have E_DELETE : Exa s s.heap a_DELETE "com/example/hyrarchy/hyrarchy/Permission" := Exa.start ev_DELETE ga106
  obtain ⟨a_READ, ev_READ⟩ := exa_v ga108
  have S_READ : Sta s s.heap "com/example/hyrarchy/hyrarchy/Permission" "READ" "Lcom/example/hyrarchy/hyrarchy/Permission;" (.ref a_READ) := Sta.start ev_READ (Or.inr ⟨(hw _ (List.mem_of_getElem? (i := 6) rfl)), (hw _ (List.mem_of_getElem? (i := 34) rfl))⟩)
  have E_READ : Exa s s.heap a_READ "com/example/hyrarchy/hyrarchy/Permission" := Exa.start ev_READ ga108
  obtain ⟨a_ALTER, ev_ALTER⟩ := exa_v ga110
  have S_ALTER : Sta s s.heap "com/example/hyrarchy/hyrarchy/Permission" "ALTER" "Lcom/example/hyrarchy/hyrarchy/Permission;" (.ref a_ALTER) := Sta.start ev_ALTER (Or.inr ⟨(hw _ (List.mem_of_getElem? (i := 6) rfl)), (hw _ (List.mem_of_getElem? (i := 37) rfl))⟩)
  have E_ALTER : Exa s s.heap a_ALTER "com/example/hyrarchy/hyrarchy/Permission" := Exa.start ev_ALTER ga110
  obtain ⟨a_CREATE, ev_CREATE⟩ := exa_v ga112
  have S_CREATE : Sta s s.heap "com/example/hyrarchy/hyrarchy/Permission" "CREATE" "Lcom/example/hyrarchy/hyrarchy/Permission;" (.ref a_CREATE) := Sta.start ev_CREATE (Or.inr ⟨(hw _ (List.mem_of_getElem? (i := 6) rfl)), (hw _ (List.mem_of_getElem? (i := 40) rfl))⟩)
  have E_CREATE : Exa s s.heap a_CREATE "com/example/hyrarchy/hyrarchy/Permission" := Exa.start ev_CREATE ga112
  obtain ⟨a_LANGUAGE, ev_LANGUAGE⟩ := exa_v ga114
  have S_LANGUAGE : Sta s s.heap "com/example/hyrarchy/hyrarchy/Permission" "LANGUAGE" "Lcom/example/hyrarchy/hyrarchy/Permission;" (.ref a_LANGUAGE) := Sta.start ev_LANGUAGE (Or.inr ⟨(hw _ (List.mem_of_getElem? (i := 6) rfl)), (hw _ (List.mem_of_getElem? (i := 43) rfl))⟩)
  have E_LANGUAGE : Exa s s.heap a_LANGUAGE "com/example/hyrarchy/hyrarchy/Permission" := Exa.start ev_LANGUAGE ga114
  have F_UPDATE_ordinal : Fld s s.heap a_UPDATE "java/lang/Enum" "ordinal" "I" (.int (2 : Int32)) := own_fld ev_UPDATE (own_eqI ga103)
  have F_EXECUTE_ordinal : Fld s s.heap a_EXECUTE "java/lang/Enum" "ordinal" "I" (.int (4 : Int32)) := own_fld ev_EXECUTE (own_eqI ga105)
  have F_DELETE_ordinal : Fld s s.heap a_DELETE "java/lang/Enum" "ordinal" "I" (.int (3 : Int32)) := own_fld ev_DELETE (own_eqI ga107)
  have F_READ_ordinal : Fld s s.heap a_READ "java/lang/Enum" "ordinal" "I" (.int (1 : Int32)) := own_fld ev_READ (own_eqI ga109)
  have F_ALTER_ordinal : Fld s s.heap a_ALTER "java/lang/Enum" "ordinal" "I" (.int (5 : Int32)) := own_fld ev_ALTER (own_eqI ga111)
  have F_CREATE_ordinal : Fld s s.heap a_CREATE "java/lang/Enum" "ordinal" "I" (.int (0 : Int32)) := own_fld ev_CREATE (own_eqI ga113)
  have F_LANGUAGE_ordinal : Fld s s.heap a_LANGUAGE "java/lang/Enum" "ordinal" "I" (.int (6 : Int32)) := own_fld ev_LANGUAGE (own_eqI gb114)
  have S_PERMISSIONS : Sta s s.heap "com/example/hyrarchy/hyrarchy/PathGrants" "PERMISSIONS" "I" (.int (7 : Int32)) := Sta.start (own_eqI ga102) (Or.inr ⟨(hw _ (List.mem_of_getElem? (i := 14) rfl)), (hw _ (List.mem_of_getElem? (i := 17) rfl))⟩)
  obtain ⟨n, o, h1, h2, h3, _, L, rfl, ⟨rfl, rfl, -⟩, hq⟩ := rm0 l s _ hw tables_1 i0 i1 a_CREATE a_READ a_UPDATE a_DELETE a_EXECUTE a_ALTER a_LANGUAGE s.heap S_PERMISSIONS S_CREATE E_CREATE F_CREATE_ordinal S_READ E_READ F_READ_ordinal S_UPDATE E_UPDATE F_UPDATE_ordinal S_DELETE E_DELETE F_DELETE_ordinal S_EXECUTE E_EXECUTE F_EXECUTE_ordinal S_ALTER E_ALTER F_ALTER_ordinal S_LANGUAGE E_LANGUAGE F_LANGUAGE_ordinal p e ha hc hk s m _ below hf ((Spec.applies_iff_loose hf).mp happ).1 ⟨rfl, State.Warmed39.refl s, rfl⟩ trivial
  refine ⟨n, _, h1, h2, h3, hpost _ _ _ _ _ _ ⟨Cond.after_iff.mpr rfl, Cond.after_iff.mpr (eq_i res_at (Term.int_eval (1)) rfl), trivial⟩ ⟨hq.1, hq.2.1, (hq.2.2.sift fun y hy => nomatch hy).mono (by decide) (by decide)⟩⟩
theorem main_1_1 : Claimed_1_1 := comes_1 fun _ _ _ _ _ _ h hF => ⟨h.1, hF⟩
theorem main_1_2 : Claimed_1_2 := comes_1 fun _ _ _ _ _ _ h hF => ⟨h.2.1, hF⟩
end Jvm.Pilot.@@N@@
namespace Jvm.Pilot.@@N@@
open Jvm Jvm.ClassFile Sem Op Lib Jvm.Free Jvm.Stand Jvm.Pilot.@@N@@.Jvm.D
/-! MADE BY PROGRAM (witnessworld.py) out of the Statement's table words and the real class files: 13 classes; the members and pool entries that the words name. The judged class is class 1, her method 1. -/
namespace start1
open Jvm.ClassFile
def u (s : String) : CpInfo := .utf8 (stringToUtf16 s)
/-- a pool by its gaps: so many unusable entries, then the entry; so many at the end -/
def gap : Nat → List CpInfo → List CpInfo
  | 0, r => r
  | n + 1, r => .unusable :: gap n r
def poolList (es : List (Nat × CpInfo)) (last : Nat) : List CpInfo := es.foldr (fun e r => gap e.1 (e.2 :: r)) (gap last [])
def pool (es : List (Nat × CpInfo)) (last : Nat) : Array CpInfo := ⟨poolList es last⟩
def fileOf (pool : Array CpInfo) (this : Nat) (attrs : Array Attribute := #[]) (ms : Array MethodInfo := #[]) (fl : Nat := 33) (sup : Nat := 0) (ifs : Array Nat := #[]) (fds : Array FieldInfo := #[]) : ClassFile where
  minorVersion := 0
  majorVersion := 65
  constantPool := pool
  accessFlags := fl
  thisClass := this
  superClass := sup
  interfaces := ifs
  fields := fds
  methods := ms
  attributes := attrs
def plain (name : String) (sup : Option ClassId) : Class where
  name := name
  kind := .ordinary
  loader := none
  accessFlags := 33
  super := sup
  interfaces := #[]
  cf := none
  fields := #[]
  methods := #[]
  instanceTypes := #[]
  staticTypes := #[]
  resolved := #[]
  callSites := []
  init := .initialized
  statics := none
  mirror := none

def pool0 : Array CpInfo := pool [(5, u "<init>"), (0, u "()V"), (1, .class_ 10), (1, u "java/lang/Object")] 113

def k0m0 : Method := { name := "<init>", desc := "()V", sig := { parameters := [], returnType := none }, accessFlags := 1, code := none }
/-- java/lang/Object -/
def k0 : Class := { plain "java/lang/Object" none with
  accessFlags := 33
  interfaces := #[]
  cf := some (fileOf pool0 8 #[] #[{ accessFlags := 1, nameIndex := 5, descriptorIndex := 6, attributes := #[] }] 33 0 #[] #[])
  fields := #[]
  methods := #[k0m0]
  instanceTypes := #[]
  staticTypes := #[]
  resolved := Array.replicate 124 none
  statics := none }

def pool1 : Array CpInfo := pool [(2, .class_ 4), (1, u "java/lang/Object"), (0, u "<init>"), (0, u "()V"), (0, .integer 2147483647), (0, .methodref 9 10), (0, .class_ 11), (0, .nameAndType 12 13), (0, u "com/example/hyrarchy/hyrarchy/PathGrantsAllowsPinLaw"), (0, u "permissionAt"), (0, u "(I)Lcom/example/hyrarchy/hyrarchy/Permission;"), (0, .methodref 9 15), (0, .nameAndType 16 17), (0, u "allowBit"), (0, u "(I)J"), (0, .interfaceMethodref 19 20), (0, .class_ 21), (0, .nameAndType 22 23), (0, u "com/example/hyrarchy/hyrarchy/PathGrants"), (0, u "allows"), (0, u "(JLcom/example/hyrarchy/hyrarchy/Permission;)Z"), (0, .fieldref 25 26), (0, .class_ 27), (0, .nameAndType 28 29), (0, u "com/example/hyrarchy/hyrarchy/Permission"), (0, u "CREATE"), (0, u "Lcom/example/hyrarchy/hyrarchy/Permission;"), (0, .fieldref 25 31), (0, .nameAndType 32 29), (0, u "READ"), (0, .fieldref 25 34), (0, .nameAndType 35 29), (0, u "UPDATE"), (0, .fieldref 25 37), (0, .nameAndType 38 29), (0, u "DELETE"), (0, .fieldref 25 40), (0, .nameAndType 41 29), (0, u "EXECUTE"), (0, .fieldref 25 43), (0, .nameAndType 44 29), (0, u "ALTER"), (0, .fieldref 25 46), (0, .nameAndType 47 29), (0, u "LANGUAGE"), (0, .long 128), (1, .long 256), (1, .long 512), (1, .long 1024), (1, .long 2048), (1, .long 4096), (1, .long 8192), (3, u "law"), (0, u "(JI)Z")] 3

def k1m0 : Method := { name := "<init>", desc := "()V", sig := { parameters := [], returnType := none }, accessFlags := 2, code := none }
def k1c1 : Code := { maxStack := 4, maxLocals := 10, code := code, exceptionTable := #[], attributes := #[] }
def k1m1 : Method := { name := "law", desc := "(JI)Z", sig := { parameters := [.long, .int], returnType := some .boolean }, accessFlags := 9, code := some k1c1 }
def k1c2 : Code := { maxStack := 2, maxLocals := 1, code := method_3_code, exceptionTable := #[], attributes := #[] }
def k1m2 : Method := { name := "permissionAt", desc := "(I)Lcom/example/hyrarchy/hyrarchy/Permission;", sig := { parameters := [.int], returnType := some (.object "com/example/hyrarchy/hyrarchy/Permission") }, accessFlags := 10, code := some k1c2 }
def k1c3 : Code := { maxStack := 2, maxLocals := 1, code := method_4_code, exceptionTable := #[], attributes := #[] }
def k1m3 : Method := { name := "allowBit", desc := "(I)J", sig := { parameters := [.int], returnType := some .long }, accessFlags := 10, code := some k1c3 }
/-- com/example/hyrarchy/hyrarchy/PathGrantsAllowsPinLaw -/
def k1 : Class := { plain "com/example/hyrarchy/hyrarchy/PathGrantsAllowsPinLaw" (some 0) with
  accessFlags := 49
  interfaces := #[]
  cf := some (fileOf pool1 9 #[] #[{ accessFlags := 2, nameIndex := 5, descriptorIndex := 6, attributes := #[] }, { accessFlags := 9, nameIndex := 64, descriptorIndex := 65, attributes := #[] }, { accessFlags := 10, nameIndex := 12, descriptorIndex := 13, attributes := #[] }, { accessFlags := 10, nameIndex := 16, descriptorIndex := 17, attributes := #[] }] 49 2 #[] #[])
  fields := #[]
  methods := #[k1m0, k1m1, k1m2, k1m3]
  instanceTypes := #[]
  staticTypes := #[]
  resolved := Array.replicate 69 none
  statics := none }

def pool2 : Array CpInfo := pool [(1, .class_ 2), (0, u "java/lang/constant/Constable"), (0, .class_ 4), (0, u "java/lang/Object")] 6

/-- java/lang/constant/Constable -/
def k2 : Class := { plain "java/lang/constant/Constable" (some 0) with
  accessFlags := 1537
  interfaces := #[]
  cf := some (fileOf pool2 1 #[] #[] 1537 3 #[] #[])
  fields := #[]
  methods := #[]
  instanceTypes := #[]
  staticTypes := #[]
  resolved := Array.replicate 11 none
  statics := none }

def pool3 : Array CpInfo := pool [(1, .class_ 2), (0, u "java/lang/Comparable"), (0, .class_ 4), (0, u "java/lang/Object")] 7

/-- java/lang/Comparable -/
def k3 : Class := { plain "java/lang/Comparable" (some 0) with
  accessFlags := 1537
  interfaces := #[]
  cf := some (fileOf pool3 1 #[] #[] 1537 3 #[] #[])
  fields := #[]
  methods := #[]
  instanceTypes := #[]
  staticTypes := #[]
  resolved := Array.replicate 12 none
  statics := none }

def pool4 : Array CpInfo := pool [(1, .class_ 2), (0, u "java/io/Serializable"), (0, .class_ 4), (0, u "java/lang/Object")] 2

/-- java/io/Serializable -/
def k4 : Class := { plain "java/io/Serializable" (some 0) with
  accessFlags := 1537
  interfaces := #[]
  cf := some (fileOf pool4 1 #[] #[] 1537 3 #[] #[])
  fields := #[]
  methods := #[]
  instanceTypes := #[]
  staticTypes := #[]
  resolved := Array.replicate 7 none
  statics := none }

def pool5 : Array CpInfo := pool [(2, .class_ 4), (1, u "java/lang/Enum"), (0, u "name"), (0, u "Ljava/lang/String;"), (0, .fieldref 2 8), (0, .nameAndType 9 10), (0, u "ordinal"), (0, u "I"), (1, .class_ 14), (1, u "java/lang/Object"), (4, u "hash"), (86, .class_ 108), (1, u "java/lang/Enum$EnumDesc"), (2, .class_ 112), (0, u "java/lang/constant/Constable"), (0, .class_ 114), (0, u "java/lang/Comparable"), (0, .class_ 116), (0, u "java/io/Serializable"), (9, u "()I")] 77

def k5c0 : Code := { maxStack := 1, maxLocals := 1, code := jdk_37_method_2_code, exceptionTable := #[], attributes := #[] }
def k5m0 : Method := { name := "ordinal", desc := "()I", sig := { parameters := [], returnType := some .int }, accessFlags := 17, code := some k5c0 }
/-- java/lang/Enum -/
def k5 : Class := { plain "java/lang/Enum" (some 0) with
  accessFlags := 1057
  interfaces := #[2, 3, 4]
  cf := some (fileOf pool5 2 #[.nestMembers #[106]] #[{ accessFlags := 17, nameIndex := 9, descriptorIndex := 126, attributes := #[] }] 1057 12 #[111, 113, 115] #[{ accessFlags := 18, nameIndex := 5, descriptorIndex := 6, attributes := #[] }, { accessFlags := 18, nameIndex := 9, descriptorIndex := 10, attributes := #[] }, { accessFlags := 2, nameIndex := 19, descriptorIndex := 10, attributes := #[] }])
  fields := #[{ name := "name", type := (.object "java/lang/String"), accessFlags := 18, slot := 0, constantValue := 0 }, { name := "ordinal", type := .int, accessFlags := 18, slot := 1, constantValue := 0 }, { name := "hash", type := .int, accessFlags := 2, slot := 2, constantValue := 0 }]
  methods := #[k5m0]
  instanceTypes := #[(.object "java/lang/String"), .int, .int]
  staticTypes := #[]
  resolved := Array.replicate 204 none
  statics := none }

def pool6 : Array CpInfo := pool [(1, .class_ 2), (0, u "com/example/hyrarchy/hyrarchy/Permission"), (2, u "CREATE"), (0, u "Lcom/example/hyrarchy/hyrarchy/Permission;"), (2, u "READ"), (2, u "UPDATE"), (2, u "DELETE"), (2, u "EXECUTE"), (2, u "ALTER"), (2, u "LANGUAGE"), (2, u "$VALUES"), (0, u "[Lcom/example/hyrarchy/hyrarchy/Permission;"), (6, .class_ 37), (1, u "java/lang/Enum"), (8, u "letter"), (0, u "C"), (2, u "word"), (0, u "Ljava/lang/String;"), (88, u "BY_ASCII")] 130

/-- com/example/hyrarchy/hyrarchy/Permission -/
def k6 : Class := { plain "com/example/hyrarchy/hyrarchy/Permission" (some 5) with
  accessFlags := 16433
  interfaces := #[]
  cf := some (fileOf pool6 1 #[] #[] 16433 35 #[] #[{ accessFlags := 16409, nameIndex := 5, descriptorIndex := 6, attributes := #[] }, { accessFlags := 16409, nameIndex := 9, descriptorIndex := 6, attributes := #[] }, { accessFlags := 16409, nameIndex := 12, descriptorIndex := 6, attributes := #[] }, { accessFlags := 16409, nameIndex := 15, descriptorIndex := 6, attributes := #[] }, { accessFlags := 16409, nameIndex := 18, descriptorIndex := 6, attributes := #[] }, { accessFlags := 16409, nameIndex := 21, descriptorIndex := 6, attributes := #[] }, { accessFlags := 16409, nameIndex := 24, descriptorIndex := 6, attributes := #[] }, { accessFlags := 26, nameIndex := 140, descriptorIndex := 28, attributes := #[] }, { accessFlags := 18, nameIndex := 46, descriptorIndex := 47, attributes := #[] }, { accessFlags := 18, nameIndex := 50, descriptorIndex := 51, attributes := #[] }, { accessFlags := 4122, nameIndex := 27, descriptorIndex := 28, attributes := #[] }])
  fields := #[{ name := "CREATE", type := (.object "com/example/hyrarchy/hyrarchy/Permission"), accessFlags := 16409, slot := 0, constantValue := 0 }, { name := "READ", type := (.object "com/example/hyrarchy/hyrarchy/Permission"), accessFlags := 16409, slot := 1, constantValue := 0 }, { name := "UPDATE", type := (.object "com/example/hyrarchy/hyrarchy/Permission"), accessFlags := 16409, slot := 2, constantValue := 0 }, { name := "DELETE", type := (.object "com/example/hyrarchy/hyrarchy/Permission"), accessFlags := 16409, slot := 3, constantValue := 0 }, { name := "EXECUTE", type := (.object "com/example/hyrarchy/hyrarchy/Permission"), accessFlags := 16409, slot := 4, constantValue := 0 }, { name := "ALTER", type := (.object "com/example/hyrarchy/hyrarchy/Permission"), accessFlags := 16409, slot := 5, constantValue := 0 }, { name := "LANGUAGE", type := (.object "com/example/hyrarchy/hyrarchy/Permission"), accessFlags := 16409, slot := 6, constantValue := 0 }, { name := "BY_ASCII", type := (.array (.object "com/example/hyrarchy/hyrarchy/Permission")), accessFlags := 26, slot := 7, constantValue := 0 }, { name := "letter", type := .char, accessFlags := 18, slot := 3, constantValue := 0 }, { name := "word", type := (.object "java/lang/String"), accessFlags := 18, slot := 4, constantValue := 0 }, { name := "$VALUES", type := (.array (.object "com/example/hyrarchy/hyrarchy/Permission")), accessFlags := 4122, slot := 8, constantValue := 0 }]
  methods := #[]
  instanceTypes := #[(.object "java/lang/String"), .int, .int, .char, (.object "java/lang/String")]
  staticTypes := #[(.object "com/example/hyrarchy/hyrarchy/Permission"), (.object "com/example/hyrarchy/hyrarchy/Permission"), (.object "com/example/hyrarchy/hyrarchy/Permission"), (.object "com/example/hyrarchy/hyrarchy/Permission"), (.object "com/example/hyrarchy/hyrarchy/Permission"), (.object "com/example/hyrarchy/hyrarchy/Permission"), (.object "com/example/hyrarchy/hyrarchy/Permission"), (.array (.object "com/example/hyrarchy/hyrarchy/Permission")), (.array (.object "com/example/hyrarchy/hyrarchy/Permission"))]
  resolved := Array.replicate 271 none
  statics := some 0 }

def pool7 : Array CpInfo := pool [(1, .class_ 2), (0, u "com/example/hyrarchy/hyrarchy/PathGrants"), (3, u "()I"), (10, u "(JLcom/example/hyrarchy/hyrarchy/Permission;)Z"), (13, .nameAndType 32 6), (0, u "ordinal"), (28, .class_ 62), (0, u "com/example/hyrarchy/hyrarchy/Permission"), (0, .methodref 61 31), (0, .fieldref 1 65), (0, .nameAndType 66 67), (0, u "PERMISSIONS"), (0, u "I"), (5, u "MASK_BITS"), (0, .class_ 75), (0, u "java/lang/Object"), (0, u "NONE"), (0, u "J"), (3, u "UNTYPED"), (14, u "allows")] 4

def k7c0 : Code := { maxStack := 4, maxLocals := 3, code := prog_7_method_9_code, exceptionTable := #[], attributes := #[] }
def k7m0 : Method := { name := "allows", desc := "(JLcom/example/hyrarchy/hyrarchy/Permission;)Z", sig := { parameters := [.long, (.object "com/example/hyrarchy/hyrarchy/Permission")], returnType := some .boolean }, accessFlags := 9, code := some k7c0 }
/-- com/example/hyrarchy/hyrarchy/PathGrants -/
def k7 : Class := { plain "com/example/hyrarchy/hyrarchy/PathGrants" (some 0) with
  accessFlags := 1536
  interfaces := #[]
  cf := some (fileOf pool7 1 #[] #[{ accessFlags := 9, nameIndex := 96, descriptorIndex := 17, attributes := #[] }] 1536 74 #[] #[{ accessFlags := 25, nameIndex := 76, descriptorIndex := 77, attributes := #[] }, { accessFlags := 25, nameIndex := 81, descriptorIndex := 67, attributes := #[] }, { accessFlags := 25, nameIndex := 66, descriptorIndex := 67, attributes := #[] }, { accessFlags := 25, nameIndex := 73, descriptorIndex := 67, attributes := #[] }])
  fields := #[{ name := "NONE", type := .long, accessFlags := 25, slot := 0, constantValue := 0 }, { name := "UNTYPED", type := .int, accessFlags := 25, slot := 1, constantValue := 0 }, { name := "PERMISSIONS", type := .int, accessFlags := 25, slot := 2, constantValue := 0 }, { name := "MASK_BITS", type := .int, accessFlags := 25, slot := 3, constantValue := 0 }]
  methods := #[k7m0]
  instanceTypes := #[]
  staticTypes := #[.long, .int, .int, .int]
  resolved := Array.replicate 101 none
  statics := some 1 }

def pool8 : Array CpInfo := pool [(1, u "java/lang/Cloneable"), (0, .class_ 1), (0, u "java/lang/Object"), (0, .class_ 3)] 3

/-- java/lang/Cloneable -/
def k8 : Class := { plain "java/lang/Cloneable" (some 0) with
  accessFlags := 1537
  interfaces := #[]
  cf := some (fileOf pool8 2 #[] #[] 1537 4 #[] #[])
  fields := #[]
  methods := #[]
  instanceTypes := #[]
  staticTypes := #[]
  resolved := Array.replicate 8 none
  statics := none }

/-- the primitive byte -/
def k9 : Class := { plain "byte" none with kind := .primitive 'B', accessFlags := 0x411 }
/-- [B -/
def k10 : Class := { plain "[B" (some 0) with kind := .array 9 .byte, interfaces := #[8, 4], accessFlags := 1041 }

/-- the primitive int -/
def k11 : Class := { plain "int" none with kind := .primitive 'I', accessFlags := 0x411 }
/-- [I -/
def k12 : Class := { plain "[I" (some 0) with kind := .array 11 .int, interfaces := #[8, 4], accessFlags := 1041 }

def heap : Heap := #[{ cls := 6, slots := #[.ref 2, .ref 3, .ref 4, .ref 5, .ref 6, .ref 7, .ref 8, .null, .null], vm := .statics 6 },
  { cls := 7, slots := #[.long 0, .int 0, .int 7, .int 0], vm := .statics 7 },
  { cls := 6, slots := #[.null, .int 0, .int 0, .int 65, .null], vm := .none },
  { cls := 6, slots := #[.null, .int 1, .int 0, .int 65, .null], vm := .none },
  { cls := 6, slots := #[.null, .int 2, .int 0, .int 65, .null], vm := .none },
  { cls := 6, slots := #[.null, .int 3, .int 0, .int 65, .null], vm := .none },
  { cls := 6, slots := #[.null, .int 4, .int 0, .int 65, .null], vm := .none },
  { cls := 6, slots := #[.null, .int 5, .int 0, .int 65, .null], vm := .none },
  { cls := 6, slots := #[.null, .int 6, .int 0, .int 65, .null], vm := .none }]
def classes : Array Class := #[k0, k1, k2, k3, k4, k5, k6, k7, k8, k9, k10, k11, k12]
def interned : List (Array UInt16 × Addr) := []
def slotsUsed : Nat := 48
def theMethod : MethodId := ⟨1, 1⟩
def args0 : Array Value := #[.long 5, .int 6]
def aboutOver (below : List Frame) : State where
  vm := { classes := classes, interned := interned.toArray }
  heap := heap
  slotsUsed := slotsUsed
  threads := #[{ frames := .invoking theMethod args0 :: below }]
def below0 : List Frame := [.native { method := ⟨0, 0⟩, args := #[] }]
def about1 : State := aboutOver below0
def p0 : Program := .bare "" "" ""
def e0 : Env := launch0.env 0 0 0
theorem w_frames : about1.frames = Frame.invoking theMethod args0 :: below0 := rfl
set_option maxRecDepth 65536 in
theorem w_args : argsFit about1.vm theMethod args0 = true := by decide +kernel
set_option maxRecDepth 65536 in
theorem w_heap : heapFits about1 = true := by decide +kernel
set_option maxRecDepth 65536 in
theorem w_runnable : about1.curStatus? = some .runnable := by decide +kernel
set_option maxRecDepth 65536 in
theorem w_alone : about1.alone = true := by decide +kernel
set_option maxRecDepth 65536 in
theorem w_named : about1.methodNamed? x = some theMethod := by decide +kernel
set_option maxRecDepth 65536 in
theorem w_hears : about1.hears theMethod below0 = true := by decide +kernel
set_option maxRecDepth 65536 in
theorem w_ripe : about1.ripe theMethod args0 below0 = true := by decide +kernel
theorem w_running : about1.status = .running := rfl
set_option maxRecDepth 65536 in
theorem w_room : about1.hasRoom e0.platform room_1 = true :=
  launch0.hasRoom_least _ room_1 (by decide +kernel) (by decide +kernel) (by decide +kernel) (by decide +kernel) (by decide +kernel) (by decide +kernel)
theorem allAtoms_all (ts : List Jvm.Cond) (a : Array Jvm.Value) (st : Jvm.State) : (allAtoms ts).before a st = ts.all (fun c => c.before a st) := by
  induction ts with
  | nil => rfl
  | cons c t ih =>
    show (Jvm.Cond.and c (allAtoms t)).before a st = _
    rw [Jvm.Cond.before_and, ih, List.all_cons]
def words1 : List Jvm.Cond := Jvm.Cond.code x code maxLocals ret :: tables_1
/-- a 'code' word, met by the world's own term for the bytes: nothing is compared byte by byte -/
theorem code_word {y : MethodName} {bytes : ByteArray} {mx : Nat} {rt : Option FieldType} {a : Array Value} {s : State} {m : MethodId} {meth : Method} {c : Code} (h1 : s.methodNamed? y = some m) (h2 : s.vm.method? m = some meth) (h3 : meth.code = some c) (h4 : c.code = bytes)
    (h5 : (c.maxLocals == mx && c.exceptionTable.isEmpty && decide (c.maxStack ≤ mostOperands) && decide (meth.sig.returnType = rt) && !meth.locks && decide (parseMethodDescriptor y.desc = some meth.sig)) = true) : (Jvm.Cond.code y bytes mx rt).before a s = true := by
  simp only [Bool.and_eq_true, beq_iff_eq, Bool.not_eq_true', decide_eq_true_eq] at h5
  obtain ⟨⟨⟨⟨⟨g1, g2⟩, g3⟩, g4⟩, g5⟩, g6⟩ := h5
  simp [Cond.before, Cond.holds, Cond.value, h1, h2, h3, h4, g1, g2, g3, g4, g5, g6]
def isCode : Jvm.Cond → Bool
  | .code _ _ _ _ => true
  | _ => false
theorem all_split {L : List Jvm.Cond} {P : Jvm.Cond → Bool} (h1 : L.all (fun c => isCode c || P c) = true) (h2 : ∀ c ∈ L.filter isCode, P c = true) : L.all P = true := by
  refine List.all_eq_true.mpr fun c hc => ?_
  have h := List.all_eq_true.mp h1 c hc
  rcases Bool.eq_false_or_eq_true (isCode c) with hi | hi
  · exact h2 c (List.mem_filter.mpr ⟨hc, hi⟩)
  · simpa [hi] using h
set_option maxRecDepth 65536 in
theorem w_c0 : (Jvm.Cond.code x code maxLocals ret).before args0 about1 = true := code_word (m := ⟨1, 1⟩) (meth := k1m1) (c := k1c1) (by decide +kernel) rfl rfl rfl (by decide +kernel)
set_option maxRecDepth 65536 in
theorem w_c1 : (Jvm.Cond.code ({ cls := "com/example/hyrarchy/hyrarchy/PathGrantsAllowsPinLaw", name := "permissionAt", desc := "(I)Lcom/example/hyrarchy/hyrarchy/Permission;" } : Jvm.MethodName) method_3_code (1 : Nat) (Option.some (Jvm.ClassFile.FieldType.object "com/example/hyrarchy/hyrarchy/Permission"))).before args0 about1 = true := code_word (m := ⟨1, 2⟩) (meth := k1m2) (c := k1c2) (by decide +kernel) rfl rfl rfl (by decide +kernel)
set_option maxRecDepth 65536 in
theorem w_c2 : (Jvm.Cond.code ({ cls := "com/example/hyrarchy/hyrarchy/PathGrantsAllowsPinLaw", name := "allowBit", desc := "(I)J" } : Jvm.MethodName) method_4_code (1 : Nat) (Option.some Jvm.ClassFile.FieldType.long)).before args0 about1 = true := code_word (m := ⟨1, 3⟩) (meth := k1m3) (c := k1c3) (by decide +kernel) rfl rfl rfl (by decide +kernel)
set_option maxRecDepth 65536 in
theorem w_c3 : (Jvm.Cond.code ({ cls := "com/example/hyrarchy/hyrarchy/PathGrants", name := "allows", desc := "(JLcom/example/hyrarchy/hyrarchy/Permission;)Z" } : Jvm.MethodName) prog_7_method_9_code (3 : Nat) (Option.some Jvm.ClassFile.FieldType.boolean)).before args0 about1 = true := code_word (m := ⟨7, 0⟩) (meth := k7m0) (c := k7c0) (by decide +kernel) rfl rfl rfl (by decide +kernel)
set_option maxRecDepth 65536 in
theorem w_c4 : (Jvm.Cond.code ({ cls := "java/lang/Enum", name := "ordinal", desc := "()I" } : Jvm.MethodName) jdk_37_method_2_code (1 : Nat) (Option.some Jvm.ClassFile.FieldType.int)).before args0 about1 = true := code_word (m := ⟨5, 0⟩) (meth := k5m0) (c := k5c0) (by decide +kernel) rfl rfl rfl (by decide +kernel)
def codes1 : List Jvm.Cond := [Jvm.Cond.code x code maxLocals ret, Jvm.Cond.code ({ cls := "com/example/hyrarchy/hyrarchy/PathGrantsAllowsPinLaw", name := "permissionAt", desc := "(I)Lcom/example/hyrarchy/hyrarchy/Permission;" } : Jvm.MethodName) method_3_code (1 : Nat) (Option.some (Jvm.ClassFile.FieldType.object "com/example/hyrarchy/hyrarchy/Permission")), Jvm.Cond.code ({ cls := "com/example/hyrarchy/hyrarchy/PathGrantsAllowsPinLaw", name := "allowBit", desc := "(I)J" } : Jvm.MethodName) method_4_code (1 : Nat) (Option.some Jvm.ClassFile.FieldType.long), Jvm.Cond.code ({ cls := "com/example/hyrarchy/hyrarchy/PathGrants", name := "allows", desc := "(JLcom/example/hyrarchy/hyrarchy/Permission;)Z" } : Jvm.MethodName) prog_7_method_9_code (3 : Nat) (Option.some Jvm.ClassFile.FieldType.boolean), Jvm.Cond.code ({ cls := "java/lang/Enum", name := "ordinal", desc := "()I" } : Jvm.MethodName) jdk_37_method_2_code (1 : Nat) (Option.some Jvm.ClassFile.FieldType.int)]
set_option maxRecDepth 65536 in
theorem codes_eq : words1.filter isCode = codes1 := rfl
theorem w_codes : ∀ c ∈ words1.filter isCode, c.before args0 about1 = true := by
  rw [codes_eq]
  intro c hc
  simp only [codes1, List.mem_cons, List.not_mem_nil, or_false] at hc
  rcases hc with rfl | rfl | rfl | rfl | rfl
  · exact w_c0
  · exact w_c1
  · exact w_c2
  · exact w_c3
  · exact w_c4
set_option maxRecDepth 65536 in
theorem w_t1 : (words1.take 24).all (fun c => isCode c || c.before args0 about1) = true := by decide +kernel
set_option maxRecDepth 65536 in
theorem w_t2 : (words1.drop 24).all (fun c => isCode c || c.before args0 about1) = true := by decide +kernel
theorem w_tables : (allAtoms (Jvm.Cond.code x code maxLocals ret :: tables_1)).before args0 about1 = true := by
  rw [allAtoms_all]
  show words1.all (fun c => c.before args0 about1) = true
  refine all_split ?_ w_codes
  rw [← List.take_append_drop 24 words1, List.all_append, w_t1, w_t2]
  rfl
set_option maxRecDepth 65536 in
theorem w_case : (Jvm.Cond.and given_1 narrow_1).before args0 about1 = true := by decide +kernel
theorem w_applies : (headSpec (Jvm.Cond.code x code maxLocals ret :: tables_1) room_1).applies x e0.platform about1 = true :=
  (Spec.applies_iff w_frames).mpr ⟨w_running, w_runnable, w_alone, w_named, w_hears, w_ripe, w_room, w_tables⟩
theorem atStart : AtStart classFile x code maxLocals ret World_1 tables_1 room_1 Calls_1 rest_1 Pre_1 launch0 p0 e0 about1 theMethod args0 below0 :=
  ⟨lists_1, trivial, launch0.admits_env _ _ _, launch0.least_env, fairChoices_fair.cas, fairChoices_fair.clock, w_frames, w_args, w_heap, w_applies, trivial, trivial, w_case⟩
end start1
theorem witness_1 : WitnessClaimed_1 := ⟨start1.p0, start1.e0, start1.about1, start1.theMethod, start1.args0, start1.below0, start1.atStart⟩
end Jvm.Pilot.@@N@@
