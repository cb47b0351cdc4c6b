import JvmDerived
import JvmDerived.Pilot.@@N@@Statement
import JvmDerived.Pilot.@@N@@Code
set_option linter.unusedVariables false
set_option linter.unusedSimpArgs false
namespace Jvm.RoadKit
open Sem ClassFile Op Lib Jvm.Stand Jvm.Free Jvm.LawKit
section New
variable {p : Program} {l : Launch} {e : Env} {R : Room} {s : State} {m : MethodId} {args : Array Value} {below : List Frame} {meth : Method} {c : Code} {T : State} {locs : List Loc} {cells slots : Nat}
theorem retI (X : Stand p l e R s m args below meth c T locs cells slots) (hx : p.tables.exec = Jvm.exec) {pc : Nat} {Ls : Array Slot} {z : Int32} {rest : List Value} (hret : meth.sig.returnType = some .int) (hd : decode c.code pc = .ok (.ireturn, 1)) {fs : List Frame}
    (hl : ∀ (f : JFrame) (acts : List Action), f.method = m → f.locked = none → f.entered = [] → (doReturn e (T.setTop f) acts (some (.int z))).1 = T.setFrames fs) : Steps p.tables e below (T.setTop (mkF m pc Ls (.int z :: rest))) (T.setFrames fs) :=
  retOut X hx hret rfl (Or.inl ⟨rfl, Or.inl rfl, z, rfl⟩) hd hl
theorem own_retJ (X : Stand p l e R s m args below meth c T locs cells slots) (hx : p.tables.exec = Jvm.exec) {pc : Nat} {Ls : Array Slot} {z : Int64} {rest : List Value} (hret : meth.sig.returnType = some .long) (hd : decode c.code pc = .ok (.lreturn, 1)) {fs : List Frame}
    (hl : ∀ (f : JFrame) (acts : List Action), f.method = m → f.locked = none → f.entered = [] → (doReturn e (T.setTop f) acts (some (.long z))).1 = T.setFrames fs) : Steps p.tables e below (T.setTop (mkF m pc Ls (.long z :: rest))) (T.setFrames fs) :=
  retOut X hx hret rfl (Or.inr (Or.inl ⟨rfl, rfl, z, rfl⟩)) hd hl
theorem own_retA (X : Stand p l e R s m args below meth c T locs cells slots) (hx : p.tables.exec = Jvm.exec) {pc : Nat} {Ls : Array Slot} {w : Value} {t : FieldType} {rest : List Value} (hret : meth.sig.returnType = some t) (ht : t.isReference = true) (hw : w.isRef = true) (hd : decode c.code pc = .ok (.areturn, 1)) {fs : List Frame}
    (hl : ∀ (f : JFrame) (acts : List Action), f.method = m → f.locked = none → f.entered = [] → (doReturn e (T.setTop f) acts (some w)).1 = T.setFrames fs) : Steps p.tables e below (T.setTop (mkF m pc Ls (w :: rest))) (T.setFrames fs) :=
  retOut X hx hret (by cases t <;> first | rfl | cases ht) (Or.inr (Or.inr (Or.inr (Or.inr ⟨rfl, ht, hw⟩)))) hd hl
end New
end Jvm.RoadKit
namespace Jvm.Pilot.@@N@@
open Jvm Jvm.ClassFile Sem Op Lib Jvm.Free Jvm.Stand Jvm.LawKit Jvm.RoadKit Bundle Jvm.Pilot.@@N@@.Jvm.D
abbrev own_Go (tb : Tables) (e : Env) (below : List Frame) (S0 S1 : State) : Prop := ∀ t, Steps tb e below S1 t → Steps tb e below S0 t
theorem own_eqI {args : Array Value} {s : State} {t : Term} {k : Int32} (h : (Jvm.Cond.eq t (.int k)).value args s none s [] = some true) : t.eval args s none [] s = some (.int k) := by
  obtain ⟨x, y, e1, e2, -, -⟩ := cmp_v (Or.inl h)
  obtain rfl : y = .int k := (Option.some.inj e2).symm
  cases x <;> simp [Cond.value, e1, Term.eval] at h <;> simp_all
theorem own_eqL {args : Array Value} {s : State} {t : Term} {k : Int64} (h : (Jvm.Cond.eq t (.long k)).value args s none s [] = some true) : t.eval args s none [] s = some (.long k) := by
  obtain ⟨x, y, e1, e2, -, -⟩ := cmp_v (Or.inl h)
  obtain rfl : y = .long k := (Option.some.inj e2).symm
  cases x <;> simp [Cond.value, e1, Term.eval] at h <;> simp_all
theorem own_nar0 : nar .boolean (0 : Int32) = 0 := by decide
theorem own_nar1 : nar .boolean (1 : Int32) = 1 := by decide
theorem own_nar_ite {P : Prop} [Decidable P] {a b : Int32} (ha : nar .boolean a = a) (hb : nar .boolean b = b) : nar .boolean (if P then a else b) = if P then a else b := by split <;> assumption
theorem own_fld {args : Array Value} {s : State} {t : Term} {a : Addr} {C n d : String} {v : Value} (ht : t.eval args s none [] s = some (.ref a)) (h : (Term.field t C n d).eval args s none [] s = some v) : Fld s s.heap a C n d v :=
  Fld.start (by rw [← fld_at (args := args) (first := s) (o := none) (idx := []) ht]; exact h)


def own_pick (k : Int32) (a0 a1 a2 a3 a4 a5 a6 : Addr) : Addr := if k = 0 then a0 else if k = 1 then a1 else if k = 2 then a2 else if k = 3 then a3 else if k = 4 then a4 else if k = 5 then a5 else a6
theorem own_pickE {P : Addr → Prop} {k : Int32} {a0 a1 a2 a3 a4 a5 a6 : Addr} (h0 : P a0) (h1 : P a1) (h2 : P a2) (h3 : P a3) (h4 : P a4) (h5 : P a5) (h6 : P a6) : P (own_pick k a0 a1 a2 a3 a4 a5 a6) := by
  unfold own_pick
  repeat' split
  all_goals assumption
theorem own_seven {k : Int32} (h : 0 ≤ k.toInt ∧ k.toInt < 7) : k = 0 ∨ k = 1 ∨ k = 2 ∨ k = 3 ∨ k = 4 ∨ k = 5 ∨ k = 6 := by
  have e0 : (0 : Int32).toInt = 0 := by decide
  have e1 : (1 : Int32).toInt = 1 := by decide
  have e2 : (2 : Int32).toInt = 2 := by decide
  have e3 : (3 : Int32).toInt = 3 := by decide
  have e4 : (4 : Int32).toInt = 4 := by decide
  have e5 : (5 : Int32).toInt = 5 := by decide
  have e6 : (6 : Int32).toInt = 6 := by decide
  simp only [← Int32.toInt_inj, e0, e1, e2, e3, e4, e5, e6]
  omega
theorem own_pickF {F : Addr → Int32 → Prop} {k : Int32} {a0 a1 a2 a3 a4 a5 a6 : Addr} (hk : 0 ≤ k.toInt ∧ k.toInt < 7) (h0 : F a0 0) (h1 : F a1 1) (h2 : F a2 2) (h3 : F a3 3) (h4 : F a4 4) (h5 : F a5 5) (h6 : F a6 6) : F (own_pick k a0 a1 a2 a3 a4 a5 a6) k := by
  rcases own_seven hk with rfl | rfl | rfl | rfl | rfl | rfl | rfl <;> assumption
theorem own_k7 (p : Int32) : 0 ≤ ((p &&& (2147483647 : Int32)) % (7 : Int32)).toInt ∧ ((p &&& (2147483647 : Int32)) % (7 : Int32)).toInt < 7 := by
  have h1 := c_and p 2147483647 (by decide)
  have h2 := (c_irem (p &&& (2147483647 : Int32)) 7 7 (by decide)).1 h1.1
  rw [h2]; omega
def own_men (q : Int64) (k : Int32) : Int32 := if ((q.toUInt64 >>> (k &&& 0x3f).toInt64.toUInt64).toInt64 &&& (1 : Int64)) = (0 : Int64) then (0 : Int32) else (1 : Int32)

theorem own_b64 (q : Int64) (n : Nat) (m : Int64) (hm : m.toBitVec = BitVec.twoPow 64 n) : (q &&& m) = 0 ↔ q.toBitVec.getLsbD n = false := by
  rw [← Int64.toBitVec_inj, Int64.toBitVec_and, hm, BitVec.and_twoPow]
  by_cases h : q.toBitVec.getLsbD n = true
  · have hn : n < 64 := by
      apply Classical.byContradiction; intro c
      rw [BitVec.getLsbD_of_ge _ _ (by omega)] at h; cases h
    simp only [h, if_true]
    constructor
    · intro e
      have := congrArg (fun z : BitVec 64 => z.getLsbD n) e
      simp [BitVec.getLsbD_twoPow, hn] at this
    · intro e; cases e
  · simp only [Bool.not_eq_true] at h
    simp [h]
theorem own_men_bit (q : Int64) (k : Int32) (n : Nat) (hn : n < 64) (hk : (k &&& 0x3f).toInt64.toUInt64 = UInt64.ofNat n) : own_men q k = if q.toBitVec.getLsbD n then 1 else 0 := by
  have e : (((q.toUInt64 >>> (k &&& 0x3f).toInt64.toUInt64).toInt64 &&& (1 : Int64)) = (0 : Int64)) ↔ q.toBitVec.getLsbD n = false := by
    rw [own_b64 _ 0 1 (by decide), hk]
    have : (q.toUInt64 >>> UInt64.ofNat n).toInt64.toBitVec.getLsbD 0 = q.toBitVec.getLsbD n := by
      show (q.toUInt64 >>> UInt64.ofNat n).toBitVec.getLsbD 0 = _
      rw [UInt64.toBitVec_shiftRight]
      simp [BitVec.getLsbD_ushiftRight]
      show q.toBitVec.getLsbD _ = _
      congr 1
      omega
    rw [this]
  unfold own_men
  by_cases h : q.toBitVec.getLsbD n = true
  · rw [if_neg (by rw [e, h]; simp), if_pos h]
  · simp only [Bool.not_eq_true] at h
    rw [if_pos (e.mpr h), if_neg (by rw [h]; simp)]
theorem own_one_shl (j : Int32) (n : Nat) (hj : j.toBitVec.toNat % 64 = n) : ((1 : Int64) <<< (j &&& 0x3f).toInt64).toBitVec = BitVec.twoPow 64 n := by
  obtain ⟨h1, h2⟩ := sm64 j n hj
  rw [Int64.toBitVec_shiftLeft, h1, BitVec.shiftLeft_eq', smod64 n h2]
  rfl
theorem own_set64 (q m : Int64) (n : Nat) (hn : n < 64) (hm : m.toBitVec = BitVec.twoPow 64 n) : (q ||| m).toBitVec.getLsbD n = true := by
  rw [Int64.toBitVec_or, BitVec.getLsbD_or, hm, BitVec.getLsbD_twoPow]; simp [hn]
theorem own_clr64 (q m : Int64) (n : Nat) (hn : n < 64) (hm : m.toBitVec = BitVec.twoPow 64 n) : (q &&& (m ^^^ (-1 : Int64))).toBitVec.getLsbD n = false := by
  have e : (-1 : Int64).toBitVec = BitVec.allOnes 64 := by decide
  rw [Int64.toBitVec_and, Int64.toBitVec_xor, BitVec.getLsbD_and, BitVec.getLsbD_xor, hm, e, BitVec.getLsbD_twoPow, BitVec.getLsbD_allOnes]; simp [hn]
theorem own_flip64 (q m : Int64) (n n' : Nat) (hne : n' ≠ n) (hm : m.toBitVec = BitVec.twoPow 64 n') : (q ^^^ m).toBitVec.getLsbD n = q.toBitVec.getLsbD n := by
  rw [Int64.toBitVec_xor, BitVec.getLsbD_xor, hm, BitVec.getLsbD_twoPow]; simp [hne]
theorem own_k64 {k : Int32} (hk : 0 ≤ k.toInt ∧ k.toInt < 7) : ∃ n, n < 64 ∧ (k &&& 0x3f).toInt64.toUInt64 = UInt64.ofNat n ∧ k.toBitVec.toNat % 64 = n := by
  rcases own_seven hk with rfl | rfl | rfl | rfl | rfl | rfl | rfl
  · exact ⟨0, by decide, by decide, by decide⟩
  · exact ⟨1, by decide, by decide, by decide⟩
  · exact ⟨2, by decide, by decide, by decide⟩
  · exact ⟨3, by decide, by decide, by decide⟩
  · exact ⟨4, by decide, by decide, by decide⟩
  · exact ⟨5, by decide, by decide, by decide⟩
  · exact ⟨6, by decide, by decide, by decide⟩
theorem own_m_set (q : Int64) {k : Int32} (hk : 0 ≤ k.toInt ∧ k.toInt < 7) : ¬ (own_men (q ||| ((1 : Int64) <<< (k &&& 0x3f).toInt64)) k = (0 : Int32)) := by
  obtain ⟨n, hn, h1, h2⟩ := own_k64 hk
  rw [own_men_bit _ _ n hn h1, own_set64 _ _ n hn (own_one_shl k n h2)]; decide
theorem own_m_clr (q : Int64) {k : Int32} (hk : 0 ≤ k.toInt ∧ k.toInt < 7) : own_men (q &&& (((1 : Int64) <<< (k &&& 0x3f).toInt64) ^^^ (-1 : Int64))) k = (0 : Int32) := by
  obtain ⟨n, hn, h1, h2⟩ := own_k64 hk
  rw [own_men_bit _ _ n hn h1, own_clr64 _ _ n hn (own_one_shl k n h2)]; decide
theorem own_m_flip (q : Int64) {k : Int32} (hk : 0 ≤ k.toInt ∧ k.toInt < 7) {j : Int32} (p : Int32) (hj : j = p &&& (63 : Int32)) : own_men (q ^^^ (if j = k then (0 : Int64) else ((1 : Int64) <<< (j &&& 0x3f).toInt64))) k = own_men q k := by
  obtain ⟨n, hn, h1, h2⟩ := own_k64 hk
  rw [own_men_bit _ _ n hn h1, own_men_bit _ _ n hn h1]
  by_cases e : j = k
  · rw [if_pos e, Int64.xor_zero]
  · rw [if_neg e]
    have hm := c_mask p 63 6 (by decide) (by decide)
    rw [← hj] at hm
    have hb : j.toBitVec.toNat < 64 := by
      have h0 : 0 ≤ j.toInt := by omega
      have h64 : j.toInt < 64 := by omega
      have : j.toInt = j.toBitVec.toInt := rfl
      rw [this, BitVec.toInt_eq_toNat_cond] at h0 h64
      split at h0 <;> omega
    have hkb : k.toBitVec.toNat < 64 := by rcases own_seven hk with rfl | rfl | rfl | rfl | rfl | rfl | rfl <;> decide
    rw [own_flip64 q _ n (j.toBitVec.toNat % 64) (fun c => e ?_) (own_one_shl j _ rfl)]
    apply Int32.toBitVec_inj.mp
    apply BitVec.eq_of_toNat_eq
    omega
theorem own_m_exp (q : Int64) {k : Int32} (hk : 0 ≤ k.toInt ∧ k.toInt < 7) : own_men q k = (if (q &&& ((1 : Int64) <<< (k &&& 0x3f).toInt64)) = (0 : Int64) then (0 : Int32) else (1 : Int32)) := by
  obtain ⟨n, hn, h1, h2⟩ := own_k64 hk
  rw [own_men_bit _ _ n hn h1]
  have e := own_b64 q n _ (own_one_shl k n h2)
  by_cases h : q.toBitVec.getLsbD n = true
  · rw [if_pos h, if_neg (by rw [e, h]; simp)]
  · simp only [Bool.not_eq_true] at h
    rw [if_neg (by rw [h]; simp), if_pos (e.mpr h)]
theorem d1_0 : decode method_2_code 0 = .ok (.iload_n 0, 1) := by decide +kernel
theorem d1_1 : decode method_2_code 1 = .ok (.ifCond .ne 7, 3) := by decide +kernel
theorem d1_4 : decode method_2_code 4 = .ok (.getstatic 7, 3) := by decide +kernel
theorem d1_7 : decode method_2_code 7 = .ok (.areturn, 1) := by decide +kernel
theorem d1_8 : decode method_2_code 8 = .ok (.iload_n 0, 1) := by decide +kernel
theorem d1_9 : decode method_2_code 9 = .ok (.iconst 1, 1) := by decide +kernel
theorem d1_10 : decode method_2_code 10 = .ok (.if_icmp .ne 7, 3) := by decide +kernel
theorem d1_13 : decode method_2_code 13 = .ok (.getstatic 13, 3) := by decide +kernel
theorem d1_16 : decode method_2_code 16 = .ok (.areturn, 1) := by decide +kernel
theorem d1_17 : decode method_2_code 17 = .ok (.iload_n 0, 1) := by decide +kernel
theorem d1_18 : decode method_2_code 18 = .ok (.iconst 2, 1) := by decide +kernel
theorem d1_19 : decode method_2_code 19 = .ok (.if_icmp .ne 7, 3) := by decide +kernel
theorem d1_22 : decode method_2_code 22 = .ok (.getstatic 16, 3) := by decide +kernel
theorem d1_25 : decode method_2_code 25 = .ok (.areturn, 1) := by decide +kernel
theorem d1_26 : decode method_2_code 26 = .ok (.iload_n 0, 1) := by decide +kernel
theorem d1_27 : decode method_2_code 27 = .ok (.iconst 3, 1) := by decide +kernel
theorem d1_28 : decode method_2_code 28 = .ok (.if_icmp .ne 7, 3) := by decide +kernel
theorem d1_31 : decode method_2_code 31 = .ok (.getstatic 19, 3) := by decide +kernel
theorem d1_34 : decode method_2_code 34 = .ok (.areturn, 1) := by decide +kernel
theorem d1_35 : decode method_2_code 35 = .ok (.iload_n 0, 1) := by decide +kernel
theorem d1_36 : decode method_2_code 36 = .ok (.iconst 4, 1) := by decide +kernel
theorem d1_37 : decode method_2_code 37 = .ok (.if_icmp .ne 7, 3) := by decide +kernel
theorem d1_40 : decode method_2_code 40 = .ok (.getstatic 22, 3) := by decide +kernel
theorem d1_43 : decode method_2_code 43 = .ok (.areturn, 1) := by decide +kernel
theorem d1_44 : decode method_2_code 44 = .ok (.iload_n 0, 1) := by decide +kernel
theorem d1_45 : decode method_2_code 45 = .ok (.iconst 5, 1) := by decide +kernel
theorem d1_46 : decode method_2_code 46 = .ok (.if_icmp .ne 7, 3) := by decide +kernel
theorem d1_49 : decode method_2_code 49 = .ok (.getstatic 25, 3) := by decide +kernel
theorem d1_52 : decode method_2_code 52 = .ok (.areturn, 1) := by decide +kernel
theorem d1_53 : decode method_2_code 53 = .ok (.getstatic 28, 3) := by decide +kernel
theorem d1_56 : decode method_2_code 56 = .ok (.areturn, 1) := by decide +kernel
theorem pn_1 : plainName "com/example/hyrarchy/hyrarchy/PathGrantsMentionsPinLaw" = true := by first | (simp [plainName, overriddenIn]; done) | decide +kernel
theorem ef_1 (m : MethodId) (p0 : Int32) : entryFrame m #[(.int p0)] 1 = mkF m 0 #[.val (.int p0)] [] := by first | (simp [entryFrame, mkF, argsToLocals, Value.category]; done) | rfl
def Q1 (Z : State) (p0 : Int32) (aC aR aU aD aE aA aL : Addr) (h0 : Heap) (v : Option Value) (h : Heap) (L : List Loc) : Prop := v = some (.ref (own_pick p0 aC aR aU aD aE aA aL)) ∧ L = [] ∧ h = h0
set_option maxRecDepth 65536 in
set_option maxHeartbeats 40000000 in
theorem rm1 (l : Launch) (Z : State) (aw : Array Value) (hw : ∀ d ∈ tables_1, d.before aw Z = true) (ws : List Jvm.Cond) (p0 : Int32) (aC aR aU aD aE aA aL : Addr) (h0 : Heap) (S_aC : Sta Z h0 "com/example/hyrarchy/hyrarchy/Permission" "CREATE" "Lcom/example/hyrarchy/hyrarchy/Permission;" (.ref aC)) (S_aR : Sta Z h0 "com/example/hyrarchy/hyrarchy/Permission" "READ" "Lcom/example/hyrarchy/hyrarchy/Permission;" (.ref aR)) (S_aU : Sta Z h0 "com/example/hyrarchy/hyrarchy/Permission" "UPDATE" "Lcom/example/hyrarchy/hyrarchy/Permission;" (.ref aU)) (S_aD : Sta Z h0 "com/example/hyrarchy/hyrarchy/Permission" "DELETE" "Lcom/example/hyrarchy/hyrarchy/Permission;" (.ref aD)) (S_aE : Sta Z h0 "com/example/hyrarchy/hyrarchy/Permission" "EXECUTE" "Lcom/example/hyrarchy/hyrarchy/Permission;" (.ref aE)) (S_aA : Sta Z h0 "com/example/hyrarchy/hyrarchy/Permission" "ALTER" "Lcom/example/hyrarchy/hyrarchy/Permission;" (.ref aA)) (S_aL : Sta Z h0 "com/example/hyrarchy/hyrarchy/Permission" "LANGUAGE" "Lcom/example/hyrarchy/hyrarchy/Permission;" (.ref aL)) :
    MetFree l (⟨"com/example/hyrarchy/hyrarchy/PathGrantsMentionsPinLaw", "perm", "(I)Lcom/example/hyrarchy/hyrarchy/Permission;"⟩ : MethodName) (head1 (Jvm.Cond.code (⟨"com/example/hyrarchy/hyrarchy/PathGrantsMentionsPinLaw", "perm", "(I)Lcom/example/hyrarchy/hyrarchy/Permission;"⟩ : MethodName) method_2_code 1 (some (.object "com/example/hyrarchy/hyrarchy/Permission")) :: ws) ({ frames := 0, cells := 0, slots := 0, locals := 0 } : Room)) (fun a U => a = #[(.int p0)] ∧ Z.Warmed39 U.vm ∧ U.heap = h0) (fun _ _ _ _ _ => True) (fun _ U o U' => ∃ v L, o = .returned v ∧ Q1 Z p0 aC aR aU aD aE aA aL h0 v U'.heap L ∧ FrameEnd U o U' L ({ frames := 0, cells := 0, slots := 0, locals := 0 } : Room).cells ({ frames := 0, cells := 0, slots := 0, locals := 0 } : Room).slots) := by
  refine MetFree.of_bodySF (plainFor_of_name pn_1) hisR ?_
  intro p e s m args below meth c s₁ Bd hml0 hP hK
  obtain ⟨rfl, hZ, hh⟩ := hP
  have hZ0 := hZ
  have hx := Bd.exec
  have hby := Bd.bytes
  have hml : c.maxLocals = 1 := hml0
  have hown : s.vm.findClass "com/example/hyrarchy/hyrarchy/PathGrantsMentionsPinLaw" = some m.cls := findClass_of_methodNamed Bd.named
  have hnm := (name_of_methodNamed Bd.named Bd.method).1
  have X0 : Stand p l e ({ frames := 0, cells := 0, slots := 0, locals := 0 } : Room) s m #[(.int p0)] below meth c s₁ [] 0 0 := Stand.of_body Bd
  have e0 : s₁.heap = h0 := by rw [← hh, Bd.state]; rfl
  have G0 : own_Go p.tables e below (s₁.setTop (entryFrame m #[(.int p0)] 1)) (s₁.setTop (mkF m 0 #[.val (.int p0)] [])) := fun t k => castTop (ef_1 m p0) k
  have G1 : own_Go p.tables e below (s₁.setTop (entryFrame m #[(.int p0)] 1)) (s₁.setTop (mkF m 1 #[.val (.int p0)] [(.int p0)])) := fun t k => G0 t (XS.iloadN X0.here hx rfl (hb hby d1_0) rfl k)
  by_cases hc2 : p0 = (0 : Int32)
  · have G3 : own_Go p.tables e below (s₁.setTop (entryFrame m #[(.int p0)] 1)) (s₁.setTop (mkF m 4 #[.val (.int p0)] [])) := fun t k => G1 t (XS.ifNo X0.here hx rfl (hb hby d1_1) rfl ((if0 _ _).trans (teq hc2).2) k)
    obtain ⟨T4, X4, e4, st4⟩ := getS2 X0 hx hZ hown (host := "") (Or.inl (hw _ (List.mem_of_getElem? (i := 28) rfl))) Via.refl e0 S_aC (g := (mkF m 4 #[.val (.int p0)] [])) rfl (hb hby d1_4)
    have G4 : own_Go p.tables e below (s₁.setTop (entryFrame m #[(.int p0)] 1)) (T4.setTop (mkF m 7 #[.val (.int p0)] [(.ref aC)])) := fun t k => G3 t (st4 t k)
    obtain ⟨fs, hr, hrun, hended, hW, hsame⟩ := X4.leave (v := some (.ref aC)) (fun h => by rw [Bd.returns] at h; cases h)
    refine ⟨_, _, G4 _ ?_, hrun, hended, _, _, rfl, ?_, ⟨_, rfl⟩, hW, hsame.mono (by decide) (by decide)⟩
    · exact own_retA X4 hx Bd.returns rfl rfl (hb hby d1_7) hr
    · show Q1 Z p0 aC aR aU aD aE aA aL h0 _ T4.heap _
      rw [e4]
      exact ⟨congrArg (fun z => some (Value.ref z)) (by simp [own_pick, hc2]), rfl, rfl⟩
  · have G6 : own_Go p.tables e below (s₁.setTop (entryFrame m #[(.int p0)] 1)) (s₁.setTop (mkF m 8 #[.val (.int p0)] [])) := fun t k => G1 t (XS.ifYes X0.here hx rfl (pc0 := 1) (pc' := 8) rfl (hb hby d1_1) rfl ((if0 _ _).trans (feq hc2).2) (by decide) (by decide) k)
    have G7 : own_Go p.tables e below (s₁.setTop (entryFrame m #[(.int p0)] 1)) (s₁.setTop (mkF m 9 #[.val (.int p0)] [(.int p0)])) := fun t k => G6 t (XS.iloadN X0.here hx rfl (hb hby d1_8) rfl k)
    have G8 : own_Go p.tables e below (s₁.setTop (entryFrame m #[(.int p0)] 1)) (s₁.setTop (mkF m 10 #[.val (.int p0)] [(.int (1 : Int32)), (.int p0)])) := fun t k => G7 t (XT.iconstV X0.here hx rfl (1 : Int32) (hb hby d1_9) (by decide) k)
    by_cases hc9 : p0 = (1 : Int32)
    · have G10 : own_Go p.tables e below (s₁.setTop (entryFrame m #[(.int p0)] 1)) (s₁.setTop (mkF m 13 #[.val (.int p0)] [])) := fun t k => G8 t (XS.icmpNo X0.here hx rfl (hb hby d1_10) rfl (teq hc9).2 k)
      obtain ⟨T11, X11, e11, st11⟩ := getS2 X0 hx hZ hown (host := "") (Or.inl (hw _ (List.mem_of_getElem? (i := 24) rfl))) Via.refl e0 S_aR (g := (mkF m 13 #[.val (.int p0)] [])) rfl (hb hby d1_13)
      have G11 : own_Go p.tables e below (s₁.setTop (entryFrame m #[(.int p0)] 1)) (T11.setTop (mkF m 16 #[.val (.int p0)] [(.ref aR)])) := fun t k => G10 t (st11 t k)
      obtain ⟨fs, hr, hrun, hended, hW, hsame⟩ := X11.leave (v := some (.ref aR)) (fun h => by rw [Bd.returns] at h; cases h)
      refine ⟨_, _, G11 _ ?_, hrun, hended, _, _, rfl, ?_, ⟨_, rfl⟩, hW, hsame.mono (by decide) (by decide)⟩
      · exact own_retA X11 hx Bd.returns rfl rfl (hb hby d1_16) hr
      · show Q1 Z p0 aC aR aU aD aE aA aL h0 _ T11.heap _
        rw [e11]
        exact ⟨congrArg (fun z => some (Value.ref z)) (by simp [own_pick, hc2, hc9]), rfl, rfl⟩
    · have G13 : own_Go p.tables e below (s₁.setTop (entryFrame m #[(.int p0)] 1)) (s₁.setTop (mkF m 17 #[.val (.int p0)] [])) := fun t k => G8 t (XS.icmpYes X0.here hx rfl (pc0 := 10) (pc' := 17) rfl (hb hby d1_10) rfl (feq hc9).2 (by decide) (by decide) k)
      have G14 : own_Go p.tables e below (s₁.setTop (entryFrame m #[(.int p0)] 1)) (s₁.setTop (mkF m 18 #[.val (.int p0)] [(.int p0)])) := fun t k => G13 t (XS.iloadN X0.here hx rfl (hb hby d1_17) rfl k)
      have G15 : own_Go p.tables e below (s₁.setTop (entryFrame m #[(.int p0)] 1)) (s₁.setTop (mkF m 19 #[.val (.int p0)] [(.int (2 : Int32)), (.int p0)])) := fun t k => G14 t (XT.iconstV X0.here hx rfl (2 : Int32) (hb hby d1_18) (by decide) k)
      by_cases hc16 : p0 = (2 : Int32)
      · have G17 : own_Go p.tables e below (s₁.setTop (entryFrame m #[(.int p0)] 1)) (s₁.setTop (mkF m 22 #[.val (.int p0)] [])) := fun t k => G15 t (XS.icmpNo X0.here hx rfl (hb hby d1_19) rfl (teq hc16).2 k)
        obtain ⟨T18, X18, e18, st18⟩ := getS2 X0 hx hZ hown (host := "") (Or.inl (hw _ (List.mem_of_getElem? (i := 5) rfl))) Via.refl e0 S_aU (g := (mkF m 22 #[.val (.int p0)] [])) rfl (hb hby d1_22)
        have G18 : own_Go p.tables e below (s₁.setTop (entryFrame m #[(.int p0)] 1)) (T18.setTop (mkF m 25 #[.val (.int p0)] [(.ref aU)])) := fun t k => G17 t (st18 t k)
        obtain ⟨fs, hr, hrun, hended, hW, hsame⟩ := X18.leave (v := some (.ref aU)) (fun h => by rw [Bd.returns] at h; cases h)
        refine ⟨_, _, G18 _ ?_, hrun, hended, _, _, rfl, ?_, ⟨_, rfl⟩, hW, hsame.mono (by decide) (by decide)⟩
        · exact own_retA X18 hx Bd.returns rfl rfl (hb hby d1_25) hr
        · show Q1 Z p0 aC aR aU aD aE aA aL h0 _ T18.heap _
          rw [e18]
          exact ⟨congrArg (fun z => some (Value.ref z)) (by simp [own_pick, hc2, hc9, hc16]), rfl, rfl⟩
      · have G20 : own_Go p.tables e below (s₁.setTop (entryFrame m #[(.int p0)] 1)) (s₁.setTop (mkF m 26 #[.val (.int p0)] [])) := fun t k => G15 t (XS.icmpYes X0.here hx rfl (pc0 := 19) (pc' := 26) rfl (hb hby d1_19) rfl (feq hc16).2 (by decide) (by decide) k)
        have G21 : own_Go p.tables e below (s₁.setTop (entryFrame m #[(.int p0)] 1)) (s₁.setTop (mkF m 27 #[.val (.int p0)] [(.int p0)])) := fun t k => G20 t (XS.iloadN X0.here hx rfl (hb hby d1_26) rfl k)
        have G22 : own_Go p.tables e below (s₁.setTop (entryFrame m #[(.int p0)] 1)) (s₁.setTop (mkF m 28 #[.val (.int p0)] [(.int (3 : Int32)), (.int p0)])) := fun t k => G21 t (XT.iconstV X0.here hx rfl (3 : Int32) (hb hby d1_27) (by decide) k)
        by_cases hc23 : p0 = (3 : Int32)
        · have G24 : own_Go p.tables e below (s₁.setTop (entryFrame m #[(.int p0)] 1)) (s₁.setTop (mkF m 31 #[.val (.int p0)] [])) := fun t k => G22 t (XS.icmpNo X0.here hx rfl (hb hby d1_28) rfl (teq hc23).2 k)
          obtain ⟨T25, X25, e25, st25⟩ := getS2 X0 hx hZ hown (host := "") (Or.inl (hw _ (List.mem_of_getElem? (i := 22) rfl))) Via.refl e0 S_aD (g := (mkF m 31 #[.val (.int p0)] [])) rfl (hb hby d1_31)
          have G25 : own_Go p.tables e below (s₁.setTop (entryFrame m #[(.int p0)] 1)) (T25.setTop (mkF m 34 #[.val (.int p0)] [(.ref aD)])) := fun t k => G24 t (st25 t k)
          obtain ⟨fs, hr, hrun, hended, hW, hsame⟩ := X25.leave (v := some (.ref aD)) (fun h => by rw [Bd.returns] at h; cases h)
          refine ⟨_, _, G25 _ ?_, hrun, hended, _, _, rfl, ?_, ⟨_, rfl⟩, hW, hsame.mono (by decide) (by decide)⟩
          · exact own_retA X25 hx Bd.returns rfl rfl (hb hby d1_34) hr
          · show Q1 Z p0 aC aR aU aD aE aA aL h0 _ T25.heap _
            rw [e25]
            exact ⟨congrArg (fun z => some (Value.ref z)) (by simp [own_pick, hc2, hc9, hc16, hc23]), rfl, rfl⟩
        · have G27 : own_Go p.tables e below (s₁.setTop (entryFrame m #[(.int p0)] 1)) (s₁.setTop (mkF m 35 #[.val (.int p0)] [])) := fun t k => G22 t (XS.icmpYes X0.here hx rfl (pc0 := 28) (pc' := 35) rfl (hb hby d1_28) rfl (feq hc23).2 (by decide) (by decide) k)
          have G28 : own_Go p.tables e below (s₁.setTop (entryFrame m #[(.int p0)] 1)) (s₁.setTop (mkF m 36 #[.val (.int p0)] [(.int p0)])) := fun t k => G27 t (XS.iloadN X0.here hx rfl (hb hby d1_35) rfl k)
          have G29 : own_Go p.tables e below (s₁.setTop (entryFrame m #[(.int p0)] 1)) (s₁.setTop (mkF m 37 #[.val (.int p0)] [(.int (4 : Int32)), (.int p0)])) := fun t k => G28 t (XT.iconstV X0.here hx rfl (4 : Int32) (hb hby d1_36) (by decide) k)
          by_cases hc30 : p0 = (4 : Int32)
          · have G31 : own_Go p.tables e below (s₁.setTop (entryFrame m #[(.int p0)] 1)) (s₁.setTop (mkF m 40 #[.val (.int p0)] [])) := fun t k => G29 t (XS.icmpNo X0.here hx rfl (hb hby d1_37) rfl (teq hc30).2 k)
            obtain ⟨T32, X32, e32, st32⟩ := getS2 X0 hx hZ hown (host := "") (Or.inl (hw _ (List.mem_of_getElem? (i := 30) rfl))) Via.refl e0 S_aE (g := (mkF m 40 #[.val (.int p0)] [])) rfl (hb hby d1_40)
            have G32 : own_Go p.tables e below (s₁.setTop (entryFrame m #[(.int p0)] 1)) (T32.setTop (mkF m 43 #[.val (.int p0)] [(.ref aE)])) := fun t k => G31 t (st32 t k)
            obtain ⟨fs, hr, hrun, hended, hW, hsame⟩ := X32.leave (v := some (.ref aE)) (fun h => by rw [Bd.returns] at h; cases h)
            refine ⟨_, _, G32 _ ?_, hrun, hended, _, _, rfl, ?_, ⟨_, rfl⟩, hW, hsame.mono (by decide) (by decide)⟩
            · exact own_retA X32 hx Bd.returns rfl rfl (hb hby d1_43) hr
            · show Q1 Z p0 aC aR aU aD aE aA aL h0 _ T32.heap _
              rw [e32]
              exact ⟨congrArg (fun z => some (Value.ref z)) (by simp [own_pick, hc2, hc9, hc16, hc23, hc30]), rfl, rfl⟩
          · have G34 : own_Go p.tables e below (s₁.setTop (entryFrame m #[(.int p0)] 1)) (s₁.setTop (mkF m 44 #[.val (.int p0)] [])) := fun t k => G29 t (XS.icmpYes X0.here hx rfl (pc0 := 37) (pc' := 44) rfl (hb hby d1_37) rfl (feq hc30).2 (by decide) (by decide) k)
            have G35 : own_Go p.tables e below (s₁.setTop (entryFrame m #[(.int p0)] 1)) (s₁.setTop (mkF m 45 #[.val (.int p0)] [(.int p0)])) := fun t k => G34 t (XS.iloadN X0.here hx rfl (hb hby d1_44) rfl k)
            have G36 : own_Go p.tables e below (s₁.setTop (entryFrame m #[(.int p0)] 1)) (s₁.setTop (mkF m 46 #[.val (.int p0)] [(.int (5 : Int32)), (.int p0)])) := fun t k => G35 t (XT.iconstV X0.here hx rfl (5 : Int32) (hb hby d1_45) (by decide) k)
            by_cases hc37 : p0 = (5 : Int32)
            · have G38 : own_Go p.tables e below (s₁.setTop (entryFrame m #[(.int p0)] 1)) (s₁.setTop (mkF m 49 #[.val (.int p0)] [])) := fun t k => G36 t (XS.icmpNo X0.here hx rfl (hb hby d1_46) rfl (teq hc37).2 k)
              obtain ⟨T39, X39, e39, st39⟩ := getS2 X0 hx hZ hown (host := "") (Or.inl (hw _ (List.mem_of_getElem? (i := 32) rfl))) Via.refl e0 S_aA (g := (mkF m 49 #[.val (.int p0)] [])) rfl (hb hby d1_49)
              have G39 : own_Go p.tables e below (s₁.setTop (entryFrame m #[(.int p0)] 1)) (T39.setTop (mkF m 52 #[.val (.int p0)] [(.ref aA)])) := fun t k => G38 t (st39 t k)
              obtain ⟨fs, hr, hrun, hended, hW, hsame⟩ := X39.leave (v := some (.ref aA)) (fun h => by rw [Bd.returns] at h; cases h)
              refine ⟨_, _, G39 _ ?_, hrun, hended, _, _, rfl, ?_, ⟨_, rfl⟩, hW, hsame.mono (by decide) (by decide)⟩
              · exact own_retA X39 hx Bd.returns rfl rfl (hb hby d1_52) hr
              · show Q1 Z p0 aC aR aU aD aE aA aL h0 _ T39.heap _
                rw [e39]
                exact ⟨congrArg (fun z => some (Value.ref z)) (by simp [own_pick, hc2, hc9, hc16, hc23, hc30, hc37]), rfl, rfl⟩
            · have G41 : own_Go p.tables e below (s₁.setTop (entryFrame m #[(.int p0)] 1)) (s₁.setTop (mkF m 53 #[.val (.int p0)] [])) := fun t k => G36 t (XS.icmpYes X0.here hx rfl (pc0 := 46) (pc' := 53) rfl (hb hby d1_46) rfl (feq hc37).2 (by decide) (by decide) k)
              obtain ⟨T42, X42, e42, st42⟩ := getS2 X0 hx hZ hown (host := "") (Or.inl (hw _ (List.mem_of_getElem? (i := 26) rfl))) Via.refl e0 S_aL (g := (mkF m 53 #[.val (.int p0)] [])) rfl (hb hby d1_53)
              have G42 : own_Go p.tables e below (s₁.setTop (entryFrame m #[(.int p0)] 1)) (T42.setTop (mkF m 56 #[.val (.int p0)] [(.ref aL)])) := fun t k => G41 t (st42 t k)
              obtain ⟨fs, hr, hrun, hended, hW, hsame⟩ := X42.leave (v := some (.ref aL)) (fun h => by rw [Bd.returns] at h; cases h)
              refine ⟨_, _, G42 _ ?_, hrun, hended, _, _, rfl, ?_, ⟨_, rfl⟩, hW, hsame.mono (by decide) (by decide)⟩
              · exact own_retA X42 hx Bd.returns rfl rfl (hb hby d1_56) hr
              · show Q1 Z p0 aC aR aU aD aE aA aL h0 _ T42.heap _
                rw [e42]
                exact ⟨congrArg (fun z => some (Value.ref z)) (by simp [own_pick, hc2, hc9, hc16, hc23, hc30, hc37]), rfl, rfl⟩
theorem d3_0 : decode jdk_37_method_2_code 0 = .ok (.aload_n 0, 1) := by decide +kernel
theorem d3_1 : decode jdk_37_method_2_code 1 = .ok (.getfield 7, 3) := by decide +kernel
theorem d3_4 : decode jdk_37_method_2_code 4 = .ok (.ireturn, 1) := by decide +kernel
theorem pn_3 : plainName "java/lang/Enum" = true := by first | (simp [plainName, overriddenIn]; done) | decide +kernel
theorem ef_3 (m : MethodId) (a0 : Addr) : entryFrame m #[(.ref a0)] 1 = mkF m 0 #[.val (.ref a0)] [] := by first | (simp [entryFrame, mkF, argsToLocals, Value.category]; done) | rfl
def Q3 (Z : State) (a0 : Addr) (oo : Int32) (h0 : Heap) (v : Option Value) (h : Heap) (L : List Loc) : Prop := v = some (.int oo) ∧ L = [] ∧ h = h0
set_option maxRecDepth 65536 in
set_option maxHeartbeats 40000000 in
theorem rm3 (l : Launch) (Z : State) (aw : Array Value) (hw : ∀ d ∈ tables_1, d.before aw Z = true) (ws : List Jvm.Cond) (a0 : Addr) (oo : Int32) (h0 : Heap) (F_o : Fld Z h0 a0 "java/lang/Enum" "ordinal" "I" (.int oo)) :
    MetFree l (⟨"java/lang/Enum", "ordinal", "()I"⟩ : MethodName) (head1 (Jvm.Cond.code (⟨"java/lang/Enum", "ordinal", "()I"⟩ : MethodName) jdk_37_method_2_code 1 (some .int) :: ws) ({ frames := 0, cells := 0, slots := 0, locals := 0 } : Room)) (fun a U => a = #[(.ref a0)] ∧ Z.Warmed39 U.vm ∧ U.heap = h0) (fun _ _ _ _ _ => True) (fun _ U o U' => ∃ v L, o = .returned v ∧ Q3 Z a0 oo h0 v U'.heap L ∧ FrameEnd U o U' L ({ frames := 0, cells := 0, slots := 0, locals := 0 } : Room).cells ({ frames := 0, cells := 0, slots := 0, locals := 0 } : Room).slots) := by
  refine MetFree.of_bodySF (plainFor_of_name pn_3) hisR ?_
  intro p e s m args below meth c s₁ Bd hml0 hP hK
  obtain ⟨rfl, hZ, hh⟩ := hP
  have hZ0 := hZ
  have hx := Bd.exec
  have hby := Bd.bytes
  have hml : c.maxLocals = 1 := hml0
  have hown : s.vm.findClass "java/lang/Enum" = some m.cls := findClass_of_methodNamed Bd.named
  have hnm := (name_of_methodNamed Bd.named Bd.method).1
  have X0 : Stand p l e ({ frames := 0, cells := 0, slots := 0, locals := 0 } : Room) s m #[(.ref a0)] below meth c s₁ [] 0 0 := Stand.of_body Bd
  have e0 : s₁.heap = h0 := by rw [← hh, Bd.state]; rfl
  have G0 : own_Go p.tables e below (s₁.setTop (entryFrame m #[(.ref a0)] 1)) (s₁.setTop (mkF m 0 #[.val (.ref a0)] [])) := fun t k => castTop (ef_3 m a0) k
  have G1 : own_Go p.tables e below (s₁.setTop (entryFrame m #[(.ref a0)] 1)) (s₁.setTop (mkF m 1 #[.val (.ref a0)] [(.ref a0)])) := fun t k => G0 t (XS.aloadN X0.here hx rfl (hb hby d3_0) rfl rfl k)
  obtain ⟨T2, X2, e2, st2⟩ := getF X0 hx hZ hown (host := "") (Or.inl (hw _ (List.mem_of_getElem? (i := 19) rfl))) Via.refl e0 F_o (g := (mkF m 1 #[.val (.ref a0)] [(.ref a0)])) rfl rfl (hb hby d3_1)
  have G2 : own_Go p.tables e below (s₁.setTop (entryFrame m #[(.ref a0)] 1)) (T2.setTop (mkF m 4 #[.val (.ref a0)] [(.int oo)])) := fun t k => G1 t (st2 t k)
  obtain ⟨fs, hr, hrun, hended, hW, hsame⟩ := X2.leave (v := some (.int oo)) (fun h => by rw [Bd.returns] at h; cases h)
  refine ⟨_, _, G2 _ ?_, hrun, hended, _, _, rfl, ?_, ⟨_, rfl⟩, hW, hsame.mono (by decide) (by decide)⟩
  · exact retI X2 hx Bd.returns (hb hby d3_4) hr
  · show Q3 Z a0 oo h0 _ T2.heap _
    rw [e2]
    exact ⟨rfl, rfl, rfl⟩
theorem d2_0 : decode prog_7_method_8_code 0 = .ok (.lload_n 0, 1) := by decide +kernel
theorem d2_1 : decode prog_7_method_8_code 1 = .ok (.aload_n 2, 1) := by decide +kernel
theorem d2_2 : decode prog_7_method_8_code 2 = .ok (.invokevirtual 63, 3) := by decide +kernel
theorem d2_5 : decode prog_7_method_8_code 5 = .ok (.lushr, 1) := by decide +kernel
theorem d2_6 : decode prog_7_method_8_code 6 = .ok (.lconst 1, 1) := by decide +kernel
theorem d2_7 : decode prog_7_method_8_code 7 = .ok (.land, 1) := by decide +kernel
theorem d2_8 : decode prog_7_method_8_code 8 = .ok (.lconst 0, 1) := by decide +kernel
theorem d2_9 : decode prog_7_method_8_code 9 = .ok (.lcmp, 1) := by decide +kernel
theorem d2_10 : decode prog_7_method_8_code 10 = .ok (.ifCond .eq 7, 3) := by decide +kernel
theorem d2_13 : decode prog_7_method_8_code 13 = .ok (.iconst 1, 1) := by decide +kernel
theorem d2_14 : decode prog_7_method_8_code 14 = .ok (.goto 4, 3) := by decide +kernel
theorem d2_17 : decode prog_7_method_8_code 17 = .ok (.iconst 0, 1) := by decide +kernel
theorem d2_18 : decode prog_7_method_8_code 18 = .ok (.ireturn, 1) := by decide +kernel
theorem pn_2 : plainName "com/example/hyrarchy/hyrarchy/PathGrants" = true := by first | (simp [plainName, overriddenIn]; done) | decide +kernel
theorem pd_2_0 : parseMethodDescriptor "()I" = some ⟨[], some .int⟩ := by decide +kernel
theorem ef_2 (m : MethodId) (q0 : Int64) (a1 : Addr) : entryFrame m #[(.long q0), (.ref a1)] 3 = mkF m 0 #[.val (.long q0), .second, .val (.ref a1)] [] := by first | (simp [entryFrame, mkF, argsToLocals, Value.category]; done) | rfl
def Q2 (Z : State) (q0 : Int64) (a1 : Addr) (oo : Int32) (h0 : Heap) (v : Option Value) (h : Heap) (L : List Loc) : Prop := v = some (.int (own_men q0 oo)) ∧ L = [] ∧ h = h0
set_option maxRecDepth 65536 in
set_option maxHeartbeats 40000000 in
theorem rm2 (l : Launch) (Z : State) (aw : Array Value) (hw : ∀ d ∈ tables_1, d.before aw Z = true) (ws : List Jvm.Cond) (q0 : Int64) (a1 : Addr) (oo : Int32) (h0 : Heap) (E_1 : Exa Z h0 a1 "com/example/hyrarchy/hyrarchy/Permission") (F_1 : Fld Z h0 a1 "java/lang/Enum" "ordinal" "I" (.int oo)) :
    MetFree l (⟨"com/example/hyrarchy/hyrarchy/PathGrants", "mentions", "(JLcom/example/hyrarchy/hyrarchy/Permission;)Z"⟩ : MethodName) (head1 (Jvm.Cond.code (⟨"com/example/hyrarchy/hyrarchy/PathGrants", "mentions", "(JLcom/example/hyrarchy/hyrarchy/Permission;)Z"⟩ : MethodName) prog_7_method_8_code 3 (some .boolean) :: ws) ({ frames := 1, cells := 0, slots := 0, locals := 14 } : Room)) (fun a U => a = #[(.long q0), (.ref a1)] ∧ Z.Warmed39 U.vm ∧ U.heap = h0) (fun _ _ _ _ _ => True) (fun _ U o U' => ∃ v L, o = .returned v ∧ Q2 Z q0 a1 oo h0 v U'.heap L ∧ FrameEnd U o U' L ({ frames := 1, cells := 0, slots := 0, locals := 14 } : Room).cells ({ frames := 1, cells := 0, slots := 0, locals := 14 } : Room).slots) := by
  refine MetFree.of_bodySF (plainFor_of_name pn_2) hisR ?_
  intro p e s m args below meth c s₁ Bd hml0 hP hK
  obtain ⟨rfl, hZ, hh⟩ := hP
  have hZ0 := hZ
  have hx := Bd.exec
  have hby := Bd.bytes
  have hml : c.maxLocals = 3 := hml0
  have hown : s.vm.findClass "com/example/hyrarchy/hyrarchy/PathGrants" = some m.cls := findClass_of_methodNamed Bd.named
  have hnm := (name_of_methodNamed Bd.named Bd.method).1
  have X0 : Stand p l e ({ frames := 1, cells := 0, slots := 0, locals := 14 } : Room) s m #[(.long q0), (.ref a1)] below meth c s₁ [] 0 0 := Stand.of_body Bd
  have e0 : s₁.heap = h0 := by rw [← hh, Bd.state]; rfl
  have G0 : own_Go p.tables e below (s₁.setTop (entryFrame m #[(.long q0), (.ref a1)] 3)) (s₁.setTop (mkF m 0 #[.val (.long q0), .second, .val (.ref a1)] [])) := fun t k => castTop (ef_2 m q0 a1) k
  have G1 : own_Go p.tables e below (s₁.setTop (entryFrame m #[(.long q0), (.ref a1)] 3)) (s₁.setTop (mkF m 1 #[.val (.long q0), .second, .val (.ref a1)] [(.long q0)])) := fun t k => G0 t (XS.lloadN X0.here hx rfl (hb hby d2_0) rfl k)
  have G2 : own_Go p.tables e below (s₁.setTop (entryFrame m #[(.long q0), (.ref a1)] 3)) (s₁.setTop (mkF m 2 #[.val (.long q0), .second, .val (.ref a1)] [(.ref a1), (.long q0)])) := fun t k => G1 t (XS.aloadN X0.here hx rfl (hb hby d2_1) rfl rfl k)
  obtain ⟨cq3, kq3, q3a, q3b, q3c⟩ := isOf hZ e0 E_1
  obtain ⟨vv3, _, ⟨T3, L3, k3, n3⟩, -, X3, ⟨Lc3, hQ3, l3, y3, z3⟩, st3⟩ := X0.virtualBackUp hx (C := "com/example/hyrarchy/hyrarchy/Permission") (owner := "java/lang/Enum") (x := (⟨"com/example/hyrarchy/hyrarchy/Permission", "ordinal", "()I"⟩ : MethodName)) (y := (⟨"java/lang/Enum", "ordinal", "()I"⟩ : MethodName)) hown (mvT hZ (hw _ (List.mem_of_getElem? (i := 12) rfl))) (mvT hZ (hw _ (List.mem_of_getElem? (i := 13) rfl))) (mvT hZ (hw _ (List.mem_of_getElem? (i := 14) rfl))) (by decide) (mvT hZ (hw _ (List.mem_of_getElem? (i := 16) rfl))) (mvT hZ (hw _ (List.mem_of_getElem? (i := 15) rfl))) (backOf (W := 2) (rm3 l Z aw hw [] a1 oo h0 F_1) hZ (hw _ (List.mem_of_getElem? (i := 18) rfl)) (hw _ (List.mem_of_getElem? (i := 17) rfl)) (by decide) (by decide)) q3a q3c (g := (mkF m 2 #[.val (.long q0), .second, .val (.ref a1)] [(.ref a1), (.long q0)])) rfl (by rw [hml]; rfl) (Steps.refl _) (argsL := []) (rest := [(.long q0)]) (lenOf pd_2_0 rfl) rfl (by show 2 * 0 + _ ≤ _; exact Nat.le_of_eq rfl) (hb hby d2_2) (fun _ _ => ⟨rfl, e0, (by decide : 0 + 0 ≤ _), (by decide : 0 + 0 ≤ _)⟩)
  dsimp only [Pt.U, Pt.locs, Pt.cells, Pt.slots] at X3 l3 y3 z3 st3 hQ3
  subst l3 y3 z3
  obtain ⟨rfl, rfl, e3⟩ := hQ3
  have Y3 : Stand p l e ({ frames := 1, cells := 0, slots := 0, locals := 14 } : Room) s m #[(.long q0), (.ref a1)] below meth c T3 [] 0 0 := X3
  have G3 : own_Go p.tables e below (s₁.setTop (entryFrame m #[(.long q0), (.ref a1)] 3)) (T3.setTop (mkF m 5 #[.val (.long q0), .second, .val (.ref a1)] [(.int oo), (.long q0)])) := fun t k => G2 t (st3.trans k)
  have G4 : own_Go p.tables e below (s₁.setTop (entryFrame m #[(.long q0), (.ref a1)] 3)) (T3.setTop (mkF m 6 #[.val (.long q0), .second, .val (.ref a1)] [(.long ((q0.toUInt64 >>> (oo &&& 0x3f).toInt64.toUInt64).toInt64))])) := fun t k => G3 t (XS.lushr Y3.here hx rfl (hb hby d2_5) rfl k)
  have G5 : own_Go p.tables e below (s₁.setTop (entryFrame m #[(.long q0), (.ref a1)] 3)) (T3.setTop (mkF m 7 #[.val (.long q0), .second, .val (.ref a1)] [(.long (1 : Int64)), (.long ((q0.toUInt64 >>> (oo &&& 0x3f).toInt64.toUInt64).toInt64))])) := fun t k => G4 t (XT.lconstV Y3.here hx rfl (1 : Int64) (hb hby d2_6) (by decide) k)
  have G6 : own_Go p.tables e below (s₁.setTop (entryFrame m #[(.long q0), (.ref a1)] 3)) (T3.setTop (mkF m 8 #[.val (.long q0), .second, .val (.ref a1)] [(.long (((q0.toUInt64 >>> (oo &&& 0x3f).toInt64.toUInt64).toInt64) &&& (1 : Int64)))])) := fun t k => G5 t (XS.land Y3.here hx rfl (hb hby d2_7) rfl k)
  have G7 : own_Go p.tables e below (s₁.setTop (entryFrame m #[(.long q0), (.ref a1)] 3)) (T3.setTop (mkF m 9 #[.val (.long q0), .second, .val (.ref a1)] [(.long (0 : Int64)), (.long (((q0.toUInt64 >>> (oo &&& 0x3f).toInt64.toUInt64).toInt64) &&& (1 : Int64)))])) := fun t k => G6 t (XT.lconstV Y3.here hx rfl (0 : Int64) (hb hby d2_8) (by decide) k)
  have G8 : own_Go p.tables e below (s₁.setTop (entryFrame m #[(.long q0), (.ref a1)] 3)) (T3.setTop (mkF m 10 #[.val (.long q0), .second, .val (.ref a1)] [(.int (lcmpW (((q0.toUInt64 >>> (oo &&& 0x3f).toInt64.toUInt64).toInt64) &&& (1 : Int64)) (0 : Int64)))])) := fun t k => G7 t (XS.lcmp Y3.here hx rfl (hb hby d2_9) rfl k)
  obtain ⟨z9_0, hz9_0, G9⟩ : ∃ (z9_0 : Int32), z9_0 = (if (((q0.toUInt64 >>> (oo &&& 0x3f).toInt64.toUInt64).toInt64) &&& (1 : Int64)) = (0 : Int64) then (0 : Int32) else (1 : Int32)) ∧ own_Go p.tables e below (s₁.setTop (entryFrame m #[(.long q0), (.ref a1)] 3)) (T3.setTop (mkF m 18 #[.val (.long q0), .second, .val (.ref a1)] [(.int z9_0)])) := by
    by_cases hc9 : (((q0.toUInt64 >>> (oo &&& 0x3f).toInt64.toUInt64).toInt64) &&& (1 : Int64)) = (0 : Int64)
    · have G10 : own_Go p.tables e below (s₁.setTop (entryFrame m #[(.long q0), (.ref a1)] 3)) (T3.setTop (mkF m 17 #[.val (.long q0), .second, .val (.ref a1)] [])) := fun t k => G8 t (XS.ifYes Y3.here hx rfl (pc0 := 10) (pc' := 17) rfl (hb hby d2_10) rfl ((if0 _ _).trans (teq (((lw_eq _ _).mpr hc9) : (lcmpW (((q0.toUInt64 >>> (oo &&& 0x3f).toInt64.toUInt64).toInt64) &&& (1 : Int64)) (0 : Int64)) = (0 : Int32))).1) (by decide) (by decide) k)
      have G11 : own_Go p.tables e below (s₁.setTop (entryFrame m #[(.long q0), (.ref a1)] 3)) (T3.setTop (mkF m 18 #[.val (.long q0), .second, .val (.ref a1)] [(.int (0 : Int32))])) := fun t k => G10 t (XT.iconstV Y3.here hx rfl (0 : Int32) (hb hby d2_17) (by decide) k)
      exact ⟨_, (if_pos hc9).symm, G11⟩
    · have G12 : own_Go p.tables e below (s₁.setTop (entryFrame m #[(.long q0), (.ref a1)] 3)) (T3.setTop (mkF m 13 #[.val (.long q0), .second, .val (.ref a1)] [])) := fun t k => G8 t (XS.ifNo Y3.here hx rfl (hb hby d2_10) rfl ((if0 _ _).trans (feq ((fun q => hc9 ((lw_eq _ _).mp q)) : ¬ ((lcmpW (((q0.toUInt64 >>> (oo &&& 0x3f).toInt64.toUInt64).toInt64) &&& (1 : Int64)) (0 : Int64)) = (0 : Int32)))).1) k)
      have G13 : own_Go p.tables e below (s₁.setTop (entryFrame m #[(.long q0), (.ref a1)] 3)) (T3.setTop (mkF m 14 #[.val (.long q0), .second, .val (.ref a1)] [(.int (1 : Int32))])) := fun t k => G12 t (XT.iconstV Y3.here hx rfl (1 : Int32) (hb hby d2_13) (by decide) k)
      have G14 : own_Go p.tables e below (s₁.setTop (entryFrame m #[(.long q0), (.ref a1)] 3)) (T3.setTop (mkF m 18 #[.val (.long q0), .second, .val (.ref a1)] [(.int (1 : Int32))])) := fun t k => G13 t (XS.goto Y3.here hx rfl (pc0 := 14) (pc' := 18) rfl (hb hby d2_14) (by decide) (by decide) k)
      exact ⟨_, (if_neg hc9).symm, G14⟩
  obtain ⟨fs, hr, hrun, hended, hW, hsame⟩ := Y3.leave (v := some (.int (nar .boolean z9_0))) (fun h => by rw [Bd.returns] at h; cases h)
  refine ⟨_, _, G9 _ ?_, hrun, hended, _, _, rfl, ?_, ⟨_, rfl⟩, hW, hsame.mono (by decide) (by decide)⟩
  · exact retN Y3 hx (t := .boolean) Bd.returns (by simp) (hb hby d2_18) hr
  · show Q2 Z q0 a1 oo h0 _ T3.heap _
    rw [e3]
    exact ⟨congrArg (fun z => some (Value.int z)) (by rw [hz9_0]; unfold own_men; (repeat (first | exact own_nar0 | exact own_nar1 | apply own_nar_ite))), rfl, rfl⟩
theorem pn_0 : plainName "com/example/hyrarchy/hyrarchy/PathGrantsMentionsPinLaw" = true := by first | (simp [plainName, overriddenIn]; done) | decide +kernel
theorem pd_0_1 : parseMethodDescriptor "(I)Lcom/example/hyrarchy/hyrarchy/Permission;" = some ⟨[.int], some (.object "com/example/hyrarchy/hyrarchy/Permission")⟩ := by decide +kernel
theorem pd_0_2 : parseMethodDescriptor "(JLcom/example/hyrarchy/hyrarchy/Permission;)Z" = some ⟨[.long, (.object "com/example/hyrarchy/hyrarchy/Permission")], some .boolean⟩ := by decide +kernel
theorem ef_0 (m : MethodId) (q0 : Int64) (p1 : Int32) (p2 : Int32) : entryFrame m #[(.long q0), (.int p1), (.int p2)] maxLocals = mkF m 0 #[.val (.long q0), .second, .val (.int p1), .val (.int p2), .unset, .unset, .unset, .unset, .unset, .unset, .unset, .unset, .unset, .unset, .unset, .unset] [] := by first | (simp [entryFrame, mkF, argsToLocals, Value.category, maxLocals]; done) | rfl
def Q0 (Z : State) (q0 : Int64) (p1 : Int32) (p2 : Int32) (aC aR aU aD aE aA aL : Addr) (h0 : Heap) (v : Option Value) (h : Heap) (L : List Loc) : Prop := v = some (.int 1) ∧ L = [] ∧ h = h0
set_option maxRecDepth 65536 in
set_option maxHeartbeats 40000000 in
theorem rm0 (l : Launch) (Z : State) (aw : Array Value) (hw : ∀ d ∈ tables_1, d.before aw Z = true) (ws : List Jvm.Cond) (q0 : Int64) (p1 : Int32) (p2 : Int32) (aC aR aU aD aE aA aL : Addr) (h0 : Heap) (S_aC : Sta Z h0 "com/example/hyrarchy/hyrarchy/Permission" "CREATE" "Lcom/example/hyrarchy/hyrarchy/Permission;" (.ref aC)) (E_aC : Exa Z h0 aC "com/example/hyrarchy/hyrarchy/Permission") (F_aC : Fld Z h0 aC "java/lang/Enum" "ordinal" "I" (.int (0 : Int32))) (S_aR : Sta Z h0 "com/example/hyrarchy/hyrarchy/Permission" "READ" "Lcom/example/hyrarchy/hyrarchy/Permission;" (.ref aR)) (E_aR : Exa Z h0 aR "com/example/hyrarchy/hyrarchy/Permission") (F_aR : Fld Z h0 aR "java/lang/Enum" "ordinal" "I" (.int (1 : Int32))) (S_aU : Sta Z h0 "com/example/hyrarchy/hyrarchy/Permission" "UPDATE" "Lcom/example/hyrarchy/hyrarchy/Permission;" (.ref aU)) (E_aU : Exa Z h0 aU "com/example/hyrarchy/hyrarchy/Permission") (F_aU : Fld Z h0 aU "java/lang/Enum" "ordinal" "I" (.int (2 : Int32))) (S_aD : Sta Z h0 "com/example/hyrarchy/hyrarchy/Permission" "DELETE" "Lcom/example/hyrarchy/hyrarchy/Permission;" (.ref aD)) (E_aD : Exa Z h0 aD "com/example/hyrarchy/hyrarchy/Permission") (F_aD : Fld Z h0 aD "java/lang/Enum" "ordinal" "I" (.int (3 : Int32))) (S_aE : Sta Z h0 "com/example/hyrarchy/hyrarchy/Permission" "EXECUTE" "Lcom/example/hyrarchy/hyrarchy/Permission;" (.ref aE)) (E_aE : Exa Z h0 aE "com/example/hyrarchy/hyrarchy/Permission") (F_aE : Fld Z h0 aE "java/lang/Enum" "ordinal" "I" (.int (4 : Int32))) (S_aA : Sta Z h0 "com/example/hyrarchy/hyrarchy/Permission" "ALTER" "Lcom/example/hyrarchy/hyrarchy/Permission;" (.ref aA)) (E_aA : Exa Z h0 aA "com/example/hyrarchy/hyrarchy/Permission") (F_aA : Fld Z h0 aA "java/lang/Enum" "ordinal" "I" (.int (5 : Int32))) (S_aL : Sta Z h0 "com/example/hyrarchy/hyrarchy/Permission" "LANGUAGE" "Lcom/example/hyrarchy/hyrarchy/Permission;" (.ref aL)) (E_aL : Exa Z h0 aL "com/example/hyrarchy/hyrarchy/Permission") (F_aL : Fld Z h0 aL "java/lang/Enum" "ordinal" "I" (.int (6 : Int32))) :
    MetFree l x (head1 (Jvm.Cond.code x code maxLocals ret :: ws) room_1) (fun a U => a = #[(.long q0), (.int p1), (.int p2)] ∧ Z.Warmed39 U.vm ∧ U.heap = h0) (fun _ _ _ _ _ => True) (fun _ U o U' => ∃ v L, o = .returned v ∧ Q0 Z q0 p1 p2 aC aR aU aD aE aA aL h0 v U'.heap L ∧ FrameEnd U o U' L room_1.cells room_1.slots) := by
  refine MetFree.of_bodySF (plainFor_of_name pn_0) hisR ?_
  intro p e s m args below meth c s₁ Bd hml0 hP hK
  obtain ⟨rfl, hZ, hh⟩ := hP
  have hZ0 := hZ
  have hx := Bd.exec
  have hby := Bd.bytes
  have hml : c.maxLocals = 16 := hml0
  have hown : s.vm.findClass "com/example/hyrarchy/hyrarchy/PathGrantsMentionsPinLaw" = some m.cls := findClass_of_methodNamed Bd.named
  have hnm := (name_of_methodNamed Bd.named Bd.method).1
  have X0 : Stand p l e room_1 s m #[(.long q0), (.int p1), (.int p2)] below meth c s₁ [] 0 0 := Stand.of_body Bd
  have e0 : s₁.heap = h0 := by rw [← hh, Bd.state]; rfl
  have G0 : own_Go p.tables e below (s₁.setTop (entryFrame m #[(.long q0), (.int p1), (.int p2)] maxLocals)) (s₁.setTop (mkF m 0 #[.val (.long q0), .second, .val (.int p1), .val (.int p2), .unset, .unset, .unset, .unset, .unset, .unset, .unset, .unset, .unset, .unset, .unset, .unset] [])) := fun t k => castTop (ef_0 m q0 p1 p2) k
  have G1 : own_Go p.tables e below (s₁.setTop (entryFrame m #[(.long q0), (.int p1), (.int p2)] maxLocals)) (s₁.setTop (mkF m 1 #[.val (.long q0), .second, .val (.int p1), .val (.int p2), .unset, .unset, .unset, .unset, .unset, .unset, .unset, .unset, .unset, .unset, .unset, .unset] [(.int p1)])) := fun t k => G0 t (XS.iloadN X0.here hx rfl (hb hby at_0) rfl k)
  have G2 : own_Go p.tables e below (s₁.setTop (entryFrame m #[(.long q0), (.int p1), (.int p2)] maxLocals)) (s₁.setTop (mkF m 3 #[.val (.long q0), .second, .val (.int p1), .val (.int p2), .unset, .unset, .unset, .unset, .unset, .unset, .unset, .unset, .unset, .unset, .unset, .unset] [(.int (2147483647 : Int32)), (.int p1)])) := fun t k => G1 t (X0.ldcInt hx hown (mvT hZ (hw _ (List.mem_of_getElem? (i := 0) rfl))) (g := (mkF m 1 #[.val (.long q0), .second, .val (.int p1), .val (.int p2), .unset, .unset, .unset, .unset, .unset, .unset, .unset, .unset, .unset, .unset, .unset, .unset] [(.int p1)])) rfl (hb hby at_1) t k)
  have G3 : own_Go p.tables e below (s₁.setTop (entryFrame m #[(.long q0), (.int p1), (.int p2)] maxLocals)) (s₁.setTop (mkF m 4 #[.val (.long q0), .second, .val (.int p1), .val (.int p2), .unset, .unset, .unset, .unset, .unset, .unset, .unset, .unset, .unset, .unset, .unset, .unset] [(.int (p1 &&& (2147483647 : Int32)))])) := fun t k => G2 t (XS.iand X0.here hx rfl (hb hby at_3) rfl k)
  have G4 : own_Go p.tables e below (s₁.setTop (entryFrame m #[(.long q0), (.int p1), (.int p2)] maxLocals)) (s₁.setTop (mkF m 6 #[.val (.long q0), .second, .val (.int p1), .val (.int p2), .unset, .unset, .unset, .unset, .unset, .unset, .unset, .unset, .unset, .unset, .unset, .unset] [(.int (7 : Int32)), (.int (p1 &&& (2147483647 : Int32)))])) := fun t k => G3 t (XT.bipushV X0.here hx rfl (7 : Int32) (hb hby at_4) (by decide) k)
  have G5 : own_Go p.tables e below (s₁.setTop (entryFrame m #[(.long q0), (.int p1), (.int p2)] maxLocals)) (s₁.setTop (mkF m 7 #[.val (.long q0), .second, .val (.int p1), .val (.int p2), .unset, .unset, .unset, .unset, .unset, .unset, .unset, .unset, .unset, .unset, .unset, .unset] [(.int ((p1 &&& (2147483647 : Int32)) % (7 : Int32)))])) := fun t k => G4 t (iremM X0 hx rfl (hb hby at_6) rfl (by decide) k)
  have G6 : own_Go p.tables e below (s₁.setTop (entryFrame m #[(.long q0), (.int p1), (.int p2)] maxLocals)) (s₁.setTop (mkF m 9 #[.val (.long q0), .second, .val (.int p1), .val (.int p2), .val (.int ((p1 &&& (2147483647 : Int32)) % (7 : Int32))), .unset, .unset, .unset, .unset, .unset, .unset, .unset, .unset, .unset, .unset, .unset] [])) := fun t k => G5 t (XS.istore X0.here hx rfl (hb hby at_7) rfl (l' := #[.val (.long q0), .second, .val (.int p1), .val (.int p2), .val (.int ((p1 &&& (2147483647 : Int32)) % (7 : Int32))), .unset, .unset, .unset, .unset, .unset, .unset, .unset, .unset, .unset, .unset, .unset]) rfl k)
  obtain ⟨z7, hz7, G7⟩ : ∃ z7 : Int32, z7 = ((p1 &&& (2147483647 : Int32)) % (7 : Int32)) ∧ own_Go p.tables e below (s₁.setTop (entryFrame m #[(.long q0), (.int p1), (.int p2)] maxLocals)) (s₁.setTop (mkF m 9 #[.val (.long q0), .second, .val (.int p1), .val (.int p2), .val (.int z7), .unset, .unset, .unset, .unset, .unset, .unset, .unset, .unset, .unset, .unset, .unset] [])) := ⟨_, rfl, G6⟩
  have G8 : own_Go p.tables e below (s₁.setTop (entryFrame m #[(.long q0), (.int p1), (.int p2)] maxLocals)) (s₁.setTop (mkF m 11 #[.val (.long q0), .second, .val (.int p1), .val (.int p2), .val (.int z7), .unset, .unset, .unset, .unset, .unset, .unset, .unset, .unset, .unset, .unset, .unset] [(.int z7)])) := fun t k => G7 t (XS.iload X0.here hx rfl (hb hby at_9) rfl k)
  obtain ⟨vv9, _, ⟨T9, L9, k9, n9⟩, -, X9, ⟨Lc9, hQ9, l9, y9, z9⟩, st9⟩ := Jvm.LawKit.callS X0 hx (y := (⟨"com/example/hyrarchy/hyrarchy/PathGrantsMentionsPinLaw", "perm", "(I)Lcom/example/hyrarchy/hyrarchy/Permission;"⟩ : MethodName)) hown (mvT hZ (hw _ (List.mem_of_getElem? (i := 1) rfl))) (mvT hZ (hw _ (List.mem_of_getElem? (i := 2) rfl))) (mvT hZ (hw _ (List.mem_of_getElem? (i := 3) rfl))) (mvT hZ (hw _ (List.mem_of_getElem? (i := 4) rfl))) (by decide) (backOf (W := 0) (rm1 l Z aw hw [] z7 aC aR aU aD aE aA aL h0 S_aC S_aR S_aU S_aD S_aE S_aA S_aL) hZ (hw _ (List.mem_of_getElem? (i := 4) rfl)) (hw _ (List.mem_of_getElem? (i := 3) rfl)) (by decide) (by decide)) (g := (mkF m 11 #[.val (.long q0), .second, .val (.int p1), .val (.int p2), .val (.int z7), .unset, .unset, .unset, .unset, .unset, .unset, .unset, .unset, .unset, .unset, .unset] [(.int z7)])) rfl (by rw [hml]; rfl) (argsL := [(.int z7)]) (rest := []) (lenOf pd_0_1 rfl) rfl (by show 2 * 0 + _ ≤ _; exact Nat.le_of_eq rfl) (hb hby at_11) (fun _ _ => ⟨rfl, e0, (by decide : 0 + 0 ≤ _), (by decide : 0 + 0 ≤ _)⟩)
  dsimp only [Pt.U, Pt.locs, Pt.cells, Pt.slots] at X9 l9 y9 z9 st9 hQ9
  subst l9 y9 z9
  obtain ⟨rfl, rfl, e9⟩ := hQ9
  have Y9 : Stand p l e room_1 s m #[(.long q0), (.int p1), (.int p2)] below meth c T9 [] 0 0 := X9
  obtain ⟨aP, haP⟩ : ∃ z, z = (own_pick z7 aC aR aU aD aE aA aL) := ⟨_, rfl⟩
  rw [← haP] at st9
  have hk : 0 ≤ z7.toInt ∧ z7.toInt < 7 := by rw [hz7]; exact own_k7 _
  have E_P : Exa Z h0 aP "com/example/hyrarchy/hyrarchy/Permission" := by rw [haP]; exact own_pickE (P := fun a => Exa Z h0 a "com/example/hyrarchy/hyrarchy/Permission") E_aC E_aR E_aU E_aD E_aE E_aA E_aL
  have F_P : Fld Z h0 aP "java/lang/Enum" "ordinal" "I" (.int z7) := by rw [haP]; exact own_pickF (F := fun a k => Fld Z h0 a "java/lang/Enum" "ordinal" "I" (.int k)) hk F_aC F_aR F_aU F_aD F_aE F_aA F_aL
  have G9 : own_Go p.tables e below (s₁.setTop (entryFrame m #[(.long q0), (.int p1), (.int p2)] maxLocals)) (T9.setTop (mkF m 14 #[.val (.long q0), .second, .val (.int p1), .val (.int p2), .val (.int z7), .unset, .unset, .unset, .unset, .unset, .unset, .unset, .unset, .unset, .unset, .unset] [(.ref aP)])) := fun t k => G8 t (st9 t k)
  have G10 : own_Go p.tables e below (s₁.setTop (entryFrame m #[(.long q0), (.int p1), (.int p2)] maxLocals)) (T9.setTop (mkF m 16 #[.val (.long q0), .second, .val (.int p1), .val (.int p2), .val (.int z7), .val (.ref aP), .unset, .unset, .unset, .unset, .unset, .unset, .unset, .unset, .unset, .unset] [])) := fun t k => G9 t (XS.astore Y9.here hx rfl (hb hby at_14) rfl rfl (l' := #[.val (.long q0), .second, .val (.int p1), .val (.int p2), .val (.int z7), .val (.ref aP), .unset, .unset, .unset, .unset, .unset, .unset, .unset, .unset, .unset, .unset]) rfl k)
  have G11 : own_Go p.tables e below (s₁.setTop (entryFrame m #[(.long q0), (.int p1), (.int p2)] maxLocals)) (T9.setTop (mkF m 17 #[.val (.long q0), .second, .val (.int p1), .val (.int p2), .val (.int z7), .val (.ref aP), .unset, .unset, .unset, .unset, .unset, .unset, .unset, .unset, .unset, .unset] [(.long (1 : Int64))])) := fun t k => G10 t (XT.lconstV Y9.here hx rfl (1 : Int64) (hb hby at_16) (by decide) k)
  have G12 : own_Go p.tables e below (s₁.setTop (entryFrame m #[(.long q0), (.int p1), (.int p2)] maxLocals)) (T9.setTop (mkF m 19 #[.val (.long q0), .second, .val (.int p1), .val (.int p2), .val (.int z7), .val (.ref aP), .unset, .unset, .unset, .unset, .unset, .unset, .unset, .unset, .unset, .unset] [(.int z7), (.long (1 : Int64))])) := fun t k => G11 t (XS.iload Y9.here hx rfl (hb hby at_17) rfl k)
  have G13 : own_Go p.tables e below (s₁.setTop (entryFrame m #[(.long q0), (.int p1), (.int p2)] maxLocals)) (T9.setTop (mkF m 20 #[.val (.long q0), .second, .val (.int p1), .val (.int p2), .val (.int z7), .val (.ref aP), .unset, .unset, .unset, .unset, .unset, .unset, .unset, .unset, .unset, .unset] [(.long ((1 : Int64) <<< (z7 &&& 0x3f).toInt64))])) := fun t k => G12 t (XS.lshl Y9.here hx rfl (hb hby at_19) rfl k)
  have G14 : own_Go p.tables e below (s₁.setTop (entryFrame m #[(.long q0), (.int p1), (.int p2)] maxLocals)) (T9.setTop (mkF m 22 #[.val (.long q0), .second, .val (.int p1), .val (.int p2), .val (.int z7), .val (.ref aP), .val (.long ((1 : Int64) <<< (z7 &&& 0x3f).toInt64)), .second, .unset, .unset, .unset, .unset, .unset, .unset, .unset, .unset] [])) := fun t k => G13 t (XS.lstore Y9.here hx rfl (hb hby at_20) rfl (l' := #[.val (.long q0), .second, .val (.int p1), .val (.int p2), .val (.int z7), .val (.ref aP), .val (.long ((1 : Int64) <<< (z7 &&& 0x3f).toInt64)), .second, .unset, .unset, .unset, .unset, .unset, .unset, .unset, .unset]) rfl k)
  obtain ⟨z15, hz15, G15⟩ : ∃ z15 : Int64, z15 = ((1 : Int64) <<< (z7 &&& 0x3f).toInt64) ∧ own_Go p.tables e below (s₁.setTop (entryFrame m #[(.long q0), (.int p1), (.int p2)] maxLocals)) (T9.setTop (mkF m 22 #[.val (.long q0), .second, .val (.int p1), .val (.int p2), .val (.int z7), .val (.ref aP), .val (.long z15), .second, .unset, .unset, .unset, .unset, .unset, .unset, .unset, .unset] [])) := ⟨_, rfl, G14⟩
  have G16 : own_Go p.tables e below (s₁.setTop (entryFrame m #[(.long q0), (.int p1), (.int p2)] maxLocals)) (T9.setTop (mkF m 23 #[.val (.long q0), .second, .val (.int p1), .val (.int p2), .val (.int z7), .val (.ref aP), .val (.long z15), .second, .unset, .unset, .unset, .unset, .unset, .unset, .unset, .unset] [(.int p2)])) := fun t k => G15 t (XS.iloadN Y9.here hx rfl (hb hby at_22) rfl k)
  have G17 : own_Go p.tables e below (s₁.setTop (entryFrame m #[(.long q0), (.int p1), (.int p2)] maxLocals)) (T9.setTop (mkF m 25 #[.val (.long q0), .second, .val (.int p1), .val (.int p2), .val (.int z7), .val (.ref aP), .val (.long z15), .second, .unset, .unset, .unset, .unset, .unset, .unset, .unset, .unset] [(.int (63 : Int32)), (.int p2)])) := fun t k => G16 t (XT.bipushV Y9.here hx rfl (63 : Int32) (hb hby at_23) (by decide) k)
  have G18 : own_Go p.tables e below (s₁.setTop (entryFrame m #[(.long q0), (.int p1), (.int p2)] maxLocals)) (T9.setTop (mkF m 26 #[.val (.long q0), .second, .val (.int p1), .val (.int p2), .val (.int z7), .val (.ref aP), .val (.long z15), .second, .unset, .unset, .unset, .unset, .unset, .unset, .unset, .unset] [(.int (p2 &&& (63 : Int32)))])) := fun t k => G17 t (XS.iand Y9.here hx rfl (hb hby at_25) rfl k)
  have G19 : own_Go p.tables e below (s₁.setTop (entryFrame m #[(.long q0), (.int p1), (.int p2)] maxLocals)) (T9.setTop (mkF m 28 #[.val (.long q0), .second, .val (.int p1), .val (.int p2), .val (.int z7), .val (.ref aP), .val (.long z15), .second, .val (.int (p2 &&& (63 : Int32))), .unset, .unset, .unset, .unset, .unset, .unset, .unset] [])) := fun t k => G18 t (XS.istore Y9.here hx rfl (hb hby at_26) rfl (l' := #[.val (.long q0), .second, .val (.int p1), .val (.int p2), .val (.int z7), .val (.ref aP), .val (.long z15), .second, .val (.int (p2 &&& (63 : Int32))), .unset, .unset, .unset, .unset, .unset, .unset, .unset]) rfl k)
  obtain ⟨z20, hz20, G20⟩ : ∃ z20 : Int32, z20 = (p2 &&& (63 : Int32)) ∧ own_Go p.tables e below (s₁.setTop (entryFrame m #[(.long q0), (.int p1), (.int p2)] maxLocals)) (T9.setTop (mkF m 28 #[.val (.long q0), .second, .val (.int p1), .val (.int p2), .val (.int z7), .val (.ref aP), .val (.long z15), .second, .val (.int z20), .unset, .unset, .unset, .unset, .unset, .unset, .unset] [])) := ⟨_, rfl, G19⟩
  have G21 : own_Go p.tables e below (s₁.setTop (entryFrame m #[(.long q0), (.int p1), (.int p2)] maxLocals)) (T9.setTop (mkF m 30 #[.val (.long q0), .second, .val (.int p1), .val (.int p2), .val (.int z7), .val (.ref aP), .val (.long z15), .second, .val (.int z20), .unset, .unset, .unset, .unset, .unset, .unset, .unset] [(.int z20)])) := fun t k => G20 t (XS.iload Y9.here hx rfl (hb hby at_28) rfl k)
  have G22 : own_Go p.tables e below (s₁.setTop (entryFrame m #[(.long q0), (.int p1), (.int p2)] maxLocals)) (T9.setTop (mkF m 32 #[.val (.long q0), .second, .val (.int p1), .val (.int p2), .val (.int z7), .val (.ref aP), .val (.long z15), .second, .val (.int z20), .unset, .unset, .unset, .unset, .unset, .unset, .unset] [(.int z7), (.int z20)])) := fun t k => G21 t (XS.iload Y9.here hx rfl (hb hby at_30) rfl k)
  obtain ⟨z23_0, hz23_0, G23⟩ : ∃ (z23_0 : Int64), z23_0 = (if z20 = z7 then (0 : Int64) else ((1 : Int64) <<< (z20 &&& 0x3f).toInt64)) ∧ own_Go p.tables e below (s₁.setTop (entryFrame m #[(.long q0), (.int p1), (.int p2)] maxLocals)) (T9.setTop (mkF m 43 #[.val (.long q0), .second, .val (.int p1), .val (.int p2), .val (.int z7), .val (.ref aP), .val (.long z15), .second, .val (.int z20), .unset, .unset, .unset, .unset, .unset, .unset, .unset] [(.long z23_0)])) := by
    by_cases hc23 : z20 = z7
    · have G24 : own_Go p.tables e below (s₁.setTop (entryFrame m #[(.long q0), (.int p1), (.int p2)] maxLocals)) (T9.setTop (mkF m 35 #[.val (.long q0), .second, .val (.int p1), .val (.int p2), .val (.int z7), .val (.ref aP), .val (.long z15), .second, .val (.int z20), .unset, .unset, .unset, .unset, .unset, .unset, .unset] [])) := fun t k => G22 t (XS.icmpNo Y9.here hx rfl (hb hby at_32) rfl (teq hc23).2 k)
      have G25 : own_Go p.tables e below (s₁.setTop (entryFrame m #[(.long q0), (.int p1), (.int p2)] maxLocals)) (T9.setTop (mkF m 36 #[.val (.long q0), .second, .val (.int p1), .val (.int p2), .val (.int z7), .val (.ref aP), .val (.long z15), .second, .val (.int z20), .unset, .unset, .unset, .unset, .unset, .unset, .unset] [(.long (0 : Int64))])) := fun t k => G24 t (XT.lconstV Y9.here hx rfl (0 : Int64) (hb hby at_35) (by decide) k)
      have G26 : own_Go p.tables e below (s₁.setTop (entryFrame m #[(.long q0), (.int p1), (.int p2)] maxLocals)) (T9.setTop (mkF m 43 #[.val (.long q0), .second, .val (.int p1), .val (.int p2), .val (.int z7), .val (.ref aP), .val (.long z15), .second, .val (.int z20), .unset, .unset, .unset, .unset, .unset, .unset, .unset] [(.long (0 : Int64))])) := fun t k => G25 t (XS.goto Y9.here hx rfl (pc0 := 36) (pc' := 43) rfl (hb hby at_36) (by decide) (by decide) k)
      exact ⟨_, (if_pos hc23).symm, G26⟩
    · have G27 : own_Go p.tables e below (s₁.setTop (entryFrame m #[(.long q0), (.int p1), (.int p2)] maxLocals)) (T9.setTop (mkF m 39 #[.val (.long q0), .second, .val (.int p1), .val (.int p2), .val (.int z7), .val (.ref aP), .val (.long z15), .second, .val (.int z20), .unset, .unset, .unset, .unset, .unset, .unset, .unset] [])) := fun t k => G22 t (XS.icmpYes Y9.here hx rfl (pc0 := 32) (pc' := 39) rfl (hb hby at_32) rfl (feq hc23).2 (by decide) (by decide) k)
      have G28 : own_Go p.tables e below (s₁.setTop (entryFrame m #[(.long q0), (.int p1), (.int p2)] maxLocals)) (T9.setTop (mkF m 40 #[.val (.long q0), .second, .val (.int p1), .val (.int p2), .val (.int z7), .val (.ref aP), .val (.long z15), .second, .val (.int z20), .unset, .unset, .unset, .unset, .unset, .unset, .unset] [(.long (1 : Int64))])) := fun t k => G27 t (XT.lconstV Y9.here hx rfl (1 : Int64) (hb hby at_39) (by decide) k)
      have G29 : own_Go p.tables e below (s₁.setTop (entryFrame m #[(.long q0), (.int p1), (.int p2)] maxLocals)) (T9.setTop (mkF m 42 #[.val (.long q0), .second, .val (.int p1), .val (.int p2), .val (.int z7), .val (.ref aP), .val (.long z15), .second, .val (.int z20), .unset, .unset, .unset, .unset, .unset, .unset, .unset] [(.int z20), (.long (1 : Int64))])) := fun t k => G28 t (XS.iload Y9.here hx rfl (hb hby at_40) rfl k)
      have G30 : own_Go p.tables e below (s₁.setTop (entryFrame m #[(.long q0), (.int p1), (.int p2)] maxLocals)) (T9.setTop (mkF m 43 #[.val (.long q0), .second, .val (.int p1), .val (.int p2), .val (.int z7), .val (.ref aP), .val (.long z15), .second, .val (.int z20), .unset, .unset, .unset, .unset, .unset, .unset, .unset] [(.long ((1 : Int64) <<< (z20 &&& 0x3f).toInt64))])) := fun t k => G29 t (XS.lshl Y9.here hx rfl (hb hby at_42) rfl k)
      exact ⟨_, (if_neg hc23).symm, G30⟩
  have G31 : own_Go p.tables e below (s₁.setTop (entryFrame m #[(.long q0), (.int p1), (.int p2)] maxLocals)) (T9.setTop (mkF m 45 #[.val (.long q0), .second, .val (.int p1), .val (.int p2), .val (.int z7), .val (.ref aP), .val (.long z15), .second, .val (.int z20), .val (.long z23_0), .second, .unset, .unset, .unset, .unset, .unset] [])) := fun t k => G23 t (XS.lstore Y9.here hx rfl (hb hby at_43) rfl (l' := #[.val (.long q0), .second, .val (.int p1), .val (.int p2), .val (.int z7), .val (.ref aP), .val (.long z15), .second, .val (.int z20), .val (.long z23_0), .second, .unset, .unset, .unset, .unset, .unset]) rfl k)
  have G32 : own_Go p.tables e below (s₁.setTop (entryFrame m #[(.long q0), (.int p1), (.int p2)] maxLocals)) (T9.setTop (mkF m 46 #[.val (.long q0), .second, .val (.int p1), .val (.int p2), .val (.int z7), .val (.ref aP), .val (.long z15), .second, .val (.int z20), .val (.long z23_0), .second, .unset, .unset, .unset, .unset, .unset] [(.long q0)])) := fun t k => G31 t (XS.lloadN Y9.here hx rfl (hb hby at_45) rfl k)
  have G33 : own_Go p.tables e below (s₁.setTop (entryFrame m #[(.long q0), (.int p1), (.int p2)] maxLocals)) (T9.setTop (mkF m 48 #[.val (.long q0), .second, .val (.int p1), .val (.int p2), .val (.int z7), .val (.ref aP), .val (.long z15), .second, .val (.int z20), .val (.long z23_0), .second, .unset, .unset, .unset, .unset, .unset] [(.ref aP), (.long q0)])) := fun t k => G32 t (XS.aload Y9.here hx rfl (hb hby at_46) rfl rfl k)
  obtain ⟨vv34, _, ⟨T34, L34, k34, n34⟩, -, X34, ⟨Lc34, hQ34, l34, y34, z34⟩, st34⟩ := Jvm.LawKit.callS Y9 hx (y := (⟨"com/example/hyrarchy/hyrarchy/PathGrants", "mentions", "(JLcom/example/hyrarchy/hyrarchy/Permission;)Z"⟩ : MethodName)) hown (mvT hZ (hw _ (List.mem_of_getElem? (i := 8) rfl))) (mvT hZ (hw _ (List.mem_of_getElem? (i := 9) rfl))) (mvT hZ (hw _ (List.mem_of_getElem? (i := 10) rfl))) (mvT hZ (hw _ (List.mem_of_getElem? (i := 11) rfl))) (by decide) (backOf (W := 0) (rm2 l Z aw hw [] q0 aP z7 h0 E_P F_P) hZ (hw _ (List.mem_of_getElem? (i := 11) rfl)) (hw _ (List.mem_of_getElem? (i := 10) rfl)) (by decide) (by decide)) (g := (mkF m 48 #[.val (.long q0), .second, .val (.int p1), .val (.int p2), .val (.int z7), .val (.ref aP), .val (.long z15), .second, .val (.int z20), .val (.long z23_0), .second, .unset, .unset, .unset, .unset, .unset] [(.ref aP), (.long q0)])) rfl (by rw [hml]; rfl) (argsL := [(.long q0), (.ref aP)]) (rest := []) (lenOf pd_0_2 rfl) rfl (by show 2 * 0 + _ ≤ _; exact Nat.le_of_eq rfl) (hb hby at_48) (fun _ _ => ⟨rfl, e9, (by decide : 0 + 0 ≤ _), (by decide : 0 + 0 ≤ _)⟩)
  dsimp only [Pt.U, Pt.locs, Pt.cells, Pt.slots] at X34 l34 y34 z34 st34 hQ34
  subst l34 y34 z34
  obtain ⟨rfl, rfl, e34⟩ := hQ34
  have Y34 : Stand p l e room_1 s m #[(.long q0), (.int p1), (.int p2)] below meth c T34 [] 0 0 := X34
  have G34 : own_Go p.tables e below (s₁.setTop (entryFrame m #[(.long q0), (.int p1), (.int p2)] maxLocals)) (T34.setTop (mkF m 51 #[.val (.long q0), .second, .val (.int p1), .val (.int p2), .val (.int z7), .val (.ref aP), .val (.long z15), .second, .val (.int z20), .val (.long z23_0), .second, .unset, .unset, .unset, .unset, .unset] [(.int (own_men q0 z7))])) := fun t k => G33 t (st34 t k)
  have G35 : own_Go p.tables e below (s₁.setTop (entryFrame m #[(.long q0), (.int p1), (.int p2)] maxLocals)) (T34.setTop (mkF m 53 #[.val (.long q0), .second, .val (.int p1), .val (.int p2), .val (.int z7), .val (.ref aP), .val (.long z15), .second, .val (.int z20), .val (.long z23_0), .second, .val (.int (own_men q0 z7)), .unset, .unset, .unset, .unset] [])) := fun t k => G34 t (XS.istore Y34.here hx rfl (hb hby at_51) rfl (l' := #[.val (.long q0), .second, .val (.int p1), .val (.int p2), .val (.int z7), .val (.ref aP), .val (.long z15), .second, .val (.int z20), .val (.long z23_0), .second, .val (.int (own_men q0 z7)), .unset, .unset, .unset, .unset]) rfl k)
  obtain ⟨z36, hz36, G36⟩ : ∃ z36 : Int32, z36 = (own_men q0 z7) ∧ own_Go p.tables e below (s₁.setTop (entryFrame m #[(.long q0), (.int p1), (.int p2)] maxLocals)) (T34.setTop (mkF m 53 #[.val (.long q0), .second, .val (.int p1), .val (.int p2), .val (.int z7), .val (.ref aP), .val (.long z15), .second, .val (.int z20), .val (.long z23_0), .second, .val (.int z36), .unset, .unset, .unset, .unset] [])) := ⟨_, rfl, G35⟩
  have G37 : own_Go p.tables e below (s₁.setTop (entryFrame m #[(.long q0), (.int p1), (.int p2)] maxLocals)) (T34.setTop (mkF m 54 #[.val (.long q0), .second, .val (.int p1), .val (.int p2), .val (.int z7), .val (.ref aP), .val (.long z15), .second, .val (.int z20), .val (.long z23_0), .second, .val (.int z36), .unset, .unset, .unset, .unset] [(.long q0)])) := fun t k => G36 t (XS.lloadN Y34.here hx rfl (hb hby at_53) rfl k)
  have G38 : own_Go p.tables e below (s₁.setTop (entryFrame m #[(.long q0), (.int p1), (.int p2)] maxLocals)) (T34.setTop (mkF m 56 #[.val (.long q0), .second, .val (.int p1), .val (.int p2), .val (.int z7), .val (.ref aP), .val (.long z15), .second, .val (.int z20), .val (.long z23_0), .second, .val (.int z36), .unset, .unset, .unset, .unset] [(.long z15), (.long q0)])) := fun t k => G37 t (XS.lload Y34.here hx rfl (hb hby at_54) rfl k)
  have G39 : own_Go p.tables e below (s₁.setTop (entryFrame m #[(.long q0), (.int p1), (.int p2)] maxLocals)) (T34.setTop (mkF m 57 #[.val (.long q0), .second, .val (.int p1), .val (.int p2), .val (.int z7), .val (.ref aP), .val (.long z15), .second, .val (.int z20), .val (.long z23_0), .second, .val (.int z36), .unset, .unset, .unset, .unset] [(.long (q0 ||| z15))])) := fun t k => G38 t (XS.lor Y34.here hx rfl (hb hby at_56) rfl k)
  have G40 : own_Go p.tables e below (s₁.setTop (entryFrame m #[(.long q0), (.int p1), (.int p2)] maxLocals)) (T34.setTop (mkF m 59 #[.val (.long q0), .second, .val (.int p1), .val (.int p2), .val (.int z7), .val (.ref aP), .val (.long z15), .second, .val (.int z20), .val (.long z23_0), .second, .val (.int z36), .unset, .unset, .unset, .unset] [(.ref aP), (.long (q0 ||| z15))])) := fun t k => G39 t (XS.aload Y34.here hx rfl (hb hby at_57) rfl rfl k)
  obtain ⟨vv41, _, ⟨T41, L41, k41, n41⟩, -, X41, ⟨Lc41, hQ41, l41, y41, z41⟩, st41⟩ := Jvm.LawKit.callS Y34 hx (y := (⟨"com/example/hyrarchy/hyrarchy/PathGrants", "mentions", "(JLcom/example/hyrarchy/hyrarchy/Permission;)Z"⟩ : MethodName)) hown (mvT hZ (hw _ (List.mem_of_getElem? (i := 8) rfl))) (mvT hZ (hw _ (List.mem_of_getElem? (i := 9) rfl))) (mvT hZ (hw _ (List.mem_of_getElem? (i := 10) rfl))) (mvT hZ (hw _ (List.mem_of_getElem? (i := 11) rfl))) (by decide) (backOf (W := 0) (rm2 l Z aw hw [] (q0 ||| z15) aP z7 h0 E_P F_P) hZ (hw _ (List.mem_of_getElem? (i := 11) rfl)) (hw _ (List.mem_of_getElem? (i := 10) rfl)) (by decide) (by decide)) (g := (mkF m 59 #[.val (.long q0), .second, .val (.int p1), .val (.int p2), .val (.int z7), .val (.ref aP), .val (.long z15), .second, .val (.int z20), .val (.long z23_0), .second, .val (.int z36), .unset, .unset, .unset, .unset] [(.ref aP), (.long (q0 ||| z15))])) rfl (by rw [hml]; rfl) (argsL := [(.long (q0 ||| z15)), (.ref aP)]) (rest := []) (lenOf pd_0_2 rfl) rfl (by show 2 * 0 + _ ≤ _; exact Nat.le_of_eq rfl) (hb hby at_59) (fun _ _ => ⟨rfl, e34, (by decide : 0 + 0 ≤ _), (by decide : 0 + 0 ≤ _)⟩)
  dsimp only [Pt.U, Pt.locs, Pt.cells, Pt.slots] at X41 l41 y41 z41 st41 hQ41
  subst l41 y41 z41
  obtain ⟨rfl, rfl, e41⟩ := hQ41
  have Y41 : Stand p l e room_1 s m #[(.long q0), (.int p1), (.int p2)] below meth c T41 [] 0 0 := X41
  have G41 : own_Go p.tables e below (s₁.setTop (entryFrame m #[(.long q0), (.int p1), (.int p2)] maxLocals)) (T41.setTop (mkF m 62 #[.val (.long q0), .second, .val (.int p1), .val (.int p2), .val (.int z7), .val (.ref aP), .val (.long z15), .second, .val (.int z20), .val (.long z23_0), .second, .val (.int z36), .unset, .unset, .unset, .unset] [(.int (own_men (q0 ||| z15) z7))])) := fun t k => G40 t (st41 t k)
  have G42 : own_Go p.tables e below (s₁.setTop (entryFrame m #[(.long q0), (.int p1), (.int p2)] maxLocals)) (T41.setTop (mkF m 64 #[.val (.long q0), .second, .val (.int p1), .val (.int p2), .val (.int z7), .val (.ref aP), .val (.long z15), .second, .val (.int z20), .val (.long z23_0), .second, .val (.int z36), .val (.int (own_men (q0 ||| z15) z7)), .unset, .unset, .unset] [])) := fun t k => G41 t (XS.istore Y41.here hx rfl (hb hby at_62) rfl (l' := #[.val (.long q0), .second, .val (.int p1), .val (.int p2), .val (.int z7), .val (.ref aP), .val (.long z15), .second, .val (.int z20), .val (.long z23_0), .second, .val (.int z36), .val (.int (own_men (q0 ||| z15) z7)), .unset, .unset, .unset]) rfl k)
  obtain ⟨z43, hz43, G43⟩ : ∃ z43 : Int32, z43 = (own_men (q0 ||| z15) z7) ∧ own_Go p.tables e below (s₁.setTop (entryFrame m #[(.long q0), (.int p1), (.int p2)] maxLocals)) (T41.setTop (mkF m 64 #[.val (.long q0), .second, .val (.int p1), .val (.int p2), .val (.int z7), .val (.ref aP), .val (.long z15), .second, .val (.int z20), .val (.long z23_0), .second, .val (.int z36), .val (.int z43), .unset, .unset, .unset] [])) := ⟨_, rfl, G42⟩
  have G44 : own_Go p.tables e below (s₁.setTop (entryFrame m #[(.long q0), (.int p1), (.int p2)] maxLocals)) (T41.setTop (mkF m 65 #[.val (.long q0), .second, .val (.int p1), .val (.int p2), .val (.int z7), .val (.ref aP), .val (.long z15), .second, .val (.int z20), .val (.long z23_0), .second, .val (.int z36), .val (.int z43), .unset, .unset, .unset] [(.long q0)])) := fun t k => G43 t (XS.lloadN Y41.here hx rfl (hb hby at_64) rfl k)
  have G45 : own_Go p.tables e below (s₁.setTop (entryFrame m #[(.long q0), (.int p1), (.int p2)] maxLocals)) (T41.setTop (mkF m 67 #[.val (.long q0), .second, .val (.int p1), .val (.int p2), .val (.int z7), .val (.ref aP), .val (.long z15), .second, .val (.int z20), .val (.long z23_0), .second, .val (.int z36), .val (.int z43), .unset, .unset, .unset] [(.long z15), (.long q0)])) := fun t k => G44 t (XS.lload Y41.here hx rfl (hb hby at_65) rfl k)
  have G46 : own_Go p.tables e below (s₁.setTop (entryFrame m #[(.long q0), (.int p1), (.int p2)] maxLocals)) (T41.setTop (mkF m 70 #[.val (.long q0), .second, .val (.int p1), .val (.int p2), .val (.int z7), .val (.ref aP), .val (.long z15), .second, .val (.int z20), .val (.long z23_0), .second, .val (.int z36), .val (.int z43), .unset, .unset, .unset] [(.long (-1 : Int64)), (.long z15), (.long q0)])) := fun t k => G45 t (Y41.ldc2Long hx hown (mvT hZ (hw _ (List.mem_of_getElem? (i := 21) rfl))) (g := (mkF m 67 #[.val (.long q0), .second, .val (.int p1), .val (.int p2), .val (.int z7), .val (.ref aP), .val (.long z15), .second, .val (.int z20), .val (.long z23_0), .second, .val (.int z36), .val (.int z43), .unset, .unset, .unset] [(.long z15), (.long q0)])) rfl (hb hby at_67) t k)
  have G47 : own_Go p.tables e below (s₁.setTop (entryFrame m #[(.long q0), (.int p1), (.int p2)] maxLocals)) (T41.setTop (mkF m 71 #[.val (.long q0), .second, .val (.int p1), .val (.int p2), .val (.int z7), .val (.ref aP), .val (.long z15), .second, .val (.int z20), .val (.long z23_0), .second, .val (.int z36), .val (.int z43), .unset, .unset, .unset] [(.long (z15 ^^^ (-1 : Int64))), (.long q0)])) := fun t k => G46 t (XS.lxor Y41.here hx rfl (hb hby at_70) rfl k)
  have G48 : own_Go p.tables e below (s₁.setTop (entryFrame m #[(.long q0), (.int p1), (.int p2)] maxLocals)) (T41.setTop (mkF m 72 #[.val (.long q0), .second, .val (.int p1), .val (.int p2), .val (.int z7), .val (.ref aP), .val (.long z15), .second, .val (.int z20), .val (.long z23_0), .second, .val (.int z36), .val (.int z43), .unset, .unset, .unset] [(.long (q0 &&& (z15 ^^^ (-1 : Int64))))])) := fun t k => G47 t (XS.land Y41.here hx rfl (hb hby at_71) rfl k)
  have G49 : own_Go p.tables e below (s₁.setTop (entryFrame m #[(.long q0), (.int p1), (.int p2)] maxLocals)) (T41.setTop (mkF m 74 #[.val (.long q0), .second, .val (.int p1), .val (.int p2), .val (.int z7), .val (.ref aP), .val (.long z15), .second, .val (.int z20), .val (.long z23_0), .second, .val (.int z36), .val (.int z43), .unset, .unset, .unset] [(.ref aP), (.long (q0 &&& (z15 ^^^ (-1 : Int64))))])) := fun t k => G48 t (XS.aload Y41.here hx rfl (hb hby at_72) rfl rfl k)
  obtain ⟨vv50, _, ⟨T50, L50, k50, n50⟩, -, X50, ⟨Lc50, hQ50, l50, y50, z50⟩, st50⟩ := Jvm.LawKit.callS Y41 hx (y := (⟨"com/example/hyrarchy/hyrarchy/PathGrants", "mentions", "(JLcom/example/hyrarchy/hyrarchy/Permission;)Z"⟩ : MethodName)) hown (mvT hZ (hw _ (List.mem_of_getElem? (i := 8) rfl))) (mvT hZ (hw _ (List.mem_of_getElem? (i := 9) rfl))) (mvT hZ (hw _ (List.mem_of_getElem? (i := 10) rfl))) (mvT hZ (hw _ (List.mem_of_getElem? (i := 11) rfl))) (by decide) (backOf (W := 0) (rm2 l Z aw hw [] (q0 &&& (z15 ^^^ (-1 : Int64))) aP z7 h0 E_P F_P) hZ (hw _ (List.mem_of_getElem? (i := 11) rfl)) (hw _ (List.mem_of_getElem? (i := 10) rfl)) (by decide) (by decide)) (g := (mkF m 74 #[.val (.long q0), .second, .val (.int p1), .val (.int p2), .val (.int z7), .val (.ref aP), .val (.long z15), .second, .val (.int z20), .val (.long z23_0), .second, .val (.int z36), .val (.int z43), .unset, .unset, .unset] [(.ref aP), (.long (q0 &&& (z15 ^^^ (-1 : Int64))))])) rfl (by rw [hml]; rfl) (argsL := [(.long (q0 &&& (z15 ^^^ (-1 : Int64)))), (.ref aP)]) (rest := []) (lenOf pd_0_2 rfl) rfl (by show 2 * 0 + _ ≤ _; exact Nat.le_of_eq rfl) (hb hby at_74) (fun _ _ => ⟨rfl, e41, (by decide : 0 + 0 ≤ _), (by decide : 0 + 0 ≤ _)⟩)
  dsimp only [Pt.U, Pt.locs, Pt.cells, Pt.slots] at X50 l50 y50 z50 st50 hQ50
  subst l50 y50 z50
  obtain ⟨rfl, rfl, e50⟩ := hQ50
  have Y50 : Stand p l e room_1 s m #[(.long q0), (.int p1), (.int p2)] below meth c T50 [] 0 0 := X50
  have G50 : own_Go p.tables e below (s₁.setTop (entryFrame m #[(.long q0), (.int p1), (.int p2)] maxLocals)) (T50.setTop (mkF m 77 #[.val (.long q0), .second, .val (.int p1), .val (.int p2), .val (.int z7), .val (.ref aP), .val (.long z15), .second, .val (.int z20), .val (.long z23_0), .second, .val (.int z36), .val (.int z43), .unset, .unset, .unset] [(.int (own_men (q0 &&& (z15 ^^^ (-1 : Int64))) z7))])) := fun t k => G49 t (st50 t k)
  have G51 : own_Go p.tables e below (s₁.setTop (entryFrame m #[(.long q0), (.int p1), (.int p2)] maxLocals)) (T50.setTop (mkF m 79 #[.val (.long q0), .second, .val (.int p1), .val (.int p2), .val (.int z7), .val (.ref aP), .val (.long z15), .second, .val (.int z20), .val (.long z23_0), .second, .val (.int z36), .val (.int z43), .val (.int (own_men (q0 &&& (z15 ^^^ (-1 : Int64))) z7)), .unset, .unset] [])) := fun t k => G50 t (XS.istore Y50.here hx rfl (hb hby at_77) rfl (l' := #[.val (.long q0), .second, .val (.int p1), .val (.int p2), .val (.int z7), .val (.ref aP), .val (.long z15), .second, .val (.int z20), .val (.long z23_0), .second, .val (.int z36), .val (.int z43), .val (.int (own_men (q0 &&& (z15 ^^^ (-1 : Int64))) z7)), .unset, .unset]) rfl k)
  obtain ⟨z52, hz52, G52⟩ : ∃ z52 : Int32, z52 = (own_men (q0 &&& (z15 ^^^ (-1 : Int64))) z7) ∧ own_Go p.tables e below (s₁.setTop (entryFrame m #[(.long q0), (.int p1), (.int p2)] maxLocals)) (T50.setTop (mkF m 79 #[.val (.long q0), .second, .val (.int p1), .val (.int p2), .val (.int z7), .val (.ref aP), .val (.long z15), .second, .val (.int z20), .val (.long z23_0), .second, .val (.int z36), .val (.int z43), .val (.int z52), .unset, .unset] [])) := ⟨_, rfl, G51⟩
  have G53 : own_Go p.tables e below (s₁.setTop (entryFrame m #[(.long q0), (.int p1), (.int p2)] maxLocals)) (T50.setTop (mkF m 80 #[.val (.long q0), .second, .val (.int p1), .val (.int p2), .val (.int z7), .val (.ref aP), .val (.long z15), .second, .val (.int z20), .val (.long z23_0), .second, .val (.int z36), .val (.int z43), .val (.int z52), .unset, .unset] [(.long q0)])) := fun t k => G52 t (XS.lloadN Y50.here hx rfl (hb hby at_79) rfl k)
  have G54 : own_Go p.tables e below (s₁.setTop (entryFrame m #[(.long q0), (.int p1), (.int p2)] maxLocals)) (T50.setTop (mkF m 82 #[.val (.long q0), .second, .val (.int p1), .val (.int p2), .val (.int z7), .val (.ref aP), .val (.long z15), .second, .val (.int z20), .val (.long z23_0), .second, .val (.int z36), .val (.int z43), .val (.int z52), .unset, .unset] [(.long z23_0), (.long q0)])) := fun t k => G53 t (XS.lload Y50.here hx rfl (hb hby at_80) rfl k)
  have G55 : own_Go p.tables e below (s₁.setTop (entryFrame m #[(.long q0), (.int p1), (.int p2)] maxLocals)) (T50.setTop (mkF m 83 #[.val (.long q0), .second, .val (.int p1), .val (.int p2), .val (.int z7), .val (.ref aP), .val (.long z15), .second, .val (.int z20), .val (.long z23_0), .second, .val (.int z36), .val (.int z43), .val (.int z52), .unset, .unset] [(.long (q0 ^^^ z23_0))])) := fun t k => G54 t (XS.lxor Y50.here hx rfl (hb hby at_82) rfl k)
  have G56 : own_Go p.tables e below (s₁.setTop (entryFrame m #[(.long q0), (.int p1), (.int p2)] maxLocals)) (T50.setTop (mkF m 85 #[.val (.long q0), .second, .val (.int p1), .val (.int p2), .val (.int z7), .val (.ref aP), .val (.long z15), .second, .val (.int z20), .val (.long z23_0), .second, .val (.int z36), .val (.int z43), .val (.int z52), .unset, .unset] [(.ref aP), (.long (q0 ^^^ z23_0))])) := fun t k => G55 t (XS.aload Y50.here hx rfl (hb hby at_83) rfl rfl k)
  obtain ⟨vv57, _, ⟨T57, L57, k57, n57⟩, -, X57, ⟨Lc57, hQ57, l57, y57, z57⟩, st57⟩ := Jvm.LawKit.callS Y50 hx (y := (⟨"com/example/hyrarchy/hyrarchy/PathGrants", "mentions", "(JLcom/example/hyrarchy/hyrarchy/Permission;)Z"⟩ : MethodName)) hown (mvT hZ (hw _ (List.mem_of_getElem? (i := 8) rfl))) (mvT hZ (hw _ (List.mem_of_getElem? (i := 9) rfl))) (mvT hZ (hw _ (List.mem_of_getElem? (i := 10) rfl))) (mvT hZ (hw _ (List.mem_of_getElem? (i := 11) rfl))) (by decide) (backOf (W := 0) (rm2 l Z aw hw [] (q0 ^^^ z23_0) aP z7 h0 E_P F_P) hZ (hw _ (List.mem_of_getElem? (i := 11) rfl)) (hw _ (List.mem_of_getElem? (i := 10) rfl)) (by decide) (by decide)) (g := (mkF m 85 #[.val (.long q0), .second, .val (.int p1), .val (.int p2), .val (.int z7), .val (.ref aP), .val (.long z15), .second, .val (.int z20), .val (.long z23_0), .second, .val (.int z36), .val (.int z43), .val (.int z52), .unset, .unset] [(.ref aP), (.long (q0 ^^^ z23_0))])) rfl (by rw [hml]; rfl) (argsL := [(.long (q0 ^^^ z23_0)), (.ref aP)]) (rest := []) (lenOf pd_0_2 rfl) rfl (by show 2 * 0 + _ ≤ _; exact Nat.le_of_eq rfl) (hb hby at_85) (fun _ _ => ⟨rfl, e50, (by decide : 0 + 0 ≤ _), (by decide : 0 + 0 ≤ _)⟩)
  dsimp only [Pt.U, Pt.locs, Pt.cells, Pt.slots] at X57 l57 y57 z57 st57 hQ57
  subst l57 y57 z57
  obtain ⟨rfl, rfl, e57⟩ := hQ57
  have Y57 : Stand p l e room_1 s m #[(.long q0), (.int p1), (.int p2)] below meth c T57 [] 0 0 := X57
  have G57 : own_Go p.tables e below (s₁.setTop (entryFrame m #[(.long q0), (.int p1), (.int p2)] maxLocals)) (T57.setTop (mkF m 88 #[.val (.long q0), .second, .val (.int p1), .val (.int p2), .val (.int z7), .val (.ref aP), .val (.long z15), .second, .val (.int z20), .val (.long z23_0), .second, .val (.int z36), .val (.int z43), .val (.int z52), .unset, .unset] [(.int (own_men (q0 ^^^ z23_0) z7))])) := fun t k => G56 t (st57 t k)
  have G58 : own_Go p.tables e below (s₁.setTop (entryFrame m #[(.long q0), (.int p1), (.int p2)] maxLocals)) (T57.setTop (mkF m 90 #[.val (.long q0), .second, .val (.int p1), .val (.int p2), .val (.int z7), .val (.ref aP), .val (.long z15), .second, .val (.int z20), .val (.long z23_0), .second, .val (.int z36), .val (.int z43), .val (.int z52), .val (.int (own_men (q0 ^^^ z23_0) z7)), .unset] [])) := fun t k => G57 t (XS.istore Y57.here hx rfl (hb hby at_88) rfl (l' := #[.val (.long q0), .second, .val (.int p1), .val (.int p2), .val (.int z7), .val (.ref aP), .val (.long z15), .second, .val (.int z20), .val (.long z23_0), .second, .val (.int z36), .val (.int z43), .val (.int z52), .val (.int (own_men (q0 ^^^ z23_0) z7)), .unset]) rfl k)
  obtain ⟨z59, hz59, G59⟩ : ∃ z59 : Int32, z59 = (own_men (q0 ^^^ z23_0) z7) ∧ own_Go p.tables e below (s₁.setTop (entryFrame m #[(.long q0), (.int p1), (.int p2)] maxLocals)) (T57.setTop (mkF m 90 #[.val (.long q0), .second, .val (.int p1), .val (.int p2), .val (.int z7), .val (.ref aP), .val (.long z15), .second, .val (.int z20), .val (.long z23_0), .second, .val (.int z36), .val (.int z43), .val (.int z52), .val (.int z59), .unset] [])) := ⟨_, rfl, G58⟩
  have G60 : own_Go p.tables e below (s₁.setTop (entryFrame m #[(.long q0), (.int p1), (.int p2)] maxLocals)) (T57.setTop (mkF m 91 #[.val (.long q0), .second, .val (.int p1), .val (.int p2), .val (.int z7), .val (.ref aP), .val (.long z15), .second, .val (.int z20), .val (.long z23_0), .second, .val (.int z36), .val (.int z43), .val (.int z52), .val (.int z59), .unset] [(.long q0)])) := fun t k => G59 t (XS.lloadN Y57.here hx rfl (hb hby at_90) rfl k)
  have G61 : own_Go p.tables e below (s₁.setTop (entryFrame m #[(.long q0), (.int p1), (.int p2)] maxLocals)) (T57.setTop (mkF m 93 #[.val (.long q0), .second, .val (.int p1), .val (.int p2), .val (.int z7), .val (.ref aP), .val (.long z15), .second, .val (.int z20), .val (.long z23_0), .second, .val (.int z36), .val (.int z43), .val (.int z52), .val (.int z59), .unset] [(.long z15), (.long q0)])) := fun t k => G60 t (XS.lload Y57.here hx rfl (hb hby at_91) rfl k)
  have G62 : own_Go p.tables e below (s₁.setTop (entryFrame m #[(.long q0), (.int p1), (.int p2)] maxLocals)) (T57.setTop (mkF m 94 #[.val (.long q0), .second, .val (.int p1), .val (.int p2), .val (.int z7), .val (.ref aP), .val (.long z15), .second, .val (.int z20), .val (.long z23_0), .second, .val (.int z36), .val (.int z43), .val (.int z52), .val (.int z59), .unset] [(.long (q0 &&& z15))])) := fun t k => G61 t (XS.land Y57.here hx rfl (hb hby at_93) rfl k)
  have G63 : own_Go p.tables e below (s₁.setTop (entryFrame m #[(.long q0), (.int p1), (.int p2)] maxLocals)) (T57.setTop (mkF m 95 #[.val (.long q0), .second, .val (.int p1), .val (.int p2), .val (.int z7), .val (.ref aP), .val (.long z15), .second, .val (.int z20), .val (.long z23_0), .second, .val (.int z36), .val (.int z43), .val (.int z52), .val (.int z59), .unset] [(.long (0 : Int64)), (.long (q0 &&& z15))])) := fun t k => G62 t (XT.lconstV Y57.here hx rfl (0 : Int64) (hb hby at_94) (by decide) k)
  have G64 : own_Go p.tables e below (s₁.setTop (entryFrame m #[(.long q0), (.int p1), (.int p2)] maxLocals)) (T57.setTop (mkF m 96 #[.val (.long q0), .second, .val (.int p1), .val (.int p2), .val (.int z7), .val (.ref aP), .val (.long z15), .second, .val (.int z20), .val (.long z23_0), .second, .val (.int z36), .val (.int z43), .val (.int z52), .val (.int z59), .unset] [(.int (lcmpW (q0 &&& z15) (0 : Int64)))])) := fun t k => G63 t (XS.lcmp Y57.here hx rfl (hb hby at_95) rfl k)
  obtain ⟨z65_0, hz65_0, G65⟩ : ∃ (z65_0 : Int32), z65_0 = (if (q0 &&& z15) = (0 : Int64) then (0 : Int32) else (1 : Int32)) ∧ own_Go p.tables e below (s₁.setTop (entryFrame m #[(.long q0), (.int p1), (.int p2)] maxLocals)) (T57.setTop (mkF m 104 #[.val (.long q0), .second, .val (.int p1), .val (.int p2), .val (.int z7), .val (.ref aP), .val (.long z15), .second, .val (.int z20), .val (.long z23_0), .second, .val (.int z36), .val (.int z43), .val (.int z52), .val (.int z59), .unset] [(.int z65_0)])) := by
    by_cases hc65 : (q0 &&& z15) = (0 : Int64)
    · have G66 : own_Go p.tables e below (s₁.setTop (entryFrame m #[(.long q0), (.int p1), (.int p2)] maxLocals)) (T57.setTop (mkF m 103 #[.val (.long q0), .second, .val (.int p1), .val (.int p2), .val (.int z7), .val (.ref aP), .val (.long z15), .second, .val (.int z20), .val (.long z23_0), .second, .val (.int z36), .val (.int z43), .val (.int z52), .val (.int z59), .unset] [])) := fun t k => G64 t (XS.ifYes Y57.here hx rfl (pc0 := 96) (pc' := 103) rfl (hb hby at_96) rfl ((if0 _ _).trans (teq (((lw_eq _ _).mpr hc65) : (lcmpW (q0 &&& z15) (0 : Int64)) = (0 : Int32))).1) (by decide) (by decide) k)
      have G67 : own_Go p.tables e below (s₁.setTop (entryFrame m #[(.long q0), (.int p1), (.int p2)] maxLocals)) (T57.setTop (mkF m 104 #[.val (.long q0), .second, .val (.int p1), .val (.int p2), .val (.int z7), .val (.ref aP), .val (.long z15), .second, .val (.int z20), .val (.long z23_0), .second, .val (.int z36), .val (.int z43), .val (.int z52), .val (.int z59), .unset] [(.int (0 : Int32))])) := fun t k => G66 t (XT.iconstV Y57.here hx rfl (0 : Int32) (hb hby at_103) (by decide) k)
      exact ⟨_, (if_pos hc65).symm, G67⟩
    · have G68 : own_Go p.tables e below (s₁.setTop (entryFrame m #[(.long q0), (.int p1), (.int p2)] maxLocals)) (T57.setTop (mkF m 99 #[.val (.long q0), .second, .val (.int p1), .val (.int p2), .val (.int z7), .val (.ref aP), .val (.long z15), .second, .val (.int z20), .val (.long z23_0), .second, .val (.int z36), .val (.int z43), .val (.int z52), .val (.int z59), .unset] [])) := fun t k => G64 t (XS.ifNo Y57.here hx rfl (hb hby at_96) rfl ((if0 _ _).trans (feq ((fun q => hc65 ((lw_eq _ _).mp q)) : ¬ ((lcmpW (q0 &&& z15) (0 : Int64)) = (0 : Int32)))).1) k)
      have G69 : own_Go p.tables e below (s₁.setTop (entryFrame m #[(.long q0), (.int p1), (.int p2)] maxLocals)) (T57.setTop (mkF m 100 #[.val (.long q0), .second, .val (.int p1), .val (.int p2), .val (.int z7), .val (.ref aP), .val (.long z15), .second, .val (.int z20), .val (.long z23_0), .second, .val (.int z36), .val (.int z43), .val (.int z52), .val (.int z59), .unset] [(.int (1 : Int32))])) := fun t k => G68 t (XT.iconstV Y57.here hx rfl (1 : Int32) (hb hby at_99) (by decide) k)
      have G70 : own_Go p.tables e below (s₁.setTop (entryFrame m #[(.long q0), (.int p1), (.int p2)] maxLocals)) (T57.setTop (mkF m 104 #[.val (.long q0), .second, .val (.int p1), .val (.int p2), .val (.int z7), .val (.ref aP), .val (.long z15), .second, .val (.int z20), .val (.long z23_0), .second, .val (.int z36), .val (.int z43), .val (.int z52), .val (.int z59), .unset] [(.int (1 : Int32))])) := fun t k => G69 t (XS.goto Y57.here hx rfl (pc0 := 100) (pc' := 104) rfl (hb hby at_100) (by decide) (by decide) k)
      exact ⟨_, (if_neg hc65).symm, G70⟩
  have G71 : own_Go p.tables e below (s₁.setTop (entryFrame m #[(.long q0), (.int p1), (.int p2)] maxLocals)) (T57.setTop (mkF m 106 #[.val (.long q0), .second, .val (.int p1), .val (.int p2), .val (.int z7), .val (.ref aP), .val (.long z15), .second, .val (.int z20), .val (.long z23_0), .second, .val (.int z36), .val (.int z43), .val (.int z52), .val (.int z59), .val (.int z65_0)] [])) := fun t k => G65 t (XS.istore Y57.here hx rfl (hb hby at_104) rfl (l' := #[.val (.long q0), .second, .val (.int p1), .val (.int p2), .val (.int z7), .val (.ref aP), .val (.long z15), .second, .val (.int z20), .val (.long z23_0), .second, .val (.int z36), .val (.int z43), .val (.int z52), .val (.int z59), .val (.int z65_0)]) rfl k)
  have G72 : own_Go p.tables e below (s₁.setTop (entryFrame m #[(.long q0), (.int p1), (.int p2)] maxLocals)) (T57.setTop (mkF m 108 #[.val (.long q0), .second, .val (.int p1), .val (.int p2), .val (.int z7), .val (.ref aP), .val (.long z15), .second, .val (.int z20), .val (.long z23_0), .second, .val (.int z36), .val (.int z43), .val (.int z52), .val (.int z59), .val (.int z65_0)] [(.int z43)])) := fun t k => G71 t (XS.iload Y57.here hx rfl (hb hby at_106) rfl k)
  have hk73 : ¬ (z43 = (0 : Int32)) := by rw [hz43, hz15]; exact own_m_set _ hk
  have G74 : own_Go p.tables e below (s₁.setTop (entryFrame m #[(.long q0), (.int p1), (.int p2)] maxLocals)) (T57.setTop (mkF m 111 #[.val (.long q0), .second, .val (.int p1), .val (.int p2), .val (.int z7), .val (.ref aP), .val (.long z15), .second, .val (.int z20), .val (.long z23_0), .second, .val (.int z36), .val (.int z43), .val (.int z52), .val (.int z59), .val (.int z65_0)] [])) := fun t k => G72 t (XS.ifNo Y57.here hx rfl (hb hby at_108) rfl ((if0 _ _).trans (feq hk73).1) k)
  have G75 : own_Go p.tables e below (s₁.setTop (entryFrame m #[(.long q0), (.int p1), (.int p2)] maxLocals)) (T57.setTop (mkF m 113 #[.val (.long q0), .second, .val (.int p1), .val (.int p2), .val (.int z7), .val (.ref aP), .val (.long z15), .second, .val (.int z20), .val (.long z23_0), .second, .val (.int z36), .val (.int z43), .val (.int z52), .val (.int z59), .val (.int z65_0)] [(.int z52)])) := fun t k => G74 t (XS.iload Y57.here hx rfl (hb hby at_111) rfl k)
  have hk76 : z52 = (0 : Int32) := by rw [hz52, hz15]; exact own_m_clr _ hk
  have G77 : own_Go p.tables e below (s₁.setTop (entryFrame m #[(.long q0), (.int p1), (.int p2)] maxLocals)) (T57.setTop (mkF m 116 #[.val (.long q0), .second, .val (.int p1), .val (.int p2), .val (.int z7), .val (.ref aP), .val (.long z15), .second, .val (.int z20), .val (.long z23_0), .second, .val (.int z36), .val (.int z43), .val (.int z52), .val (.int z59), .val (.int z65_0)] [])) := fun t k => G75 t (XS.ifNo Y57.here hx rfl (hb hby at_113) rfl ((if0 _ _).trans (teq hk76).2) k)
  have G78 : own_Go p.tables e below (s₁.setTop (entryFrame m #[(.long q0), (.int p1), (.int p2)] maxLocals)) (T57.setTop (mkF m 118 #[.val (.long q0), .second, .val (.int p1), .val (.int p2), .val (.int z7), .val (.ref aP), .val (.long z15), .second, .val (.int z20), .val (.long z23_0), .second, .val (.int z36), .val (.int z43), .val (.int z52), .val (.int z59), .val (.int z65_0)] [(.int z59)])) := fun t k => G77 t (XS.iload Y57.here hx rfl (hb hby at_116) rfl k)
  have G79 : own_Go p.tables e below (s₁.setTop (entryFrame m #[(.long q0), (.int p1), (.int p2)] maxLocals)) (T57.setTop (mkF m 120 #[.val (.long q0), .second, .val (.int p1), .val (.int p2), .val (.int z7), .val (.ref aP), .val (.long z15), .second, .val (.int z20), .val (.long z23_0), .second, .val (.int z36), .val (.int z43), .val (.int z52), .val (.int z59), .val (.int z65_0)] [(.int z36), (.int z59)])) := fun t k => G78 t (XS.iload Y57.here hx rfl (hb hby at_118) rfl k)
  have hk80 : z59 = z36 := by rw [hz59, hz36, hz23_0]; exact own_m_flip _ hk _ hz20
  have G81 : own_Go p.tables e below (s₁.setTop (entryFrame m #[(.long q0), (.int p1), (.int p2)] maxLocals)) (T57.setTop (mkF m 123 #[.val (.long q0), .second, .val (.int p1), .val (.int p2), .val (.int z7), .val (.ref aP), .val (.long z15), .second, .val (.int z20), .val (.long z23_0), .second, .val (.int z36), .val (.int z43), .val (.int z52), .val (.int z59), .val (.int z65_0)] [])) := fun t k => G79 t (XS.icmpNo Y57.here hx rfl (hb hby at_120) rfl (teq hk80).2 k)
  have G82 : own_Go p.tables e below (s₁.setTop (entryFrame m #[(.long q0), (.int p1), (.int p2)] maxLocals)) (T57.setTop (mkF m 125 #[.val (.long q0), .second, .val (.int p1), .val (.int p2), .val (.int z7), .val (.ref aP), .val (.long z15), .second, .val (.int z20), .val (.long z23_0), .second, .val (.int z36), .val (.int z43), .val (.int z52), .val (.int z59), .val (.int z65_0)] [(.int z36)])) := fun t k => G81 t (XS.iload Y57.here hx rfl (hb hby at_123) rfl k)
  have G83 : own_Go p.tables e below (s₁.setTop (entryFrame m #[(.long q0), (.int p1), (.int p2)] maxLocals)) (T57.setTop (mkF m 127 #[.val (.long q0), .second, .val (.int p1), .val (.int p2), .val (.int z7), .val (.ref aP), .val (.long z15), .second, .val (.int z20), .val (.long z23_0), .second, .val (.int z36), .val (.int z43), .val (.int z52), .val (.int z59), .val (.int z65_0)] [(.int z65_0), (.int z36)])) := fun t k => G82 t (XS.iload Y57.here hx rfl (hb hby at_125) rfl k)
  have hk84 : z36 = z65_0 := by rw [hz36, hz65_0, hz15]; exact own_m_exp _ hk
  have G85 : own_Go p.tables e below (s₁.setTop (entryFrame m #[(.long q0), (.int p1), (.int p2)] maxLocals)) (T57.setTop (mkF m 130 #[.val (.long q0), .second, .val (.int p1), .val (.int p2), .val (.int z7), .val (.ref aP), .val (.long z15), .second, .val (.int z20), .val (.long z23_0), .second, .val (.int z36), .val (.int z43), .val (.int z52), .val (.int z59), .val (.int z65_0)] [])) := fun t k => G83 t (XS.icmpNo Y57.here hx rfl (hb hby at_127) rfl (teq hk84).2 k)
  have G86 : own_Go p.tables e below (s₁.setTop (entryFrame m #[(.long q0), (.int p1), (.int p2)] maxLocals)) (T57.setTop (mkF m 131 #[.val (.long q0), .second, .val (.int p1), .val (.int p2), .val (.int z7), .val (.ref aP), .val (.long z15), .second, .val (.int z20), .val (.long z23_0), .second, .val (.int z36), .val (.int z43), .val (.int z52), .val (.int z59), .val (.int z65_0)] [(.int (1 : Int32))])) := fun t k => G85 t (XT.iconstV Y57.here hx rfl (1 : Int32) (hb hby at_130) (by decide) k)
  have G87 : own_Go p.tables e below (s₁.setTop (entryFrame m #[(.long q0), (.int p1), (.int p2)] maxLocals)) (T57.setTop (mkF m 135 #[.val (.long q0), .second, .val (.int p1), .val (.int p2), .val (.int z7), .val (.ref aP), .val (.long z15), .second, .val (.int z20), .val (.long z23_0), .second, .val (.int z36), .val (.int z43), .val (.int z52), .val (.int z59), .val (.int z65_0)] [(.int (1 : Int32))])) := fun t k => G86 t (XS.goto Y57.here hx rfl (pc0 := 131) (pc' := 135) rfl (hb hby at_131) (by decide) (by decide) k)
  obtain ⟨fs, hr, hrun, hended, hW, hsame⟩ := Y57.leave (v := some (.int (nar .boolean (1 : Int32)))) (fun h => by rw [Bd.returns] at h; cases h)
  refine ⟨_, _, G87 _ ?_, hrun, hended, _, _, rfl, ?_, ⟨_, rfl⟩, hW, hsame.mono (by decide) (by decide)⟩
  · exact retN Y57 hx (t := .boolean) Bd.returns (by simp) (hb hby at_135) hr
  · show Q0 Z q0 p1 p2 aC aR aU aD aE aA aL h0 _ T57.heap _
    rw [e57]
    exact ⟨rfl, rfl, rfl⟩
set_option maxRecDepth 65536 in
set_option maxHeartbeats 40000000 in
theorem comes_1 {Post : Tables → Env → Array Value → State → Outcome → State → Prop} (hpost : ∀ tb e args s v u, (limb_1_1.after args s (.returned v) u = true ∧ limb_1_2.after args s (.returned v) u = true ∧ True) → FrameEnd s (.returned v) u (Jvm.fieldLocs frame_1_writes args s ++ Jvm.arrayLocs frame_1_arrays args s ++ Jvm.staticLocs frame_1_statics s) 0 0 → Post tb e args s (.returned v) u) :
    ArmFor flags0 classFile x code maxLocals ret World_1 tables_1 room_1 Calls_1 rest_1 Pre_1 Post := by
  intro l hfl _ _ p e ha hc hk s m args below hf hA hF happ hP
  obtain ⟨hcalls, hrest, hpre⟩ := hP
  obtain ⟨-, -, -, hnamed, -, -, -, hat⟩ := (Spec.applies_iff hf).mp happ
  obtain ⟨hg, hn⟩ := and_e (Cond.before_iff.mp (show (Jvm.Cond.and given_1 narrow_1).before args s = true from hpre))
  obtain ⟨ga1, gb1⟩ := and_e hg
  obtain ⟨ga2, gb2⟩ := and_e gb1
  obtain ⟨ga3, gb3⟩ := and_e gb2
  obtain ⟨w0, w1, w2, rfl⟩ : ∃ w0 w1 w2 : Value, args = #[w0, w1, w2] := by
    have hs : args.size = 3 := by simpa [Cond.value, given_1] using ga1
    obtain ⟨L⟩ := args
    match L, hs with
    | [w0, w1, w2], _ => exact ⟨w0, w1, w2, rfl⟩
  have hw := fun d (hd : d ∈ tables_1) => atoms_spec (ws := Jvm.Cond.code x code maxLocals ret :: tables_1) hat d (List.mem_cons_of_mem _ hd)
  have hfit : Fit s := fun {y c} hc i hi => by
    obtain ⟨ha, rfl⟩ := Array.getElem?_eq_some_iff.mp hc
    have q := List.all_eq_true.mp ((Array.all_eq_true_iff_forall_mem.mp hF) _ (Array.getElem_mem ha)) i (List.mem_range.mpr hi)
    simpa [Array.getElem?_eq_getElem hi] using q
  obtain ⟨i0, ei0⟩ := isL_v ga2
  obtain rfl : w0 = (.long i0) := Option.some.inj ei0
  obtain ⟨i1, ei1⟩ := is_v ga3
  obtain rfl : w1 = (.int i1) := Option.some.inj ei1
  obtain ⟨i2, ei2⟩ := is_v gb3
  obtain rfl : w2 = (.int i2) := Option.some.inj ei2
  obtain ⟨ga101, gb101⟩ := and_e hn
  obtain ⟨ga102, gb102⟩ := and_e gb101
  obtain ⟨ga103, gb103⟩ := and_e gb102
  obtain ⟨ga104, gb104⟩ := and_e gb103
  obtain ⟨ga105, gb105⟩ := and_e gb104
  obtain ⟨ga106, gb106⟩ := and_e gb105
  obtain ⟨ga107, gb107⟩ := and_e gb106
  obtain ⟨ga108, gb108⟩ := and_e gb107
  obtain ⟨ga109, gb109⟩ := and_e gb108
  obtain ⟨ga110, gb110⟩ := and_e gb109
  obtain ⟨ga111, gb111⟩ := and_e gb110
  obtain ⟨ga112, gb112⟩ := and_e gb111
  obtain ⟨ga113, gb113⟩ := and_e gb112
  obtain ⟨a_UPDATE, ev_UPDATE⟩ := exa_v ga101
  have S_UPDATE : Sta s s.heap "com/example/hyrarchy/hyrarchy/Permission" "UPDATE" "Lcom/example/hyrarchy/hyrarchy/Permission;" (.ref a_UPDATE) := Sta.start ev_UPDATE (Or.inr ⟨(hw _ (List.mem_of_getElem? (i := 6) rfl)), (hw _ (List.mem_of_getElem? (i := 7) rfl))⟩)
  have E_UPDATE : Exa s s.heap a_UPDATE "com/example/hyrarchy/hyrarchy/Permission" := Exa.start ev_UPDATE ga101
  obtain ⟨a_DELETE, ev_DELETE⟩ := exa_v ga103
  have S_DELETE : Sta s s.heap "com/example/hyrarchy/hyrarchy/Permission" "DELETE" "Lcom/example/hyrarchy/hyrarchy/Permission;" (.ref a_DELETE) := Sta.start ev_DELETE (Or.inr ⟨(hw _ (List.mem_of_getElem? (i := 6) rfl)), (hw _ (List.mem_of_getElem? (i := 23) rfl))⟩)
  have E_DELETE : Exa s s.heap a_DELETE "com/example/hyrarchy/hyrarchy/Permission" := Exa.start ev_DELETE ga103
  obtain ⟨a_READ, ev_READ⟩ := exa_v ga105
  have S_READ : Sta s s.heap "com/example/hyrarchy/hyrarchy/Permission" "READ" "Lcom/example/hyrarchy/hyrarchy/Permission;" (.ref a_READ) := Sta.start ev_READ (Or.inr ⟨(hw _ (List.mem_of_getElem? (i := 6) rfl)), (hw _ (List.mem_of_getElem? (i := 25) rfl))⟩)
  have E_READ : Exa s s.heap a_READ "com/example/hyrarchy/hyrarchy/Permission" := Exa.start ev_READ ga105
  obtain ⟨a_LANGUAGE, ev_LANGUAGE⟩ := exa_v ga107
  have S_LANGUAGE : Sta s s.heap "com/example/hyrarchy/hyrarchy/Permission" "LANGUAGE" "Lcom/example/hyrarchy/hyrarchy/Permission;" (.ref a_LANGUAGE) := Sta.start ev_LANGUAGE (Or.inr ⟨(hw _ (List.mem_of_getElem? (i := 6) rfl)), (hw _ (List.mem_of_getElem? (i := 27) rfl))⟩)
  have E_LANGUAGE : Exa s s.heap a_LANGUAGE "com/example/hyrarchy/hyrarchy/Permission" := Exa.start ev_LANGUAGE ga107
  obtain ⟨a_CREATE, ev_CREATE⟩ := exa_v ga109
  have S_CREATE : Sta s s.heap "com/example/hyrarchy/hyrarchy/Permission" "CREATE" "Lcom/example/hyrarchy/hyrarchy/Permission;" (.ref a_CREATE) := Sta.start ev_CREATE (Or.inr ⟨(hw _ (List.mem_of_getElem? (i := 6) rfl)), (hw _ (List.mem_of_getElem? (i := 29) rfl))⟩)
  have E_CREATE : Exa s s.heap a_CREATE "com/example/hyrarchy/hyrarchy/Permission" := Exa.start ev_CREATE ga109
  obtain ⟨a_EXECUTE, ev_EXECUTE⟩ := exa_v ga111
  have S_EXECUTE : Sta s s.heap "com/example/hyrarchy/hyrarchy/Permission" "EXECUTE" "Lcom/example/hyrarchy/hyrarchy/Permission;" (.ref a_EXECUTE) := Sta.start ev_EXECUTE (Or.inr ⟨(hw _ (List.mem_of_getElem? (i := 6) rfl)), (hw _ (List.mem_of_getElem? (i := 31) rfl))⟩)
  have E_EXECUTE : Exa s s.heap a_EXECUTE "com/example/hyrarchy/hyrarchy/Permission" := Exa.start ev_EXECUTE ga111
  obtain ⟨a_ALTER, ev_ALTER⟩ := exa_v ga113
  have S_ALTER : Sta s s.heap "com/example/hyrarchy/hyrarchy/Permission" "ALTER" "Lcom/example/hyrarchy/hyrarchy/Permission;" (.ref a_ALTER) := Sta.start ev_ALTER (Or.inr ⟨(hw _ (List.mem_of_getElem? (i := 6) rfl)), (hw _ (List.mem_of_getElem? (i := 33) rfl))⟩)
  have E_ALTER : Exa s s.heap a_ALTER "com/example/hyrarchy/hyrarchy/Permission" := Exa.start ev_ALTER ga113
  have F_UPDATE_ordinal : Fld s s.heap a_UPDATE "java/lang/Enum" "ordinal" "I" (.int (2 : Int32)) := own_fld ev_UPDATE (own_eqI ga102)
  have F_DELETE_ordinal : Fld s s.heap a_DELETE "java/lang/Enum" "ordinal" "I" (.int (3 : Int32)) := own_fld ev_DELETE (own_eqI ga104)
  have F_READ_ordinal : Fld s s.heap a_READ "java/lang/Enum" "ordinal" "I" (.int (1 : Int32)) := own_fld ev_READ (own_eqI ga106)
  have F_LANGUAGE_ordinal : Fld s s.heap a_LANGUAGE "java/lang/Enum" "ordinal" "I" (.int (6 : Int32)) := own_fld ev_LANGUAGE (own_eqI ga108)
  have F_CREATE_ordinal : Fld s s.heap a_CREATE "java/lang/Enum" "ordinal" "I" (.int (0 : Int32)) := own_fld ev_CREATE (own_eqI ga110)
  have F_EXECUTE_ordinal : Fld s s.heap a_EXECUTE "java/lang/Enum" "ordinal" "I" (.int (4 : Int32)) := own_fld ev_EXECUTE (own_eqI ga112)
  have F_ALTER_ordinal : Fld s s.heap a_ALTER "java/lang/Enum" "ordinal" "I" (.int (5 : Int32)) := own_fld ev_ALTER (own_eqI gb113)
  obtain ⟨n, o, h1, h2, h3, _, L, rfl, ⟨rfl, rfl, -⟩, hq⟩ := rm0 l s _ hw tables_1 i0 i1 i2 a_CREATE a_READ a_UPDATE a_DELETE a_EXECUTE a_ALTER a_LANGUAGE s.heap S_CREATE E_CREATE F_CREATE_ordinal S_READ E_READ F_READ_ordinal S_UPDATE E_UPDATE F_UPDATE_ordinal S_DELETE E_DELETE F_DELETE_ordinal S_EXECUTE E_EXECUTE F_EXECUTE_ordinal S_ALTER E_ALTER F_ALTER_ordinal S_LANGUAGE E_LANGUAGE F_LANGUAGE_ordinal p e ha hc hk s m _ below hf ((Spec.applies_iff_loose hf).mp happ).1 ⟨rfl, State.Warmed39.refl s, rfl⟩ trivial
  refine ⟨n, _, h1, h2, h3, hpost _ _ _ _ _ _ ⟨Cond.after_iff.mpr rfl, Cond.after_iff.mpr (eq_i res_at (Term.int_eval (1)) rfl), trivial⟩ ⟨hq.1, hq.2.1, (hq.2.2.sift fun y hy => nomatch hy).mono (by decide) (by decide)⟩⟩
theorem main_1_1 : Claimed_1_1 := comes_1 fun _ _ _ _ _ _ h hF => ⟨h.1, hF⟩
theorem main_1_2 : Claimed_1_2 := comes_1 fun _ _ _ _ _ _ h hF => ⟨h.2.1, hF⟩
end Jvm.Pilot.@@N@@
namespace Jvm.Pilot.@@N@@
open Jvm Jvm.ClassFile Sem Op Lib Jvm.Free Jvm.Stand Jvm.Pilot.@@N@@.Jvm.D
/-! MADE BY PROGRAM (witnessworld.py) out of the Statement's table words and the real class files: 13 classes; the members and pool entries that the words name. The judged class is class 1, her method 2. -/
namespace start1
open Jvm.ClassFile
def u (s : String) : CpInfo := .utf8 (stringToUtf16 s)
/-- a pool by its gaps: so many unusable entries, then the entry; so many at the end -/
def gap : Nat → List CpInfo → List CpInfo
  | 0, r => r
  | n + 1, r => .unusable :: gap n r
def poolList (es : List (Nat × CpInfo)) (last : Nat) : List CpInfo := es.foldr (fun e r => gap e.1 (e.2 :: r)) (gap last [])
def pool (es : List (Nat × CpInfo)) (last : Nat) : Array CpInfo := ⟨poolList es last⟩
def fileOf (pool : Array CpInfo) (this : Nat) (attrs : Array Attribute := #[]) (ms : Array MethodInfo := #[]) (fl : Nat := 33) (sup : Nat := 0) (ifs : Array Nat := #[]) (fds : Array FieldInfo := #[]) : ClassFile where
  minorVersion := 0
  majorVersion := 65
  constantPool := pool
  accessFlags := fl
  thisClass := this
  superClass := sup
  interfaces := ifs
  fields := fds
  methods := ms
  attributes := attrs
def plain (name : String) (sup : Option ClassId) : Class where
  name := name
  kind := .ordinary
  loader := none
  accessFlags := 33
  super := sup
  interfaces := #[]
  cf := none
  fields := #[]
  methods := #[]
  instanceTypes := #[]
  staticTypes := #[]
  resolved := #[]
  callSites := []
  init := .initialized
  statics := none
  mirror := none

def pool0 : Array CpInfo := pool [(5, u "<init>"), (0, u "()V"), (1, .class_ 10), (1, u "java/lang/Object")] 113

def k0m0 : Method := { name := "<init>", desc := "()V", sig := { parameters := [], returnType := none }, accessFlags := 1, code := none }
/-- java/lang/Object -/
def k0 : Class := { plain "java/lang/Object" none with
  accessFlags := 33
  interfaces := #[]
  cf := some (fileOf pool0 8 #[] #[{ accessFlags := 1, nameIndex := 5, descriptorIndex := 6, attributes := #[] }] 33 0 #[] #[])
  fields := #[]
  methods := #[k0m0]
  instanceTypes := #[]
  staticTypes := #[]
  resolved := Array.replicate 124 none
  statics := none }

def pool1 : Array CpInfo := pool [(2, .class_ 4), (1, u "java/lang/Object"), (0, u "<init>"), (0, u "()V"), (0, .fieldref 8 9), (0, .class_ 10), (0, .nameAndType 11 12), (0, u "com/example/hyrarchy/hyrarchy/Permission"), (0, u "CREATE"), (0, u "Lcom/example/hyrarchy/hyrarchy/Permission;"), (0, .fieldref 8 14), (0, .nameAndType 15 12), (0, u "READ"), (0, .fieldref 8 17), (0, .nameAndType 18 12), (0, u "UPDATE"), (0, .fieldref 8 20), (0, .nameAndType 21 12), (0, u "DELETE"), (0, .fieldref 8 23), (0, .nameAndType 24 12), (0, u "EXECUTE"), (0, .fieldref 8 26), (0, .nameAndType 27 12), (0, u "ALTER"), (0, .fieldref 8 29), (0, .nameAndType 30 12), (0, u "LANGUAGE"), (0, .integer 2147483647), (0, .methodref 33 34), (0, .class_ 35), (0, .nameAndType 36 37), (0, u "com/example/hyrarchy/hyrarchy/PathGrantsMentionsPinLaw"), (0, u "perm"), (0, u "(I)Lcom/example/hyrarchy/hyrarchy/Permission;"), (0, .interfaceMethodref 39 40), (0, .class_ 41), (0, .nameAndType 42 43), (0, u "com/example/hyrarchy/hyrarchy/PathGrants"), (0, u "mentions"), (0, u "(JLcom/example/hyrarchy/hyrarchy/Permission;)Z"), (0, .long 18446744073709551615), (4, u "law"), (0, u "(JII)Z")] 2

def k1m0 : Method := { name := "<init>", desc := "()V", sig := { parameters := [], returnType := none }, accessFlags := 2, code := none }
def k1c1 : Code := { maxStack := 2, maxLocals := 1, code := method_2_code, exceptionTable := #[], attributes := #[] }
def k1m1 : Method := { name := "perm", desc := "(I)Lcom/example/hyrarchy/hyrarchy/Permission;", sig := { parameters := [.int], returnType := some (.object "com/example/hyrarchy/hyrarchy/Permission") }, accessFlags := 10, code := some k1c1 }
def k1c2 : Code := { maxStack := 6, maxLocals := 16, code := code, exceptionTable := #[], attributes := #[] }
def k1m2 : Method := { name := "law", desc := "(JII)Z", sig := { parameters := [.long, .int, .int], returnType := some .boolean }, accessFlags := 9, code := some k1c2 }
/-- com/example/hyrarchy/hyrarchy/PathGrantsMentionsPinLaw -/
def k1 : Class := { plain "com/example/hyrarchy/hyrarchy/PathGrantsMentionsPinLaw" (some 0) with
  accessFlags := 49
  interfaces := #[]
  cf := some (fileOf pool1 33 #[] #[{ accessFlags := 2, nameIndex := 5, descriptorIndex := 6, attributes := #[] }, { accessFlags := 10, nameIndex := 36, descriptorIndex := 37, attributes := #[] }, { accessFlags := 9, nameIndex := 49, descriptorIndex := 50, attributes := #[] }] 49 2 #[] #[])
  fields := #[]
  methods := #[k1m0, k1m1, k1m2]
  instanceTypes := #[]
  staticTypes := #[]
  resolved := Array.replicate 53 none
  statics := none }

def pool2 : Array CpInfo := pool [(1, .class_ 2), (0, u "java/lang/constant/Constable"), (0, .class_ 4), (0, u "java/lang/Object")] 6

/-- java/lang/constant/Constable -/
def k2 : Class := { plain "java/lang/constant/Constable" (some 0) with
  accessFlags := 1537
  interfaces := #[]
  cf := some (fileOf pool2 1 #[] #[] 1537 3 #[] #[])
  fields := #[]
  methods := #[]
  instanceTypes := #[]
  staticTypes := #[]
  resolved := Array.replicate 11 none
  statics := none }

def pool3 : Array CpInfo := pool [(1, .class_ 2), (0, u "java/lang/Comparable"), (0, .class_ 4), (0, u "java/lang/Object")] 7

/-- java/lang/Comparable -/
def k3 : Class := { plain "java/lang/Comparable" (some 0) with
  accessFlags := 1537
  interfaces := #[]
  cf := some (fileOf pool3 1 #[] #[] 1537 3 #[] #[])
  fields := #[]
  methods := #[]
  instanceTypes := #[]
  staticTypes := #[]
  resolved := Array.replicate 12 none
  statics := none }

def pool4 : Array CpInfo := pool [(1, .class_ 2), (0, u "java/io/Serializable"), (0, .class_ 4), (0, u "java/lang/Object")] 2

/-- java/io/Serializable -/
def k4 : Class := { plain "java/io/Serializable" (some 0) with
  accessFlags := 1537
  interfaces := #[]
  cf := some (fileOf pool4 1 #[] #[] 1537 3 #[] #[])
  fields := #[]
  methods := #[]
  instanceTypes := #[]
  staticTypes := #[]
  resolved := Array.replicate 7 none
  statics := none }

def pool5 : Array CpInfo := pool [(2, .class_ 4), (1, u "java/lang/Enum"), (0, u "name"), (0, u "Ljava/lang/String;"), (0, .fieldref 2 8), (0, .nameAndType 9 10), (0, u "ordinal"), (0, u "I"), (1, .class_ 14), (1, u "java/lang/Object"), (4, u "hash"), (86, .class_ 108), (1, u "java/lang/Enum$EnumDesc"), (2, .class_ 112), (0, u "java/lang/constant/Constable"), (0, .class_ 114), (0, u "java/lang/Comparable"), (0, .class_ 116), (0, u "java/io/Serializable"), (9, u "()I")] 77

def k5c0 : Code := { maxStack := 1, maxLocals := 1, code := jdk_37_method_2_code, exceptionTable := #[], attributes := #[] }
def k5m0 : Method := { name := "ordinal", desc := "()I", sig := { parameters := [], returnType := some .int }, accessFlags := 17, code := some k5c0 }
/-- java/lang/Enum -/
def k5 : Class := { plain "java/lang/Enum" (some 0) with
  accessFlags := 1057
  interfaces := #[2, 3, 4]
  cf := some (fileOf pool5 2 #[.nestMembers #[106]] #[{ accessFlags := 17, nameIndex := 9, descriptorIndex := 126, attributes := #[] }] 1057 12 #[111, 113, 115] #[{ accessFlags := 18, nameIndex := 5, descriptorIndex := 6, attributes := #[] }, { accessFlags := 18, nameIndex := 9, descriptorIndex := 10, attributes := #[] }, { accessFlags := 2, nameIndex := 19, descriptorIndex := 10, attributes := #[] }])
  fields := #[{ name := "name", type := (.object "java/lang/String"), accessFlags := 18, slot := 0, constantValue := 0 }, { name := "ordinal", type := .int, accessFlags := 18, slot := 1, constantValue := 0 }, { name := "hash", type := .int, accessFlags := 2, slot := 2, constantValue := 0 }]
  methods := #[k5m0]
  instanceTypes := #[(.object "java/lang/String"), .int, .int]
  staticTypes := #[]
  resolved := Array.replicate 204 none
  statics := none }

def pool6 : Array CpInfo := pool [(1, .class_ 2), (0, u "com/example/hyrarchy/hyrarchy/Permission"), (2, u "CREATE"), (0, u "Lcom/example/hyrarchy/hyrarchy/Permission;"), (2, u "READ"), (2, u "UPDATE"), (2, u "DELETE"), (2, u "EXECUTE"), (2, u "ALTER"), (2, u "LANGUAGE"), (2, u "$VALUES"), (0, u "[Lcom/example/hyrarchy/hyrarchy/Permission;"), (6, .class_ 37), (1, u "java/lang/Enum"), (8, u "letter"), (0, u "C"), (2, u "word"), (0, u "Ljava/lang/String;"), (88, u "BY_ASCII")] 130

/-- com/example/hyrarchy/hyrarchy/Permission -/
def k6 : Class := { plain "com/example/hyrarchy/hyrarchy/Permission" (some 5) with
  accessFlags := 16433
  interfaces := #[]
  cf := some (fileOf pool6 1 #[] #[] 16433 35 #[] #[{ accessFlags := 16409, nameIndex := 5, descriptorIndex := 6, attributes := #[] }, { accessFlags := 16409, nameIndex := 9, descriptorIndex := 6, attributes := #[] }, { accessFlags := 16409, nameIndex := 12, descriptorIndex := 6, attributes := #[] }, { accessFlags := 16409, nameIndex := 15, descriptorIndex := 6, attributes := #[] }, { accessFlags := 16409, nameIndex := 18, descriptorIndex := 6, attributes := #[] }, { accessFlags := 16409, nameIndex := 21, descriptorIndex := 6, attributes := #[] }, { accessFlags := 16409, nameIndex := 24, descriptorIndex := 6, attributes := #[] }, { accessFlags := 26, nameIndex := 140, descriptorIndex := 28, attributes := #[] }, { accessFlags := 18, nameIndex := 46, descriptorIndex := 47, attributes := #[] }, { accessFlags := 18, nameIndex := 50, descriptorIndex := 51, attributes := #[] }, { accessFlags := 4122, nameIndex := 27, descriptorIndex := 28, attributes := #[] }])
  fields := #[{ name := "CREATE", type := (.object "com/example/hyrarchy/hyrarchy/Permission"), accessFlags := 16409, slot := 0, constantValue := 0 }, { name := "READ", type := (.object "com/example/hyrarchy/hyrarchy/Permission"), accessFlags := 16409, slot := 1, constantValue := 0 }, { name := "UPDATE", type := (.object "com/example/hyrarchy/hyrarchy/Permission"), accessFlags := 16409, slot := 2, constantValue := 0 }, { name := "DELETE", type := (.object "com/example/hyrarchy/hyrarchy/Permission"), accessFlags := 16409, slot := 3, constantValue := 0 }, { name := "EXECUTE", type := (.object "com/example/hyrarchy/hyrarchy/Permission"), accessFlags := 16409, slot := 4, constantValue := 0 }, { name := "ALTER", type := (.object "com/example/hyrarchy/hyrarchy/Permission"), accessFlags := 16409, slot := 5, constantValue := 0 }, { name := "LANGUAGE", type := (.object "com/example/hyrarchy/hyrarchy/Permission"), accessFlags := 16409, slot := 6, constantValue := 0 }, { name := "BY_ASCII", type := (.array (.object "com/example/hyrarchy/hyrarchy/Permission")), accessFlags := 26, slot := 7, constantValue := 0 }, { name := "letter", type := .char, accessFlags := 18, slot := 3, constantValue := 0 }, { name := "word", type := (.object "java/lang/String"), accessFlags := 18, slot := 4, constantValue := 0 }, { name := "$VALUES", type := (.array (.object "com/example/hyrarchy/hyrarchy/Permission")), accessFlags := 4122, slot := 8, constantValue := 0 }]
  methods := #[]
  instanceTypes := #[(.object "java/lang/String"), .int, .int, .char, (.object "java/lang/String")]
  staticTypes := #[(.object "com/example/hyrarchy/hyrarchy/Permission"), (.object "com/example/hyrarchy/hyrarchy/Permission"), (.object "com/example/hyrarchy/hyrarchy/Permission"), (.object "com/example/hyrarchy/hyrarchy/Permission"), (.object "com/example/hyrarchy/hyrarchy/Permission"), (.object "com/example/hyrarchy/hyrarchy/Permission"), (.object "com/example/hyrarchy/hyrarchy/Permission"), (.array (.object "com/example/hyrarchy/hyrarchy/Permission")), (.array (.object "com/example/hyrarchy/hyrarchy/Permission"))]
  resolved := Array.replicate 271 none
  statics := some 0 }

def pool7 : Array CpInfo := pool [(1, .class_ 2), (0, u "com/example/hyrarchy/hyrarchy/PathGrants"), (3, u "()I"), (9, u "mentions"), (0, u "(JLcom/example/hyrarchy/hyrarchy/Permission;)Z"), (13, .nameAndType 32 6), (0, u "ordinal"), (28, .class_ 62), (0, u "com/example/hyrarchy/hyrarchy/Permission"), (0, .methodref 61 31), (2, u "PERMISSIONS"), (0, u "I"), (5, u "MASK_BITS"), (0, .class_ 75), (0, u "java/lang/Object"), (0, u "NONE"), (0, u "J"), (3, u "UNTYPED")] 19

def k7c0 : Code := { maxStack := 4, maxLocals := 3, code := prog_7_method_8_code, exceptionTable := #[], attributes := #[] }
def k7m0 : Method := { name := "mentions", desc := "(JLcom/example/hyrarchy/hyrarchy/Permission;)Z", sig := { parameters := [.long, (.object "com/example/hyrarchy/hyrarchy/Permission")], returnType := some .boolean }, accessFlags := 9, code := some k7c0 }
/-- com/example/hyrarchy/hyrarchy/PathGrants -/
def k7 : Class := { plain "com/example/hyrarchy/hyrarchy/PathGrants" (some 0) with
  accessFlags := 1536
  interfaces := #[]
  cf := some (fileOf pool7 1 #[] #[{ accessFlags := 9, nameIndex := 16, descriptorIndex := 17, attributes := #[] }] 1536 74 #[] #[{ accessFlags := 25, nameIndex := 76, descriptorIndex := 77, attributes := #[] }, { accessFlags := 25, nameIndex := 81, descriptorIndex := 67, attributes := #[] }, { accessFlags := 25, nameIndex := 66, descriptorIndex := 67, attributes := #[] }, { accessFlags := 25, nameIndex := 73, descriptorIndex := 67, attributes := #[] }])
  fields := #[{ name := "NONE", type := .long, accessFlags := 25, slot := 0, constantValue := 0 }, { name := "UNTYPED", type := .int, accessFlags := 25, slot := 1, constantValue := 0 }, { name := "PERMISSIONS", type := .int, accessFlags := 25, slot := 2, constantValue := 0 }, { name := "MASK_BITS", type := .int, accessFlags := 25, slot := 3, constantValue := 0 }]
  methods := #[k7m0]
  instanceTypes := #[]
  staticTypes := #[.long, .int, .int, .int]
  resolved := Array.replicate 101 none
  statics := none }

def pool8 : Array CpInfo := pool [(1, u "java/lang/Cloneable"), (0, .class_ 1), (0, u "java/lang/Object"), (0, .class_ 3)] 3

/-- java/lang/Cloneable -/
def k8 : Class := { plain "java/lang/Cloneable" (some 0) with
  accessFlags := 1537
  interfaces := #[]
  cf := some (fileOf pool8 2 #[] #[] 1537 4 #[] #[])
  fields := #[]
  methods := #[]
  instanceTypes := #[]
  staticTypes := #[]
  resolved := Array.replicate 8 none
  statics := none }

/-- the primitive byte -/
def k9 : Class := { plain "byte" none with kind := .primitive 'B', accessFlags := 0x411 }
/-- [B -/
def k10 : Class := { plain "[B" (some 0) with kind := .array 9 .byte, interfaces := #[8, 4], accessFlags := 1041 }

/-- the primitive int -/
def k11 : Class := { plain "int" none with kind := .primitive 'I', accessFlags := 0x411 }
/-- [I -/
def k12 : Class := { plain "[I" (some 0) with kind := .array 11 .int, interfaces := #[8, 4], accessFlags := 1041 }

def heap : Heap := #[{ cls := 6, slots := #[.ref 1, .ref 2, .ref 3, .ref 4, .ref 5, .ref 6, .ref 7, .null, .null], vm := .statics 6 },
  { cls := 6, slots := #[.null, .int 0, .int 0, .int 65, .null], vm := .none },
  { cls := 6, slots := #[.null, .int 1, .int 0, .int 65, .null], vm := .none },
  { cls := 6, slots := #[.null, .int 2, .int 0, .int 65, .null], vm := .none },
  { cls := 6, slots := #[.null, .int 3, .int 0, .int 65, .null], vm := .none },
  { cls := 6, slots := #[.null, .int 4, .int 0, .int 65, .null], vm := .none },
  { cls := 6, slots := #[.null, .int 5, .int 0, .int 65, .null], vm := .none },
  { cls := 6, slots := #[.null, .int 6, .int 0, .int 65, .null], vm := .none }]
def classes : Array Class := #[k0, k1, k2, k3, k4, k5, k6, k7, k8, k9, k10, k11, k12]
def interned : List (Array UInt16 × Addr) := []
def slotsUsed : Nat := 44
def theMethod : MethodId := ⟨1, 2⟩
def args0 : Array Value := #[.long 5, .int 6, .int 7]
def aboutOver (below : List Frame) : State where
  vm := { classes := classes, interned := interned.toArray }
  heap := heap
  slotsUsed := slotsUsed
  threads := #[{ frames := .invoking theMethod args0 :: below }]
def below0 : List Frame := [.native { method := ⟨0, 0⟩, args := #[] }]
def about1 : State := aboutOver below0
def p0 : Program := .bare "" "" ""
def e0 : Env := launch0.env 0 0 0
theorem w_frames : about1.frames = Frame.invoking theMethod args0 :: below0 := rfl
set_option maxRecDepth 65536 in
theorem w_args : argsFit about1.vm theMethod args0 = true := by decide +kernel
set_option maxRecDepth 65536 in
theorem w_heap : heapFits about1 = true := by decide +kernel
set_option maxRecDepth 65536 in
theorem w_runnable : about1.curStatus? = some .runnable := by decide +kernel
set_option maxRecDepth 65536 in
theorem w_alone : about1.alone = true := by decide +kernel
set_option maxRecDepth 65536 in
theorem w_named : about1.methodNamed? x = some theMethod := by decide +kernel
set_option maxRecDepth 65536 in
theorem w_hears : about1.hears theMethod below0 = true := by decide +kernel
set_option maxRecDepth 65536 in
theorem w_ripe : about1.ripe theMethod args0 below0 = true := by decide +kernel
theorem w_running : about1.status = .running := rfl
set_option maxRecDepth 65536 in
theorem w_room : about1.hasRoom e0.platform room_1 = true :=
  launch0.hasRoom_least _ room_1 (by decide +kernel) (by decide +kernel) (by decide +kernel) (by decide +kernel) (by decide +kernel) (by decide +kernel)
theorem allAtoms_all (ts : List Jvm.Cond) (a : Array Jvm.Value) (st : Jvm.State) : (allAtoms ts).before a st = ts.all (fun c => c.before a st) := by
  induction ts with
  | nil => rfl
  | cons c t ih =>
    show (Jvm.Cond.and c (allAtoms t)).before a st = _
    rw [Jvm.Cond.before_and, ih, List.all_cons]
def words1 : List Jvm.Cond := Jvm.Cond.code x code maxLocals ret :: tables_1
/-- a 'code' word, met by the world's own term for the bytes: nothing is compared byte by byte -/
theorem code_word {y : MethodName} {bytes : ByteArray} {mx : Nat} {rt : Option FieldType} {a : Array Value} {s : State} {m : MethodId} {meth : Method} {c : Code} (h1 : s.methodNamed? y = some m) (h2 : s.vm.method? m = some meth) (h3 : meth.code = some c) (h4 : c.code = bytes)
    (h5 : (c.maxLocals == mx && c.exceptionTable.isEmpty && decide (c.maxStack ≤ mostOperands) && decide (meth.sig.returnType = rt) && !meth.locks && decide (parseMethodDescriptor y.desc = some meth.sig)) = true) : (Jvm.Cond.code y bytes mx rt).before a s = true := by
  simp only [Bool.and_eq_true, beq_iff_eq, Bool.not_eq_true', decide_eq_true_eq] at h5
  obtain ⟨⟨⟨⟨⟨g1, g2⟩, g3⟩, g4⟩, g5⟩, g6⟩ := h5
  simp [Cond.before, Cond.holds, Cond.value, h1, h2, h3, h4, g1, g2, g3, g4, g5, g6]
def isCode : Jvm.Cond → Bool
  | .code _ _ _ _ => true
  | _ => false
theorem all_split {L : List Jvm.Cond} {P : Jvm.Cond → Bool} (h1 : L.all (fun c => isCode c || P c) = true) (h2 : ∀ c ∈ L.filter isCode, P c = true) : L.all P = true := by
  refine List.all_eq_true.mpr fun c hc => ?_
  have h := List.all_eq_true.mp h1 c hc
  rcases Bool.eq_false_or_eq_true (isCode c) with hi | hi
  · exact h2 c (List.mem_filter.mpr ⟨hc, hi⟩)
  · simpa [hi] using h
set_option maxRecDepth 65536 in
theorem w_c0 : (Jvm.Cond.code x code maxLocals ret).before args0 about1 = true := code_word (m := ⟨1, 2⟩) (meth := k1m2) (c := k1c2) (by decide +kernel) rfl rfl rfl (by decide +kernel)
set_option maxRecDepth 65536 in
theorem w_c1 : (Jvm.Cond.code ({ cls := "com/example/hyrarchy/hyrarchy/PathGrantsMentionsPinLaw", name := "perm", desc := "(I)Lcom/example/hyrarchy/hyrarchy/Permission;" } : Jvm.MethodName) method_2_code (1 : Nat) (Option.some (Jvm.ClassFile.FieldType.object "com/example/hyrarchy/hyrarchy/Permission"))).before args0 about1 = true := code_word (m := ⟨1, 1⟩) (meth := k1m1) (c := k1c1) (by decide +kernel) rfl rfl rfl (by decide +kernel)
set_option maxRecDepth 65536 in
theorem w_c2 : (Jvm.Cond.code ({ cls := "com/example/hyrarchy/hyrarchy/PathGrants", name := "mentions", desc := "(JLcom/example/hyrarchy/hyrarchy/Permission;)Z" } : Jvm.MethodName) prog_7_method_8_code (3 : Nat) (Option.some Jvm.ClassFile.FieldType.boolean)).before args0 about1 = true := code_word (m := ⟨7, 0⟩) (meth := k7m0) (c := k7c0) (by decide +kernel) rfl rfl rfl (by decide +kernel)
set_option maxRecDepth 65536 in
theorem w_c3 : (Jvm.Cond.code ({ cls := "java/lang/Enum", name := "ordinal", desc := "()I" } : Jvm.MethodName) jdk_37_method_2_code (1 : Nat) (Option.some Jvm.ClassFile.FieldType.int)).before args0 about1 = true := code_word (m := ⟨5, 0⟩) (meth := k5m0) (c := k5c0) (by decide +kernel) rfl rfl rfl (by decide +kernel)
def codes1 : List Jvm.Cond := [Jvm.Cond.code x code maxLocals ret, Jvm.Cond.code ({ cls := "com/example/hyrarchy/hyrarchy/PathGrantsMentionsPinLaw", name := "perm", desc := "(I)Lcom/example/hyrarchy/hyrarchy/Permission;" } : Jvm.MethodName) method_2_code (1 : Nat) (Option.some (Jvm.ClassFile.FieldType.object "com/example/hyrarchy/hyrarchy/Permission")), Jvm.Cond.code ({ cls := "com/example/hyrarchy/hyrarchy/PathGrants", name := "mentions", desc := "(JLcom/example/hyrarchy/hyrarchy/Permission;)Z" } : Jvm.MethodName) prog_7_method_8_code (3 : Nat) (Option.some Jvm.ClassFile.FieldType.boolean), Jvm.Cond.code ({ cls := "java/lang/Enum", name := "ordinal", desc := "()I" } : Jvm.MethodName) jdk_37_method_2_code (1 : Nat) (Option.some Jvm.ClassFile.FieldType.int)]
set_option maxRecDepth 65536 in
theorem codes_eq : words1.filter isCode = codes1 := rfl
theorem w_codes : ∀ c ∈ words1.filter isCode, c.before args0 about1 = true := by
  rw [codes_eq]
  intro c hc
  simp only [codes1, List.mem_cons, List.not_mem_nil, or_false] at hc
  rcases hc with rfl | rfl | rfl | rfl
  · exact w_c0
  · exact w_c1
  · exact w_c2
  · exact w_c3
set_option maxRecDepth 65536 in
theorem w_t1 : (words1.take 24).all (fun c => isCode c || c.before args0 about1) = true := by decide +kernel
set_option maxRecDepth 65536 in
theorem w_t2 : (words1.drop 24).all (fun c => isCode c || c.before args0 about1) = true := by decide +kernel
theorem w_tables : (allAtoms (Jvm.Cond.code x code maxLocals ret :: tables_1)).before args0 about1 = true := by
  rw [allAtoms_all]
  show words1.all (fun c => c.before args0 about1) = true
  refine all_split ?_ w_codes
  rw [← List.take_append_drop 24 words1, List.all_append, w_t1, w_t2]
  rfl
set_option maxRecDepth 65536 in
theorem w_case : (Jvm.Cond.and given_1 narrow_1).before args0 about1 = true := by decide +kernel
theorem w_applies : (headSpec (Jvm.Cond.code x code maxLocals ret :: tables_1) room_1).applies x e0.platform about1 = true :=
  (Spec.applies_iff w_frames).mpr ⟨w_running, w_runnable, w_alone, w_named, w_hears, w_ripe, w_room, w_tables⟩
theorem atStart : AtStart classFile x code maxLocals ret World_1 tables_1 room_1 Calls_1 rest_1 Pre_1 launch0 p0 e0 about1 theMethod args0 below0 :=
  ⟨lists_1, trivial, launch0.admits_env _ _ _, launch0.least_env, fairChoices_fair.cas, fairChoices_fair.clock, w_frames, w_args, w_heap, w_applies, trivial, trivial, w_case⟩
end start1
theorem witness_1 : WitnessClaimed_1 := ⟨start1.p0, start1.e0, start1.about1, start1.theMethod, start1.args0, start1.below0, start1.atStart⟩
end Jvm.Pilot.@@N@@
