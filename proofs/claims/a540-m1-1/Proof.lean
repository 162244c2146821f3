import JvmDerived
import JvmDerived.Pilot.@@N@@Statement
import JvmDerived.Pilot.@@N@@Code
set_option linter.unusedVariables false
set_option linter.unusedSimpArgs false
namespace Jvm.Pilot.@@N@@
open Jvm Jvm.ClassFile Sem Op Lib Jvm.Free Jvm.Stand Jvm.LawKit Jvm.RoadKit Bundle Jvm.Pilot.@@N@@.Jvm.D
section OwnRun
variable {p : Program} {l : Launch} {e : Env} {R : Room} {s : State} {m : MethodId} {args : Array Value} {below : List Frame} {meth : Method} {c : Code} {T T' : State} {locs : List Loc} {cells slots : Nat}
/-- from here the run ends, as G says -/
def own_Run (p : Program) (e : Env) (below : List Frame) (G : Outcome → State → Prop) (T : State) (g : JFrame) : Prop :=
  ∃ s₂ o, Steps p.tables e below (T.setTop g) s₂ ∧ s₂.status = .running ∧ Ended s₂ below o ∧ G o s₂
theorem own_go {G : Outcome → State → Prop} {g g' : JFrame} (h : ∀ t, Steps p.tables e below (T'.setTop g') t → Steps p.tables e below (T.setTop g) t) (k : own_Run p e below G T' g') : own_Run p e below G T g := by
  obtain ⟨s₂, o, h1, h2, h3, h4⟩ := k
  exact ⟨s₂, o, h _ h1, h2, h3, h4⟩
theorem own_goT {G : Outcome → State → Prop} {g g' : JFrame} (h : Steps p.tables e below (T.setTop g) (T'.setTop g')) (k : own_Run p e below G T' g') : own_Run p e below G T g :=
  own_go (fun _ q => h.trans q) k
theorem own_start {G : Outcome → State → Prop} {f f' : JFrame} (h : f = f') (k : own_Run p e below G T f') : ∃ s₂ o, Steps p.tables e below (T.setTop f) s₂ ∧ s₂.status = .running ∧ Ended s₂ below o ∧ G o s₂ := by
  subst h
  exact k
theorem own_done {Q : Option Value → Heap → List Loc → Prop} {C N : Nat} {g : JFrame} (X : Stand p l e R s m args below meth c T locs cells slots) {v : Option Value} (hv : meth.sig.returnType = none → v = none) (hlocks : meth.locks = false)
    (hstep : ∀ fs, (∀ (f : JFrame) (acts : List Action), f.method = m → f.locked = none → f.entered = [] → (doReturn e (T.setTop f) acts v).1 = T.setFrames fs) → Steps p.tables e below (T.setTop g) (T.setFrames fs))
    (hQ : Q v T.heap locs) (hc : cells ≤ C) (hs : slots ≤ N) :
    own_Run p e below (fun o U' => ∃ v L, o = .returned v ∧ Q v U'.heap L ∧ FrameEnd s o U' L C N) T g := by
  obtain ⟨fs, hr, hrun, hended, hW, hsame⟩ := X.leave hv hlocks
  exact ⟨_, _, hstep fs hr, hrun, hended, _, _, rfl, hQ, ⟨_, rfl⟩, hW, hsame.mono hc hs⟩
theorem own_mono {cells' slots' : Nat} (X : Stand p l e R s m args below meth c T locs cells slots) (hc : cells ≤ cells') (hs : slots ≤ slots') : Stand p l e R s m args below meth c T locs cells' slots' :=
  ⟨X.admits, X.cas, X.clock, X.frames, X.room, X.hears, X.method, X.code, X.here, X.tail, X.warmed, X.limits, X.bytes, X.same.mono hc hs⟩
theorem own_retI (X : Stand p l e R s m args below meth c T locs cells slots) (hx : p.tables.exec = Jvm.exec) {pc : Nat} {Ls : Array Slot} {z : Int32} {rest : List Value} (hret : meth.sig.returnType = some .int) (hd : decode c.code pc = .ok (.ireturn, 1)) {fs : List Frame}
    (hl : ∀ (f : JFrame) (acts : List Action), f.method = m → f.locked = none → f.entered = [] → (doReturn e (T.setTop f) acts (some (.int z))).1 = T.setFrames fs) : Steps p.tables e below (T.setTop (mkF m pc Ls (.int z :: rest))) (T.setFrames fs) :=
  retOut X hx hret rfl (Or.inl ⟨rfl, Or.inl rfl, z, rfl⟩) hd hl
theorem own_retL (X : Stand p l e R s m args below meth c T locs cells slots) (hx : p.tables.exec = Jvm.exec) {pc : Nat} {Ls : Array Slot} {z : Int64} {rest : List Value} (hret : meth.sig.returnType = some .long) (hd : decode c.code pc = .ok (.lreturn, 1)) {fs : List Frame}
    (hl : ∀ (f : JFrame) (acts : List Action), f.method = m → f.locked = none → f.entered = [] → (doReturn e (T.setTop f) acts (some (.long z))).1 = T.setFrames fs) : Steps p.tables e below (T.setTop (mkF m pc Ls (.long z :: rest))) (T.setFrames fs) :=
  retOut X hx hret rfl (Or.inr (Or.inl ⟨rfl, rfl, z, rfl⟩)) hd hl
theorem own_retA {t : FieldType} (X : Stand p l e R s m args below meth c T locs cells slots) (hx : p.tables.exec = Jvm.exec) {pc : Nat} {Ls : Array Slot} {w : Value} {rest : List Value} (hret : meth.sig.returnType = some t) (ht : t.isReference = true) (hn : narrow t w = w) (hw : w.isRef = true) (hd : decode c.code pc = .ok (.areturn, 1)) {fs : List Frame}
    (hl : ∀ (f : JFrame) (acts : List Action), f.method = m → f.locked = none → f.entered = [] → (doReturn e (T.setTop f) acts (some w)).1 = T.setFrames fs) : Steps p.tables e below (T.setTop (mkF m pc Ls (w :: rest))) (T.setFrames fs) :=
  retOut X hx hret hn (Or.inr (Or.inr (Or.inr (Or.inr ⟨rfl, ht, hw⟩)))) hd hl
theorem own_ns {Z : State} {h : Heap} {a : Addr} {C : String} (E : Exa Z h a C) : ∃ c : Cell, h[a]? = some c ∧ c.vm.isStatics = false := by
  obtain ⟨c, k, h1, -, -, h4, -⟩ := E
  exact ⟨c, h1, h4⟩
theorem own_nsV {Z : State} {h : Heap} {a : Addr} {k : ClassId} {ty : FieldType} {n : Int32} {vs : List Value} {d : Value} (V : Arv Z h a k ty n vs d) : ∃ c : Cell, h[a]? = some c ∧ c.vm.isStatics = false := by
  obtain ⟨c, A, -⟩ := V
  exact ⟨c, A.1, A.plain⟩
theorem own_staKeep {Z : State} {h h' : Heap} {ws : List Addr} {C n d : String} {w : Value} (F : Sta Z h C n d w) (K : Keep h h' ws) (q : ∀ x ∈ ws, ∃ c : Cell, h[x]? = some c ∧ c.vm.isStatics = false) : Sta Z h' C n d w := by
  obtain ⟨cf, i, k, f, st, cell, h1, h2, h3, h4, h5, h6, h7⟩ := F
  refine ⟨cf, i, k, f, st, cell, h1, h2, h3, h4, K.2.1 st cell h5 (fun hm => ?_), h6, h7⟩
  obtain ⟨c, e1, e2⟩ := q st hm
  cases h5.symm.trans e1
  rw [h6] at e2; cases e2
theorem own_eqL {args : Array Value} {first s : State} {o : Option Outcome} {idx : List Nat} {t : Term} {n : Int64} (h : (Jvm.Cond.eq t (Term.long n)).value args first o s idx = some true) : t.eval args first o idx s = some (.long n) := by
  cases ht : t.eval args first o idx s with
  | none => simp [Cond.value, ht] at h
  | some x => cases x <;> simp [Cond.value, ht, Term.eval] at h ⊢ <;> exact h
theorem own_eqI {args : Array Value} {first s : State} {o : Option Outcome} {idx : List Nat} {t : Term} {n : Int32} (h : (Jvm.Cond.eq t (Term.int n)).value args first o s idx = some true) : t.eval args first o idx s = some (.int n) := by
  cases ht : t.eval args first o idx s with
  | none => simp [Cond.value, ht] at h
  | some x => cases x <;> simp [Cond.value, ht, Term.eval] at h ⊢ <;> exact h
theorem own_eqR {args : Array Value} {first s : State} {o : Option Outcome} {idx : List Nat} {t u : Term} {x : Addr} (h : (Jvm.Cond.eq t u).value args first o s idx = some true) (hu : u.eval args first o idx s = some (.ref x)) : t.eval args first o idx s = some (.ref x) := by
  cases ht : t.eval args first o idx s with
  | none => simp [Cond.value, ht] at h
  | some y => cases y <;> simp [Cond.value, ht, hu] at h ⊢ <;> exact h
theorem own_nf {s : State} {args : Array Value} {C : String} {y y' : MethodName} (hsel : (Jvm.Cond.selects C y y).before args s = true) (hc : y'.cls = y.cls) : NotFace s y' := fun r0 h0 => by
  obtain ⟨c2, r2, m2, q1, q2, q3, q4, kP, hkP, hkPi⟩ := Cond.selects_spec hsel
  have a := findClass_of_methodNamed q3
  have b := findClass_of_methodNamed h0
  rw [hc] at b
  have e := Option.some.inj (a.symm.trans b)
  exact ⟨kP, by rw [← e]; exact hkP, hkPi⟩
theorem own_selP {s : State} {args args' : Array Value} {C : String} {y y' : MethodName} (hsel : (Jvm.Cond.selects C y' y').before args s = true) (hc : y.cls = y'.cls) (hpriv : s.PrivateAt y) (hinst : (Jvm.Cond.instanceMethod y).before args' s = true) (hy : y.cls ≠ "java/lang/invoke/MethodHandle" ∧ y.cls ≠ "java/lang/invoke/VarHandle") : (Jvm.Cond.selects y.cls y y).before args' s = true := by
  obtain ⟨mk, methM, hnamed, -, -, -⟩ := Cond.instanceMethod_spec hinst
  obtain ⟨k, hk, hni⟩ := own_nf hsel hc mk hnamed
  exact selects_self_of_private (findClass_of_methodNamed hnamed) hk hni hpriv hinst hy
end OwnRun
theorem own_lcLt {x y : Int64} (h : x < y) : lcmpW x y = -1 := by
  have h1 : ¬ (x > y) := by simp only [GT.gt, Int64.lt_iff_toInt_lt] at h ⊢; omega
  have h2 : ¬ (x = y) := by rintro rfl; exact Int64.lt_irrefl h
  simp [lcmpW, h1, h2]
theorem own_lcGt {x y : Int64} (h : y < x) : lcmpW x y = 1 := by
  have h1 : x > y := h
  simp [lcmpW, h1]
theorem own_lcEq {x y : Int64} (h : x = y) : lcmpW x y = 0 := by
  subst h
  have h1 : ¬ (x > x) := Int64.lt_irrefl
  simp [lcmpW, h1]
theorem own_lcNlt {x y : Int64} (h : ¬ x < y) : lcmpW x y = 0 ∨ lcmpW x y = 1 := by
  by_cases q : x = y
  · exact Or.inl (own_lcEq q)
  · refine Or.inr (own_lcGt ?_)
    simp only [Int64.lt_iff_toInt_lt, ← Int64.toInt_inj] at h q ⊢; omega
theorem own_lcNgt {x y : Int64} (h : ¬ y < x) : lcmpW x y = 0 ∨ lcmpW x y = -1 := by
  by_cases q : x = y
  · exact Or.inl (own_lcEq q)
  · refine Or.inr (own_lcLt ?_)
    simp only [Int64.lt_iff_toInt_lt, ← Int64.toInt_inj] at h q ⊢; omega
theorem own_lcNe {x y : Int64} (h : ¬ x = y) : lcmpW x y = 1 ∨ lcmpW x y = -1 := by
  by_cases q : x < y
  · exact Or.inr (own_lcLt q)
  · refine Or.inl (own_lcGt ?_)
    simp only [Int64.lt_iff_toInt_lt, ← Int64.toInt_inj] at h q ⊢; omega
theorem own_lcT {x y : Int64} (h : x < y) : ifCond.holds .lt (lcmpW x y) = true ∧ ifCond.holds .ge (lcmpW x y) = false ∧ ifCond.holds .gt (lcmpW y x) = true ∧ ifCond.holds .le (lcmpW y x) = false := by
  rw [own_lcLt h, own_lcGt h]; decide
theorem own_lcF {x y : Int64} (h : ¬ x < y) : ifCond.holds .lt (lcmpW x y) = false ∧ ifCond.holds .ge (lcmpW x y) = true ∧ ifCond.holds .gt (lcmpW y x) = false ∧ ifCond.holds .le (lcmpW y x) = true := by
  rcases own_lcNlt h with q | q <;> rcases own_lcNgt (x := y) (y := x) h with r | r <;> rw [q, r] <;> decide
theorem own_lcTe {x y : Int64} (h : x = y) : ifCond.holds .eq (lcmpW x y) = true ∧ ifCond.holds .ne (lcmpW x y) = false := by
  rw [own_lcEq h]; decide
theorem own_lcFe {x y : Int64} (h : ¬ x = y) : ifCond.holds .eq (lcmpW x y) = false ∧ ifCond.holds .ne (lcmpW x y) = true := by
  rcases own_lcNe h with q | q <;> rw [q] <;> decide
theorem own_maskI (x : Int32) (M : Nat) (hM : M < 2 ^ 31) : (x &&& Int32.ofNat M).toInt = ((x.toBitVec.toNat &&& M : Nat) : Int) := by
  have h1 : (x &&& Int32.ofNat M).toBitVec.toNat = x.toBitVec.toNat &&& M := by
    rw [Int32.toBitVec_and, BitVec.toNat_and]
    congr 1
    show (BitVec.ofNat 32 M).toNat = M
    rw [BitVec.toNat_ofNat]; omega
  have h2 : x.toBitVec.toNat &&& M ≤ M := Nat.and_le_right
  rw [Int32.toInt, BitVec.toInt_eq_toNat_of_lt (by rw [h1]; omega), h1]
theorem own_mask0 (x : Int32) (M : Nat) (hM : M < 2 ^ 31) : 0 ≤ (x &&& Int32.ofNat M).toInt ∧ (x &&& Int32.ofNat M).toInt ≤ M := by
  rw [own_maskI x M hM]
  have h2 : x.toBitVec.toNat &&& M ≤ M := Nat.and_le_right
  omega
theorem own_rem (x : Int32) (k : Int32) (hx : 0 ≤ x.toInt) (hk : 0 < k.toInt) : 0 ≤ (x % k).toInt ∧ (x % k).toInt < k.toInt := by
  rw [Int32.toInt_mod]
  exact ⟨Int.tmod_nonneg _ hx, Int.tmod_lt_of_pos _ hk⟩
theorem own_bm (z : Int) (h1 : -2147483648 ≤ z) (h2 : z < 2147483648) : z.bmod (2 ^ 32) = z := by
  rw [Int.bmod_def]; split <;> omega
theorem own_addI (a b : Int32) (h1 : -2147483648 ≤ a.toInt + b.toInt) (h2 : a.toInt + b.toInt < 2147483648) : (a + b).toInt = a.toInt + b.toInt := by
  rw [Int32.toInt_add, own_bm _ h1 h2]
theorem own_subI (a b : Int32) (h1 : -2147483648 ≤ a.toInt - b.toInt) (h2 : a.toInt - b.toInt < 2147483648) : (a - b).toInt = a.toInt - b.toInt := by
  rw [Int32.toInt_sub, own_bm _ h1 h2]
theorem own_nz (a : Int32) (h : 0 < a.toInt) : a ≠ 0 := by
  rintro rfl; exact absurd h (by decide)
theorem own_ushr (x k : Int32) (n : Nat) (h : ((k &&& 31).toUInt32.toBitVec % 32).toNat = n) (hn : 0 < n) : ((x.toUInt32 >>> (k &&& 31).toUInt32).toInt32).toInt = ((x.toBitVec.toNat >>> n : Nat) : Int) ∧ x.toBitVec.toNat >>> n < 2 ^ (32 - n) := by
  have e : ((x.toUInt32 >>> (k &&& 31).toUInt32).toInt32).toBitVec = x.toBitVec >>> n := by
    show x.toBitVec >>> ((k &&& 31).toUInt32.toBitVec % 32) = _
    rw [BitVec.ushiftRight_eq', h]
  have hx : x.toBitVec.toNat < 2 ^ 32 := x.toBitVec.isLt
  have e2 : x.toBitVec.toNat >>> n < 2 ^ (32 - n) := by
    rw [Nat.shiftRight_eq_div_pow]
    rcases Nat.lt_or_ge n 32 with q | q
    · rw [Nat.div_lt_iff_lt_mul (Nat.two_pow_pos n), ← Nat.pow_add, Nat.sub_add_cancel (by omega)]; exact hx
    · rw [Nat.div_eq_of_lt (Nat.lt_of_lt_of_le hx (Nat.pow_le_pow_right (by decide) q))]; exact Nat.two_pow_pos _
  refine ⟨?_, e2⟩
  have e3 : 2 ^ (32 - n) ≤ 2 ^ 31 := Nat.pow_le_pow_right (by decide) (by omega)
  rw [Int32.toInt, e, BitVec.toInt_eq_toNat_of_lt (by rw [BitVec.toNat_ushiftRight]; omega), BitVec.toNat_ushiftRight]
theorem own_lit (a : Int32) (n : Int) (b : Int32) (h : a.toInt = n) (hb : b.toInt = n) : a = b := Int32.toInt_inj.mp (h.trans hb.symm)
theorem own_four (a : Int32) (h0 : 0 ≤ a.toInt) (h1 : a.toInt < 4) : a = 0 ∨ a = 1 ∨ a = 2 ∨ a = 3 := by
  have q : a.toInt = 0 ∨ a.toInt = 1 ∨ a.toInt = 2 ∨ a.toInt = 3 := by omega
  rcases q with q | q | q | q
  · exact Or.inl (own_lit _ _ _ q rfl)
  · exact Or.inr (Or.inl (own_lit _ _ _ q rfl))
  · exact Or.inr (Or.inr (Or.inl (own_lit _ _ _ q rfl)))
  · exact Or.inr (Or.inr (Or.inr (own_lit _ _ _ q rfl)))
theorem own_byte (a : Int32) (h0 : 0 ≤ a.toInt) (h1 : a.toInt < 128) : a.toInt8.toInt32 = a := by
  apply Int32.toInt_inj.mp
  rw [Int8.toInt_toInt32, Int32.toInt_toInt8, Int.bmod_def]; split <;> omega
def own_max (a b : Int64) : Int64 := if a < b then b else a
theorem own_n9 (p x : Int32) (h : x = ((((p.toUInt32 >>> ((2 : Int32) &&& 31).toUInt32).toInt32) &&& (7 : Int32)) % (5 : Int32))) : x = (0 : Int32) ∨ x = (1 : Int32) ∨ x = (2 : Int32) ∨ x = (3 : Int32) ∨ x = (4 : Int32) := by
  have a1 := own_rem (((p.toUInt32 >>> ((2 : Int32) &&& 31).toUInt32).toInt32) &&& (7 : Int32)) 5 (own_mask0 _ 7 (by decide)).1 (by decide)
  have h5 : (5 : Int32).toInt = 5 := rfl
  rw [← h] at a1
  have q : x.toInt = 0 ∨ x.toInt = 1 ∨ x.toInt = 2 ∨ x.toInt = 3 ∨ x.toInt = 4 := by omega
  rcases q with q | q | q | q | q
  · exact Or.inl (own_lit _ _ _ q rfl)
  · exact Or.inr (Or.inl (own_lit _ _ _ q rfl))
  · exact Or.inr (Or.inr (Or.inl (own_lit _ _ _ q rfl)))
  · exact Or.inr (Or.inr (Or.inr (Or.inl (own_lit _ _ _ q rfl))))
  · exact Or.inr (Or.inr (Or.inr (Or.inr (own_lit _ _ _ q rfl))))
theorem own_maxMin (a : Int64) : own_max (-9223372036854775808 : Int64) a = a := by
  rw [own_max]
  split
  · rfl
  · rename_i h
    apply Int64.toInt_inj.mp
    have e : (-9223372036854775808 : Int64).toInt = -9223372036854775808 := rfl
    have l := Int64.le_toInt a
    rw [Int64.lt_iff_toInt_lt, e] at h
    rw [e]; omega
theorem own_up0 (a q : Int64) (h : ¬ ((-9223372036854775808 : Int64) < q)) : ¬ (a < q) := by
  have e : (-9223372036854775808 : Int64).toInt = -9223372036854775808 := rfl
  have l := Int64.le_toInt a
  have l2 := Int64.le_toInt q
  rw [Int64.lt_iff_toInt_lt, e] at h
  rw [Int64.lt_iff_toInt_lt]; omega
theorem own_up1 (a b q : Int64) (h : ¬ (a < q)) : ¬ (own_max a b < q) := by
  rw [own_max]
  split
  · rename_i k
    rw [Int64.lt_iff_toInt_lt] at h k ⊢; omega
  · exact h
theorem d1_0 : decode prog_89_method_1_code 0 = .ok (.aload_n 0, 1) := by decide +kernel
theorem d1_1 : decode prog_89_method_1_code 1 = .ok (.invokespecial 5, 3) := by decide +kernel
theorem d1_4 : decode prog_89_method_1_code 4 = .ok (.aload_n 0, 1) := by decide +kernel
theorem d1_5 : decode prog_89_method_1_code 5 = .ok (.bipush 16, 2) := by decide +kernel
theorem d1_7 : decode prog_89_method_1_code 7 = .ok (.newarray .int, 2) := by decide +kernel
theorem d1_9 : decode prog_89_method_1_code 9 = .ok (.putfield 13, 3) := by decide +kernel
theorem d1_12 : decode prog_89_method_1_code 12 = .ok (.aload_n 0, 1) := by decide +kernel
theorem d1_13 : decode prog_89_method_1_code 13 = .ok (.bipush 16, 2) := by decide +kernel
theorem d1_15 : decode prog_89_method_1_code 15 = .ok (.newarray .int, 2) := by decide +kernel
theorem d1_17 : decode prog_89_method_1_code 17 = .ok (.putfield 17, 3) := by decide +kernel
theorem d1_20 : decode prog_89_method_1_code 20 = .ok (.aload_n 0, 1) := by decide +kernel
theorem d1_21 : decode prog_89_method_1_code 21 = .ok (.bipush 16, 2) := by decide +kernel
theorem d1_23 : decode prog_89_method_1_code 23 = .ok (.newarray .long, 2) := by decide +kernel
theorem d1_25 : decode prog_89_method_1_code 25 = .ok (.putfield 20, 3) := by decide +kernel
theorem d1_28 : decode prog_89_method_1_code 28 = .ok (.aload_n 0, 1) := by decide +kernel
theorem d1_29 : decode prog_89_method_1_code 29 = .ok (.ldc2_w 24, 3) := by decide +kernel
theorem d1_32 : decode prog_89_method_1_code 32 = .ok (.putfield 26, 3) := by decide +kernel
theorem d1_35 : decode prog_89_method_1_code 35 = .ok (.aload_n 0, 1) := by decide +kernel
theorem d1_36 : decode prog_89_method_1_code 36 = .ok (.lload_n 1, 1) := by decide +kernel
theorem d1_37 : decode prog_89_method_1_code 37 = .ok (.putfield 30, 3) := by decide +kernel
theorem d1_40 : decode prog_89_method_1_code 40 = .ok (.aload_n 0, 1) := by decide +kernel
theorem d1_41 : decode prog_89_method_1_code 41 = .ok (.lload_n 3, 1) := by decide +kernel
theorem d1_42 : decode prog_89_method_1_code 42 = .ok (.putfield 33, 3) := by decide +kernel
theorem d1_45 : decode prog_89_method_1_code 45 = .ok (.return_, 1) := by decide +kernel
theorem pn_1 : plainName "com/example/tote/tote/storage/OffsetIndex" = true := by first | (simp [plainName, overriddenIn]; done) | decide +kernel
theorem ef_1 (m : MethodId) (x0 : Addr) (x1 : Int64) (x2 : Int64) : entryFrame m #[(.ref x0), (.long x1), (.long x2)] 5 = mkF m 0 #[.val (.ref x0), .val (.long x1), .second, .val (.long x2), .second] [] := by first | (simp [entryFrame, mkF, argsToLocals, Value.category]; done) | rfl
def Q1 (Z : State) (a1 : Addr) (q2 : Int64) (q3 : Int64) (u0 : Value) (u1 : Value) (u2 : Value) (u3 : Value) (u4 : Value) (u5 : Value) (h0 : Heap) (n0 : Nat) (v : Option Value) (h : Heap) (L : List Loc) : Prop := ∃ (b1 : Addr) (b2 : Addr) (b3 : Addr) (k1 : ClassId) (k2 : ClassId) (k3 : ClassId), v = none ∧ Fr n0 L ∧ Keep h0 h [a1] ∧ Exa Z h a1 "com/example/tote/tote/storage/OffsetIndex" ∧ Fld Z h a1 "com/example/tote/tote/storage/OffsetIndex" "mOffsets" "[I" (.ref b1) ∧ Fld Z h a1 "com/example/tote/tote/storage/OffsetIndex" "mPositions" "[I" (.ref b2) ∧ Fld Z h a1 "com/example/tote/tote/storage/OffsetIndex" "mTimestamps" "[J" (.ref b3) ∧ Fld Z h a1 "com/example/tote/tote/storage/OffsetIndex" "mMaxTimestamp" "J" (.long (-9223372036854775808 : Int64)) ∧ Fld Z h a1 "com/example/tote/tote/storage/OffsetIndex" "mBaseOffset" "J" (.long q2) ∧ Fld Z h a1 "com/example/tote/tote/storage/OffsetIndex" "mIntervalBytes" "J" (.long q3) ∧ Fld Z h a1 "com/example/tote/tote/storage/OffsetIndex" "mCount" "I" (.int (0 : Int32)) ∧ Arv Z h b1 k1 .int (16 : Int32) [(.int (0 : Int32)), (.int (0 : Int32)), (.int (0 : Int32)), (.int (0 : Int32)), (.int (0 : Int32)), (.int (0 : Int32)), (.int (0 : Int32)), (.int (0 : Int32)), (.int (0 : Int32)), (.int (0 : Int32)), (.int (0 : Int32)), (.int (0 : Int32)), (.int (0 : Int32)), (.int (0 : Int32)), (.int (0 : Int32)), (.int (0 : Int32))] (.int (0 : Int32)) ∧ Arv Z h b2 k2 .int (16 : Int32) [(.int (0 : Int32)), (.int (0 : Int32)), (.int (0 : Int32)), (.int (0 : Int32)), (.int (0 : Int32)), (.int (0 : Int32)), (.int (0 : Int32)), (.int (0 : Int32)), (.int (0 : Int32)), (.int (0 : Int32)), (.int (0 : Int32)), (.int (0 : Int32)), (.int (0 : Int32)), (.int (0 : Int32)), (.int (0 : Int32)), (.int (0 : Int32))] (.int (0 : Int32)) ∧ Arv Z h b3 k3 .long (16 : Int32) [(.long (0 : Int64)), (.long (0 : Int64)), (.long (0 : Int64)), (.long (0 : Int64)), (.long (0 : Int64)), (.long (0 : Int64)), (.long (0 : Int64)), (.long (0 : Int64)), (.long (0 : Int64)), (.long (0 : Int64)), (.long (0 : Int64)), (.long (0 : Int64)), (.long (0 : Int64)), (.long (0 : Int64)), (.long (0 : Int64)), (.long (0 : Int64))] (.long (0 : Int64)) ∧ h0.size ≤ b1 ∧ h0.size ≤ b2 ∧ h0.size ≤ b3 ∧ a1 ≠ b1 ∧ a1 ≠ b2 ∧ a1 ≠ b3 ∧ b1 ≠ b2 ∧ b1 ≠ b3 ∧ b2 ≠ b3
set_option maxRecDepth 65536 in
set_option maxHeartbeats 40000000 in
theorem rm1 (l : Launch) (Z : State) (a0 : Array Value) (hw : ∀ d ∈ tables_1, d.before a0 Z = true) (ws : List Jvm.Cond) (a1 : Addr) (q2 : Int64) (q3 : Int64) (u0 : Value) (u1 : Value) (u2 : Value) (u3 : Value) (u4 : Value) (u5 : Value) (h0 : Heap) (n0 : Nat) (Z0 : n0 ≤ h0.size) (E_a1 : Exa Z h0 a1 "com/example/tote/tote/storage/OffsetIndex") (F_mOffsets_a1 : Fld Z h0 a1 "com/example/tote/tote/storage/OffsetIndex" "mOffsets" "[I" u0) (F_mPositions_a1 : Fld Z h0 a1 "com/example/tote/tote/storage/OffsetIndex" "mPositions" "[I" u1) (F_mTimestamps_a1 : Fld Z h0 a1 "com/example/tote/tote/storage/OffsetIndex" "mTimestamps" "[J" u2) (F_mMaxTimestamp_a1 : Fld Z h0 a1 "com/example/tote/tote/storage/OffsetIndex" "mMaxTimestamp" "J" u3) (F_mBaseOffset_a1 : Fld Z h0 a1 "com/example/tote/tote/storage/OffsetIndex" "mBaseOffset" "J" u4) (F_mIntervalBytes_a1 : Fld Z h0 a1 "com/example/tote/tote/storage/OffsetIndex" "mIntervalBytes" "J" u5) (F_mCount_a1 : Fld Z h0 a1 "com/example/tote/tote/storage/OffsetIndex" "mCount" "I" (.int (0 : Int32))) (g_a1 : n0 ≤ a1) :
    MetFree l (⟨"com/example/tote/tote/storage/OffsetIndex", "<init>", "(JJ)V"⟩ : MethodName) (head1 (Jvm.Cond.code (⟨"com/example/tote/tote/storage/OffsetIndex", "<init>", "(JJ)V"⟩ : MethodName) prog_89_method_1_code 5 none :: ws) ({ frames := 1, cells := 3, slots := 48, locals := 12 } : Room)) (fun a U => a = #[(.ref a1), (.long q2), (.long q3)] ∧ Z.Warmed39 U.vm ∧ U.heap = h0) (fun _ _ _ _ _ => True) (fun _ U o U' => ∃ v L, o = .returned v ∧ Q1 Z a1 q2 q3 u0 u1 u2 u3 u4 u5 h0 n0 v U'.heap L ∧ FrameEnd U o U' L ({ frames := 1, cells := 3, slots := 48, locals := 12 } : Room).cells ({ frames := 1, cells := 3, slots := 48, locals := 12 } : Room).slots) := by
  refine MetFree.of_bodySF (plainFor_of_name pn_1) hisR ?_
  intro p e s m args below meth c s₁ Bd hml0 hP hK
  obtain ⟨rfl, hZ, hh⟩ := hP
  have hx := Bd.exec
  have hby := Bd.bytes
  have hml : c.maxLocals = 5 := hml0
  have hown : s.vm.findClass "com/example/tote/tote/storage/OffsetIndex" = some m.cls := findClass_of_methodNamed Bd.named
  have hnm := (name_of_methodNamed Bd.named Bd.method).1
  have hret := Bd.returns
  have hlk : meth.locks = false := BodyLoose.notSynchronized Bd
  have X0 : Stand p l e ({ frames := 1, cells := 3, slots := 48, locals := 12 } : Room) s m #[(.ref a1), (.long q2), (.long q3)] below meth c s₁ [] 0 0 := Stand.of_body Bd
  have e0 : s₁.heap = h0 := by rw [← hh, Bd.state]; rfl
  have N0 := Fr.nil n0
  have W := fun (k : Nat) {d : Jvm.Cond} (h : tables_1[k]? = some d) => hw d (List.mem_of_getElem? h)
  have K0 : Keep h0 h0 [a1] := Keep.refl _ _
  refine own_start (ef_1 m a1 q2 q3) ?_
  show own_Run p e below _ s₁ (mkF m 0 #[.val (.ref a1), .val (.long q2), .second, .val (.long q3), .second] [])
  refine own_go (fun _ k => XS.aloadN X0.here hx rfl (hb hby d1_0) rfl rfl k) ?_
  show own_Run p e below _ s₁ (mkF m 1 #[.val (.ref a1), .val (.long q2), .second, .val (.long q3), .second] [(.ref a1)])
  obtain ⟨T1, X1, e1, st1⟩ := initO X0 hx hZ hown (W 6 rfl) (W 7 rfl) (W 8 rfl) e0 (g := (mkF m 1 #[.val (.ref a1), .val (.long q2), .second, .val (.long q3), .second] [(.ref a1)])) rfl (by rw [hml]; rfl) rfl (hb hby d1_1) (by decide) (W := 0) (by show 2 * 0 + _ ≤ _; exact Nat.le_of_eq rfl) (by decide)
  refine own_go st1 ?_
  show own_Run p e below _ T1 (mkF m 4 #[.val (.ref a1), .val (.long q2), .second, .val (.long q3), .second] [])
  refine own_go (fun _ k => XS.aloadN X1.here hx rfl (hb hby d1_4) rfl rfl k) ?_
  refine own_go (fun _ k => XS.bipush X1.here hx rfl (hb hby d1_5) k) ?_
  show own_Run p e below _ T1 (mkF m 7 #[.val (.ref a1), .val (.long q2), .second, .val (.long q3), .second] [(.int (16 : Int32)), (.ref a1)])
  obtain ⟨T2, h2, k2, X2, e2, E2, A2, st2⟩ := newP X1 hx hZ (W 9 rfl) e1 (g := (mkF m 7 #[.val (.ref a1), .val (.long q2), .second, .val (.long q3), .second] [(.int (16 : Int32)), (.ref a1)])) rfl (hb hby d1_7) rfl (by decide) (cap := 16) (by decide) (by decide) (by decide) (by decide)
  refine own_go st2 ?_
  obtain ⟨b2, g2⟩ : ∃ z, z = h0.size := ⟨_, rfl⟩
  rw [← g2] at A2
  rw [← g2]
  show own_Run p e below _ T2 (mkF m 9 #[.val (.ref a1), .val (.long q2), .second, .val (.long q3), .second] [(.ref b2), (.ref a1)])
  have ne_a1_b2 : a1 ≠ b2 := Nat.ne_of_lt (Nat.lt_of_lt_of_eq E_a1.lt g2.symm)
  have g_b2 : n0 ≤ b2 := Nat.le_trans Z0 (Nat.le_of_eq g2.symm)
  have sz_b2 : h0.size ≤ b2 := Nat.le_trans K0.1 (Nat.le_of_eq g2.symm)
  have Z0_c3 := Nat.le_trans Z0 E2.1
  have K0_c3 := K0.ext E2
  have E_a1_c3 := E_a1.ext E2
  have F_mOffsets_a1_c3 := F_mOffsets_a1.ext E2
  have F_mPositions_a1_c3 := F_mPositions_a1.ext E2
  have F_mTimestamps_a1_c3 := F_mTimestamps_a1.ext E2
  have F_mMaxTimestamp_a1_c3 := F_mMaxTimestamp_a1.ext E2
  have F_mBaseOffset_a1_c3 := F_mBaseOffset_a1.ext E2
  have F_mIntervalBytes_a1_c3 := F_mIntervalBytes_a1.ext E2
  have F_mCount_a1_c3 := F_mCount_a1.ext E2
  have V_b2 : Arv Z h2 b2 k2 .int (16 : Int32) [(.int (0 : Int32)), (.int (0 : Int32)), (.int (0 : Int32)), (.int (0 : Int32)), (.int (0 : Int32)), (.int (0 : Int32)), (.int (0 : Int32)), (.int (0 : Int32)), (.int (0 : Int32)), (.int (0 : Int32)), (.int (0 : Int32)), (.int (0 : Int32)), (.int (0 : Int32)), (.int (0 : Int32)), (.int (0 : Int32)), (.int (0 : Int32))] (.int (0 : Int32)) := (Arv.new A2 (by decide)).pad (pad_rep [] (.int (0 : Int32)) 16)
  obtain ⟨T4, h4, X4, e4, W4, st4⟩ := putF X2 hx hZ hown (host := "") (Or.inl (W 10 rfl)) Via.refl e2 F_mOffsets_a1_c3 E_a1_c3 (Or.inl (W 11 rfl)) (W 1 rfl) (ty := (.array .int)) (by decide) rfl rfl (g := (mkF m 9 #[.val (.ref a1), .val (.long q2), .second, .val (.long q3), .second] [(.ref b2), (.ref a1)])) rfl rfl (hb hby d1_9)
  refine own_go st4 ?_
  show own_Run p e below _ T4 (mkF m 12 #[.val (.ref a1), .val (.long q2), .second, .val (.long q3), .second] [])
  have Z0_c5 := Nat.le_trans Z0_c3 (Keep.of_wr W4).1
  have K0_c5 := K0_c3.wr W4 (Or.inl (List.mem_of_getElem? (i := 0) rfl))
  have E_a1_c5 := E_a1_c3.wr W4
  have F_mPositions_a1_c5 := F_mPositions_a1_c3.other W4 (Or.inr (slot_ne (Or.inl (W 13 rfl)) (Or.inl (W 11 rfl)) (by decide) (t := (.array .int)) (t' := (.array .int)) (by decide) (by decide)))
  have F_mTimestamps_a1_c5 := F_mTimestamps_a1_c3.other W4 (Or.inr (slot_ne (Or.inl (W 16 rfl)) (Or.inl (W 11 rfl)) (by decide) (t := (.array .long)) (t' := (.array .int)) (by decide) (by decide)))
  have F_mMaxTimestamp_a1_c5 := F_mMaxTimestamp_a1_c3.other W4 (Or.inr (slot_ne (Or.inl (W 19 rfl)) (Or.inl (W 11 rfl)) (by decide) (t := .long) (t' := (.array .int)) (by decide) (by decide)))
  have F_mBaseOffset_a1_c5 := F_mBaseOffset_a1_c3.other W4 (Or.inr (slot_ne (Or.inr (W 21 rfl)) (Or.inl (W 11 rfl)) (by decide) (t := .long) (t' := (.array .int)) (by decide) (by decide)))
  have F_mIntervalBytes_a1_c5 := F_mIntervalBytes_a1_c3.other W4 (Or.inr (slot_ne (Or.inr (W 23 rfl)) (Or.inl (W 11 rfl)) (by decide) (t := .long) (t' := (.array .int)) (by decide) (by decide)))
  have F_mCount_a1_c5 := F_mCount_a1_c3.other W4 (Or.inr (slot_ne (Or.inl (W 35 rfl)) (Or.inl (W 11 rfl)) (by decide) (t := .int) (t' := (.array .int)) (by decide) (by decide)))
  have V_b2_c5 := V_b2.other W4 (Ne.symm ne_a1_b2)
  have F_mOffsets_a1_c4 : Fld Z h4 a1 "com/example/tote/tote/storage/OffsetIndex" "mOffsets" "[I" (.ref b2) := F_mOffsets_a1_c3.same W4
  have N4 := Fr.snoc X4 N0 g_a1
  refine own_go (fun _ k => XS.aloadN X4.here hx rfl (hb hby d1_12) rfl rfl k) ?_
  refine own_go (fun _ k => XS.bipush X4.here hx rfl (hb hby d1_13) k) ?_
  show own_Run p e below _ T4 (mkF m 15 #[.val (.ref a1), .val (.long q2), .second, .val (.long q3), .second] [(.int (16 : Int32)), (.ref a1)])
  obtain ⟨T6, h6, k6, X6, e6, E6, A6, st6⟩ := newP X4 hx hZ (W 9 rfl) e4 (g := (mkF m 15 #[.val (.ref a1), .val (.long q2), .second, .val (.long q3), .second] [(.int (16 : Int32)), (.ref a1)])) rfl (hb hby d1_15) rfl (by decide) (cap := 16) (by decide) (by decide) (by decide) (by decide)
  refine own_go st6 ?_
  obtain ⟨b6, g6⟩ : ∃ z, z = h4.size := ⟨_, rfl⟩
  rw [← g6] at A6
  rw [← g6]
  show own_Run p e below _ T6 (mkF m 17 #[.val (.ref a1), .val (.long q2), .second, .val (.long q3), .second] [(.ref b6), (.ref a1)])
  have ne_a1_b6 : a1 ≠ b6 := Nat.ne_of_lt (Nat.lt_of_lt_of_eq E_a1_c5.lt g6.symm)
  have ne_b2_b6 : b2 ≠ b6 := Nat.ne_of_lt (Nat.lt_of_lt_of_eq V_b2_c5.lt g6.symm)
  have g_b6 : n0 ≤ b6 := Nat.le_trans Z0_c5 (Nat.le_of_eq g6.symm)
  have sz_b6 : h0.size ≤ b6 := Nat.le_trans K0_c5.1 (Nat.le_of_eq g6.symm)
  have Z0_c7 := Nat.le_trans Z0_c5 E6.1
  have K0_c7 := K0_c5.ext E6
  have E_a1_c7 := E_a1_c5.ext E6
  have F_mPositions_a1_c7 := F_mPositions_a1_c5.ext E6
  have F_mTimestamps_a1_c7 := F_mTimestamps_a1_c5.ext E6
  have F_mMaxTimestamp_a1_c7 := F_mMaxTimestamp_a1_c5.ext E6
  have F_mBaseOffset_a1_c7 := F_mBaseOffset_a1_c5.ext E6
  have F_mIntervalBytes_a1_c7 := F_mIntervalBytes_a1_c5.ext E6
  have F_mCount_a1_c7 := F_mCount_a1_c5.ext E6
  have V_b2_c7 := V_b2_c5.ext E6
  have F_mOffsets_a1_c7 := F_mOffsets_a1_c4.ext E6
  have V_b6 : Arv Z h6 b6 k6 .int (16 : Int32) [(.int (0 : Int32)), (.int (0 : Int32)), (.int (0 : Int32)), (.int (0 : Int32)), (.int (0 : Int32)), (.int (0 : Int32)), (.int (0 : Int32)), (.int (0 : Int32)), (.int (0 : Int32)), (.int (0 : Int32)), (.int (0 : Int32)), (.int (0 : Int32)), (.int (0 : Int32)), (.int (0 : Int32)), (.int (0 : Int32)), (.int (0 : Int32))] (.int (0 : Int32)) := (Arv.new A6 (by decide)).pad (pad_rep [] (.int (0 : Int32)) 16)
  obtain ⟨T8, h8, X8, e8, W8, st8⟩ := putF X6 hx hZ hown (host := "") (Or.inl (W 12 rfl)) Via.refl e6 F_mPositions_a1_c7 E_a1_c7 (Or.inl (W 13 rfl)) (W 1 rfl) (ty := (.array .int)) (by decide) rfl rfl (g := (mkF m 17 #[.val (.ref a1), .val (.long q2), .second, .val (.long q3), .second] [(.ref b6), (.ref a1)])) rfl rfl (hb hby d1_17)
  refine own_go st8 ?_
  show own_Run p e below _ T8 (mkF m 20 #[.val (.ref a1), .val (.long q2), .second, .val (.long q3), .second] [])
  have Z0_c9 := Nat.le_trans Z0_c7 (Keep.of_wr W8).1
  have K0_c9 := K0_c7.wr W8 (Or.inl (List.mem_of_getElem? (i := 0) rfl))
  have E_a1_c9 := E_a1_c7.wr W8
  have F_mTimestamps_a1_c9 := F_mTimestamps_a1_c7.other W8 (Or.inr (slot_ne (Or.inl (W 16 rfl)) (Or.inl (W 13 rfl)) (by decide) (t := (.array .long)) (t' := (.array .int)) (by decide) (by decide)))
  have F_mMaxTimestamp_a1_c9 := F_mMaxTimestamp_a1_c7.other W8 (Or.inr (slot_ne (Or.inl (W 19 rfl)) (Or.inl (W 13 rfl)) (by decide) (t := .long) (t' := (.array .int)) (by decide) (by decide)))
  have F_mBaseOffset_a1_c9 := F_mBaseOffset_a1_c7.other W8 (Or.inr (slot_ne (Or.inr (W 21 rfl)) (Or.inl (W 13 rfl)) (by decide) (t := .long) (t' := (.array .int)) (by decide) (by decide)))
  have F_mIntervalBytes_a1_c9 := F_mIntervalBytes_a1_c7.other W8 (Or.inr (slot_ne (Or.inr (W 23 rfl)) (Or.inl (W 13 rfl)) (by decide) (t := .long) (t' := (.array .int)) (by decide) (by decide)))
  have F_mCount_a1_c9 := F_mCount_a1_c7.other W8 (Or.inr (slot_ne (Or.inl (W 35 rfl)) (Or.inl (W 13 rfl)) (by decide) (t := .int) (t' := (.array .int)) (by decide) (by decide)))
  have V_b2_c9 := V_b2_c7.other W8 (Ne.symm ne_a1_b2)
  have F_mOffsets_a1_c9 := F_mOffsets_a1_c7.other W8 (Or.inr (slot_ne (Or.inl (W 11 rfl)) (Or.inl (W 13 rfl)) (by decide) (t := (.array .int)) (t' := (.array .int)) (by decide) (by decide)))
  have V_b6_c9 := V_b6.other W8 (Ne.symm ne_a1_b6)
  have F_mPositions_a1_c8 : Fld Z h8 a1 "com/example/tote/tote/storage/OffsetIndex" "mPositions" "[I" (.ref b6) := F_mPositions_a1_c7.same W8
  have N8 := Fr.snoc X8 N4 g_a1
  refine own_go (fun _ k => XS.aloadN X8.here hx rfl (hb hby d1_20) rfl rfl k) ?_
  refine own_go (fun _ k => XS.bipush X8.here hx rfl (hb hby d1_21) k) ?_
  show own_Run p e below _ T8 (mkF m 23 #[.val (.ref a1), .val (.long q2), .second, .val (.long q3), .second] [(.int (16 : Int32)), (.ref a1)])
  obtain ⟨T10, h10, k10, X10, e10, E10, A10, st10⟩ := newP X8 hx hZ (W 14 rfl) e8 (g := (mkF m 23 #[.val (.ref a1), .val (.long q2), .second, .val (.long q3), .second] [(.int (16 : Int32)), (.ref a1)])) rfl (hb hby d1_23) rfl (by decide) (cap := 16) (by decide) (by decide) (by decide) (by decide)
  refine own_go st10 ?_
  obtain ⟨b10, g10⟩ : ∃ z, z = h8.size := ⟨_, rfl⟩
  rw [← g10] at A10
  rw [← g10]
  show own_Run p e below _ T10 (mkF m 25 #[.val (.ref a1), .val (.long q2), .second, .val (.long q3), .second] [(.ref b10), (.ref a1)])
  have ne_a1_b10 : a1 ≠ b10 := Nat.ne_of_lt (Nat.lt_of_lt_of_eq E_a1_c9.lt g10.symm)
  have ne_b2_b10 : b2 ≠ b10 := Nat.ne_of_lt (Nat.lt_of_lt_of_eq V_b2_c9.lt g10.symm)
  have ne_b6_b10 : b6 ≠ b10 := Nat.ne_of_lt (Nat.lt_of_lt_of_eq V_b6_c9.lt g10.symm)
  have g_b10 : n0 ≤ b10 := Nat.le_trans Z0_c9 (Nat.le_of_eq g10.symm)
  have sz_b10 : h0.size ≤ b10 := Nat.le_trans K0_c9.1 (Nat.le_of_eq g10.symm)
  have Z0_c11 := Nat.le_trans Z0_c9 E10.1
  have K0_c11 := K0_c9.ext E10
  have E_a1_c11 := E_a1_c9.ext E10
  have F_mTimestamps_a1_c11 := F_mTimestamps_a1_c9.ext E10
  have F_mMaxTimestamp_a1_c11 := F_mMaxTimestamp_a1_c9.ext E10
  have F_mBaseOffset_a1_c11 := F_mBaseOffset_a1_c9.ext E10
  have F_mIntervalBytes_a1_c11 := F_mIntervalBytes_a1_c9.ext E10
  have F_mCount_a1_c11 := F_mCount_a1_c9.ext E10
  have V_b2_c11 := V_b2_c9.ext E10
  have F_mOffsets_a1_c11 := F_mOffsets_a1_c9.ext E10
  have V_b6_c11 := V_b6_c9.ext E10
  have F_mPositions_a1_c11 := F_mPositions_a1_c8.ext E10
  have V_b10 : Arv Z h10 b10 k10 .long (16 : Int32) [(.long (0 : Int64)), (.long (0 : Int64)), (.long (0 : Int64)), (.long (0 : Int64)), (.long (0 : Int64)), (.long (0 : Int64)), (.long (0 : Int64)), (.long (0 : Int64)), (.long (0 : Int64)), (.long (0 : Int64)), (.long (0 : Int64)), (.long (0 : Int64)), (.long (0 : Int64)), (.long (0 : Int64)), (.long (0 : Int64)), (.long (0 : Int64))] (.long (0 : Int64)) := (Arv.new A10 (by decide)).pad (pad_rep [] (.long (0 : Int64)) 16)
  obtain ⟨T12, h12, X12, e12, W12, st12⟩ := putF X10 hx hZ hown (host := "") (Or.inl (W 15 rfl)) Via.refl e10 F_mTimestamps_a1_c11 E_a1_c11 (Or.inl (W 16 rfl)) (W 1 rfl) (ty := (.array .long)) (by decide) rfl rfl (g := (mkF m 25 #[.val (.ref a1), .val (.long q2), .second, .val (.long q3), .second] [(.ref b10), (.ref a1)])) rfl rfl (hb hby d1_25)
  refine own_go st12 ?_
  show own_Run p e below _ T12 (mkF m 28 #[.val (.ref a1), .val (.long q2), .second, .val (.long q3), .second] [])
  have Z0_c13 := Nat.le_trans Z0_c11 (Keep.of_wr W12).1
  have K0_c13 := K0_c11.wr W12 (Or.inl (List.mem_of_getElem? (i := 0) rfl))
  have E_a1_c13 := E_a1_c11.wr W12
  have F_mMaxTimestamp_a1_c13 := F_mMaxTimestamp_a1_c11.other W12 (Or.inr (slot_ne (Or.inl (W 19 rfl)) (Or.inl (W 16 rfl)) (by decide) (t := .long) (t' := (.array .long)) (by decide) (by decide)))
  have F_mBaseOffset_a1_c13 := F_mBaseOffset_a1_c11.other W12 (Or.inr (slot_ne (Or.inr (W 21 rfl)) (Or.inl (W 16 rfl)) (by decide) (t := .long) (t' := (.array .long)) (by decide) (by decide)))
  have F_mIntervalBytes_a1_c13 := F_mIntervalBytes_a1_c11.other W12 (Or.inr (slot_ne (Or.inr (W 23 rfl)) (Or.inl (W 16 rfl)) (by decide) (t := .long) (t' := (.array .long)) (by decide) (by decide)))
  have F_mCount_a1_c13 := F_mCount_a1_c11.other W12 (Or.inr (slot_ne (Or.inl (W 35 rfl)) (Or.inl (W 16 rfl)) (by decide) (t := .int) (t' := (.array .long)) (by decide) (by decide)))
  have V_b2_c13 := V_b2_c11.other W12 (Ne.symm ne_a1_b2)
  have F_mOffsets_a1_c13 := F_mOffsets_a1_c11.other W12 (Or.inr (slot_ne (Or.inl (W 11 rfl)) (Or.inl (W 16 rfl)) (by decide) (t := (.array .int)) (t' := (.array .long)) (by decide) (by decide)))
  have V_b6_c13 := V_b6_c11.other W12 (Ne.symm ne_a1_b6)
  have F_mPositions_a1_c13 := F_mPositions_a1_c11.other W12 (Or.inr (slot_ne (Or.inl (W 13 rfl)) (Or.inl (W 16 rfl)) (by decide) (t := (.array .int)) (t' := (.array .long)) (by decide) (by decide)))
  have V_b10_c13 := V_b10.other W12 (Ne.symm ne_a1_b10)
  have F_mTimestamps_a1_c12 : Fld Z h12 a1 "com/example/tote/tote/storage/OffsetIndex" "mTimestamps" "[J" (.ref b10) := F_mTimestamps_a1_c11.same W12
  have N12 := Fr.snoc X12 N8 g_a1
  refine own_go (fun _ k => XS.aloadN X12.here hx rfl (hb hby d1_28) rfl rfl k) ?_
  show own_Run p e below _ T12 (mkF m 29 #[.val (.ref a1), .val (.long q2), .second, .val (.long q3), .second] [(.ref a1)])
  refine own_go (X12.ldc2Long hx hown (mvT hZ (W 17 rfl)) (g := (mkF m 29 #[.val (.ref a1), .val (.long q2), .second, .val (.long q3), .second] [(.ref a1)])) rfl (hb hby d1_29)) ?_
  show own_Run p e below _ T12 (mkF m 32 #[.val (.ref a1), .val (.long q2), .second, .val (.long q3), .second] [(.long (-9223372036854775808 : Int64)), (.ref a1)])
  obtain ⟨T14, h14, X14, e14, W14, st14⟩ := putF X12 hx hZ hown (host := "") (Or.inl (W 18 rfl)) Via.refl e12 F_mMaxTimestamp_a1_c13 E_a1_c13 (Or.inl (W 19 rfl)) (W 1 rfl) (ty := .long) (by decide) rfl rfl (g := (mkF m 32 #[.val (.ref a1), .val (.long q2), .second, .val (.long q3), .second] [(.long (-9223372036854775808 : Int64)), (.ref a1)])) rfl rfl (hb hby d1_32)
  refine own_go st14 ?_
  show own_Run p e below _ T14 (mkF m 35 #[.val (.ref a1), .val (.long q2), .second, .val (.long q3), .second] [])
  have Z0_c15 := Nat.le_trans Z0_c13 (Keep.of_wr W14).1
  have K0_c15 := K0_c13.wr W14 (Or.inl (List.mem_of_getElem? (i := 0) rfl))
  have E_a1_c15 := E_a1_c13.wr W14
  have F_mBaseOffset_a1_c15 := F_mBaseOffset_a1_c13.other W14 (Or.inr (slot_ne (Or.inr (W 21 rfl)) (Or.inl (W 19 rfl)) (by decide) (t := .long) (t' := .long) (by decide) (by decide)))
  have F_mIntervalBytes_a1_c15 := F_mIntervalBytes_a1_c13.other W14 (Or.inr (slot_ne (Or.inr (W 23 rfl)) (Or.inl (W 19 rfl)) (by decide) (t := .long) (t' := .long) (by decide) (by decide)))
  have F_mCount_a1_c15 := F_mCount_a1_c13.other W14 (Or.inr (slot_ne (Or.inl (W 35 rfl)) (Or.inl (W 19 rfl)) (by decide) (t := .int) (t' := .long) (by decide) (by decide)))
  have V_b2_c15 := V_b2_c13.other W14 (Ne.symm ne_a1_b2)
  have F_mOffsets_a1_c15 := F_mOffsets_a1_c13.other W14 (Or.inr (slot_ne (Or.inl (W 11 rfl)) (Or.inl (W 19 rfl)) (by decide) (t := (.array .int)) (t' := .long) (by decide) (by decide)))
  have V_b6_c15 := V_b6_c13.other W14 (Ne.symm ne_a1_b6)
  have F_mPositions_a1_c15 := F_mPositions_a1_c13.other W14 (Or.inr (slot_ne (Or.inl (W 13 rfl)) (Or.inl (W 19 rfl)) (by decide) (t := (.array .int)) (t' := .long) (by decide) (by decide)))
  have V_b10_c15 := V_b10_c13.other W14 (Ne.symm ne_a1_b10)
  have F_mTimestamps_a1_c15 := F_mTimestamps_a1_c12.other W14 (Or.inr (slot_ne (Or.inl (W 16 rfl)) (Or.inl (W 19 rfl)) (by decide) (t := (.array .long)) (t' := .long) (by decide) (by decide)))
  have F_mMaxTimestamp_a1_c14 : Fld Z h14 a1 "com/example/tote/tote/storage/OffsetIndex" "mMaxTimestamp" "J" (.long (-9223372036854775808 : Int64)) := F_mMaxTimestamp_a1_c13.same W14
  have N14 := Fr.snoc X14 N12 g_a1
  refine own_go (fun _ k => XS.aloadN X14.here hx rfl (hb hby d1_35) rfl rfl k) ?_
  refine own_go (fun _ k => XS.lloadN X14.here hx rfl (hb hby d1_36) rfl k) ?_
  show own_Run p e below _ T14 (mkF m 37 #[.val (.ref a1), .val (.long q2), .second, .val (.long q3), .second] [(.long q2), (.ref a1)])
  obtain ⟨T16, h16, X16, e16, W16, st16⟩ := putF X14 hx hZ hown (host := "") (Or.inl (W 20 rfl)) Via.refl e14 F_mBaseOffset_a1_c15 E_a1_c15 (Or.inr ⟨(W 21 rfl), rfl, hnm⟩) (W 1 rfl) (ty := .long) (by decide) rfl rfl (g := (mkF m 37 #[.val (.ref a1), .val (.long q2), .second, .val (.long q3), .second] [(.long q2), (.ref a1)])) rfl rfl (hb hby d1_37)
  refine own_go st16 ?_
  show own_Run p e below _ T16 (mkF m 40 #[.val (.ref a1), .val (.long q2), .second, .val (.long q3), .second] [])
  have Z0_c17 := Nat.le_trans Z0_c15 (Keep.of_wr W16).1
  have K0_c17 := K0_c15.wr W16 (Or.inl (List.mem_of_getElem? (i := 0) rfl))
  have E_a1_c17 := E_a1_c15.wr W16
  have F_mIntervalBytes_a1_c17 := F_mIntervalBytes_a1_c15.other W16 (Or.inr (slot_ne (Or.inr (W 23 rfl)) (Or.inr (W 21 rfl)) (by decide) (t := .long) (t' := .long) (by decide) (by decide)))
  have F_mCount_a1_c17 := F_mCount_a1_c15.other W16 (Or.inr (slot_ne (Or.inl (W 35 rfl)) (Or.inr (W 21 rfl)) (by decide) (t := .int) (t' := .long) (by decide) (by decide)))
  have V_b2_c17 := V_b2_c15.other W16 (Ne.symm ne_a1_b2)
  have F_mOffsets_a1_c17 := F_mOffsets_a1_c15.other W16 (Or.inr (slot_ne (Or.inl (W 11 rfl)) (Or.inr (W 21 rfl)) (by decide) (t := (.array .int)) (t' := .long) (by decide) (by decide)))
  have V_b6_c17 := V_b6_c15.other W16 (Ne.symm ne_a1_b6)
  have F_mPositions_a1_c17 := F_mPositions_a1_c15.other W16 (Or.inr (slot_ne (Or.inl (W 13 rfl)) (Or.inr (W 21 rfl)) (by decide) (t := (.array .int)) (t' := .long) (by decide) (by decide)))
  have V_b10_c17 := V_b10_c15.other W16 (Ne.symm ne_a1_b10)
  have F_mTimestamps_a1_c17 := F_mTimestamps_a1_c15.other W16 (Or.inr (slot_ne (Or.inl (W 16 rfl)) (Or.inr (W 21 rfl)) (by decide) (t := (.array .long)) (t' := .long) (by decide) (by decide)))
  have F_mMaxTimestamp_a1_c17 := F_mMaxTimestamp_a1_c14.other W16 (Or.inr (slot_ne (Or.inl (W 19 rfl)) (Or.inr (W 21 rfl)) (by decide) (t := .long) (t' := .long) (by decide) (by decide)))
  have F_mBaseOffset_a1_c16 : Fld Z h16 a1 "com/example/tote/tote/storage/OffsetIndex" "mBaseOffset" "J" (.long q2) := F_mBaseOffset_a1_c15.same W16
  have N16 := Fr.snoc X16 N14 g_a1
  refine own_go (fun _ k => XS.aloadN X16.here hx rfl (hb hby d1_40) rfl rfl k) ?_
  refine own_go (fun _ k => XS.lloadN X16.here hx rfl (hb hby d1_41) rfl k) ?_
  show own_Run p e below _ T16 (mkF m 42 #[.val (.ref a1), .val (.long q2), .second, .val (.long q3), .second] [(.long q3), (.ref a1)])
  obtain ⟨T18, h18, X18, e18, W18, st18⟩ := putF X16 hx hZ hown (host := "") (Or.inl (W 22 rfl)) Via.refl e16 F_mIntervalBytes_a1_c17 E_a1_c17 (Or.inr ⟨(W 23 rfl), rfl, hnm⟩) (W 1 rfl) (ty := .long) (by decide) rfl rfl (g := (mkF m 42 #[.val (.ref a1), .val (.long q2), .second, .val (.long q3), .second] [(.long q3), (.ref a1)])) rfl rfl (hb hby d1_42)
  refine own_go st18 ?_
  show own_Run p e below _ T18 (mkF m 45 #[.val (.ref a1), .val (.long q2), .second, .val (.long q3), .second] [])
  have Z0_c19 := Nat.le_trans Z0_c17 (Keep.of_wr W18).1
  have K0_c19 := K0_c17.wr W18 (Or.inl (List.mem_of_getElem? (i := 0) rfl))
  have E_a1_c19 := E_a1_c17.wr W18
  have F_mCount_a1_c19 := F_mCount_a1_c17.other W18 (Or.inr (slot_ne (Or.inl (W 35 rfl)) (Or.inr (W 23 rfl)) (by decide) (t := .int) (t' := .long) (by decide) (by decide)))
  have V_b2_c19 := V_b2_c17.other W18 (Ne.symm ne_a1_b2)
  have F_mOffsets_a1_c19 := F_mOffsets_a1_c17.other W18 (Or.inr (slot_ne (Or.inl (W 11 rfl)) (Or.inr (W 23 rfl)) (by decide) (t := (.array .int)) (t' := .long) (by decide) (by decide)))
  have V_b6_c19 := V_b6_c17.other W18 (Ne.symm ne_a1_b6)
  have F_mPositions_a1_c19 := F_mPositions_a1_c17.other W18 (Or.inr (slot_ne (Or.inl (W 13 rfl)) (Or.inr (W 23 rfl)) (by decide) (t := (.array .int)) (t' := .long) (by decide) (by decide)))
  have V_b10_c19 := V_b10_c17.other W18 (Ne.symm ne_a1_b10)
  have F_mTimestamps_a1_c19 := F_mTimestamps_a1_c17.other W18 (Or.inr (slot_ne (Or.inl (W 16 rfl)) (Or.inr (W 23 rfl)) (by decide) (t := (.array .long)) (t' := .long) (by decide) (by decide)))
  have F_mMaxTimestamp_a1_c19 := F_mMaxTimestamp_a1_c17.other W18 (Or.inr (slot_ne (Or.inl (W 19 rfl)) (Or.inr (W 23 rfl)) (by decide) (t := .long) (t' := .long) (by decide) (by decide)))
  have F_mBaseOffset_a1_c19 := F_mBaseOffset_a1_c16.other W18 (Or.inr (slot_ne (Or.inr (W 21 rfl)) (Or.inr (W 23 rfl)) (by decide) (t := .long) (t' := .long) (by decide) (by decide)))
  have F_mIntervalBytes_a1_c18 : Fld Z h18 a1 "com/example/tote/tote/storage/OffsetIndex" "mIntervalBytes" "J" (.long q3) := F_mIntervalBytes_a1_c17.same W18
  have N18 := Fr.snoc X18 N16 g_a1
  refine own_done (Q := fun v h L => Q1 Z a1 q2 q3 u0 u1 u2 u3 u4 u5 h0 n0 v h L) (v := none) X18 (fun _ => rfl) hlk (fun fs hr => X18.returnOut hx hret (hb hby d1_45) hr) ?_ (by decide) (by decide)
  show Q1 Z a1 q2 q3 u0 u1 u2 u3 u4 u5 h0 n0 _ T18.heap _
  rw [e18]
  exact ⟨b2, b6, b10, k2, k6, k10, rfl, N18, K0_c19, E_a1_c19, F_mOffsets_a1_c19, F_mPositions_a1_c19, F_mTimestamps_a1_c19, F_mMaxTimestamp_a1_c19, F_mBaseOffset_a1_c19, F_mIntervalBytes_a1_c18, F_mCount_a1_c19, V_b2_c19, V_b6_c19, V_b10_c19, sz_b2, sz_b6, sz_b10, ne_a1_b2, ne_a1_b6, ne_a1_b10, ne_b2_b6, ne_b2_b10, ne_b6_b10⟩
theorem d3_0 : decode jdk_29_method_66_code 0 = .ok (.lload_n 0, 1) := by decide +kernel
theorem d3_1 : decode jdk_29_method_66_code 1 = .ok (.lload_n 2, 1) := by decide +kernel
theorem d3_2 : decode jdk_29_method_66_code 2 = .ok (.lcmp, 1) := by decide +kernel
theorem d3_3 : decode jdk_29_method_66_code 3 = .ok (.ifCond .lt 7, 3) := by decide +kernel
theorem d3_6 : decode jdk_29_method_66_code 6 = .ok (.lload_n 0, 1) := by decide +kernel
theorem d3_7 : decode jdk_29_method_66_code 7 = .ok (.goto 4, 3) := by decide +kernel
theorem d3_10 : decode jdk_29_method_66_code 10 = .ok (.lload_n 2, 1) := by decide +kernel
theorem d3_11 : decode jdk_29_method_66_code 11 = .ok (.lreturn, 1) := by decide +kernel
theorem ef_3 (m : MethodId) (x0 : Int64) (x1 : Int64) : entryFrame m #[(.long x0), (.long x1)] 4 = mkF m 0 #[.val (.long x0), .second, .val (.long x1), .second] [] := by first | (simp [entryFrame, mkF, argsToLocals, Value.category]; done) | rfl
def Q3 (Z : State) (q1 : Int64) (q2 : Int64) (h0 : Heap) (n0 : Nat) (v : Option Value) (h : Heap) (L : List Loc) : Prop := v = some (.long (own_max q1 q2)) ∧ Fr n0 L ∧ h = h0
set_option maxRecDepth 65536 in
set_option maxHeartbeats 40000000 in
theorem rm3 (l : Launch) (Z : State) (a0 : Array Value) (hw : ∀ d ∈ tables_1, d.before a0 Z = true) (ws : List Jvm.Cond) (q1 : Int64) (q2 : Int64) (h0 : Heap) (n0 : Nat) (Z0 : n0 ≤ h0.size) :
    MetFree l (⟨"java/lang/Math", "max", "(JJ)J"⟩ : MethodName) (head1 (Jvm.Cond.code (⟨"java/lang/Math", "max", "(JJ)J"⟩ : MethodName) jdk_29_method_66_code 4 (some .long) :: ws) ({ frames := 0, cells := 0, slots := 0, locals := 0 } : Room)) (fun a U => a = #[(.long q1), (.long q2)] ∧ Z.Warmed39 U.vm ∧ U.heap = h0) (fun _ _ _ _ _ => True) (fun _ U o U' => ∃ v L, o = .returned v ∧ Q3 Z q1 q2 h0 n0 v U'.heap L ∧ FrameEnd U o U' L ({ frames := 0, cells := 0, slots := 0, locals := 0 } : Room).cells ({ frames := 0, cells := 0, slots := 0, locals := 0 } : Room).slots) := by
  refine MetFree.of_bodySF (Jvm.Free.JP.mathPlain rfl (by decide +kernel)) hisR ?_
  intro p e s m args below meth c s₁ Bd hml0 hP hK
  obtain ⟨rfl, hZ, hh⟩ := hP
  have hx := Bd.exec
  have hby := Bd.bytes
  have hml : c.maxLocals = 4 := hml0
  have hown : s.vm.findClass "java/lang/Math" = some m.cls := findClass_of_methodNamed Bd.named
  have hnm := (name_of_methodNamed Bd.named Bd.method).1
  have hret := Bd.returns
  have hlk : meth.locks = false := BodyLoose.notSynchronized Bd
  have X0 : Stand p l e ({ frames := 0, cells := 0, slots := 0, locals := 0 } : Room) s m #[(.long q1), (.long q2)] below meth c s₁ [] 0 0 := Stand.of_body Bd
  have e0 : s₁.heap = h0 := by rw [← hh, Bd.state]; rfl
  have N0 := Fr.nil n0
  have W := fun (k : Nat) {d : Jvm.Cond} (h : tables_1[k]? = some d) => hw d (List.mem_of_getElem? h)
  have K0 : Keep h0 h0 [] := Keep.refl _ _
  refine own_start (ef_3 m q1 q2) ?_
  show own_Run p e below _ s₁ (mkF m 0 #[.val (.long q1), .second, .val (.long q2), .second] [])
  refine own_go (fun _ k => XS.lloadN X0.here hx rfl (hb hby d3_0) rfl k) ?_
  refine own_go (fun _ k => XS.lloadN X0.here hx rfl (hb hby d3_1) rfl k) ?_
  refine own_go (fun _ k => XS.lcmp X0.here hx rfl (hb hby d3_2) rfl k) ?_
  show own_Run p e below _ s₁ (mkF m 3 #[.val (.long q1), .second, .val (.long q2), .second] [(.int (lcmpW q1 q2))])
  by_cases hc3_20 : q1 < q2
  · refine own_go (fun _ k => XS.ifYes X0.here hx rfl (pc0 := 3) (pc' := 10) rfl (hb hby d3_3) rfl (own_lcT hc3_20).1 (by decide) (by decide) k) ?_
    show own_Run p e below _ s₁ (mkF m 10 #[.val (.long q1), .second, .val (.long q2), .second] [])
    refine own_go (fun _ k => XS.lloadN X0.here hx rfl (hb hby d3_10) rfl k) ?_
    show own_Run p e below _ s₁ (mkF m 11 #[.val (.long q1), .second, .val (.long q2), .second] [(.long q2)])
    refine own_done (Q := fun v h L => Q3 Z q1 q2 h0 n0 v h L) (v := (some (.long q2))) X0 (fun h => by rw [hret] at h; cases h) hlk (fun fs hr => own_retL X0 hx hret (hb hby d3_11) hr) ?_ (by decide) (by decide)
    show Q3 Z q1 q2 h0 n0 _ s₁.heap _
    rw [e0]
    exact ⟨by rw [own_max, if_pos hc3_20], N0, rfl⟩
  · refine own_go (fun _ k => XS.ifNo X0.here hx rfl (hb hby d3_3) rfl (own_lcF hc3_20).1 k) ?_
    show own_Run p e below _ s₁ (mkF m 6 #[.val (.long q1), .second, .val (.long q2), .second] [])
    refine own_go (fun _ k => XS.lloadN X0.here hx rfl (hb hby d3_6) rfl k) ?_
    refine own_go (fun _ k => XS.goto X0.here hx rfl (pc0 := 7) (pc' := 11) rfl (hb hby d3_7) (by decide) (by decide) k) ?_
    show own_Run p e below _ s₁ (mkF m 11 #[.val (.long q1), .second, .val (.long q2), .second] [(.long q1)])
    refine own_done (Q := fun v h L => Q3 Z q1 q2 h0 n0 v h L) (v := (some (.long q1))) X0 (fun h => by rw [hret] at h; cases h) hlk (fun fs hr => own_retL X0 hx hret (hb hby d3_11) hr) ?_ (by decide) (by decide)
    show Q3 Z q1 q2 h0 n0 _ s₁.heap _
    rw [e0]
    exact ⟨by rw [own_max, if_neg hc3_20], N0, rfl⟩
theorem d6_0 : decode jdk_29_method_43_code 0 = .ok (.lload_n 0, 1) := by decide +kernel
theorem d6_1 : decode jdk_29_method_43_code 1 = .ok (.l2i, 1) := by decide +kernel
theorem d6_2 : decode jdk_29_method_43_code 2 = .ok (.i2l, 1) := by decide +kernel
theorem d6_3 : decode jdk_29_method_43_code 3 = .ok (.lload_n 0, 1) := by decide +kernel
theorem d6_4 : decode jdk_29_method_43_code 4 = .ok (.lcmp, 1) := by decide +kernel
theorem d6_5 : decode jdk_29_method_43_code 5 = .ok (.ifCond .eq 13, 3) := by decide +kernel
theorem d6_8 : decode jdk_29_method_43_code 8 = .ok (.new 109, 3) := by decide +kernel
theorem d6_11 : decode jdk_29_method_43_code 11 = .ok (.dup, 1) := by decide +kernel
theorem d6_12 : decode jdk_29_method_43_code 12 = .ok (.ldc 111, 2) := by decide +kernel
theorem d6_14 : decode jdk_29_method_43_code 14 = .ok (.invokespecial 113, 3) := by decide +kernel
theorem d6_17 : decode jdk_29_method_43_code 17 = .ok (.athrow, 1) := by decide +kernel
theorem d6_18 : decode jdk_29_method_43_code 18 = .ok (.lload_n 0, 1) := by decide +kernel
theorem d6_19 : decode jdk_29_method_43_code 19 = .ok (.l2i, 1) := by decide +kernel
theorem d6_20 : decode jdk_29_method_43_code 20 = .ok (.ireturn, 1) := by decide +kernel
theorem ef_6 (m : MethodId) (x0 : Int64) : entryFrame m #[(.long x0)] 2 = mkF m 0 #[.val (.long x0), .second] [] := by first | (simp [entryFrame, mkF, argsToLocals, Value.category]; done) | rfl
def Q6 (Z : State) (q1 : Int64) (h0 : Heap) (n0 : Nat) (v : Option Value) (h : Heap) (L : List Loc) : Prop := v = some (.int (q1.toInt32)) ∧ Fr n0 L ∧ h = h0
set_option maxRecDepth 65536 in
set_option maxHeartbeats 40000000 in
theorem rm6 (l : Launch) (Z : State) (a0 : Array Value) (hw : ∀ d ∈ tables_1, d.before a0 Z = true) (ws : List Jvm.Cond) (q1 : Int64) (h0 : Heap) (n0 : Nat) (Z0 : n0 ≤ h0.size) (hp : ((q1.toInt32).toInt64) = q1) :
    MetFree l (⟨"java/lang/Math", "toIntExact", "(J)I"⟩ : MethodName) (head1 (Jvm.Cond.code (⟨"java/lang/Math", "toIntExact", "(J)I"⟩ : MethodName) jdk_29_method_43_code 2 (some .int) :: ws) ({ frames := 0, cells := 0, slots := 0, locals := 0 } : Room)) (fun a U => a = #[(.long q1)] ∧ Z.Warmed39 U.vm ∧ U.heap = h0) (fun _ _ _ _ _ => True) (fun _ U o U' => ∃ v L, o = .returned v ∧ Q6 Z q1 h0 n0 v U'.heap L ∧ FrameEnd U o U' L ({ frames := 0, cells := 0, slots := 0, locals := 0 } : Room).cells ({ frames := 0, cells := 0, slots := 0, locals := 0 } : Room).slots) := by
  refine MetFree.of_bodySF (Jvm.Free.JP.mathPlain rfl (by decide +kernel)) hisR ?_
  intro p e s m args below meth c s₁ Bd hml0 hP hK
  obtain ⟨rfl, hZ, hh⟩ := hP
  have hx := Bd.exec
  have hby := Bd.bytes
  have hml : c.maxLocals = 2 := hml0
  have hown : s.vm.findClass "java/lang/Math" = some m.cls := findClass_of_methodNamed Bd.named
  have hnm := (name_of_methodNamed Bd.named Bd.method).1
  have hret := Bd.returns
  have hlk : meth.locks = false := BodyLoose.notSynchronized Bd
  have X0 : Stand p l e ({ frames := 0, cells := 0, slots := 0, locals := 0 } : Room) s m #[(.long q1)] below meth c s₁ [] 0 0 := Stand.of_body Bd
  have e0 : s₁.heap = h0 := by rw [← hh, Bd.state]; rfl
  have N0 := Fr.nil n0
  have W := fun (k : Nat) {d : Jvm.Cond} (h : tables_1[k]? = some d) => hw d (List.mem_of_getElem? h)
  have K0 : Keep h0 h0 [] := Keep.refl _ _
  refine own_start (ef_6 m q1) ?_
  show own_Run p e below _ s₁ (mkF m 0 #[.val (.long q1), .second] [])
  refine own_go (fun _ k => XS.lloadN X0.here hx rfl (hb hby d6_0) rfl k) ?_
  refine own_go (fun _ k => XS.l2i X0.here hx rfl (hb hby d6_1) rfl k) ?_
  refine own_go (fun _ k => XS.i2l X0.here hx rfl (hb hby d6_2) rfl k) ?_
  refine own_go (fun _ k => XS.lloadN X0.here hx rfl (hb hby d6_3) rfl k) ?_
  show own_Run p e below _ s₁ (mkF m 4 #[.val (.long q1), .second] [(.long q1), (.long ((q1.toInt32).toInt64))])
  refine own_go (fun _ k => XS.lcmp X0.here hx rfl (hb hby d6_4) rfl k) ?_
  show own_Run p e below _ s₁ (mkF m 5 #[.val (.long q1), .second] [(.int (lcmpW ((q1.toInt32).toInt64) q1))])
  refine own_go (fun _ k => XS.ifYes X0.here hx rfl (pc0 := 5) (pc' := 18) rfl (hb hby d6_5) rfl (own_lcTe hp).1 (by decide) (by decide) k) ?_
  show own_Run p e below _ s₁ (mkF m 18 #[.val (.long q1), .second] [])
  refine own_go (fun _ k => XS.lloadN X0.here hx rfl (hb hby d6_18) rfl k) ?_
  refine own_go (fun _ k => XS.l2i X0.here hx rfl (hb hby d6_19) rfl k) ?_
  show own_Run p e below _ s₁ (mkF m 20 #[.val (.long q1), .second] [(.int (q1.toInt32))])
  refine own_done (Q := fun v h L => Q6 Z q1 h0 n0 v h L) (v := (some (.int (q1.toInt32)))) X0 (fun h => by rw [hret] at h; cases h) hlk (fun fs hr => own_retI X0 hx hret (hb hby d6_20) hr) ?_ (by decide) (by decide)
  show Q6 Z q1 h0 n0 _ s₁.heap _
  rw [e0]
  exact ⟨rfl, N0, rfl⟩
theorem d7_0 : decode prog_89_method_15_code 0 = .ok (.aload_n 0, 1) := by decide +kernel
theorem d7_1 : decode prog_89_method_15_code 1 = .ok (.getfield 36, 3) := by decide +kernel
theorem d7_4 : decode prog_89_method_15_code 4 = .ok (.aload_n 0, 1) := by decide +kernel
theorem d7_5 : decode prog_89_method_15_code 5 = .ok (.getfield 13, 3) := by decide +kernel
theorem d7_8 : decode prog_89_method_15_code 8 = .ok (.arraylength, 1) := by decide +kernel
theorem d7_9 : decode prog_89_method_15_code 9 = .ok (.if_icmp .ne 54, 3) := by decide +kernel
theorem d7_12 : decode prog_89_method_15_code 12 = .ok (.aload_n 0, 1) := by decide +kernel
theorem d7_13 : decode prog_89_method_15_code 13 = .ok (.aload_n 0, 1) := by decide +kernel
theorem d7_14 : decode prog_89_method_15_code 14 = .ok (.getfield 13, 3) := by decide +kernel
theorem d7_17 : decode prog_89_method_15_code 17 = .ok (.iconst 2, 1) := by decide +kernel
theorem d7_18 : decode prog_89_method_15_code 18 = .ok (.aload_n 0, 1) := by decide +kernel
theorem d7_19 : decode prog_89_method_15_code 19 = .ok (.getfield 36, 3) := by decide +kernel
theorem d7_22 : decode prog_89_method_15_code 22 = .ok (.imul, 1) := by decide +kernel
theorem d7_23 : decode prog_89_method_15_code 23 = .ok (.invokestatic 113, 3) := by decide +kernel
theorem d7_26 : decode prog_89_method_15_code 26 = .ok (.putfield 13, 3) := by decide +kernel
theorem d7_29 : decode prog_89_method_15_code 29 = .ok (.aload_n 0, 1) := by decide +kernel
theorem d7_30 : decode prog_89_method_15_code 30 = .ok (.aload_n 0, 1) := by decide +kernel
theorem d7_31 : decode prog_89_method_15_code 31 = .ok (.getfield 17, 3) := by decide +kernel
theorem d7_34 : decode prog_89_method_15_code 34 = .ok (.iconst 2, 1) := by decide +kernel
theorem d7_35 : decode prog_89_method_15_code 35 = .ok (.aload_n 0, 1) := by decide +kernel
theorem d7_36 : decode prog_89_method_15_code 36 = .ok (.getfield 36, 3) := by decide +kernel
theorem d7_39 : decode prog_89_method_15_code 39 = .ok (.imul, 1) := by decide +kernel
theorem d7_40 : decode prog_89_method_15_code 40 = .ok (.invokestatic 113, 3) := by decide +kernel
theorem d7_43 : decode prog_89_method_15_code 43 = .ok (.putfield 17, 3) := by decide +kernel
theorem d7_46 : decode prog_89_method_15_code 46 = .ok (.aload_n 0, 1) := by decide +kernel
theorem d7_47 : decode prog_89_method_15_code 47 = .ok (.aload_n 0, 1) := by decide +kernel
theorem d7_48 : decode prog_89_method_15_code 48 = .ok (.getfield 20, 3) := by decide +kernel
theorem d7_51 : decode prog_89_method_15_code 51 = .ok (.iconst 2, 1) := by decide +kernel
theorem d7_52 : decode prog_89_method_15_code 52 = .ok (.aload_n 0, 1) := by decide +kernel
theorem d7_53 : decode prog_89_method_15_code 53 = .ok (.getfield 36, 3) := by decide +kernel
theorem d7_56 : decode prog_89_method_15_code 56 = .ok (.imul, 1) := by decide +kernel
theorem d7_57 : decode prog_89_method_15_code 57 = .ok (.invokestatic 117, 3) := by decide +kernel
theorem d7_60 : decode prog_89_method_15_code 60 = .ok (.putfield 20, 3) := by decide +kernel
theorem d7_63 : decode prog_89_method_15_code 63 = .ok (.aload_n 0, 1) := by decide +kernel
theorem d7_64 : decode prog_89_method_15_code 64 = .ok (.getfield 13, 3) := by decide +kernel
theorem d7_67 : decode prog_89_method_15_code 67 = .ok (.aload_n 0, 1) := by decide +kernel
theorem d7_68 : decode prog_89_method_15_code 68 = .ok (.getfield 36, 3) := by decide +kernel
theorem d7_71 : decode prog_89_method_15_code 71 = .ok (.iload_n 1, 1) := by decide +kernel
theorem d7_72 : decode prog_89_method_15_code 72 = .ok (.iastore, 1) := by decide +kernel
theorem d7_73 : decode prog_89_method_15_code 73 = .ok (.aload_n 0, 1) := by decide +kernel
theorem d7_74 : decode prog_89_method_15_code 74 = .ok (.getfield 17, 3) := by decide +kernel
theorem d7_77 : decode prog_89_method_15_code 77 = .ok (.aload_n 0, 1) := by decide +kernel
theorem d7_78 : decode prog_89_method_15_code 78 = .ok (.getfield 36, 3) := by decide +kernel
theorem d7_81 : decode prog_89_method_15_code 81 = .ok (.iload_n 2, 1) := by decide +kernel
theorem d7_82 : decode prog_89_method_15_code 82 = .ok (.iastore, 1) := by decide +kernel
theorem d7_83 : decode prog_89_method_15_code 83 = .ok (.aload_n 0, 1) := by decide +kernel
theorem d7_84 : decode prog_89_method_15_code 84 = .ok (.getfield 20, 3) := by decide +kernel
theorem d7_87 : decode prog_89_method_15_code 87 = .ok (.aload_n 0, 1) := by decide +kernel
theorem d7_88 : decode prog_89_method_15_code 88 = .ok (.getfield 36, 3) := by decide +kernel
theorem d7_91 : decode prog_89_method_15_code 91 = .ok (.lload_n 3, 1) := by decide +kernel
theorem d7_92 : decode prog_89_method_15_code 92 = .ok (.lastore, 1) := by decide +kernel
theorem d7_93 : decode prog_89_method_15_code 93 = .ok (.aload_n 0, 1) := by decide +kernel
theorem d7_94 : decode prog_89_method_15_code 94 = .ok (.dup, 1) := by decide +kernel
theorem d7_95 : decode prog_89_method_15_code 95 = .ok (.getfield 36, 3) := by decide +kernel
theorem d7_98 : decode prog_89_method_15_code 98 = .ok (.iconst 1, 1) := by decide +kernel
theorem d7_99 : decode prog_89_method_15_code 99 = .ok (.iadd, 1) := by decide +kernel
theorem d7_100 : decode prog_89_method_15_code 100 = .ok (.putfield 36, 3) := by decide +kernel
theorem d7_103 : decode prog_89_method_15_code 103 = .ok (.return_, 1) := by decide +kernel
theorem pn_7 : plainName "com/example/tote/tote/storage/OffsetIndex" = true := by first | (simp [plainName, overriddenIn]; done) | decide +kernel
theorem ef_7 (m : MethodId) (x0 : Addr) (x1 : Int32) (x2 : Int32) (x3 : Int64) : entryFrame m #[(.ref x0), (.int x1), (.int x2), (.long x3)] 5 = mkF m 0 #[.val (.ref x0), .val (.int x1), .val (.int x2), .val (.long x3), .second] [] := by first | (simp [entryFrame, mkF, argsToLocals, Value.category]; done) | rfl
def Q7c0 (Z : State) (a1 : Addr) (p2 : Int32) (p3 : Int32) (q4 : Int64) (b1 : Addr) (b2 : Addr) (b3 : Addr) (k1 : ClassId) (k2 : ClassId) (k3 : ClassId) (mx : Int64) (ba : Int64) (iv : Int64) (h0 : Heap) (n0 : Nat) (v : Option Value) (h : Heap) (L : List Loc) : Prop := v = none ∧ Fr n0 L ∧ Keep h0 h [a1, b1, b2, b3] ∧ Exa Z h a1 "com/example/tote/tote/storage/OffsetIndex" ∧ Fld Z h a1 "com/example/tote/tote/storage/OffsetIndex" "mOffsets" "[I" (.ref b1) ∧ Fld Z h a1 "com/example/tote/tote/storage/OffsetIndex" "mPositions" "[I" (.ref b2) ∧ Fld Z h a1 "com/example/tote/tote/storage/OffsetIndex" "mTimestamps" "[J" (.ref b3) ∧ Fld Z h a1 "com/example/tote/tote/storage/OffsetIndex" "mMaxTimestamp" "J" (.long mx) ∧ Fld Z h a1 "com/example/tote/tote/storage/OffsetIndex" "mBaseOffset" "J" (.long ba) ∧ Fld Z h a1 "com/example/tote/tote/storage/OffsetIndex" "mIntervalBytes" "J" (.long iv) ∧ Fld Z h a1 "com/example/tote/tote/storage/OffsetIndex" "mCount" "I" (.int (1 : Int32)) ∧ Arv Z h b1 k1 .int (16 : Int32) [(.int p2), (.int (0 : Int32)), (.int (0 : Int32)), (.int (0 : Int32)), (.int (0 : Int32)), (.int (0 : Int32)), (.int (0 : Int32)), (.int (0 : Int32)), (.int (0 : Int32)), (.int (0 : Int32)), (.int (0 : Int32)), (.int (0 : Int32)), (.int (0 : Int32)), (.int (0 : Int32)), (.int (0 : Int32)), (.int (0 : Int32))] (.int (0 : Int32)) ∧ Arv Z h b2 k2 .int (16 : Int32) [(.int p3), (.int (0 : Int32)), (.int (0 : Int32)), (.int (0 : Int32)), (.int (0 : Int32)), (.int (0 : Int32)), (.int (0 : Int32)), (.int (0 : Int32)), (.int (0 : Int32)), (.int (0 : Int32)), (.int (0 : Int32)), (.int (0 : Int32)), (.int (0 : Int32)), (.int (0 : Int32)), (.int (0 : Int32)), (.int (0 : Int32))] (.int (0 : Int32)) ∧ Arv Z h b3 k3 .long (16 : Int32) [(.long q4), (.long (0 : Int64)), (.long (0 : Int64)), (.long (0 : Int64)), (.long (0 : Int64)), (.long (0 : Int64)), (.long (0 : Int64)), (.long (0 : Int64)), (.long (0 : Int64)), (.long (0 : Int64)), (.long (0 : Int64)), (.long (0 : Int64)), (.long (0 : Int64)), (.long (0 : Int64)), (.long (0 : Int64)), (.long (0 : Int64))] (.long (0 : Int64))
set_option maxRecDepth 65536 in
set_option maxHeartbeats 40000000 in
theorem rm7c0 (l : Launch) (Z : State) (a0 : Array Value) (hw : ∀ d ∈ tables_1, d.before a0 Z = true) (ws : List Jvm.Cond) (a1 : Addr) (p2 : Int32) (p3 : Int32) (q4 : Int64) (b1 : Addr) (b2 : Addr) (b3 : Addr) (k1 : ClassId) (k2 : ClassId) (k3 : ClassId) (mx : Int64) (ba : Int64) (iv : Int64) (h0 : Heap) (n0 : Nat) (Z0 : n0 ≤ h0.size) (E_a1 : Exa Z h0 a1 "com/example/tote/tote/storage/OffsetIndex") (F_mOffsets_a1 : Fld Z h0 a1 "com/example/tote/tote/storage/OffsetIndex" "mOffsets" "[I" (.ref b1)) (F_mPositions_a1 : Fld Z h0 a1 "com/example/tote/tote/storage/OffsetIndex" "mPositions" "[I" (.ref b2)) (F_mTimestamps_a1 : Fld Z h0 a1 "com/example/tote/tote/storage/OffsetIndex" "mTimestamps" "[J" (.ref b3)) (F_mMaxTimestamp_a1 : Fld Z h0 a1 "com/example/tote/tote/storage/OffsetIndex" "mMaxTimestamp" "J" (.long mx)) (F_mBaseOffset_a1 : Fld Z h0 a1 "com/example/tote/tote/storage/OffsetIndex" "mBaseOffset" "J" (.long ba)) (F_mIntervalBytes_a1 : Fld Z h0 a1 "com/example/tote/tote/storage/OffsetIndex" "mIntervalBytes" "J" (.long iv)) (F_mCount_a1 : Fld Z h0 a1 "com/example/tote/tote/storage/OffsetIndex" "mCount" "I" (.int (0 : Int32))) (V_b1 : Arv Z h0 b1 k1 .int (16 : Int32) [(.int (0 : Int32)), (.int (0 : Int32)), (.int (0 : Int32)), (.int (0 : Int32)), (.int (0 : Int32)), (.int (0 : Int32)), (.int (0 : Int32)), (.int (0 : Int32)), (.int (0 : Int32)), (.int (0 : Int32)), (.int (0 : Int32)), (.int (0 : Int32)), (.int (0 : Int32)), (.int (0 : Int32)), (.int (0 : Int32)), (.int (0 : Int32))] (.int (0 : Int32))) (V_b2 : Arv Z h0 b2 k2 .int (16 : Int32) [(.int (0 : Int32)), (.int (0 : Int32)), (.int (0 : Int32)), (.int (0 : Int32)), (.int (0 : Int32)), (.int (0 : Int32)), (.int (0 : Int32)), (.int (0 : Int32)), (.int (0 : Int32)), (.int (0 : Int32)), (.int (0 : Int32)), (.int (0 : Int32)), (.int (0 : Int32)), (.int (0 : Int32)), (.int (0 : Int32)), (.int (0 : Int32))] (.int (0 : Int32))) (V_b3 : Arv Z h0 b3 k3 .long (16 : Int32) [(.long (0 : Int64)), (.long (0 : Int64)), (.long (0 : Int64)), (.long (0 : Int64)), (.long (0 : Int64)), (.long (0 : Int64)), (.long (0 : Int64)), (.long (0 : Int64)), (.long (0 : Int64)), (.long (0 : Int64)), (.long (0 : Int64)), (.long (0 : Int64)), (.long (0 : Int64)), (.long (0 : Int64)), (.long (0 : Int64)), (.long (0 : Int64))] (.long (0 : Int64))) (g_a1 : n0 ≤ a1) (g_b1 : n0 ≤ b1) (g_b2 : n0 ≤ b2) (g_b3 : n0 ≤ b3) (ne_a1_b1 : a1 ≠ b1) (ne_a1_b2 : a1 ≠ b2) (ne_a1_b3 : a1 ≠ b3) (ne_b1_b2 : b1 ≠ b2) (ne_b1_b3 : b1 ≠ b3) (ne_b2_b3 : b2 ≠ b3) :
    MetFree l (⟨"com/example/tote/tote/storage/OffsetIndex", "append", "(IIJ)V"⟩ : MethodName) (head1 (Jvm.Cond.code (⟨"com/example/tote/tote/storage/OffsetIndex", "append", "(IIJ)V"⟩ : MethodName) prog_89_method_15_code 5 none :: ws) ({ frames := 0, cells := 0, slots := 0, locals := 0 } : Room)) (fun a U => a = #[(.ref a1), (.int p2), (.int p3), (.long q4)] ∧ Z.Warmed39 U.vm ∧ U.heap = h0) (fun _ _ _ _ _ => True) (fun _ U o U' => ∃ v L, o = .returned v ∧ Q7c0 Z a1 p2 p3 q4 b1 b2 b3 k1 k2 k3 mx ba iv h0 n0 v U'.heap L ∧ FrameEnd U o U' L ({ frames := 0, cells := 0, slots := 0, locals := 0 } : Room).cells ({ frames := 0, cells := 0, slots := 0, locals := 0 } : Room).slots) := by
  refine MetFree.of_bodySF (plainFor_of_name pn_7) hisR ?_
  intro p e s m args below meth c s₁ Bd hml0 hP hK
  obtain ⟨rfl, hZ, hh⟩ := hP
  have hx := Bd.exec
  have hby := Bd.bytes
  have hml : c.maxLocals = 5 := hml0
  have hown : s.vm.findClass "com/example/tote/tote/storage/OffsetIndex" = some m.cls := findClass_of_methodNamed Bd.named
  have hnm := (name_of_methodNamed Bd.named Bd.method).1
  have hret := Bd.returns
  have hlk : meth.locks = false := BodyLoose.notSynchronized Bd
  have X0 : Stand p l e ({ frames := 0, cells := 0, slots := 0, locals := 0 } : Room) s m #[(.ref a1), (.int p2), (.int p3), (.long q4)] below meth c s₁ [] 0 0 := Stand.of_body Bd
  have e0 : s₁.heap = h0 := by rw [← hh, Bd.state]; rfl
  have N0 := Fr.nil n0
  have W := fun (k : Nat) {d : Jvm.Cond} (h : tables_1[k]? = some d) => hw d (List.mem_of_getElem? h)
  have K0 : Keep h0 h0 [a1, b1, b2, b3] := Keep.refl _ _
  refine own_start (ef_7 m a1 p2 p3 q4) ?_
  show own_Run p e below _ s₁ (mkF m 0 #[.val (.ref a1), .val (.int p2), .val (.int p3), .val (.long q4), .second] [])
  refine own_go (fun _ k => XS.aloadN X0.here hx rfl (hb hby d7_0) rfl rfl k) ?_
  show own_Run p e below _ s₁ (mkF m 1 #[.val (.ref a1), .val (.int p2), .val (.int p3), .val (.long q4), .second] [(.ref a1)])
  obtain ⟨T21, X21, e21, st21⟩ := getF X0 hx hZ hown (host := "") (Or.inl (W 34 rfl)) Via.refl e0 F_mCount_a1 (g := (mkF m 1 #[.val (.ref a1), .val (.int p2), .val (.int p3), .val (.long q4), .second] [(.ref a1)])) rfl rfl (hb hby d7_1)
  refine own_go st21 ?_
  show own_Run p e below _ T21 (mkF m 4 #[.val (.ref a1), .val (.int p2), .val (.int p3), .val (.long q4), .second] [(.int (0 : Int32))])
  refine own_go (fun _ k => XS.aloadN X21.here hx rfl (hb hby d7_4) rfl rfl k) ?_
  show own_Run p e below _ T21 (mkF m 5 #[.val (.ref a1), .val (.int p2), .val (.int p3), .val (.long q4), .second] [(.ref a1), (.int (0 : Int32))])
  obtain ⟨T22, X22, e22, st22⟩ := getF X21 hx hZ hown (host := "") (Or.inl (W 10 rfl)) Via.refl e21 F_mOffsets_a1 (g := (mkF m 5 #[.val (.ref a1), .val (.int p2), .val (.int p3), .val (.long q4), .second] [(.ref a1), (.int (0 : Int32))])) rfl rfl (hb hby d7_5)
  refine own_go st22 ?_
  show own_Run p e below _ T22 (mkF m 8 #[.val (.ref a1), .val (.int p2), .val (.int p3), .val (.long q4), .second] [(.ref b1), (.int (0 : Int32))])
  obtain ⟨cl23, Ar23, q23, S23, N23, H23, G23⟩ := id V_b1
  refine own_go (X22.arraylength hx (by rw [e22]; exact Ar23.1) (State.isArrayOf_alike hZ.alike Ar23.2.1) (g := (mkF m 8 #[.val (.ref a1), .val (.int p2), .val (.int p3), .val (.long q4), .second] [(.ref b1), (.int (0 : Int32))])) rfl rfl (hb hby d7_8)) ?_
  rw [len_of S23 N23]
  show own_Run p e below _ T22 (mkF m 9 #[.val (.ref a1), .val (.int p2), .val (.int p3), .val (.long q4), .second] [(.int (16 : Int32)), (.int (0 : Int32))])
  refine own_go (fun _ k => XS.icmpYes X22.here hx rfl (pc0 := 9) (pc' := 63) rfl (hb hby d7_9) rfl (feq (by decide : ¬ ((0 : Int32) = (16 : Int32)))).2 (by decide) (by decide) k) ?_
  show own_Run p e below _ T22 (mkF m 63 #[.val (.ref a1), .val (.int p2), .val (.int p3), .val (.long q4), .second] [])
  refine own_go (fun _ k => XS.aloadN X22.here hx rfl (hb hby d7_63) rfl rfl k) ?_
  show own_Run p e below _ T22 (mkF m 64 #[.val (.ref a1), .val (.int p2), .val (.int p3), .val (.long q4), .second] [(.ref a1)])
  obtain ⟨T24, X24, e24, st24⟩ := getF X22 hx hZ hown (host := "") (Or.inl (W 10 rfl)) Via.refl e22 F_mOffsets_a1 (g := (mkF m 64 #[.val (.ref a1), .val (.int p2), .val (.int p3), .val (.long q4), .second] [(.ref a1)])) rfl rfl (hb hby d7_64)
  refine own_go st24 ?_
  show own_Run p e below _ T24 (mkF m 67 #[.val (.ref a1), .val (.int p2), .val (.int p3), .val (.long q4), .second] [(.ref b1)])
  refine own_go (fun _ k => XS.aloadN X24.here hx rfl (hb hby d7_67) rfl rfl k) ?_
  show own_Run p e below _ T24 (mkF m 68 #[.val (.ref a1), .val (.int p2), .val (.int p3), .val (.long q4), .second] [(.ref a1), (.ref b1)])
  obtain ⟨T25, X25, e25, st25⟩ := getF X24 hx hZ hown (host := "") (Or.inl (W 34 rfl)) Via.refl e24 F_mCount_a1 (g := (mkF m 68 #[.val (.ref a1), .val (.int p2), .val (.int p3), .val (.long q4), .second] [(.ref a1), (.ref b1)])) rfl rfl (hb hby d7_68)
  refine own_go st25 ?_
  show own_Run p e below _ T25 (mkF m 71 #[.val (.ref a1), .val (.int p2), .val (.int p3), .val (.long q4), .second] [(.int (0 : Int32)), (.ref b1)])
  refine own_go (fun _ k => XS.iloadN X25.here hx rfl (hb hby d7_71) rfl k) ?_
  show own_Run p e below _ T25 (mkF m 72 #[.val (.ref a1), .val (.int p2), .val (.int p3), .val (.long q4), .second] [(.int p2), (.int (0 : Int32)), (.ref b1)])
  obtain ⟨cl26, Ar26, q26, S26, N26, H26, G26⟩ := id V_b1
  have hin26 : ¬ ((0 : Int32) < 0 ∨ cl26.slots.size ≤ ((0 : Int32)).toNatClampNeg) := inb_of S26 ⟨by decide, by decide⟩
  obtain ⟨T27, h27, X27, e27, W27, st27⟩ := stI X25 hx hZ e25 Ar26 (j := (0 : Int32)) hin26 (g := (mkF m 72 #[.val (.ref a1), .val (.int p2), .val (.int p3), .val (.long q4), .second] [(.int p2), (.int (0 : Int32)), (.ref b1)])) rfl rfl (hb hby d7_72)
  refine own_go st27 ?_
  show own_Run p e below _ T27 (mkF m 73 #[.val (.ref a1), .val (.int p2), .val (.int p3), .val (.long q4), .second] [])
  have Z0_c28 := Nat.le_trans Z0 (Keep.of_wr W27).1
  have K0_c28 := K0.wr W27 (Or.inl (List.mem_of_getElem? (i := 1) rfl))
  have E_a1_c28 := E_a1.wr W27
  have F_mOffsets_a1_c28 := F_mOffsets_a1.other W27 (Or.inl ne_a1_b1)
  have F_mPositions_a1_c28 := F_mPositions_a1.other W27 (Or.inl ne_a1_b1)
  have F_mTimestamps_a1_c28 := F_mTimestamps_a1.other W27 (Or.inl ne_a1_b1)
  have F_mMaxTimestamp_a1_c28 := F_mMaxTimestamp_a1.other W27 (Or.inl ne_a1_b1)
  have F_mBaseOffset_a1_c28 := F_mBaseOffset_a1.other W27 (Or.inl ne_a1_b1)
  have F_mIntervalBytes_a1_c28 := F_mIntervalBytes_a1.other W27 (Or.inl ne_a1_b1)
  have F_mCount_a1_c28 := F_mCount_a1.other W27 (Or.inl ne_a1_b1)
  have V_b2_c28 := V_b2.other W27 (Ne.symm ne_b1_b2)
  have V_b3_c28 := V_b3.other W27 (Ne.symm ne_b1_b3)
  have V_b1_c27 : Arv Z h27 b1 k1 .int (16 : Int32) [(.int p2), (.int (0 : Int32)), (.int (0 : Int32)), (.int (0 : Int32)), (.int (0 : Int32)), (.int (0 : Int32)), (.int (0 : Int32)), (.int (0 : Int32)), (.int (0 : Int32)), (.int (0 : Int32)), (.int (0 : Int32)), (.int (0 : Int32)), (.int (0 : Int32)), (.int (0 : Int32)), (.int (0 : Int32)), (.int (0 : Int32))] (.int (0 : Int32)) := Arv.set Ar26 q26 S26 N26 H26 G26 rfl W27 0 rfl (Nat.le_of_ble_eq_true rfl)
  have N27 := Fr.snoc X27 N0 g_b1
  refine own_go (fun _ k => XS.aloadN X27.here hx rfl (hb hby d7_73) rfl rfl k) ?_
  show own_Run p e below _ T27 (mkF m 74 #[.val (.ref a1), .val (.int p2), .val (.int p3), .val (.long q4), .second] [(.ref a1)])
  obtain ⟨T29, X29, e29, st29⟩ := getF X27 hx hZ hown (host := "") (Or.inl (W 12 rfl)) Via.refl e27 F_mPositions_a1_c28 (g := (mkF m 74 #[.val (.ref a1), .val (.int p2), .val (.int p3), .val (.long q4), .second] [(.ref a1)])) rfl rfl (hb hby d7_74)
  refine own_go st29 ?_
  show own_Run p e below _ T29 (mkF m 77 #[.val (.ref a1), .val (.int p2), .val (.int p3), .val (.long q4), .second] [(.ref b2)])
  refine own_go (fun _ k => XS.aloadN X29.here hx rfl (hb hby d7_77) rfl rfl k) ?_
  show own_Run p e below _ T29 (mkF m 78 #[.val (.ref a1), .val (.int p2), .val (.int p3), .val (.long q4), .second] [(.ref a1), (.ref b2)])
  obtain ⟨T30, X30, e30, st30⟩ := getF X29 hx hZ hown (host := "") (Or.inl (W 34 rfl)) Via.refl e29 F_mCount_a1_c28 (g := (mkF m 78 #[.val (.ref a1), .val (.int p2), .val (.int p3), .val (.long q4), .second] [(.ref a1), (.ref b2)])) rfl rfl (hb hby d7_78)
  refine own_go st30 ?_
  show own_Run p e below _ T30 (mkF m 81 #[.val (.ref a1), .val (.int p2), .val (.int p3), .val (.long q4), .second] [(.int (0 : Int32)), (.ref b2)])
  refine own_go (fun _ k => XS.iloadN X30.here hx rfl (hb hby d7_81) rfl k) ?_
  show own_Run p e below _ T30 (mkF m 82 #[.val (.ref a1), .val (.int p2), .val (.int p3), .val (.long q4), .second] [(.int p3), (.int (0 : Int32)), (.ref b2)])
  obtain ⟨cl31, Ar31, q31, S31, N31, H31, G31⟩ := id V_b2_c28
  have hin31 : ¬ ((0 : Int32) < 0 ∨ cl31.slots.size ≤ ((0 : Int32)).toNatClampNeg) := inb_of S31 ⟨by decide, by decide⟩
  obtain ⟨T32, h32, X32, e32, W32, st32⟩ := stI X30 hx hZ e30 Ar31 (j := (0 : Int32)) hin31 (g := (mkF m 82 #[.val (.ref a1), .val (.int p2), .val (.int p3), .val (.long q4), .second] [(.int p3), (.int (0 : Int32)), (.ref b2)])) rfl rfl (hb hby d7_82)
  refine own_go st32 ?_
  show own_Run p e below _ T32 (mkF m 83 #[.val (.ref a1), .val (.int p2), .val (.int p3), .val (.long q4), .second] [])
  have Z0_c33 := Nat.le_trans Z0_c28 (Keep.of_wr W32).1
  have K0_c33 := K0_c28.wr W32 (Or.inl (List.mem_of_getElem? (i := 2) rfl))
  have E_a1_c33 := E_a1_c28.wr W32
  have F_mOffsets_a1_c33 := F_mOffsets_a1_c28.other W32 (Or.inl ne_a1_b2)
  have F_mPositions_a1_c33 := F_mPositions_a1_c28.other W32 (Or.inl ne_a1_b2)
  have F_mTimestamps_a1_c33 := F_mTimestamps_a1_c28.other W32 (Or.inl ne_a1_b2)
  have F_mMaxTimestamp_a1_c33 := F_mMaxTimestamp_a1_c28.other W32 (Or.inl ne_a1_b2)
  have F_mBaseOffset_a1_c33 := F_mBaseOffset_a1_c28.other W32 (Or.inl ne_a1_b2)
  have F_mIntervalBytes_a1_c33 := F_mIntervalBytes_a1_c28.other W32 (Or.inl ne_a1_b2)
  have F_mCount_a1_c33 := F_mCount_a1_c28.other W32 (Or.inl ne_a1_b2)
  have V_b3_c33 := V_b3_c28.other W32 (Ne.symm ne_b2_b3)
  have V_b1_c33 := V_b1_c27.other W32 ne_b1_b2
  have V_b2_c32 : Arv Z h32 b2 k2 .int (16 : Int32) [(.int p3), (.int (0 : Int32)), (.int (0 : Int32)), (.int (0 : Int32)), (.int (0 : Int32)), (.int (0 : Int32)), (.int (0 : Int32)), (.int (0 : Int32)), (.int (0 : Int32)), (.int (0 : Int32)), (.int (0 : Int32)), (.int (0 : Int32)), (.int (0 : Int32)), (.int (0 : Int32)), (.int (0 : Int32)), (.int (0 : Int32))] (.int (0 : Int32)) := Arv.set Ar31 q31 S31 N31 H31 G31 rfl W32 0 rfl (Nat.le_of_ble_eq_true rfl)
  have N32 := Fr.snoc X32 N27 g_b2
  refine own_go (fun _ k => XS.aloadN X32.here hx rfl (hb hby d7_83) rfl rfl k) ?_
  show own_Run p e below _ T32 (mkF m 84 #[.val (.ref a1), .val (.int p2), .val (.int p3), .val (.long q4), .second] [(.ref a1)])
  obtain ⟨T34, X34, e34, st34⟩ := getF X32 hx hZ hown (host := "") (Or.inl (W 15 rfl)) Via.refl e32 F_mTimestamps_a1_c33 (g := (mkF m 84 #[.val (.ref a1), .val (.int p2), .val (.int p3), .val (.long q4), .second] [(.ref a1)])) rfl rfl (hb hby d7_84)
  refine own_go st34 ?_
  show own_Run p e below _ T34 (mkF m 87 #[.val (.ref a1), .val (.int p2), .val (.int p3), .val (.long q4), .second] [(.ref b3)])
  refine own_go (fun _ k => XS.aloadN X34.here hx rfl (hb hby d7_87) rfl rfl k) ?_
  show own_Run p e below _ T34 (mkF m 88 #[.val (.ref a1), .val (.int p2), .val (.int p3), .val (.long q4), .second] [(.ref a1), (.ref b3)])
  obtain ⟨T35, X35, e35, st35⟩ := getF X34 hx hZ hown (host := "") (Or.inl (W 34 rfl)) Via.refl e34 F_mCount_a1_c33 (g := (mkF m 88 #[.val (.ref a1), .val (.int p2), .val (.int p3), .val (.long q4), .second] [(.ref a1), (.ref b3)])) rfl rfl (hb hby d7_88)
  refine own_go st35 ?_
  show own_Run p e below _ T35 (mkF m 91 #[.val (.ref a1), .val (.int p2), .val (.int p3), .val (.long q4), .second] [(.int (0 : Int32)), (.ref b3)])
  refine own_go (fun _ k => XS.lloadN X35.here hx rfl (hb hby d7_91) rfl k) ?_
  show own_Run p e below _ T35 (mkF m 92 #[.val (.ref a1), .val (.int p2), .val (.int p3), .val (.long q4), .second] [(.long q4), (.int (0 : Int32)), (.ref b3)])
  obtain ⟨cl36, Ar36, q36, S36, N36, H36, G36⟩ := id V_b3_c33
  have hin36 : ¬ ((0 : Int32) < 0 ∨ cl36.slots.size ≤ ((0 : Int32)).toNatClampNeg) := inb_of S36 ⟨by decide, by decide⟩
  obtain ⟨T37, h37, X37, e37, W37, st37⟩ := stJ X35 hx hZ e35 Ar36 (j := (0 : Int32)) hin36 (g := (mkF m 92 #[.val (.ref a1), .val (.int p2), .val (.int p3), .val (.long q4), .second] [(.long q4), (.int (0 : Int32)), (.ref b3)])) rfl rfl (hb hby d7_92)
  refine own_go st37 ?_
  show own_Run p e below _ T37 (mkF m 93 #[.val (.ref a1), .val (.int p2), .val (.int p3), .val (.long q4), .second] [])
  have Z0_c38 := Nat.le_trans Z0_c33 (Keep.of_wr W37).1
  have K0_c38 := K0_c33.wr W37 (Or.inl (List.mem_of_getElem? (i := 3) rfl))
  have E_a1_c38 := E_a1_c33.wr W37
  have F_mOffsets_a1_c38 := F_mOffsets_a1_c33.other W37 (Or.inl ne_a1_b3)
  have F_mPositions_a1_c38 := F_mPositions_a1_c33.other W37 (Or.inl ne_a1_b3)
  have F_mTimestamps_a1_c38 := F_mTimestamps_a1_c33.other W37 (Or.inl ne_a1_b3)
  have F_mMaxTimestamp_a1_c38 := F_mMaxTimestamp_a1_c33.other W37 (Or.inl ne_a1_b3)
  have F_mBaseOffset_a1_c38 := F_mBaseOffset_a1_c33.other W37 (Or.inl ne_a1_b3)
  have F_mIntervalBytes_a1_c38 := F_mIntervalBytes_a1_c33.other W37 (Or.inl ne_a1_b3)
  have F_mCount_a1_c38 := F_mCount_a1_c33.other W37 (Or.inl ne_a1_b3)
  have V_b1_c38 := V_b1_c33.other W37 ne_b1_b3
  have V_b2_c38 := V_b2_c32.other W37 ne_b2_b3
  have V_b3_c37 : Arv Z h37 b3 k3 .long (16 : Int32) [(.long q4), (.long (0 : Int64)), (.long (0 : Int64)), (.long (0 : Int64)), (.long (0 : Int64)), (.long (0 : Int64)), (.long (0 : Int64)), (.long (0 : Int64)), (.long (0 : Int64)), (.long (0 : Int64)), (.long (0 : Int64)), (.long (0 : Int64)), (.long (0 : Int64)), (.long (0 : Int64)), (.long (0 : Int64)), (.long (0 : Int64))] (.long (0 : Int64)) := Arv.set Ar36 q36 S36 N36 H36 G36 rfl W37 0 rfl (Nat.le_of_ble_eq_true rfl)
  have N37 := Fr.snoc X37 N32 g_b3
  refine own_go (fun _ k => XS.aloadN X37.here hx rfl (hb hby d7_93) rfl rfl k) ?_
  refine own_go (fun _ k => XS.dup X37.here hx rfl (hb hby d7_94) rfl rfl k) ?_
  show own_Run p e below _ T37 (mkF m 95 #[.val (.ref a1), .val (.int p2), .val (.int p3), .val (.long q4), .second] [(.ref a1), (.ref a1)])
  obtain ⟨T39, X39, e39, st39⟩ := getF X37 hx hZ hown (host := "") (Or.inl (W 34 rfl)) Via.refl e37 F_mCount_a1_c38 (g := (mkF m 95 #[.val (.ref a1), .val (.int p2), .val (.int p3), .val (.long q4), .second] [(.ref a1), (.ref a1)])) rfl rfl (hb hby d7_95)
  refine own_go st39 ?_
  show own_Run p e below _ T39 (mkF m 98 #[.val (.ref a1), .val (.int p2), .val (.int p3), .val (.long q4), .second] [(.int (0 : Int32)), (.ref a1)])
  refine own_go (fun _ k => XS.iconst X39.here hx rfl (hb hby d7_98) k) ?_
  refine own_go (fun _ k => XS.iadd X39.here hx rfl (hb hby d7_99) rfl k) ?_
  show own_Run p e below _ T39 (mkF m 100 #[.val (.ref a1), .val (.int p2), .val (.int p3), .val (.long q4), .second] [(.int ((0 : Int32) + (1 : Int32))), (.ref a1)])
  rw [show ((0 : Int32) + (1 : Int32)) = (1 : Int32) by decide]
  show own_Run p e below _ T39 (mkF m 100 #[.val (.ref a1), .val (.int p2), .val (.int p3), .val (.long q4), .second] [(.int (1 : Int32)), (.ref a1)])
  obtain ⟨T40, h40, X40, e40, W40, st40⟩ := putF X39 hx hZ hown (host := "") (Or.inl (W 34 rfl)) Via.refl e39 F_mCount_a1_c38 E_a1_c38 (Or.inl (W 35 rfl)) (W 1 rfl) (ty := .int) (by decide) rfl rfl (g := (mkF m 100 #[.val (.ref a1), .val (.int p2), .val (.int p3), .val (.long q4), .second] [(.int (1 : Int32)), (.ref a1)])) rfl rfl (hb hby d7_100)
  refine own_go st40 ?_
  show own_Run p e below _ T40 (mkF m 103 #[.val (.ref a1), .val (.int p2), .val (.int p3), .val (.long q4), .second] [])
  have Z0_c41 := Nat.le_trans Z0_c38 (Keep.of_wr W40).1
  have K0_c41 := K0_c38.wr W40 (Or.inl (List.mem_of_getElem? (i := 0) rfl))
  have E_a1_c41 := E_a1_c38.wr W40
  have F_mOffsets_a1_c41 := F_mOffsets_a1_c38.other W40 (Or.inr (slot_ne (Or.inl (W 11 rfl)) (Or.inl (W 35 rfl)) (by decide) (t := (.array .int)) (t' := .int) (by decide) (by decide)))
  have F_mPositions_a1_c41 := F_mPositions_a1_c38.other W40 (Or.inr (slot_ne (Or.inl (W 13 rfl)) (Or.inl (W 35 rfl)) (by decide) (t := (.array .int)) (t' := .int) (by decide) (by decide)))
  have F_mTimestamps_a1_c41 := F_mTimestamps_a1_c38.other W40 (Or.inr (slot_ne (Or.inl (W 16 rfl)) (Or.inl (W 35 rfl)) (by decide) (t := (.array .long)) (t' := .int) (by decide) (by decide)))
  have F_mMaxTimestamp_a1_c41 := F_mMaxTimestamp_a1_c38.other W40 (Or.inr (slot_ne (Or.inl (W 19 rfl)) (Or.inl (W 35 rfl)) (by decide) (t := .long) (t' := .int) (by decide) (by decide)))
  have F_mBaseOffset_a1_c41 := F_mBaseOffset_a1_c38.other W40 (Or.inr (slot_ne (Or.inr (W 21 rfl)) (Or.inl (W 35 rfl)) (by decide) (t := .long) (t' := .int) (by decide) (by decide)))
  have F_mIntervalBytes_a1_c41 := F_mIntervalBytes_a1_c38.other W40 (Or.inr (slot_ne (Or.inr (W 23 rfl)) (Or.inl (W 35 rfl)) (by decide) (t := .long) (t' := .int) (by decide) (by decide)))
  have V_b1_c41 := V_b1_c38.other W40 (Ne.symm ne_a1_b1)
  have V_b2_c41 := V_b2_c38.other W40 (Ne.symm ne_a1_b2)
  have V_b3_c41 := V_b3_c37.other W40 (Ne.symm ne_a1_b3)
  have F_mCount_a1_c40 : Fld Z h40 a1 "com/example/tote/tote/storage/OffsetIndex" "mCount" "I" (.int (1 : Int32)) := F_mCount_a1_c38.same W40
  have N40 := Fr.snoc X40 N37 g_a1
  refine own_done (Q := fun v h L => Q7c0 Z a1 p2 p3 q4 b1 b2 b3 k1 k2 k3 mx ba iv h0 n0 v h L) (v := none) X40 (fun _ => rfl) hlk (fun fs hr => X40.returnOut hx hret (hb hby d7_103) hr) ?_ (by decide) (by decide)
  show Q7c0 Z a1 p2 p3 q4 b1 b2 b3 k1 k2 k3 mx ba iv h0 n0 _ T40.heap _
  rw [e40]
  exact ⟨rfl, N40, K0_c41, E_a1_c41, F_mOffsets_a1_c41, F_mPositions_a1_c41, F_mTimestamps_a1_c41, F_mMaxTimestamp_a1_c41, F_mBaseOffset_a1_c41, F_mIntervalBytes_a1_c41, F_mCount_a1_c40, V_b1_c41, V_b2_c41, V_b3_c41⟩
theorem d5_0 : decode prog_89_method_2_code 0 = .ok (.aload_n 0, 1) := by decide +kernel
theorem d5_1 : decode prog_89_method_2_code 1 = .ok (.getfield 36, 3) := by decide +kernel
theorem d5_4 : decode prog_89_method_2_code 4 = .ok (.ifCond .eq 25, 3) := by decide +kernel
theorem d5_7 : decode prog_89_method_2_code 7 = .ok (.lload_n 3, 1) := by decide +kernel
theorem d5_8 : decode prog_89_method_2_code 8 = .ok (.aload_n 0, 1) := by decide +kernel
theorem d5_9 : decode prog_89_method_2_code 9 = .ok (.getfield 17, 3) := by decide +kernel
theorem d5_12 : decode prog_89_method_2_code 12 = .ok (.aload_n 0, 1) := by decide +kernel
theorem d5_13 : decode prog_89_method_2_code 13 = .ok (.getfield 36, 3) := by decide +kernel
theorem d5_16 : decode prog_89_method_2_code 16 = .ok (.iconst 1, 1) := by decide +kernel
theorem d5_17 : decode prog_89_method_2_code 17 = .ok (.isub, 1) := by decide +kernel
theorem d5_18 : decode prog_89_method_2_code 18 = .ok (.iaload, 1) := by decide +kernel
theorem d5_19 : decode prog_89_method_2_code 19 = .ok (.i2l, 1) := by decide +kernel
theorem d5_20 : decode prog_89_method_2_code 20 = .ok (.lsub, 1) := by decide +kernel
theorem d5_21 : decode prog_89_method_2_code 21 = .ok (.aload_n 0, 1) := by decide +kernel
theorem d5_22 : decode prog_89_method_2_code 22 = .ok (.getfield 33, 3) := by decide +kernel
theorem d5_25 : decode prog_89_method_2_code 25 = .ok (.lcmp, 1) := by decide +kernel
theorem d5_26 : decode prog_89_method_2_code 26 = .ok (.ifCond .le 24, 3) := by decide +kernel
theorem d5_29 : decode prog_89_method_2_code 29 = .ok (.aload_n 0, 1) := by decide +kernel
theorem d5_30 : decode prog_89_method_2_code 30 = .ok (.lload_n 1, 1) := by decide +kernel
theorem d5_31 : decode prog_89_method_2_code 31 = .ok (.aload_n 0, 1) := by decide +kernel
theorem d5_32 : decode prog_89_method_2_code 32 = .ok (.getfield 30, 3) := by decide +kernel
theorem d5_35 : decode prog_89_method_2_code 35 = .ok (.lsub, 1) := by decide +kernel
theorem d5_36 : decode prog_89_method_2_code 36 = .ok (.invokestatic 40, 3) := by decide +kernel
theorem d5_39 : decode prog_89_method_2_code 39 = .ok (.lload_n 3, 1) := by decide +kernel
theorem d5_40 : decode prog_89_method_2_code 40 = .ok (.invokestatic 40, 3) := by decide +kernel
theorem d5_43 : decode prog_89_method_2_code 43 = .ok (.aload_n 0, 1) := by decide +kernel
theorem d5_44 : decode prog_89_method_2_code 44 = .ok (.getfield 26, 3) := by decide +kernel
theorem d5_47 : decode prog_89_method_2_code 47 = .ok (.invokevirtual 46, 3) := by decide +kernel
theorem d5_50 : decode prog_89_method_2_code 50 = .ok (.aload_n 0, 1) := by decide +kernel
theorem d5_51 : decode prog_89_method_2_code 51 = .ok (.aload_n 0, 1) := by decide +kernel
theorem d5_52 : decode prog_89_method_2_code 52 = .ok (.getfield 26, 3) := by decide +kernel
theorem d5_55 : decode prog_89_method_2_code 55 = .ok (.lload 5, 2) := by decide +kernel
theorem d5_57 : decode prog_89_method_2_code 57 = .ok (.invokestatic 50, 3) := by decide +kernel
theorem d5_60 : decode prog_89_method_2_code 60 = .ok (.putfield 26, 3) := by decide +kernel
theorem d5_63 : decode prog_89_method_2_code 63 = .ok (.return_, 1) := by decide +kernel
theorem pn_5 : plainName "com/example/tote/tote/storage/OffsetIndex" = true := by first | (simp [plainName, overriddenIn]; done) | decide +kernel
theorem ef_5 (m : MethodId) (x0 : Addr) (x1 : Int64) (x2 : Int64) (x3 : Int64) : entryFrame m #[(.ref x0), (.long x1), (.long x2), (.long x3)] 7 = mkF m 0 #[.val (.ref x0), .val (.long x1), .second, .val (.long x2), .second, .val (.long x3), .second] [] := by first | (simp [entryFrame, mkF, argsToLocals, Value.category]; done) | rfl
theorem pd_1 : parseMethodDescriptor "(J)I" = some ⟨[.long], some .int⟩ := by decide +kernel
theorem pd_2 : parseMethodDescriptor "(IIJ)V" = some ⟨[.int, .int, .long], none⟩ := by decide +kernel
theorem pd_3 : parseMethodDescriptor "(JJ)J" = some ⟨[.long, .long], some .long⟩ := by decide +kernel
def Q5c0 (Z : State) (a1 : Addr) (q2 : Int64) (q3 : Int64) (q4 : Int64) (b1 : Addr) (b2 : Addr) (b3 : Addr) (k1 : ClassId) (k2 : ClassId) (k3 : ClassId) (mx : Int64) (ba : Int64) (iv : Int64) (h0 : Heap) (n0 : Nat) (v : Option Value) (h : Heap) (L : List Loc) : Prop := v = none ∧ Fr n0 L ∧ Keep h0 h [a1, b1, b2, b3] ∧ Exa Z h a1 "com/example/tote/tote/storage/OffsetIndex" ∧ Fld Z h a1 "com/example/tote/tote/storage/OffsetIndex" "mOffsets" "[I" (.ref b1) ∧ Fld Z h a1 "com/example/tote/tote/storage/OffsetIndex" "mPositions" "[I" (.ref b2) ∧ Fld Z h a1 "com/example/tote/tote/storage/OffsetIndex" "mTimestamps" "[J" (.ref b3) ∧ Fld Z h a1 "com/example/tote/tote/storage/OffsetIndex" "mMaxTimestamp" "J" (.long (own_max mx q4)) ∧ Fld Z h a1 "com/example/tote/tote/storage/OffsetIndex" "mBaseOffset" "J" (.long ba) ∧ Fld Z h a1 "com/example/tote/tote/storage/OffsetIndex" "mIntervalBytes" "J" (.long iv) ∧ Fld Z h a1 "com/example/tote/tote/storage/OffsetIndex" "mCount" "I" (.int (1 : Int32)) ∧ Arv Z h b1 k1 .int (16 : Int32) [(.int ((q2 - ba).toInt32)), (.int (0 : Int32)), (.int (0 : Int32)), (.int (0 : Int32)), (.int (0 : Int32)), (.int (0 : Int32)), (.int (0 : Int32)), (.int (0 : Int32)), (.int (0 : Int32)), (.int (0 : Int32)), (.int (0 : Int32)), (.int (0 : Int32)), (.int (0 : Int32)), (.int (0 : Int32)), (.int (0 : Int32)), (.int (0 : Int32))] (.int (0 : Int32)) ∧ Arv Z h b2 k2 .int (16 : Int32) [(.int (q3.toInt32)), (.int (0 : Int32)), (.int (0 : Int32)), (.int (0 : Int32)), (.int (0 : Int32)), (.int (0 : Int32)), (.int (0 : Int32)), (.int (0 : Int32)), (.int (0 : Int32)), (.int (0 : Int32)), (.int (0 : Int32)), (.int (0 : Int32)), (.int (0 : Int32)), (.int (0 : Int32)), (.int (0 : Int32)), (.int (0 : Int32))] (.int (0 : Int32)) ∧ Arv Z h b3 k3 .long (16 : Int32) [(.long mx), (.long (0 : Int64)), (.long (0 : Int64)), (.long (0 : Int64)), (.long (0 : Int64)), (.long (0 : Int64)), (.long (0 : Int64)), (.long (0 : Int64)), (.long (0 : Int64)), (.long (0 : Int64)), (.long (0 : Int64)), (.long (0 : Int64)), (.long (0 : Int64)), (.long (0 : Int64)), (.long (0 : Int64)), (.long (0 : Int64))] (.long (0 : Int64))
set_option maxRecDepth 65536 in
set_option maxHeartbeats 40000000 in
theorem rm5c0 (l : Launch) (Z : State) (a0 : Array Value) (hw : ∀ d ∈ tables_1, d.before a0 Z = true) (ws : List Jvm.Cond) (a1 : Addr) (q2 : Int64) (q3 : Int64) (q4 : Int64) (b1 : Addr) (b2 : Addr) (b3 : Addr) (k1 : ClassId) (k2 : ClassId) (k3 : ClassId) (mx : Int64) (ba : Int64) (iv : Int64) (h0 : Heap) (n0 : Nat) (Z0 : n0 ≤ h0.size) (E_a1 : Exa Z h0 a1 "com/example/tote/tote/storage/OffsetIndex") (F_mOffsets_a1 : Fld Z h0 a1 "com/example/tote/tote/storage/OffsetIndex" "mOffsets" "[I" (.ref b1)) (F_mPositions_a1 : Fld Z h0 a1 "com/example/tote/tote/storage/OffsetIndex" "mPositions" "[I" (.ref b2)) (F_mTimestamps_a1 : Fld Z h0 a1 "com/example/tote/tote/storage/OffsetIndex" "mTimestamps" "[J" (.ref b3)) (F_mMaxTimestamp_a1 : Fld Z h0 a1 "com/example/tote/tote/storage/OffsetIndex" "mMaxTimestamp" "J" (.long mx)) (F_mBaseOffset_a1 : Fld Z h0 a1 "com/example/tote/tote/storage/OffsetIndex" "mBaseOffset" "J" (.long ba)) (F_mIntervalBytes_a1 : Fld Z h0 a1 "com/example/tote/tote/storage/OffsetIndex" "mIntervalBytes" "J" (.long iv)) (F_mCount_a1 : Fld Z h0 a1 "com/example/tote/tote/storage/OffsetIndex" "mCount" "I" (.int (0 : Int32))) (V_b1 : Arv Z h0 b1 k1 .int (16 : Int32) [(.int (0 : Int32)), (.int (0 : Int32)), (.int (0 : Int32)), (.int (0 : Int32)), (.int (0 : Int32)), (.int (0 : Int32)), (.int (0 : Int32)), (.int (0 : Int32)), (.int (0 : Int32)), (.int (0 : Int32)), (.int (0 : Int32)), (.int (0 : Int32)), (.int (0 : Int32)), (.int (0 : Int32)), (.int (0 : Int32)), (.int (0 : Int32))] (.int (0 : Int32))) (V_b2 : Arv Z h0 b2 k2 .int (16 : Int32) [(.int (0 : Int32)), (.int (0 : Int32)), (.int (0 : Int32)), (.int (0 : Int32)), (.int (0 : Int32)), (.int (0 : Int32)), (.int (0 : Int32)), (.int (0 : Int32)), (.int (0 : Int32)), (.int (0 : Int32)), (.int (0 : Int32)), (.int (0 : Int32)), (.int (0 : Int32)), (.int (0 : Int32)), (.int (0 : Int32)), (.int (0 : Int32))] (.int (0 : Int32))) (V_b3 : Arv Z h0 b3 k3 .long (16 : Int32) [(.long (0 : Int64)), (.long (0 : Int64)), (.long (0 : Int64)), (.long (0 : Int64)), (.long (0 : Int64)), (.long (0 : Int64)), (.long (0 : Int64)), (.long (0 : Int64)), (.long (0 : Int64)), (.long (0 : Int64)), (.long (0 : Int64)), (.long (0 : Int64)), (.long (0 : Int64)), (.long (0 : Int64)), (.long (0 : Int64)), (.long (0 : Int64))] (.long (0 : Int64))) (g_a1 : n0 ≤ a1) (g_b1 : n0 ≤ b1) (g_b2 : n0 ≤ b2) (g_b3 : n0 ≤ b3) (ne_a1_b1 : a1 ≠ b1) (ne_a1_b2 : a1 ≠ b2) (ne_a1_b3 : a1 ≠ b3) (ne_b1_b2 : b1 ≠ b2) (ne_b1_b3 : b1 ≠ b3) (ne_b2_b3 : b2 ≠ b3) (ho : (((q2 - ba).toInt32).toInt64) = (q2 - ba)) (hq : ((q3.toInt32).toInt64) = q3) :
    MetFree l (⟨"com/example/tote/tote/storage/OffsetIndex", "add", "(JJJ)V"⟩ : MethodName) (head1 (Jvm.Cond.code (⟨"com/example/tote/tote/storage/OffsetIndex", "add", "(JJJ)V"⟩ : MethodName) prog_89_method_2_code 7 none :: ws) ({ frames := 1, cells := 0, slots := 0, locals := 17 } : Room)) (fun a U => a = #[(.ref a1), (.long q2), (.long q3), (.long q4)] ∧ Z.Warmed39 U.vm ∧ U.heap = h0) (fun _ _ _ _ _ => True) (fun _ U o U' => ∃ v L, o = .returned v ∧ Q5c0 Z a1 q2 q3 q4 b1 b2 b3 k1 k2 k3 mx ba iv h0 n0 v U'.heap L ∧ FrameEnd U o U' L ({ frames := 1, cells := 0, slots := 0, locals := 17 } : Room).cells ({ frames := 1, cells := 0, slots := 0, locals := 17 } : Room).slots) := by
  refine MetFree.of_bodySF (plainFor_of_name pn_5) hisR ?_
  intro p e s m args below meth c s₁ Bd hml0 hP hK
  obtain ⟨rfl, hZ, hh⟩ := hP
  have hx := Bd.exec
  have hby := Bd.bytes
  have hml : c.maxLocals = 7 := hml0
  have hown : s.vm.findClass "com/example/tote/tote/storage/OffsetIndex" = some m.cls := findClass_of_methodNamed Bd.named
  have hnm := (name_of_methodNamed Bd.named Bd.method).1
  have hret := Bd.returns
  have hlk : meth.locks = false := BodyLoose.notSynchronized Bd
  have X0 : Stand p l e ({ frames := 1, cells := 0, slots := 0, locals := 17 } : Room) s m #[(.ref a1), (.long q2), (.long q3), (.long q4)] below meth c s₁ [] 0 0 := Stand.of_body Bd
  have e0 : s₁.heap = h0 := by rw [← hh, Bd.state]; rfl
  have N0 := Fr.nil n0
  have W := fun (k : Nat) {d : Jvm.Cond} (h : tables_1[k]? = some d) => hw d (List.mem_of_getElem? h)
  have K0 : Keep h0 h0 [a1, b1, b2, b3] := Keep.refl _ _
  refine own_start (ef_5 m a1 q2 q3 q4) ?_
  show own_Run p e below _ s₁ (mkF m 0 #[.val (.ref a1), .val (.long q2), .second, .val (.long q3), .second, .val (.long q4), .second] [])
  refine own_go (fun _ k => XS.aloadN X0.here hx rfl (hb hby d5_0) rfl rfl k) ?_
  show own_Run p e below _ s₁ (mkF m 1 #[.val (.ref a1), .val (.long q2), .second, .val (.long q3), .second, .val (.long q4), .second] [(.ref a1)])
  obtain ⟨T42, X42, e42, st42⟩ := getF X0 hx hZ hown (host := "") (Or.inl (W 34 rfl)) Via.refl e0 F_mCount_a1 (g := (mkF m 1 #[.val (.ref a1), .val (.long q2), .second, .val (.long q3), .second, .val (.long q4), .second] [(.ref a1)])) rfl rfl (hb hby d5_1)
  refine own_go st42 ?_
  show own_Run p e below _ T42 (mkF m 4 #[.val (.ref a1), .val (.long q2), .second, .val (.long q3), .second, .val (.long q4), .second] [(.int (0 : Int32))])
  refine own_go (fun _ k => XS.ifYes X42.here hx rfl (pc0 := 4) (pc' := 29) rfl (hb hby d5_4) rfl ((if0 _ _).trans (teq (by decide : (0 : Int32) = (0 : Int32))).1) (by decide) (by decide) k) ?_
  show own_Run p e below _ T42 (mkF m 29 #[.val (.ref a1), .val (.long q2), .second, .val (.long q3), .second, .val (.long q4), .second] [])
  refine own_go (fun _ k => XS.aloadN X42.here hx rfl (hb hby d5_29) rfl rfl k) ?_
  refine own_go (fun _ k => XS.lloadN X42.here hx rfl (hb hby d5_30) rfl k) ?_
  refine own_go (fun _ k => XS.aloadN X42.here hx rfl (hb hby d5_31) rfl rfl k) ?_
  show own_Run p e below _ T42 (mkF m 32 #[.val (.ref a1), .val (.long q2), .second, .val (.long q3), .second, .val (.long q4), .second] [(.ref a1), (.long q2), (.ref a1)])
  obtain ⟨T43, X43, e43, st43⟩ := getF X42 hx hZ hown (host := "") (Or.inl (W 20 rfl)) Via.refl e42 F_mBaseOffset_a1 (g := (mkF m 32 #[.val (.ref a1), .val (.long q2), .second, .val (.long q3), .second, .val (.long q4), .second] [(.ref a1), (.long q2), (.ref a1)])) rfl rfl (hb hby d5_32)
  refine own_go st43 ?_
  show own_Run p e below _ T43 (mkF m 35 #[.val (.ref a1), .val (.long q2), .second, .val (.long q3), .second, .val (.long q4), .second] [(.long ba), (.long q2), (.ref a1)])
  refine own_go (fun _ k => XS.lsub X43.here hx rfl (hb hby d5_35) rfl k) ?_
  show own_Run p e below _ T43 (mkF m 36 #[.val (.ref a1), .val (.long q2), .second, .val (.long q3), .second, .val (.long q4), .second] [(.long (q2 - ba)), (.ref a1)])
  obtain ⟨_, _, ⟨T44, L44, k44, n44⟩, -, X44, ⟨Lc44, hQ44, l44, y44, z44⟩, st44⟩ := Jvm.LawKit.callS X43 hx (y := (⟨"java/lang/Math", "toIntExact", "(J)I"⟩ : MethodName)) hown (mvT hZ (W 41 rfl)) (mvT hZ (W 42 rfl)) (mvT hZ (W 27 rfl)) (mvT hZ (W 43 rfl)) (by decide) (backOf (W := 1) (rm6 l Z a0 hw [] (q2 - ba) h0 n0 Z0 (ho)) hZ (W 43 rfl) (W 27 rfl) (by decide) (by decide)) (g := (mkF m 36 #[.val (.ref a1), .val (.long q2), .second, .val (.long q3), .second, .val (.long q4), .second] [(.long (q2 - ba)), (.ref a1)])) rfl (by rw [hml]; rfl) (argsL := [(.long (q2 - ba))]) (rest := [(.ref a1)]) (lenOf pd_1 rfl) rfl (by show 2 * 0 + _ ≤ _; exact Nat.le_of_eq rfl) (hb hby d5_36) (fun _ _ => ⟨rfl, e43, (by decide : 0 + 0 ≤ _), (by decide : 0 + 0 ≤ _)⟩)
  dsimp only [Pt.U, Pt.locs, Pt.cells, Pt.slots] at X44 l44 y44 z44 st44 hQ44
  subst l44 y44 z44
  obtain ⟨rfl, N44q, e44⟩ := hQ44
  have N44 := Fr.app N0 N44q
  refine own_go st44 ?_
  show own_Run p e below _ T44 (mkF m 39 #[.val (.ref a1), .val (.long q2), .second, .val (.long q3), .second, .val (.long q4), .second] [(.int ((q2 - ba).toInt32)), (.ref a1)])
  refine own_go (fun _ k => XS.lloadN X44.here hx rfl (hb hby d5_39) rfl k) ?_
  show own_Run p e below _ T44 (mkF m 40 #[.val (.ref a1), .val (.long q2), .second, .val (.long q3), .second, .val (.long q4), .second] [(.long q3), (.int ((q2 - ba).toInt32)), (.ref a1)])
  obtain ⟨_, _, ⟨T45, L45, k45, n45⟩, -, X45, ⟨Lc45, hQ45, l45, y45, z45⟩, st45⟩ := Jvm.LawKit.callS X44 hx (y := (⟨"java/lang/Math", "toIntExact", "(J)I"⟩ : MethodName)) hown (mvT hZ (W 41 rfl)) (mvT hZ (W 42 rfl)) (mvT hZ (W 27 rfl)) (mvT hZ (W 43 rfl)) (by decide) (backOf (W := 2) (rm6 l Z a0 hw [] q3 h0 n0 Z0 (hq)) hZ (W 43 rfl) (W 27 rfl) (by decide) (by decide)) (g := (mkF m 40 #[.val (.ref a1), .val (.long q2), .second, .val (.long q3), .second, .val (.long q4), .second] [(.long q3), (.int ((q2 - ba).toInt32)), (.ref a1)])) rfl (by rw [hml]; rfl) (argsL := [(.long q3)]) (rest := [(.int ((q2 - ba).toInt32)), (.ref a1)]) (lenOf pd_1 rfl) rfl (by show 2 * 0 + _ ≤ _; exact Nat.le_of_eq rfl) (hb hby d5_40) (fun _ _ => ⟨rfl, e44, (by decide : 0 + 0 ≤ _), (by decide : 0 + 0 ≤ _)⟩)
  dsimp only [Pt.U, Pt.locs, Pt.cells, Pt.slots] at X45 l45 y45 z45 st45 hQ45
  subst l45 y45 z45
  obtain ⟨rfl, N45q, e45⟩ := hQ45
  have N45 := Fr.app N44 N45q
  refine own_go st45 ?_
  show own_Run p e below _ T45 (mkF m 43 #[.val (.ref a1), .val (.long q2), .second, .val (.long q3), .second, .val (.long q4), .second] [(.int (q3.toInt32)), (.int ((q2 - ba).toInt32)), (.ref a1)])
  refine own_go (fun _ k => XS.aloadN X45.here hx rfl (hb hby d5_43) rfl rfl k) ?_
  show own_Run p e below _ T45 (mkF m 44 #[.val (.ref a1), .val (.long q2), .second, .val (.long q3), .second, .val (.long q4), .second] [(.ref a1), (.int (q3.toInt32)), (.int ((q2 - ba).toInt32)), (.ref a1)])
  obtain ⟨T46, X46, e46, st46⟩ := getF X45 hx hZ hown (host := "") (Or.inl (W 18 rfl)) Via.refl e45 F_mMaxTimestamp_a1 (g := (mkF m 44 #[.val (.ref a1), .val (.long q2), .second, .val (.long q3), .second, .val (.long q4), .second] [(.ref a1), (.int (q3.toInt32)), (.int ((q2 - ba).toInt32)), (.ref a1)])) rfl rfl (hb hby d5_44)
  refine own_go st46 ?_
  show own_Run p e below _ T46 (mkF m 47 #[.val (.ref a1), .val (.long q2), .second, .val (.long q3), .second, .val (.long q4), .second] [(.long mx), (.int (q3.toInt32)), (.int ((q2 - ba).toInt32)), (.ref a1)])
  obtain ⟨cq47, q47, q47'⟩ := E_a1.cell
  obtain ⟨_, _, ⟨T47, L47, k47, n47⟩, -, X47, ⟨Lc47, hQ47, l47, y47, z47⟩, st47⟩ := X46.privateBack hx (y := (⟨"com/example/tote/tote/storage/OffsetIndex", "append", "(IIJ)V"⟩ : MethodName)) hown (mvT hZ (W 44 rfl)) (mvT hZ (W 45 rfl)) (own_selP (args := #[]) (y := (⟨"com/example/tote/tote/storage/OffsetIndex", "append", "(IIJ)V"⟩ : MethodName)) (mvT hZ (W 32 rfl)) rfl (Cond.privateMethod_at (mvP hZ (W 46 rfl) (args := #[]))) (mvT hZ (W 45 rfl)) (by decide)) (Cond.privateMethod_at (mvP hZ (W 46 rfl) (args := #[]))) (mvT hZ (W 47 rfl)) (by decide) (backOf (W := 0) (rm7c0 l Z a0 hw [] a1 ((q2 - ba).toInt32) (q3.toInt32) mx b1 b2 b3 k1 k2 k3 mx ba iv h0 n0 Z0 E_a1 F_mOffsets_a1 F_mPositions_a1 F_mTimestamps_a1 F_mMaxTimestamp_a1 F_mBaseOffset_a1 F_mIntervalBytes_a1 F_mCount_a1 V_b1 V_b2 V_b3 g_a1 g_b1 g_b2 g_b3 ne_a1_b1 ne_a1_b2 ne_a1_b3 ne_b1_b2 ne_b1_b3 ne_b2_b3) hZ (W 47 rfl) (W 2 rfl) (by decide) (by decide)) (g := (mkF m 47 #[.val (.ref a1), .val (.long q2), .second, .val (.long q3), .second, .val (.long q4), .second] [(.long mx), (.int (q3.toInt32)), (.int ((q2 - ba).toInt32)), (.ref a1)])) rfl (by rw [hml]; rfl) (Steps.refl _) (a := a1) (by rw [e46]; exact q47) q47' (argsL := [(.int ((q2 - ba).toInt32)), (.int (q3.toInt32)), (.long mx)]) (rest := []) (lenOf pd_2 rfl) rfl (by show 2 * 0 + _ ≤ _; exact Nat.le_of_eq rfl) (hb hby d5_47) (fun _ _ => ⟨rfl, e46, (by decide : 0 + 0 ≤ _), (by decide : 0 + 0 ≤ _)⟩)
  dsimp only [Pt.U, Pt.locs, Pt.cells, Pt.slots] at X47 l47 y47 z47 st47 hQ47
  subst l47 y47 z47
  obtain ⟨rfl, N47q, K47, P47_0, P47_1, P47_2, P47_3, P47_4, P47_5, P47_6, P47_7, P47_8, P47_9, P47_10⟩ := hQ47
  have N47 := Fr.app N45 N47q
  refine own_goT st47 ?_
  show own_Run p e below _ T47 (mkF m 50 #[.val (.ref a1), .val (.long q2), .second, .val (.long q3), .second, .val (.long q4), .second] [])
  have Z0_c48 := Nat.le_trans Z0 K47.1
  have K0_c48 := K0.trans K47 (allS (Or.inl (List.mem_of_getElem? (i := 0) rfl)) (allS (Or.inl (List.mem_of_getElem? (i := 1) rfl)) (allS (Or.inl (List.mem_of_getElem? (i := 2) rfl)) (allS (Or.inl (List.mem_of_getElem? (i := 3) rfl)) all0))))
  have E_a1_c48 := E_a1.keep K47
  refine own_go (fun _ k => XS.aloadN X47.here hx rfl (hb hby d5_50) rfl rfl k) ?_
  refine own_go (fun _ k => XS.aloadN X47.here hx rfl (hb hby d5_51) rfl rfl k) ?_
  show own_Run p e below _ T47 (mkF m 52 #[.val (.ref a1), .val (.long q2), .second, .val (.long q3), .second, .val (.long q4), .second] [(.ref a1), (.ref a1)])
  obtain ⟨T49, X49, e49, st49⟩ := getF X47 hx hZ hown (host := "") (Or.inl (W 18 rfl)) Via.refl rfl P47_4 (g := (mkF m 52 #[.val (.ref a1), .val (.long q2), .second, .val (.long q3), .second, .val (.long q4), .second] [(.ref a1), (.ref a1)])) rfl rfl (hb hby d5_52)
  refine own_go st49 ?_
  show own_Run p e below _ T49 (mkF m 55 #[.val (.ref a1), .val (.long q2), .second, .val (.long q3), .second, .val (.long q4), .second] [(.long mx), (.ref a1)])
  refine own_go (fun _ k => XS.lload X49.here hx rfl (hb hby d5_55) rfl k) ?_
  show own_Run p e below _ T49 (mkF m 57 #[.val (.ref a1), .val (.long q2), .second, .val (.long q3), .second, .val (.long q4), .second] [(.long q4), (.long mx), (.ref a1)])
  obtain ⟨_, _, ⟨T50, L50, k50, n50⟩, -, X50, ⟨Lc50, hQ50, l50, y50, z50⟩, st50⟩ := Jvm.LawKit.callS X49 hx (y := (⟨"java/lang/Math", "max", "(JJ)J"⟩ : MethodName)) hown (mvT hZ (W 48 rfl)) (mvT hZ (W 26 rfl)) (mvT hZ (W 27 rfl)) (mvT hZ (W 28 rfl)) (by decide) (backOf (W := 1) (rm3 l Z a0 hw [] mx q4 T47.heap n0 Z0_c48 ) hZ (W 28 rfl) (W 27 rfl) (by decide) (by decide)) (g := (mkF m 57 #[.val (.ref a1), .val (.long q2), .second, .val (.long q3), .second, .val (.long q4), .second] [(.long q4), (.long mx), (.ref a1)])) rfl (by rw [hml]; rfl) (argsL := [(.long mx), (.long q4)]) (rest := [(.ref a1)]) (lenOf pd_3 rfl) rfl (by show 2 * 0 + _ ≤ _; exact Nat.le_of_eq rfl) (hb hby d5_57) (fun _ _ => ⟨rfl, e49, (by decide : 0 + 0 ≤ _), (by decide : 0 + 0 ≤ _)⟩)
  dsimp only [Pt.U, Pt.locs, Pt.cells, Pt.slots] at X50 l50 y50 z50 st50 hQ50
  subst l50 y50 z50
  obtain ⟨rfl, N50q, e50⟩ := hQ50
  have N50 := Fr.app N47 N50q
  refine own_go st50 ?_
  show own_Run p e below _ T50 (mkF m 60 #[.val (.ref a1), .val (.long q2), .second, .val (.long q3), .second, .val (.long q4), .second] [(.long (own_max mx q4)), (.ref a1)])
  obtain ⟨T51, h51, X51, e51, W51, st51⟩ := putF X50 hx hZ hown (host := "") (Or.inl (W 18 rfl)) Via.refl e50 P47_4 P47_0 (Or.inl (W 19 rfl)) (W 1 rfl) (ty := .long) (by decide) rfl rfl (g := (mkF m 60 #[.val (.ref a1), .val (.long q2), .second, .val (.long q3), .second, .val (.long q4), .second] [(.long (own_max mx q4)), (.ref a1)])) rfl rfl (hb hby d5_60)
  refine own_go st51 ?_
  show own_Run p e below _ T51 (mkF m 63 #[.val (.ref a1), .val (.long q2), .second, .val (.long q3), .second, .val (.long q4), .second] [])
  have Z0_c52 := Nat.le_trans Z0_c48 (Keep.of_wr W51).1
  have K0_c52 := K0_c48.wr W51 (Or.inl (List.mem_of_getElem? (i := 0) rfl))
  have P47_0_c52 := P47_0.wr W51
  have P47_1_c52 := P47_1.other W51 (Or.inr (slot_ne (Or.inl (W 11 rfl)) (Or.inl (W 19 rfl)) (by decide) (t := (.array .int)) (t' := .long) (by decide) (by decide)))
  have P47_2_c52 := P47_2.other W51 (Or.inr (slot_ne (Or.inl (W 13 rfl)) (Or.inl (W 19 rfl)) (by decide) (t := (.array .int)) (t' := .long) (by decide) (by decide)))
  have P47_3_c52 := P47_3.other W51 (Or.inr (slot_ne (Or.inl (W 16 rfl)) (Or.inl (W 19 rfl)) (by decide) (t := (.array .long)) (t' := .long) (by decide) (by decide)))
  have P47_5_c52 := P47_5.other W51 (Or.inr (slot_ne (Or.inr (W 21 rfl)) (Or.inl (W 19 rfl)) (by decide) (t := .long) (t' := .long) (by decide) (by decide)))
  have P47_6_c52 := P47_6.other W51 (Or.inr (slot_ne (Or.inr (W 23 rfl)) (Or.inl (W 19 rfl)) (by decide) (t := .long) (t' := .long) (by decide) (by decide)))
  have P47_7_c52 := P47_7.other W51 (Or.inr (slot_ne (Or.inl (W 35 rfl)) (Or.inl (W 19 rfl)) (by decide) (t := .int) (t' := .long) (by decide) (by decide)))
  have P47_8_c52 := P47_8.other W51 (Ne.symm ne_a1_b1)
  have P47_9_c52 := P47_9.other W51 (Ne.symm ne_a1_b2)
  have P47_10_c52 := P47_10.other W51 (Ne.symm ne_a1_b3)
  have F_mMaxTimestamp_a1_c51 : Fld Z h51 a1 "com/example/tote/tote/storage/OffsetIndex" "mMaxTimestamp" "J" (.long (own_max mx q4)) := P47_4.same W51
  have N51 := Fr.snoc X51 N50 g_a1
  refine own_done (Q := fun v h L => Q5c0 Z a1 q2 q3 q4 b1 b2 b3 k1 k2 k3 mx ba iv h0 n0 v h L) (v := none) X51 (fun _ => rfl) hlk (fun fs hr => X51.returnOut hx hret (hb hby d5_63) hr) ?_ (by decide) (by decide)
  show Q5c0 Z a1 q2 q3 q4 b1 b2 b3 k1 k2 k3 mx ba iv h0 n0 _ T51.heap _
  rw [e51]
  exact ⟨rfl, N51, K0_c52, P47_0_c52, P47_1_c52, P47_2_c52, P47_3_c52, F_mMaxTimestamp_a1_c51, P47_5_c52, P47_6_c52, P47_7_c52, P47_8_c52, P47_9_c52, P47_10_c52⟩
def Q7c1 (Z : State) (a1 : Addr) (p2 : Int32) (p3 : Int32) (q4 : Int64) (b1 : Addr) (b2 : Addr) (b3 : Addr) (k1 : ClassId) (k2 : ClassId) (k3 : ClassId) (mx : Int64) (ba : Int64) (iv : Int64) (x0 : Int32) (y0 : Int32) (z0 : Int64) (h0 : Heap) (n0 : Nat) (v : Option Value) (h : Heap) (L : List Loc) : Prop := v = none ∧ Fr n0 L ∧ Keep h0 h [a1, b1, b2, b3] ∧ Exa Z h a1 "com/example/tote/tote/storage/OffsetIndex" ∧ Fld Z h a1 "com/example/tote/tote/storage/OffsetIndex" "mOffsets" "[I" (.ref b1) ∧ Fld Z h a1 "com/example/tote/tote/storage/OffsetIndex" "mPositions" "[I" (.ref b2) ∧ Fld Z h a1 "com/example/tote/tote/storage/OffsetIndex" "mTimestamps" "[J" (.ref b3) ∧ Fld Z h a1 "com/example/tote/tote/storage/OffsetIndex" "mMaxTimestamp" "J" (.long mx) ∧ Fld Z h a1 "com/example/tote/tote/storage/OffsetIndex" "mBaseOffset" "J" (.long ba) ∧ Fld Z h a1 "com/example/tote/tote/storage/OffsetIndex" "mIntervalBytes" "J" (.long iv) ∧ Fld Z h a1 "com/example/tote/tote/storage/OffsetIndex" "mCount" "I" (.int (2 : Int32)) ∧ Arv Z h b1 k1 .int (16 : Int32) [(.int x0), (.int p2), (.int (0 : Int32)), (.int (0 : Int32)), (.int (0 : Int32)), (.int (0 : Int32)), (.int (0 : Int32)), (.int (0 : Int32)), (.int (0 : Int32)), (.int (0 : Int32)), (.int (0 : Int32)), (.int (0 : Int32)), (.int (0 : Int32)), (.int (0 : Int32)), (.int (0 : Int32)), (.int (0 : Int32))] (.int (0 : Int32)) ∧ Arv Z h b2 k2 .int (16 : Int32) [(.int y0), (.int p3), (.int (0 : Int32)), (.int (0 : Int32)), (.int (0 : Int32)), (.int (0 : Int32)), (.int (0 : Int32)), (.int (0 : Int32)), (.int (0 : Int32)), (.int (0 : Int32)), (.int (0 : Int32)), (.int (0 : Int32)), (.int (0 : Int32)), (.int (0 : Int32)), (.int (0 : Int32)), (.int (0 : Int32))] (.int (0 : Int32)) ∧ Arv Z h b3 k3 .long (16 : Int32) [(.long z0), (.long q4), (.long (0 : Int64)), (.long (0 : Int64)), (.long (0 : Int64)), (.long (0 : Int64)), (.long (0 : Int64)), (.long (0 : Int64)), (.long (0 : Int64)), (.long (0 : Int64)), (.long (0 : Int64)), (.long (0 : Int64)), (.long (0 : Int64)), (.long (0 : Int64)), (.long (0 : Int64)), (.long (0 : Int64))] (.long (0 : Int64))
set_option maxRecDepth 65536 in
set_option maxHeartbeats 40000000 in
theorem rm7c1 (l : Launch) (Z : State) (a0 : Array Value) (hw : ∀ d ∈ tables_1, d.before a0 Z = true) (ws : List Jvm.Cond) (a1 : Addr) (p2 : Int32) (p3 : Int32) (q4 : Int64) (b1 : Addr) (b2 : Addr) (b3 : Addr) (k1 : ClassId) (k2 : ClassId) (k3 : ClassId) (mx : Int64) (ba : Int64) (iv : Int64) (x0 : Int32) (y0 : Int32) (z0 : Int64) (h0 : Heap) (n0 : Nat) (Z0 : n0 ≤ h0.size) (E_a1 : Exa Z h0 a1 "com/example/tote/tote/storage/OffsetIndex") (F_mOffsets_a1 : Fld Z h0 a1 "com/example/tote/tote/storage/OffsetIndex" "mOffsets" "[I" (.ref b1)) (F_mPositions_a1 : Fld Z h0 a1 "com/example/tote/tote/storage/OffsetIndex" "mPositions" "[I" (.ref b2)) (F_mTimestamps_a1 : Fld Z h0 a1 "com/example/tote/tote/storage/OffsetIndex" "mTimestamps" "[J" (.ref b3)) (F_mMaxTimestamp_a1 : Fld Z h0 a1 "com/example/tote/tote/storage/OffsetIndex" "mMaxTimestamp" "J" (.long mx)) (F_mBaseOffset_a1 : Fld Z h0 a1 "com/example/tote/tote/storage/OffsetIndex" "mBaseOffset" "J" (.long ba)) (F_mIntervalBytes_a1 : Fld Z h0 a1 "com/example/tote/tote/storage/OffsetIndex" "mIntervalBytes" "J" (.long iv)) (F_mCount_a1 : Fld Z h0 a1 "com/example/tote/tote/storage/OffsetIndex" "mCount" "I" (.int (1 : Int32))) (V_b1 : Arv Z h0 b1 k1 .int (16 : Int32) [(.int x0), (.int (0 : Int32)), (.int (0 : Int32)), (.int (0 : Int32)), (.int (0 : Int32)), (.int (0 : Int32)), (.int (0 : Int32)), (.int (0 : Int32)), (.int (0 : Int32)), (.int (0 : Int32)), (.int (0 : Int32)), (.int (0 : Int32)), (.int (0 : Int32)), (.int (0 : Int32)), (.int (0 : Int32)), (.int (0 : Int32))] (.int (0 : Int32))) (V_b2 : Arv Z h0 b2 k2 .int (16 : Int32) [(.int y0), (.int (0 : Int32)), (.int (0 : Int32)), (.int (0 : Int32)), (.int (0 : Int32)), (.int (0 : Int32)), (.int (0 : Int32)), (.int (0 : Int32)), (.int (0 : Int32)), (.int (0 : Int32)), (.int (0 : Int32)), (.int (0 : Int32)), (.int (0 : Int32)), (.int (0 : Int32)), (.int (0 : Int32)), (.int (0 : Int32))] (.int (0 : Int32))) (V_b3 : Arv Z h0 b3 k3 .long (16 : Int32) [(.long z0), (.long (0 : Int64)), (.long (0 : Int64)), (.long (0 : Int64)), (.long (0 : Int64)), (.long (0 : Int64)), (.long (0 : Int64)), (.long (0 : Int64)), (.long (0 : Int64)), (.long (0 : Int64)), (.long (0 : Int64)), (.long (0 : Int64)), (.long (0 : Int64)), (.long (0 : Int64)), (.long (0 : Int64)), (.long (0 : Int64))] (.long (0 : Int64))) (g_a1 : n0 ≤ a1) (g_b1 : n0 ≤ b1) (g_b2 : n0 ≤ b2) (g_b3 : n0 ≤ b3) (ne_a1_b1 : a1 ≠ b1) (ne_a1_b2 : a1 ≠ b2) (ne_a1_b3 : a1 ≠ b3) (ne_b1_b2 : b1 ≠ b2) (ne_b1_b3 : b1 ≠ b3) (ne_b2_b3 : b2 ≠ b3) :
    MetFree l (⟨"com/example/tote/tote/storage/OffsetIndex", "append", "(IIJ)V"⟩ : MethodName) (head1 (Jvm.Cond.code (⟨"com/example/tote/tote/storage/OffsetIndex", "append", "(IIJ)V"⟩ : MethodName) prog_89_method_15_code 5 none :: ws) ({ frames := 0, cells := 0, slots := 0, locals := 0 } : Room)) (fun a U => a = #[(.ref a1), (.int p2), (.int p3), (.long q4)] ∧ Z.Warmed39 U.vm ∧ U.heap = h0) (fun _ _ _ _ _ => True) (fun _ U o U' => ∃ v L, o = .returned v ∧ Q7c1 Z a1 p2 p3 q4 b1 b2 b3 k1 k2 k3 mx ba iv x0 y0 z0 h0 n0 v U'.heap L ∧ FrameEnd U o U' L ({ frames := 0, cells := 0, slots := 0, locals := 0 } : Room).cells ({ frames := 0, cells := 0, slots := 0, locals := 0 } : Room).slots) := by
  refine MetFree.of_bodySF (plainFor_of_name pn_7) hisR ?_
  intro p e s m args below meth c s₁ Bd hml0 hP hK
  obtain ⟨rfl, hZ, hh⟩ := hP
  have hx := Bd.exec
  have hby := Bd.bytes
  have hml : c.maxLocals = 5 := hml0
  have hown : s.vm.findClass "com/example/tote/tote/storage/OffsetIndex" = some m.cls := findClass_of_methodNamed Bd.named
  have hnm := (name_of_methodNamed Bd.named Bd.method).1
  have hret := Bd.returns
  have hlk : meth.locks = false := BodyLoose.notSynchronized Bd
  have X0 : Stand p l e ({ frames := 0, cells := 0, slots := 0, locals := 0 } : Room) s m #[(.ref a1), (.int p2), (.int p3), (.long q4)] below meth c s₁ [] 0 0 := Stand.of_body Bd
  have e0 : s₁.heap = h0 := by rw [← hh, Bd.state]; rfl
  have N0 := Fr.nil n0
  have W := fun (k : Nat) {d : Jvm.Cond} (h : tables_1[k]? = some d) => hw d (List.mem_of_getElem? h)
  have K0 : Keep h0 h0 [a1, b1, b2, b3] := Keep.refl _ _
  refine own_start (ef_7 m a1 p2 p3 q4) ?_
  show own_Run p e below _ s₁ (mkF m 0 #[.val (.ref a1), .val (.int p2), .val (.int p3), .val (.long q4), .second] [])
  refine own_go (fun _ k => XS.aloadN X0.here hx rfl (hb hby d7_0) rfl rfl k) ?_
  show own_Run p e below _ s₁ (mkF m 1 #[.val (.ref a1), .val (.int p2), .val (.int p3), .val (.long q4), .second] [(.ref a1)])
  obtain ⟨T53, X53, e53, st53⟩ := getF X0 hx hZ hown (host := "") (Or.inl (W 34 rfl)) Via.refl e0 F_mCount_a1 (g := (mkF m 1 #[.val (.ref a1), .val (.int p2), .val (.int p3), .val (.long q4), .second] [(.ref a1)])) rfl rfl (hb hby d7_1)
  refine own_go st53 ?_
  show own_Run p e below _ T53 (mkF m 4 #[.val (.ref a1), .val (.int p2), .val (.int p3), .val (.long q4), .second] [(.int (1 : Int32))])
  refine own_go (fun _ k => XS.aloadN X53.here hx rfl (hb hby d7_4) rfl rfl k) ?_
  show own_Run p e below _ T53 (mkF m 5 #[.val (.ref a1), .val (.int p2), .val (.int p3), .val (.long q4), .second] [(.ref a1), (.int (1 : Int32))])
  obtain ⟨T54, X54, e54, st54⟩ := getF X53 hx hZ hown (host := "") (Or.inl (W 10 rfl)) Via.refl e53 F_mOffsets_a1 (g := (mkF m 5 #[.val (.ref a1), .val (.int p2), .val (.int p3), .val (.long q4), .second] [(.ref a1), (.int (1 : Int32))])) rfl rfl (hb hby d7_5)
  refine own_go st54 ?_
  show own_Run p e below _ T54 (mkF m 8 #[.val (.ref a1), .val (.int p2), .val (.int p3), .val (.long q4), .second] [(.ref b1), (.int (1 : Int32))])
  obtain ⟨cl55, Ar55, q55, S55, N55, H55, G55⟩ := id V_b1
  refine own_go (X54.arraylength hx (by rw [e54]; exact Ar55.1) (State.isArrayOf_alike hZ.alike Ar55.2.1) (g := (mkF m 8 #[.val (.ref a1), .val (.int p2), .val (.int p3), .val (.long q4), .second] [(.ref b1), (.int (1 : Int32))])) rfl rfl (hb hby d7_8)) ?_
  rw [len_of S55 N55]
  show own_Run p e below _ T54 (mkF m 9 #[.val (.ref a1), .val (.int p2), .val (.int p3), .val (.long q4), .second] [(.int (16 : Int32)), (.int (1 : Int32))])
  refine own_go (fun _ k => XS.icmpYes X54.here hx rfl (pc0 := 9) (pc' := 63) rfl (hb hby d7_9) rfl (feq (by decide : ¬ ((1 : Int32) = (16 : Int32)))).2 (by decide) (by decide) k) ?_
  show own_Run p e below _ T54 (mkF m 63 #[.val (.ref a1), .val (.int p2), .val (.int p3), .val (.long q4), .second] [])
  refine own_go (fun _ k => XS.aloadN X54.here hx rfl (hb hby d7_63) rfl rfl k) ?_
  show own_Run p e below _ T54 (mkF m 64 #[.val (.ref a1), .val (.int p2), .val (.int p3), .val (.long q4), .second] [(.ref a1)])
  obtain ⟨T56, X56, e56, st56⟩ := getF X54 hx hZ hown (host := "") (Or.inl (W 10 rfl)) Via.refl e54 F_mOffsets_a1 (g := (mkF m 64 #[.val (.ref a1), .val (.int p2), .val (.int p3), .val (.long q4), .second] [(.ref a1)])) rfl rfl (hb hby d7_64)
  refine own_go st56 ?_
  show own_Run p e below _ T56 (mkF m 67 #[.val (.ref a1), .val (.int p2), .val (.int p3), .val (.long q4), .second] [(.ref b1)])
  refine own_go (fun _ k => XS.aloadN X56.here hx rfl (hb hby d7_67) rfl rfl k) ?_
  show own_Run p e below _ T56 (mkF m 68 #[.val (.ref a1), .val (.int p2), .val (.int p3), .val (.long q4), .second] [(.ref a1), (.ref b1)])
  obtain ⟨T57, X57, e57, st57⟩ := getF X56 hx hZ hown (host := "") (Or.inl (W 34 rfl)) Via.refl e56 F_mCount_a1 (g := (mkF m 68 #[.val (.ref a1), .val (.int p2), .val (.int p3), .val (.long q4), .second] [(.ref a1), (.ref b1)])) rfl rfl (hb hby d7_68)
  refine own_go st57 ?_
  show own_Run p e below _ T57 (mkF m 71 #[.val (.ref a1), .val (.int p2), .val (.int p3), .val (.long q4), .second] [(.int (1 : Int32)), (.ref b1)])
  refine own_go (fun _ k => XS.iloadN X57.here hx rfl (hb hby d7_71) rfl k) ?_
  show own_Run p e below _ T57 (mkF m 72 #[.val (.ref a1), .val (.int p2), .val (.int p3), .val (.long q4), .second] [(.int p2), (.int (1 : Int32)), (.ref b1)])
  obtain ⟨cl58, Ar58, q58, S58, N58, H58, G58⟩ := id V_b1
  have hin58 : ¬ ((1 : Int32) < 0 ∨ cl58.slots.size ≤ ((1 : Int32)).toNatClampNeg) := inb_of S58 ⟨by decide, by decide⟩
  obtain ⟨T59, h59, X59, e59, W59, st59⟩ := stI X57 hx hZ e57 Ar58 (j := (1 : Int32)) hin58 (g := (mkF m 72 #[.val (.ref a1), .val (.int p2), .val (.int p3), .val (.long q4), .second] [(.int p2), (.int (1 : Int32)), (.ref b1)])) rfl rfl (hb hby d7_72)
  refine own_go st59 ?_
  show own_Run p e below _ T59 (mkF m 73 #[.val (.ref a1), .val (.int p2), .val (.int p3), .val (.long q4), .second] [])
  have Z0_c60 := Nat.le_trans Z0 (Keep.of_wr W59).1
  have K0_c60 := K0.wr W59 (Or.inl (List.mem_of_getElem? (i := 1) rfl))
  have E_a1_c60 := E_a1.wr W59
  have F_mOffsets_a1_c60 := F_mOffsets_a1.other W59 (Or.inl ne_a1_b1)
  have F_mPositions_a1_c60 := F_mPositions_a1.other W59 (Or.inl ne_a1_b1)
  have F_mTimestamps_a1_c60 := F_mTimestamps_a1.other W59 (Or.inl ne_a1_b1)
  have F_mMaxTimestamp_a1_c60 := F_mMaxTimestamp_a1.other W59 (Or.inl ne_a1_b1)
  have F_mBaseOffset_a1_c60 := F_mBaseOffset_a1.other W59 (Or.inl ne_a1_b1)
  have F_mIntervalBytes_a1_c60 := F_mIntervalBytes_a1.other W59 (Or.inl ne_a1_b1)
  have F_mCount_a1_c60 := F_mCount_a1.other W59 (Or.inl ne_a1_b1)
  have V_b2_c60 := V_b2.other W59 (Ne.symm ne_b1_b2)
  have V_b3_c60 := V_b3.other W59 (Ne.symm ne_b1_b3)
  have V_b1_c59 : Arv Z h59 b1 k1 .int (16 : Int32) [(.int x0), (.int p2), (.int (0 : Int32)), (.int (0 : Int32)), (.int (0 : Int32)), (.int (0 : Int32)), (.int (0 : Int32)), (.int (0 : Int32)), (.int (0 : Int32)), (.int (0 : Int32)), (.int (0 : Int32)), (.int (0 : Int32)), (.int (0 : Int32)), (.int (0 : Int32)), (.int (0 : Int32)), (.int (0 : Int32))] (.int (0 : Int32)) := Arv.set Ar58 q58 S58 N58 H58 G58 rfl W59 1 rfl (Nat.le_of_ble_eq_true rfl)
  have N59 := Fr.snoc X59 N0 g_b1
  refine own_go (fun _ k => XS.aloadN X59.here hx rfl (hb hby d7_73) rfl rfl k) ?_
  show own_Run p e below _ T59 (mkF m 74 #[.val (.ref a1), .val (.int p2), .val (.int p3), .val (.long q4), .second] [(.ref a1)])
  obtain ⟨T61, X61, e61, st61⟩ := getF X59 hx hZ hown (host := "") (Or.inl (W 12 rfl)) Via.refl e59 F_mPositions_a1_c60 (g := (mkF m 74 #[.val (.ref a1), .val (.int p2), .val (.int p3), .val (.long q4), .second] [(.ref a1)])) rfl rfl (hb hby d7_74)
  refine own_go st61 ?_
  show own_Run p e below _ T61 (mkF m 77 #[.val (.ref a1), .val (.int p2), .val (.int p3), .val (.long q4), .second] [(.ref b2)])
  refine own_go (fun _ k => XS.aloadN X61.here hx rfl (hb hby d7_77) rfl rfl k) ?_
  show own_Run p e below _ T61 (mkF m 78 #[.val (.ref a1), .val (.int p2), .val (.int p3), .val (.long q4), .second] [(.ref a1), (.ref b2)])
  obtain ⟨T62, X62, e62, st62⟩ := getF X61 hx hZ hown (host := "") (Or.inl (W 34 rfl)) Via.refl e61 F_mCount_a1_c60 (g := (mkF m 78 #[.val (.ref a1), .val (.int p2), .val (.int p3), .val (.long q4), .second] [(.ref a1), (.ref b2)])) rfl rfl (hb hby d7_78)
  refine own_go st62 ?_
  show own_Run p e below _ T62 (mkF m 81 #[.val (.ref a1), .val (.int p2), .val (.int p3), .val (.long q4), .second] [(.int (1 : Int32)), (.ref b2)])
  refine own_go (fun _ k => XS.iloadN X62.here hx rfl (hb hby d7_81) rfl k) ?_
  show own_Run p e below _ T62 (mkF m 82 #[.val (.ref a1), .val (.int p2), .val (.int p3), .val (.long q4), .second] [(.int p3), (.int (1 : Int32)), (.ref b2)])
  obtain ⟨cl63, Ar63, q63, S63, N63, H63, G63⟩ := id V_b2_c60
  have hin63 : ¬ ((1 : Int32) < 0 ∨ cl63.slots.size ≤ ((1 : Int32)).toNatClampNeg) := inb_of S63 ⟨by decide, by decide⟩
  obtain ⟨T64, h64, X64, e64, W64, st64⟩ := stI X62 hx hZ e62 Ar63 (j := (1 : Int32)) hin63 (g := (mkF m 82 #[.val (.ref a1), .val (.int p2), .val (.int p3), .val (.long q4), .second] [(.int p3), (.int (1 : Int32)), (.ref b2)])) rfl rfl (hb hby d7_82)
  refine own_go st64 ?_
  show own_Run p e below _ T64 (mkF m 83 #[.val (.ref a1), .val (.int p2), .val (.int p3), .val (.long q4), .second] [])
  have Z0_c65 := Nat.le_trans Z0_c60 (Keep.of_wr W64).1
  have K0_c65 := K0_c60.wr W64 (Or.inl (List.mem_of_getElem? (i := 2) rfl))
  have E_a1_c65 := E_a1_c60.wr W64
  have F_mOffsets_a1_c65 := F_mOffsets_a1_c60.other W64 (Or.inl ne_a1_b2)
  have F_mPositions_a1_c65 := F_mPositions_a1_c60.other W64 (Or.inl ne_a1_b2)
  have F_mTimestamps_a1_c65 := F_mTimestamps_a1_c60.other W64 (Or.inl ne_a1_b2)
  have F_mMaxTimestamp_a1_c65 := F_mMaxTimestamp_a1_c60.other W64 (Or.inl ne_a1_b2)
  have F_mBaseOffset_a1_c65 := F_mBaseOffset_a1_c60.other W64 (Or.inl ne_a1_b2)
  have F_mIntervalBytes_a1_c65 := F_mIntervalBytes_a1_c60.other W64 (Or.inl ne_a1_b2)
  have F_mCount_a1_c65 := F_mCount_a1_c60.other W64 (Or.inl ne_a1_b2)
  have V_b3_c65 := V_b3_c60.other W64 (Ne.symm ne_b2_b3)
  have V_b1_c65 := V_b1_c59.other W64 ne_b1_b2
  have V_b2_c64 : Arv Z h64 b2 k2 .int (16 : Int32) [(.int y0), (.int p3), (.int (0 : Int32)), (.int (0 : Int32)), (.int (0 : Int32)), (.int (0 : Int32)), (.int (0 : Int32)), (.int (0 : Int32)), (.int (0 : Int32)), (.int (0 : Int32)), (.int (0 : Int32)), (.int (0 : Int32)), (.int (0 : Int32)), (.int (0 : Int32)), (.int (0 : Int32)), (.int (0 : Int32))] (.int (0 : Int32)) := Arv.set Ar63 q63 S63 N63 H63 G63 rfl W64 1 rfl (Nat.le_of_ble_eq_true rfl)
  have N64 := Fr.snoc X64 N59 g_b2
  refine own_go (fun _ k => XS.aloadN X64.here hx rfl (hb hby d7_83) rfl rfl k) ?_
  show own_Run p e below _ T64 (mkF m 84 #[.val (.ref a1), .val (.int p2), .val (.int p3), .val (.long q4), .second] [(.ref a1)])
  obtain ⟨T66, X66, e66, st66⟩ := getF X64 hx hZ hown (host := "") (Or.inl (W 15 rfl)) Via.refl e64 F_mTimestamps_a1_c65 (g := (mkF m 84 #[.val (.ref a1), .val (.int p2), .val (.int p3), .val (.long q4), .second] [(.ref a1)])) rfl rfl (hb hby d7_84)
  refine own_go st66 ?_
  show own_Run p e below _ T66 (mkF m 87 #[.val (.ref a1), .val (.int p2), .val (.int p3), .val (.long q4), .second] [(.ref b3)])
  refine own_go (fun _ k => XS.aloadN X66.here hx rfl (hb hby d7_87) rfl rfl k) ?_
  show own_Run p e below _ T66 (mkF m 88 #[.val (.ref a1), .val (.int p2), .val (.int p3), .val (.long q4), .second] [(.ref a1), (.ref b3)])
  obtain ⟨T67, X67, e67, st67⟩ := getF X66 hx hZ hown (host := "") (Or.inl (W 34 rfl)) Via.refl e66 F_mCount_a1_c65 (g := (mkF m 88 #[.val (.ref a1), .val (.int p2), .val (.int p3), .val (.long q4), .second] [(.ref a1), (.ref b3)])) rfl rfl (hb hby d7_88)
  refine own_go st67 ?_
  show own_Run p e below _ T67 (mkF m 91 #[.val (.ref a1), .val (.int p2), .val (.int p3), .val (.long q4), .second] [(.int (1 : Int32)), (.ref b3)])
  refine own_go (fun _ k => XS.lloadN X67.here hx rfl (hb hby d7_91) rfl k) ?_
  show own_Run p e below _ T67 (mkF m 92 #[.val (.ref a1), .val (.int p2), .val (.int p3), .val (.long q4), .second] [(.long q4), (.int (1 : Int32)), (.ref b3)])
  obtain ⟨cl68, Ar68, q68, S68, N68, H68, G68⟩ := id V_b3_c65
  have hin68 : ¬ ((1 : Int32) < 0 ∨ cl68.slots.size ≤ ((1 : Int32)).toNatClampNeg) := inb_of S68 ⟨by decide, by decide⟩
  obtain ⟨T69, h69, X69, e69, W69, st69⟩ := stJ X67 hx hZ e67 Ar68 (j := (1 : Int32)) hin68 (g := (mkF m 92 #[.val (.ref a1), .val (.int p2), .val (.int p3), .val (.long q4), .second] [(.long q4), (.int (1 : Int32)), (.ref b3)])) rfl rfl (hb hby d7_92)
  refine own_go st69 ?_
  show own_Run p e below _ T69 (mkF m 93 #[.val (.ref a1), .val (.int p2), .val (.int p3), .val (.long q4), .second] [])
  have Z0_c70 := Nat.le_trans Z0_c65 (Keep.of_wr W69).1
  have K0_c70 := K0_c65.wr W69 (Or.inl (List.mem_of_getElem? (i := 3) rfl))
  have E_a1_c70 := E_a1_c65.wr W69
  have F_mOffsets_a1_c70 := F_mOffsets_a1_c65.other W69 (Or.inl ne_a1_b3)
  have F_mPositions_a1_c70 := F_mPositions_a1_c65.other W69 (Or.inl ne_a1_b3)
  have F_mTimestamps_a1_c70 := F_mTimestamps_a1_c65.other W69 (Or.inl ne_a1_b3)
  have F_mMaxTimestamp_a1_c70 := F_mMaxTimestamp_a1_c65.other W69 (Or.inl ne_a1_b3)
  have F_mBaseOffset_a1_c70 := F_mBaseOffset_a1_c65.other W69 (Or.inl ne_a1_b3)
  have F_mIntervalBytes_a1_c70 := F_mIntervalBytes_a1_c65.other W69 (Or.inl ne_a1_b3)
  have F_mCount_a1_c70 := F_mCount_a1_c65.other W69 (Or.inl ne_a1_b3)
  have V_b1_c70 := V_b1_c65.other W69 ne_b1_b3
  have V_b2_c70 := V_b2_c64.other W69 ne_b2_b3
  have V_b3_c69 : Arv Z h69 b3 k3 .long (16 : Int32) [(.long z0), (.long q4), (.long (0 : Int64)), (.long (0 : Int64)), (.long (0 : Int64)), (.long (0 : Int64)), (.long (0 : Int64)), (.long (0 : Int64)), (.long (0 : Int64)), (.long (0 : Int64)), (.long (0 : Int64)), (.long (0 : Int64)), (.long (0 : Int64)), (.long (0 : Int64)), (.long (0 : Int64)), (.long (0 : Int64))] (.long (0 : Int64)) := Arv.set Ar68 q68 S68 N68 H68 G68 rfl W69 1 rfl (Nat.le_of_ble_eq_true rfl)
  have N69 := Fr.snoc X69 N64 g_b3
  refine own_go (fun _ k => XS.aloadN X69.here hx rfl (hb hby d7_93) rfl rfl k) ?_
  refine own_go (fun _ k => XS.dup X69.here hx rfl (hb hby d7_94) rfl rfl k) ?_
  show own_Run p e below _ T69 (mkF m 95 #[.val (.ref a1), .val (.int p2), .val (.int p3), .val (.long q4), .second] [(.ref a1), (.ref a1)])
  obtain ⟨T71, X71, e71, st71⟩ := getF X69 hx hZ hown (host := "") (Or.inl (W 34 rfl)) Via.refl e69 F_mCount_a1_c70 (g := (mkF m 95 #[.val (.ref a1), .val (.int p2), .val (.int p3), .val (.long q4), .second] [(.ref a1), (.ref a1)])) rfl rfl (hb hby d7_95)
  refine own_go st71 ?_
  show own_Run p e below _ T71 (mkF m 98 #[.val (.ref a1), .val (.int p2), .val (.int p3), .val (.long q4), .second] [(.int (1 : Int32)), (.ref a1)])
  refine own_go (fun _ k => XS.iconst X71.here hx rfl (hb hby d7_98) k) ?_
  refine own_go (fun _ k => XS.iadd X71.here hx rfl (hb hby d7_99) rfl k) ?_
  show own_Run p e below _ T71 (mkF m 100 #[.val (.ref a1), .val (.int p2), .val (.int p3), .val (.long q4), .second] [(.int ((1 : Int32) + (1 : Int32))), (.ref a1)])
  rw [show ((1 : Int32) + (1 : Int32)) = (2 : Int32) by decide]
  show own_Run p e below _ T71 (mkF m 100 #[.val (.ref a1), .val (.int p2), .val (.int p3), .val (.long q4), .second] [(.int (2 : Int32)), (.ref a1)])
  obtain ⟨T72, h72, X72, e72, W72, st72⟩ := putF X71 hx hZ hown (host := "") (Or.inl (W 34 rfl)) Via.refl e71 F_mCount_a1_c70 E_a1_c70 (Or.inl (W 35 rfl)) (W 1 rfl) (ty := .int) (by decide) rfl rfl (g := (mkF m 100 #[.val (.ref a1), .val (.int p2), .val (.int p3), .val (.long q4), .second] [(.int (2 : Int32)), (.ref a1)])) rfl rfl (hb hby d7_100)
  refine own_go st72 ?_
  show own_Run p e below _ T72 (mkF m 103 #[.val (.ref a1), .val (.int p2), .val (.int p3), .val (.long q4), .second] [])
  have Z0_c73 := Nat.le_trans Z0_c70 (Keep.of_wr W72).1
  have K0_c73 := K0_c70.wr W72 (Or.inl (List.mem_of_getElem? (i := 0) rfl))
  have E_a1_c73 := E_a1_c70.wr W72
  have F_mOffsets_a1_c73 := F_mOffsets_a1_c70.other W72 (Or.inr (slot_ne (Or.inl (W 11 rfl)) (Or.inl (W 35 rfl)) (by decide) (t := (.array .int)) (t' := .int) (by decide) (by decide)))
  have F_mPositions_a1_c73 := F_mPositions_a1_c70.other W72 (Or.inr (slot_ne (Or.inl (W 13 rfl)) (Or.inl (W 35 rfl)) (by decide) (t := (.array .int)) (t' := .int) (by decide) (by decide)))
  have F_mTimestamps_a1_c73 := F_mTimestamps_a1_c70.other W72 (Or.inr (slot_ne (Or.inl (W 16 rfl)) (Or.inl (W 35 rfl)) (by decide) (t := (.array .long)) (t' := .int) (by decide) (by decide)))
  have F_mMaxTimestamp_a1_c73 := F_mMaxTimestamp_a1_c70.other W72 (Or.inr (slot_ne (Or.inl (W 19 rfl)) (Or.inl (W 35 rfl)) (by decide) (t := .long) (t' := .int) (by decide) (by decide)))
  have F_mBaseOffset_a1_c73 := F_mBaseOffset_a1_c70.other W72 (Or.inr (slot_ne (Or.inr (W 21 rfl)) (Or.inl (W 35 rfl)) (by decide) (t := .long) (t' := .int) (by decide) (by decide)))
  have F_mIntervalBytes_a1_c73 := F_mIntervalBytes_a1_c70.other W72 (Or.inr (slot_ne (Or.inr (W 23 rfl)) (Or.inl (W 35 rfl)) (by decide) (t := .long) (t' := .int) (by decide) (by decide)))
  have V_b1_c73 := V_b1_c70.other W72 (Ne.symm ne_a1_b1)
  have V_b2_c73 := V_b2_c70.other W72 (Ne.symm ne_a1_b2)
  have V_b3_c73 := V_b3_c69.other W72 (Ne.symm ne_a1_b3)
  have F_mCount_a1_c72 : Fld Z h72 a1 "com/example/tote/tote/storage/OffsetIndex" "mCount" "I" (.int (2 : Int32)) := F_mCount_a1_c70.same W72
  have N72 := Fr.snoc X72 N69 g_a1
  refine own_done (Q := fun v h L => Q7c1 Z a1 p2 p3 q4 b1 b2 b3 k1 k2 k3 mx ba iv x0 y0 z0 h0 n0 v h L) (v := none) X72 (fun _ => rfl) hlk (fun fs hr => X72.returnOut hx hret (hb hby d7_103) hr) ?_ (by decide) (by decide)
  show Q7c1 Z a1 p2 p3 q4 b1 b2 b3 k1 k2 k3 mx ba iv x0 y0 z0 h0 n0 _ T72.heap _
  rw [e72]
  exact ⟨rfl, N72, K0_c73, E_a1_c73, F_mOffsets_a1_c73, F_mPositions_a1_c73, F_mTimestamps_a1_c73, F_mMaxTimestamp_a1_c73, F_mBaseOffset_a1_c73, F_mIntervalBytes_a1_c73, F_mCount_a1_c72, V_b1_c73, V_b2_c73, V_b3_c73⟩
def Q5c1 (Z : State) (a1 : Addr) (q2 : Int64) (q3 : Int64) (q4 : Int64) (b1 : Addr) (b2 : Addr) (b3 : Addr) (k1 : ClassId) (k2 : ClassId) (k3 : ClassId) (mx : Int64) (ba : Int64) (iv : Int64) (x0 : Int32) (y0 : Int32) (z0 : Int64) (h0 : Heap) (n0 : Nat) (v : Option Value) (h : Heap) (L : List Loc) : Prop := v = none ∧ Fr n0 L ∧ Keep h0 h [a1, b1, b2, b3] ∧ Exa Z h a1 "com/example/tote/tote/storage/OffsetIndex" ∧ Fld Z h a1 "com/example/tote/tote/storage/OffsetIndex" "mOffsets" "[I" (.ref b1) ∧ Fld Z h a1 "com/example/tote/tote/storage/OffsetIndex" "mPositions" "[I" (.ref b2) ∧ Fld Z h a1 "com/example/tote/tote/storage/OffsetIndex" "mTimestamps" "[J" (.ref b3) ∧ Fld Z h a1 "com/example/tote/tote/storage/OffsetIndex" "mMaxTimestamp" "J" (.long (own_max mx q4)) ∧ Fld Z h a1 "com/example/tote/tote/storage/OffsetIndex" "mBaseOffset" "J" (.long ba) ∧ Fld Z h a1 "com/example/tote/tote/storage/OffsetIndex" "mIntervalBytes" "J" (.long iv) ∧ Fld Z h a1 "com/example/tote/tote/storage/OffsetIndex" "mCount" "I" (.int (2 : Int32)) ∧ Arv Z h b1 k1 .int (16 : Int32) [(.int x0), (.int ((q2 - ba).toInt32)), (.int (0 : Int32)), (.int (0 : Int32)), (.int (0 : Int32)), (.int (0 : Int32)), (.int (0 : Int32)), (.int (0 : Int32)), (.int (0 : Int32)), (.int (0 : Int32)), (.int (0 : Int32)), (.int (0 : Int32)), (.int (0 : Int32)), (.int (0 : Int32)), (.int (0 : Int32)), (.int (0 : Int32))] (.int (0 : Int32)) ∧ Arv Z h b2 k2 .int (16 : Int32) [(.int y0), (.int (q3.toInt32)), (.int (0 : Int32)), (.int (0 : Int32)), (.int (0 : Int32)), (.int (0 : Int32)), (.int (0 : Int32)), (.int (0 : Int32)), (.int (0 : Int32)), (.int (0 : Int32)), (.int (0 : Int32)), (.int (0 : Int32)), (.int (0 : Int32)), (.int (0 : Int32)), (.int (0 : Int32)), (.int (0 : Int32))] (.int (0 : Int32)) ∧ Arv Z h b3 k3 .long (16 : Int32) [(.long z0), (.long mx), (.long (0 : Int64)), (.long (0 : Int64)), (.long (0 : Int64)), (.long (0 : Int64)), (.long (0 : Int64)), (.long (0 : Int64)), (.long (0 : Int64)), (.long (0 : Int64)), (.long (0 : Int64)), (.long (0 : Int64)), (.long (0 : Int64)), (.long (0 : Int64)), (.long (0 : Int64)), (.long (0 : Int64))] (.long (0 : Int64))
set_option maxRecDepth 65536 in
set_option maxHeartbeats 40000000 in
theorem rm5c1 (l : Launch) (Z : State) (a0 : Array Value) (hw : ∀ d ∈ tables_1, d.before a0 Z = true) (ws : List Jvm.Cond) (a1 : Addr) (q2 : Int64) (q3 : Int64) (q4 : Int64) (b1 : Addr) (b2 : Addr) (b3 : Addr) (k1 : ClassId) (k2 : ClassId) (k3 : ClassId) (mx : Int64) (ba : Int64) (iv : Int64) (x0 : Int32) (y0 : Int32) (z0 : Int64) (h0 : Heap) (n0 : Nat) (Z0 : n0 ≤ h0.size) (E_a1 : Exa Z h0 a1 "com/example/tote/tote/storage/OffsetIndex") (F_mOffsets_a1 : Fld Z h0 a1 "com/example/tote/tote/storage/OffsetIndex" "mOffsets" "[I" (.ref b1)) (F_mPositions_a1 : Fld Z h0 a1 "com/example/tote/tote/storage/OffsetIndex" "mPositions" "[I" (.ref b2)) (F_mTimestamps_a1 : Fld Z h0 a1 "com/example/tote/tote/storage/OffsetIndex" "mTimestamps" "[J" (.ref b3)) (F_mMaxTimestamp_a1 : Fld Z h0 a1 "com/example/tote/tote/storage/OffsetIndex" "mMaxTimestamp" "J" (.long mx)) (F_mBaseOffset_a1 : Fld Z h0 a1 "com/example/tote/tote/storage/OffsetIndex" "mBaseOffset" "J" (.long ba)) (F_mIntervalBytes_a1 : Fld Z h0 a1 "com/example/tote/tote/storage/OffsetIndex" "mIntervalBytes" "J" (.long iv)) (F_mCount_a1 : Fld Z h0 a1 "com/example/tote/tote/storage/OffsetIndex" "mCount" "I" (.int (1 : Int32))) (V_b1 : Arv Z h0 b1 k1 .int (16 : Int32) [(.int x0), (.int (0 : Int32)), (.int (0 : Int32)), (.int (0 : Int32)), (.int (0 : Int32)), (.int (0 : Int32)), (.int (0 : Int32)), (.int (0 : Int32)), (.int (0 : Int32)), (.int (0 : Int32)), (.int (0 : Int32)), (.int (0 : Int32)), (.int (0 : Int32)), (.int (0 : Int32)), (.int (0 : Int32)), (.int (0 : Int32))] (.int (0 : Int32))) (V_b2 : Arv Z h0 b2 k2 .int (16 : Int32) [(.int y0), (.int (0 : Int32)), (.int (0 : Int32)), (.int (0 : Int32)), (.int (0 : Int32)), (.int (0 : Int32)), (.int (0 : Int32)), (.int (0 : Int32)), (.int (0 : Int32)), (.int (0 : Int32)), (.int (0 : Int32)), (.int (0 : Int32)), (.int (0 : Int32)), (.int (0 : Int32)), (.int (0 : Int32)), (.int (0 : Int32))] (.int (0 : Int32))) (V_b3 : Arv Z h0 b3 k3 .long (16 : Int32) [(.long z0), (.long (0 : Int64)), (.long (0 : Int64)), (.long (0 : Int64)), (.long (0 : Int64)), (.long (0 : Int64)), (.long (0 : Int64)), (.long (0 : Int64)), (.long (0 : Int64)), (.long (0 : Int64)), (.long (0 : Int64)), (.long (0 : Int64)), (.long (0 : Int64)), (.long (0 : Int64)), (.long (0 : Int64)), (.long (0 : Int64))] (.long (0 : Int64))) (g_a1 : n0 ≤ a1) (g_b1 : n0 ≤ b1) (g_b2 : n0 ≤ b2) (g_b3 : n0 ≤ b3) (ne_a1_b1 : a1 ≠ b1) (ne_a1_b2 : a1 ≠ b2) (ne_a1_b3 : a1 ≠ b3) (ne_b1_b2 : b1 ≠ b2) (ne_b1_b3 : b1 ≠ b3) (ne_b2_b3 : b2 ≠ b3) (ho : (((q2 - ba).toInt32).toInt64) = (q2 - ba)) (hq : ((q3.toInt32).toInt64) = q3) (hgt : iv < (q3 - (y0.toInt64))) :
    MetFree l (⟨"com/example/tote/tote/storage/OffsetIndex", "add", "(JJJ)V"⟩ : MethodName) (head1 (Jvm.Cond.code (⟨"com/example/tote/tote/storage/OffsetIndex", "add", "(JJJ)V"⟩ : MethodName) prog_89_method_2_code 7 none :: ws) ({ frames := 1, cells := 0, slots := 0, locals := 17 } : Room)) (fun a U => a = #[(.ref a1), (.long q2), (.long q3), (.long q4)] ∧ Z.Warmed39 U.vm ∧ U.heap = h0) (fun _ _ _ _ _ => True) (fun _ U o U' => ∃ v L, o = .returned v ∧ Q5c1 Z a1 q2 q3 q4 b1 b2 b3 k1 k2 k3 mx ba iv x0 y0 z0 h0 n0 v U'.heap L ∧ FrameEnd U o U' L ({ frames := 1, cells := 0, slots := 0, locals := 17 } : Room).cells ({ frames := 1, cells := 0, slots := 0, locals := 17 } : Room).slots) := by
  refine MetFree.of_bodySF (plainFor_of_name pn_5) hisR ?_
  intro p e s m args below meth c s₁ Bd hml0 hP hK
  obtain ⟨rfl, hZ, hh⟩ := hP
  have hx := Bd.exec
  have hby := Bd.bytes
  have hml : c.maxLocals = 7 := hml0
  have hown : s.vm.findClass "com/example/tote/tote/storage/OffsetIndex" = some m.cls := findClass_of_methodNamed Bd.named
  have hnm := (name_of_methodNamed Bd.named Bd.method).1
  have hret := Bd.returns
  have hlk : meth.locks = false := BodyLoose.notSynchronized Bd
  have X0 : Stand p l e ({ frames := 1, cells := 0, slots := 0, locals := 17 } : Room) s m #[(.ref a1), (.long q2), (.long q3), (.long q4)] below meth c s₁ [] 0 0 := Stand.of_body Bd
  have e0 : s₁.heap = h0 := by rw [← hh, Bd.state]; rfl
  have N0 := Fr.nil n0
  have W := fun (k : Nat) {d : Jvm.Cond} (h : tables_1[k]? = some d) => hw d (List.mem_of_getElem? h)
  have K0 : Keep h0 h0 [a1, b1, b2, b3] := Keep.refl _ _
  refine own_start (ef_5 m a1 q2 q3 q4) ?_
  show own_Run p e below _ s₁ (mkF m 0 #[.val (.ref a1), .val (.long q2), .second, .val (.long q3), .second, .val (.long q4), .second] [])
  refine own_go (fun _ k => XS.aloadN X0.here hx rfl (hb hby d5_0) rfl rfl k) ?_
  show own_Run p e below _ s₁ (mkF m 1 #[.val (.ref a1), .val (.long q2), .second, .val (.long q3), .second, .val (.long q4), .second] [(.ref a1)])
  obtain ⟨T74, X74, e74, st74⟩ := getF X0 hx hZ hown (host := "") (Or.inl (W 34 rfl)) Via.refl e0 F_mCount_a1 (g := (mkF m 1 #[.val (.ref a1), .val (.long q2), .second, .val (.long q3), .second, .val (.long q4), .second] [(.ref a1)])) rfl rfl (hb hby d5_1)
  refine own_go st74 ?_
  show own_Run p e below _ T74 (mkF m 4 #[.val (.ref a1), .val (.long q2), .second, .val (.long q3), .second, .val (.long q4), .second] [(.int (1 : Int32))])
  refine own_go (fun _ k => XS.ifNo X74.here hx rfl (hb hby d5_4) rfl ((if0 _ _).trans (feq (by decide : ¬ ((1 : Int32) = (0 : Int32)))).1) k) ?_
  show own_Run p e below _ T74 (mkF m 7 #[.val (.ref a1), .val (.long q2), .second, .val (.long q3), .second, .val (.long q4), .second] [])
  refine own_go (fun _ k => XS.lloadN X74.here hx rfl (hb hby d5_7) rfl k) ?_
  refine own_go (fun _ k => XS.aloadN X74.here hx rfl (hb hby d5_8) rfl rfl k) ?_
  show own_Run p e below _ T74 (mkF m 9 #[.val (.ref a1), .val (.long q2), .second, .val (.long q3), .second, .val (.long q4), .second] [(.ref a1), (.long q3)])
  obtain ⟨T75, X75, e75, st75⟩ := getF X74 hx hZ hown (host := "") (Or.inl (W 12 rfl)) Via.refl e74 F_mPositions_a1 (g := (mkF m 9 #[.val (.ref a1), .val (.long q2), .second, .val (.long q3), .second, .val (.long q4), .second] [(.ref a1), (.long q3)])) rfl rfl (hb hby d5_9)
  refine own_go st75 ?_
  show own_Run p e below _ T75 (mkF m 12 #[.val (.ref a1), .val (.long q2), .second, .val (.long q3), .second, .val (.long q4), .second] [(.ref b2), (.long q3)])
  refine own_go (fun _ k => XS.aloadN X75.here hx rfl (hb hby d5_12) rfl rfl k) ?_
  show own_Run p e below _ T75 (mkF m 13 #[.val (.ref a1), .val (.long q2), .second, .val (.long q3), .second, .val (.long q4), .second] [(.ref a1), (.ref b2), (.long q3)])
  obtain ⟨T76, X76, e76, st76⟩ := getF X75 hx hZ hown (host := "") (Or.inl (W 34 rfl)) Via.refl e75 F_mCount_a1 (g := (mkF m 13 #[.val (.ref a1), .val (.long q2), .second, .val (.long q3), .second, .val (.long q4), .second] [(.ref a1), (.ref b2), (.long q3)])) rfl rfl (hb hby d5_13)
  refine own_go st76 ?_
  show own_Run p e below _ T76 (mkF m 16 #[.val (.ref a1), .val (.long q2), .second, .val (.long q3), .second, .val (.long q4), .second] [(.int (1 : Int32)), (.ref b2), (.long q3)])
  refine own_go (fun _ k => XS.iconst X76.here hx rfl (hb hby d5_16) k) ?_
  refine own_go (fun _ k => XS.isub X76.here hx rfl (hb hby d5_17) rfl k) ?_
  show own_Run p e below _ T76 (mkF m 18 #[.val (.ref a1), .val (.long q2), .second, .val (.long q3), .second, .val (.long q4), .second] [(.int ((1 : Int32) - (1 : Int32))), (.ref b2), (.long q3)])
  rw [show ((1 : Int32) - (1 : Int32)) = (0 : Int32) by decide]
  show own_Run p e below _ T76 (mkF m 18 #[.val (.ref a1), .val (.long q2), .second, .val (.long q3), .second, .val (.long q4), .second] [(.int (0 : Int32)), (.ref b2), (.long q3)])
  obtain ⟨cl77, Ar77, q77, S77, N77, H77, G77⟩ := id V_b2
  have hin77 : ¬ ((0 : Int32) < 0 ∨ cl77.slots.size ≤ ((0 : Int32)).toNatClampNeg) := inb_of S77 ⟨by decide, by decide⟩
  refine own_go (X76.iaload hx (j := (0 : Int32)) (v := (.int y0)) (by rw [e76]; exact Ar77.1) (State.isArrayOf_alike hZ.alike Ar77.2.1) Ar77.2.2 hin77 (H77.at hin77 rfl) (g := (mkF m 18 #[.val (.ref a1), .val (.long q2), .second, .val (.long q3), .second, .val (.long q4), .second] [(.int (0 : Int32)), (.ref b2), (.long q3)])) rfl rfl (hb hby d5_18)) ?_
  show own_Run p e below _ T76 (mkF m 19 #[.val (.ref a1), .val (.long q2), .second, .val (.long q3), .second, .val (.long q4), .second] [(.int y0), (.long q3)])
  refine own_go (fun _ k => XS.i2l X76.here hx rfl (hb hby d5_19) rfl k) ?_
  refine own_go (fun _ k => XS.lsub X76.here hx rfl (hb hby d5_20) rfl k) ?_
  refine own_go (fun _ k => XS.aloadN X76.here hx rfl (hb hby d5_21) rfl rfl k) ?_
  show own_Run p e below _ T76 (mkF m 22 #[.val (.ref a1), .val (.long q2), .second, .val (.long q3), .second, .val (.long q4), .second] [(.ref a1), (.long (q3 - (y0.toInt64)))])
  obtain ⟨T78, X78, e78, st78⟩ := getF X76 hx hZ hown (host := "") (Or.inl (W 22 rfl)) Via.refl e76 F_mIntervalBytes_a1 (g := (mkF m 22 #[.val (.ref a1), .val (.long q2), .second, .val (.long q3), .second, .val (.long q4), .second] [(.ref a1), (.long (q3 - (y0.toInt64)))])) rfl rfl (hb hby d5_22)
  refine own_go st78 ?_
  show own_Run p e below _ T78 (mkF m 25 #[.val (.ref a1), .val (.long q2), .second, .val (.long q3), .second, .val (.long q4), .second] [(.long iv), (.long (q3 - (y0.toInt64)))])
  refine own_go (fun _ k => XS.lcmp X78.here hx rfl (hb hby d5_25) rfl k) ?_
  show own_Run p e below _ T78 (mkF m 26 #[.val (.ref a1), .val (.long q2), .second, .val (.long q3), .second, .val (.long q4), .second] [(.int (lcmpW (q3 - (y0.toInt64)) iv))])
  refine own_go (fun _ k => XS.ifNo X78.here hx rfl (hb hby d5_26) rfl (own_lcT hgt).2.2.2 k) ?_
  show own_Run p e below _ T78 (mkF m 29 #[.val (.ref a1), .val (.long q2), .second, .val (.long q3), .second, .val (.long q4), .second] [])
  refine own_go (fun _ k => XS.aloadN X78.here hx rfl (hb hby d5_29) rfl rfl k) ?_
  refine own_go (fun _ k => XS.lloadN X78.here hx rfl (hb hby d5_30) rfl k) ?_
  refine own_go (fun _ k => XS.aloadN X78.here hx rfl (hb hby d5_31) rfl rfl k) ?_
  show own_Run p e below _ T78 (mkF m 32 #[.val (.ref a1), .val (.long q2), .second, .val (.long q3), .second, .val (.long q4), .second] [(.ref a1), (.long q2), (.ref a1)])
  obtain ⟨T79, X79, e79, st79⟩ := getF X78 hx hZ hown (host := "") (Or.inl (W 20 rfl)) Via.refl e78 F_mBaseOffset_a1 (g := (mkF m 32 #[.val (.ref a1), .val (.long q2), .second, .val (.long q3), .second, .val (.long q4), .second] [(.ref a1), (.long q2), (.ref a1)])) rfl rfl (hb hby d5_32)
  refine own_go st79 ?_
  show own_Run p e below _ T79 (mkF m 35 #[.val (.ref a1), .val (.long q2), .second, .val (.long q3), .second, .val (.long q4), .second] [(.long ba), (.long q2), (.ref a1)])
  refine own_go (fun _ k => XS.lsub X79.here hx rfl (hb hby d5_35) rfl k) ?_
  show own_Run p e below _ T79 (mkF m 36 #[.val (.ref a1), .val (.long q2), .second, .val (.long q3), .second, .val (.long q4), .second] [(.long (q2 - ba)), (.ref a1)])
  obtain ⟨_, _, ⟨T80, L80, k80, n80⟩, -, X80, ⟨Lc80, hQ80, l80, y80, z80⟩, st80⟩ := Jvm.LawKit.callS X79 hx (y := (⟨"java/lang/Math", "toIntExact", "(J)I"⟩ : MethodName)) hown (mvT hZ (W 41 rfl)) (mvT hZ (W 42 rfl)) (mvT hZ (W 27 rfl)) (mvT hZ (W 43 rfl)) (by decide) (backOf (W := 1) (rm6 l Z a0 hw [] (q2 - ba) h0 n0 Z0 (ho)) hZ (W 43 rfl) (W 27 rfl) (by decide) (by decide)) (g := (mkF m 36 #[.val (.ref a1), .val (.long q2), .second, .val (.long q3), .second, .val (.long q4), .second] [(.long (q2 - ba)), (.ref a1)])) rfl (by rw [hml]; rfl) (argsL := [(.long (q2 - ba))]) (rest := [(.ref a1)]) (lenOf pd_1 rfl) rfl (by show 2 * 0 + _ ≤ _; exact Nat.le_of_eq rfl) (hb hby d5_36) (fun _ _ => ⟨rfl, e79, (by decide : 0 + 0 ≤ _), (by decide : 0 + 0 ≤ _)⟩)
  dsimp only [Pt.U, Pt.locs, Pt.cells, Pt.slots] at X80 l80 y80 z80 st80 hQ80
  subst l80 y80 z80
  obtain ⟨rfl, N80q, e80⟩ := hQ80
  have N80 := Fr.app N0 N80q
  refine own_go st80 ?_
  show own_Run p e below _ T80 (mkF m 39 #[.val (.ref a1), .val (.long q2), .second, .val (.long q3), .second, .val (.long q4), .second] [(.int ((q2 - ba).toInt32)), (.ref a1)])
  refine own_go (fun _ k => XS.lloadN X80.here hx rfl (hb hby d5_39) rfl k) ?_
  show own_Run p e below _ T80 (mkF m 40 #[.val (.ref a1), .val (.long q2), .second, .val (.long q3), .second, .val (.long q4), .second] [(.long q3), (.int ((q2 - ba).toInt32)), (.ref a1)])
  obtain ⟨_, _, ⟨T81, L81, k81, n81⟩, -, X81, ⟨Lc81, hQ81, l81, y81, z81⟩, st81⟩ := Jvm.LawKit.callS X80 hx (y := (⟨"java/lang/Math", "toIntExact", "(J)I"⟩ : MethodName)) hown (mvT hZ (W 41 rfl)) (mvT hZ (W 42 rfl)) (mvT hZ (W 27 rfl)) (mvT hZ (W 43 rfl)) (by decide) (backOf (W := 2) (rm6 l Z a0 hw [] q3 h0 n0 Z0 (hq)) hZ (W 43 rfl) (W 27 rfl) (by decide) (by decide)) (g := (mkF m 40 #[.val (.ref a1), .val (.long q2), .second, .val (.long q3), .second, .val (.long q4), .second] [(.long q3), (.int ((q2 - ba).toInt32)), (.ref a1)])) rfl (by rw [hml]; rfl) (argsL := [(.long q3)]) (rest := [(.int ((q2 - ba).toInt32)), (.ref a1)]) (lenOf pd_1 rfl) rfl (by show 2 * 0 + _ ≤ _; exact Nat.le_of_eq rfl) (hb hby d5_40) (fun _ _ => ⟨rfl, e80, (by decide : 0 + 0 ≤ _), (by decide : 0 + 0 ≤ _)⟩)
  dsimp only [Pt.U, Pt.locs, Pt.cells, Pt.slots] at X81 l81 y81 z81 st81 hQ81
  subst l81 y81 z81
  obtain ⟨rfl, N81q, e81⟩ := hQ81
  have N81 := Fr.app N80 N81q
  refine own_go st81 ?_
  show own_Run p e below _ T81 (mkF m 43 #[.val (.ref a1), .val (.long q2), .second, .val (.long q3), .second, .val (.long q4), .second] [(.int (q3.toInt32)), (.int ((q2 - ba).toInt32)), (.ref a1)])
  refine own_go (fun _ k => XS.aloadN X81.here hx rfl (hb hby d5_43) rfl rfl k) ?_
  show own_Run p e below _ T81 (mkF m 44 #[.val (.ref a1), .val (.long q2), .second, .val (.long q3), .second, .val (.long q4), .second] [(.ref a1), (.int (q3.toInt32)), (.int ((q2 - ba).toInt32)), (.ref a1)])
  obtain ⟨T82, X82, e82, st82⟩ := getF X81 hx hZ hown (host := "") (Or.inl (W 18 rfl)) Via.refl e81 F_mMaxTimestamp_a1 (g := (mkF m 44 #[.val (.ref a1), .val (.long q2), .second, .val (.long q3), .second, .val (.long q4), .second] [(.ref a1), (.int (q3.toInt32)), (.int ((q2 - ba).toInt32)), (.ref a1)])) rfl rfl (hb hby d5_44)
  refine own_go st82 ?_
  show own_Run p e below _ T82 (mkF m 47 #[.val (.ref a1), .val (.long q2), .second, .val (.long q3), .second, .val (.long q4), .second] [(.long mx), (.int (q3.toInt32)), (.int ((q2 - ba).toInt32)), (.ref a1)])
  obtain ⟨cq83, q83, q83'⟩ := E_a1.cell
  obtain ⟨_, _, ⟨T83, L83, k83, n83⟩, -, X83, ⟨Lc83, hQ83, l83, y83, z83⟩, st83⟩ := X82.privateBack hx (y := (⟨"com/example/tote/tote/storage/OffsetIndex", "append", "(IIJ)V"⟩ : MethodName)) hown (mvT hZ (W 44 rfl)) (mvT hZ (W 45 rfl)) (own_selP (args := #[]) (y := (⟨"com/example/tote/tote/storage/OffsetIndex", "append", "(IIJ)V"⟩ : MethodName)) (mvT hZ (W 32 rfl)) rfl (Cond.privateMethod_at (mvP hZ (W 46 rfl) (args := #[]))) (mvT hZ (W 45 rfl)) (by decide)) (Cond.privateMethod_at (mvP hZ (W 46 rfl) (args := #[]))) (mvT hZ (W 47 rfl)) (by decide) (backOf (W := 0) (rm7c1 l Z a0 hw [] a1 ((q2 - ba).toInt32) (q3.toInt32) mx b1 b2 b3 k1 k2 k3 mx ba iv x0 y0 z0 h0 n0 Z0 E_a1 F_mOffsets_a1 F_mPositions_a1 F_mTimestamps_a1 F_mMaxTimestamp_a1 F_mBaseOffset_a1 F_mIntervalBytes_a1 F_mCount_a1 V_b1 V_b2 V_b3 g_a1 g_b1 g_b2 g_b3 ne_a1_b1 ne_a1_b2 ne_a1_b3 ne_b1_b2 ne_b1_b3 ne_b2_b3) hZ (W 47 rfl) (W 2 rfl) (by decide) (by decide)) (g := (mkF m 47 #[.val (.ref a1), .val (.long q2), .second, .val (.long q3), .second, .val (.long q4), .second] [(.long mx), (.int (q3.toInt32)), (.int ((q2 - ba).toInt32)), (.ref a1)])) rfl (by rw [hml]; rfl) (Steps.refl _) (a := a1) (by rw [e82]; exact q83) q83' (argsL := [(.int ((q2 - ba).toInt32)), (.int (q3.toInt32)), (.long mx)]) (rest := []) (lenOf pd_2 rfl) rfl (by show 2 * 0 + _ ≤ _; exact Nat.le_of_eq rfl) (hb hby d5_47) (fun _ _ => ⟨rfl, e82, (by decide : 0 + 0 ≤ _), (by decide : 0 + 0 ≤ _)⟩)
  dsimp only [Pt.U, Pt.locs, Pt.cells, Pt.slots] at X83 l83 y83 z83 st83 hQ83
  subst l83 y83 z83
  obtain ⟨rfl, N83q, K83, P83_0, P83_1, P83_2, P83_3, P83_4, P83_5, P83_6, P83_7, P83_8, P83_9, P83_10⟩ := hQ83
  have N83 := Fr.app N81 N83q
  refine own_goT st83 ?_
  show own_Run p e below _ T83 (mkF m 50 #[.val (.ref a1), .val (.long q2), .second, .val (.long q3), .second, .val (.long q4), .second] [])
  have Z0_c84 := Nat.le_trans Z0 K83.1
  have K0_c84 := K0.trans K83 (allS (Or.inl (List.mem_of_getElem? (i := 0) rfl)) (allS (Or.inl (List.mem_of_getElem? (i := 1) rfl)) (allS (Or.inl (List.mem_of_getElem? (i := 2) rfl)) (allS (Or.inl (List.mem_of_getElem? (i := 3) rfl)) all0))))
  have E_a1_c84 := E_a1.keep K83
  refine own_go (fun _ k => XS.aloadN X83.here hx rfl (hb hby d5_50) rfl rfl k) ?_
  refine own_go (fun _ k => XS.aloadN X83.here hx rfl (hb hby d5_51) rfl rfl k) ?_
  show own_Run p e below _ T83 (mkF m 52 #[.val (.ref a1), .val (.long q2), .second, .val (.long q3), .second, .val (.long q4), .second] [(.ref a1), (.ref a1)])
  obtain ⟨T85, X85, e85, st85⟩ := getF X83 hx hZ hown (host := "") (Or.inl (W 18 rfl)) Via.refl rfl P83_4 (g := (mkF m 52 #[.val (.ref a1), .val (.long q2), .second, .val (.long q3), .second, .val (.long q4), .second] [(.ref a1), (.ref a1)])) rfl rfl (hb hby d5_52)
  refine own_go st85 ?_
  show own_Run p e below _ T85 (mkF m 55 #[.val (.ref a1), .val (.long q2), .second, .val (.long q3), .second, .val (.long q4), .second] [(.long mx), (.ref a1)])
  refine own_go (fun _ k => XS.lload X85.here hx rfl (hb hby d5_55) rfl k) ?_
  show own_Run p e below _ T85 (mkF m 57 #[.val (.ref a1), .val (.long q2), .second, .val (.long q3), .second, .val (.long q4), .second] [(.long q4), (.long mx), (.ref a1)])
  obtain ⟨_, _, ⟨T86, L86, k86, n86⟩, -, X86, ⟨Lc86, hQ86, l86, y86, z86⟩, st86⟩ := Jvm.LawKit.callS X85 hx (y := (⟨"java/lang/Math", "max", "(JJ)J"⟩ : MethodName)) hown (mvT hZ (W 48 rfl)) (mvT hZ (W 26 rfl)) (mvT hZ (W 27 rfl)) (mvT hZ (W 28 rfl)) (by decide) (backOf (W := 1) (rm3 l Z a0 hw [] mx q4 T83.heap n0 Z0_c84 ) hZ (W 28 rfl) (W 27 rfl) (by decide) (by decide)) (g := (mkF m 57 #[.val (.ref a1), .val (.long q2), .second, .val (.long q3), .second, .val (.long q4), .second] [(.long q4), (.long mx), (.ref a1)])) rfl (by rw [hml]; rfl) (argsL := [(.long mx), (.long q4)]) (rest := [(.ref a1)]) (lenOf pd_3 rfl) rfl (by show 2 * 0 + _ ≤ _; exact Nat.le_of_eq rfl) (hb hby d5_57) (fun _ _ => ⟨rfl, e85, (by decide : 0 + 0 ≤ _), (by decide : 0 + 0 ≤ _)⟩)
  dsimp only [Pt.U, Pt.locs, Pt.cells, Pt.slots] at X86 l86 y86 z86 st86 hQ86
  subst l86 y86 z86
  obtain ⟨rfl, N86q, e86⟩ := hQ86
  have N86 := Fr.app N83 N86q
  refine own_go st86 ?_
  show own_Run p e below _ T86 (mkF m 60 #[.val (.ref a1), .val (.long q2), .second, .val (.long q3), .second, .val (.long q4), .second] [(.long (own_max mx q4)), (.ref a1)])
  obtain ⟨T87, h87, X87, e87, W87, st87⟩ := putF X86 hx hZ hown (host := "") (Or.inl (W 18 rfl)) Via.refl e86 P83_4 P83_0 (Or.inl (W 19 rfl)) (W 1 rfl) (ty := .long) (by decide) rfl rfl (g := (mkF m 60 #[.val (.ref a1), .val (.long q2), .second, .val (.long q3), .second, .val (.long q4), .second] [(.long (own_max mx q4)), (.ref a1)])) rfl rfl (hb hby d5_60)
  refine own_go st87 ?_
  show own_Run p e below _ T87 (mkF m 63 #[.val (.ref a1), .val (.long q2), .second, .val (.long q3), .second, .val (.long q4), .second] [])
  have Z0_c88 := Nat.le_trans Z0_c84 (Keep.of_wr W87).1
  have K0_c88 := K0_c84.wr W87 (Or.inl (List.mem_of_getElem? (i := 0) rfl))
  have P83_0_c88 := P83_0.wr W87
  have P83_1_c88 := P83_1.other W87 (Or.inr (slot_ne (Or.inl (W 11 rfl)) (Or.inl (W 19 rfl)) (by decide) (t := (.array .int)) (t' := .long) (by decide) (by decide)))
  have P83_2_c88 := P83_2.other W87 (Or.inr (slot_ne (Or.inl (W 13 rfl)) (Or.inl (W 19 rfl)) (by decide) (t := (.array .int)) (t' := .long) (by decide) (by decide)))
  have P83_3_c88 := P83_3.other W87 (Or.inr (slot_ne (Or.inl (W 16 rfl)) (Or.inl (W 19 rfl)) (by decide) (t := (.array .long)) (t' := .long) (by decide) (by decide)))
  have P83_5_c88 := P83_5.other W87 (Or.inr (slot_ne (Or.inr (W 21 rfl)) (Or.inl (W 19 rfl)) (by decide) (t := .long) (t' := .long) (by decide) (by decide)))
  have P83_6_c88 := P83_6.other W87 (Or.inr (slot_ne (Or.inr (W 23 rfl)) (Or.inl (W 19 rfl)) (by decide) (t := .long) (t' := .long) (by decide) (by decide)))
  have P83_7_c88 := P83_7.other W87 (Or.inr (slot_ne (Or.inl (W 35 rfl)) (Or.inl (W 19 rfl)) (by decide) (t := .int) (t' := .long) (by decide) (by decide)))
  have P83_8_c88 := P83_8.other W87 (Ne.symm ne_a1_b1)
  have P83_9_c88 := P83_9.other W87 (Ne.symm ne_a1_b2)
  have P83_10_c88 := P83_10.other W87 (Ne.symm ne_a1_b3)
  have F_mMaxTimestamp_a1_c87 : Fld Z h87 a1 "com/example/tote/tote/storage/OffsetIndex" "mMaxTimestamp" "J" (.long (own_max mx q4)) := P83_4.same W87
  have N87 := Fr.snoc X87 N86 g_a1
  refine own_done (Q := fun v h L => Q5c1 Z a1 q2 q3 q4 b1 b2 b3 k1 k2 k3 mx ba iv x0 y0 z0 h0 n0 v h L) (v := none) X87 (fun _ => rfl) hlk (fun fs hr => X87.returnOut hx hret (hb hby d5_63) hr) ?_ (by decide) (by decide)
  show Q5c1 Z a1 q2 q3 q4 b1 b2 b3 k1 k2 k3 mx ba iv x0 y0 z0 h0 n0 _ T87.heap _
  rw [e87]
  exact ⟨rfl, N87, K0_c88, P83_0_c88, P83_1_c88, P83_2_c88, P83_3_c88, F_mMaxTimestamp_a1_c87, P83_5_c88, P83_6_c88, P83_7_c88, P83_8_c88, P83_9_c88, P83_10_c88⟩
def Q7c2 (Z : State) (a1 : Addr) (p2 : Int32) (p3 : Int32) (q4 : Int64) (b1 : Addr) (b2 : Addr) (b3 : Addr) (k1 : ClassId) (k2 : ClassId) (k3 : ClassId) (mx : Int64) (ba : Int64) (iv : Int64) (x0 : Int32) (x1 : Int32) (y0 : Int32) (y1 : Int32) (z0 : Int64) (z1 : Int64) (h0 : Heap) (n0 : Nat) (v : Option Value) (h : Heap) (L : List Loc) : Prop := v = none ∧ Fr n0 L ∧ Keep h0 h [a1, b1, b2, b3] ∧ Exa Z h a1 "com/example/tote/tote/storage/OffsetIndex" ∧ Fld Z h a1 "com/example/tote/tote/storage/OffsetIndex" "mOffsets" "[I" (.ref b1) ∧ Fld Z h a1 "com/example/tote/tote/storage/OffsetIndex" "mPositions" "[I" (.ref b2) ∧ Fld Z h a1 "com/example/tote/tote/storage/OffsetIndex" "mTimestamps" "[J" (.ref b3) ∧ Fld Z h a1 "com/example/tote/tote/storage/OffsetIndex" "mMaxTimestamp" "J" (.long mx) ∧ Fld Z h a1 "com/example/tote/tote/storage/OffsetIndex" "mBaseOffset" "J" (.long ba) ∧ Fld Z h a1 "com/example/tote/tote/storage/OffsetIndex" "mIntervalBytes" "J" (.long iv) ∧ Fld Z h a1 "com/example/tote/tote/storage/OffsetIndex" "mCount" "I" (.int (3 : Int32)) ∧ Arv Z h b1 k1 .int (16 : Int32) [(.int x0), (.int x1), (.int p2), (.int (0 : Int32)), (.int (0 : Int32)), (.int (0 : Int32)), (.int (0 : Int32)), (.int (0 : Int32)), (.int (0 : Int32)), (.int (0 : Int32)), (.int (0 : Int32)), (.int (0 : Int32)), (.int (0 : Int32)), (.int (0 : Int32)), (.int (0 : Int32)), (.int (0 : Int32))] (.int (0 : Int32)) ∧ Arv Z h b2 k2 .int (16 : Int32) [(.int y0), (.int y1), (.int p3), (.int (0 : Int32)), (.int (0 : Int32)), (.int (0 : Int32)), (.int (0 : Int32)), (.int (0 : Int32)), (.int (0 : Int32)), (.int (0 : Int32)), (.int (0 : Int32)), (.int (0 : Int32)), (.int (0 : Int32)), (.int (0 : Int32)), (.int (0 : Int32)), (.int (0 : Int32))] (.int (0 : Int32)) ∧ Arv Z h b3 k3 .long (16 : Int32) [(.long z0), (.long z1), (.long q4), (.long (0 : Int64)), (.long (0 : Int64)), (.long (0 : Int64)), (.long (0 : Int64)), (.long (0 : Int64)), (.long (0 : Int64)), (.long (0 : Int64)), (.long (0 : Int64)), (.long (0 : Int64)), (.long (0 : Int64)), (.long (0 : Int64)), (.long (0 : Int64)), (.long (0 : Int64))] (.long (0 : Int64))
set_option maxRecDepth 65536 in
set_option maxHeartbeats 40000000 in
theorem rm7c2 (l : Launch) (Z : State) (a0 : Array Value) (hw : ∀ d ∈ tables_1, d.before a0 Z = true) (ws : List Jvm.Cond) (a1 : Addr) (p2 : Int32) (p3 : Int32) (q4 : Int64) (b1 : Addr) (b2 : Addr) (b3 : Addr) (k1 : ClassId) (k2 : ClassId) (k3 : ClassId) (mx : Int64) (ba : Int64) (iv : Int64) (x0 : Int32) (x1 : Int32) (y0 : Int32) (y1 : Int32) (z0 : Int64) (z1 : Int64) (h0 : Heap) (n0 : Nat) (Z0 : n0 ≤ h0.size) (E_a1 : Exa Z h0 a1 "com/example/tote/tote/storage/OffsetIndex") (F_mOffsets_a1 : Fld Z h0 a1 "com/example/tote/tote/storage/OffsetIndex" "mOffsets" "[I" (.ref b1)) (F_mPositions_a1 : Fld Z h0 a1 "com/example/tote/tote/storage/OffsetIndex" "mPositions" "[I" (.ref b2)) (F_mTimestamps_a1 : Fld Z h0 a1 "com/example/tote/tote/storage/OffsetIndex" "mTimestamps" "[J" (.ref b3)) (F_mMaxTimestamp_a1 : Fld Z h0 a1 "com/example/tote/tote/storage/OffsetIndex" "mMaxTimestamp" "J" (.long mx)) (F_mBaseOffset_a1 : Fld Z h0 a1 "com/example/tote/tote/storage/OffsetIndex" "mBaseOffset" "J" (.long ba)) (F_mIntervalBytes_a1 : Fld Z h0 a1 "com/example/tote/tote/storage/OffsetIndex" "mIntervalBytes" "J" (.long iv)) (F_mCount_a1 : Fld Z h0 a1 "com/example/tote/tote/storage/OffsetIndex" "mCount" "I" (.int (2 : Int32))) (V_b1 : Arv Z h0 b1 k1 .int (16 : Int32) [(.int x0), (.int x1), (.int (0 : Int32)), (.int (0 : Int32)), (.int (0 : Int32)), (.int (0 : Int32)), (.int (0 : Int32)), (.int (0 : Int32)), (.int (0 : Int32)), (.int (0 : Int32)), (.int (0 : Int32)), (.int (0 : Int32)), (.int (0 : Int32)), (.int (0 : Int32)), (.int (0 : Int32)), (.int (0 : Int32))] (.int (0 : Int32))) (V_b2 : Arv Z h0 b2 k2 .int (16 : Int32) [(.int y0), (.int y1), (.int (0 : Int32)), (.int (0 : Int32)), (.int (0 : Int32)), (.int (0 : Int32)), (.int (0 : Int32)), (.int (0 : Int32)), (.int (0 : Int32)), (.int (0 : Int32)), (.int (0 : Int32)), (.int (0 : Int32)), (.int (0 : Int32)), (.int (0 : Int32)), (.int (0 : Int32)), (.int (0 : Int32))] (.int (0 : Int32))) (V_b3 : Arv Z h0 b3 k3 .long (16 : Int32) [(.long z0), (.long z1), (.long (0 : Int64)), (.long (0 : Int64)), (.long (0 : Int64)), (.long (0 : Int64)), (.long (0 : Int64)), (.long (0 : Int64)), (.long (0 : Int64)), (.long (0 : Int64)), (.long (0 : Int64)), (.long (0 : Int64)), (.long (0 : Int64)), (.long (0 : Int64)), (.long (0 : Int64)), (.long (0 : Int64))] (.long (0 : Int64))) (g_a1 : n0 ≤ a1) (g_b1 : n0 ≤ b1) (g_b2 : n0 ≤ b2) (g_b3 : n0 ≤ b3) (ne_a1_b1 : a1 ≠ b1) (ne_a1_b2 : a1 ≠ b2) (ne_a1_b3 : a1 ≠ b3) (ne_b1_b2 : b1 ≠ b2) (ne_b1_b3 : b1 ≠ b3) (ne_b2_b3 : b2 ≠ b3) :
    MetFree l (⟨"com/example/tote/tote/storage/OffsetIndex", "append", "(IIJ)V"⟩ : MethodName) (head1 (Jvm.Cond.code (⟨"com/example/tote/tote/storage/OffsetIndex", "append", "(IIJ)V"⟩ : MethodName) prog_89_method_15_code 5 none :: ws) ({ frames := 0, cells := 0, slots := 0, locals := 0 } : Room)) (fun a U => a = #[(.ref a1), (.int p2), (.int p3), (.long q4)] ∧ Z.Warmed39 U.vm ∧ U.heap = h0) (fun _ _ _ _ _ => True) (fun _ U o U' => ∃ v L, o = .returned v ∧ Q7c2 Z a1 p2 p3 q4 b1 b2 b3 k1 k2 k3 mx ba iv x0 x1 y0 y1 z0 z1 h0 n0 v U'.heap L ∧ FrameEnd U o U' L ({ frames := 0, cells := 0, slots := 0, locals := 0 } : Room).cells ({ frames := 0, cells := 0, slots := 0, locals := 0 } : Room).slots) := by
  refine MetFree.of_bodySF (plainFor_of_name pn_7) hisR ?_
  intro p e s m args below meth c s₁ Bd hml0 hP hK
  obtain ⟨rfl, hZ, hh⟩ := hP
  have hx := Bd.exec
  have hby := Bd.bytes
  have hml : c.maxLocals = 5 := hml0
  have hown : s.vm.findClass "com/example/tote/tote/storage/OffsetIndex" = some m.cls := findClass_of_methodNamed Bd.named
  have hnm := (name_of_methodNamed Bd.named Bd.method).1
  have hret := Bd.returns
  have hlk : meth.locks = false := BodyLoose.notSynchronized Bd
  have X0 : Stand p l e ({ frames := 0, cells := 0, slots := 0, locals := 0 } : Room) s m #[(.ref a1), (.int p2), (.int p3), (.long q4)] below meth c s₁ [] 0 0 := Stand.of_body Bd
  have e0 : s₁.heap = h0 := by rw [← hh, Bd.state]; rfl
  have N0 := Fr.nil n0
  have W := fun (k : Nat) {d : Jvm.Cond} (h : tables_1[k]? = some d) => hw d (List.mem_of_getElem? h)
  have K0 : Keep h0 h0 [a1, b1, b2, b3] := Keep.refl _ _
  refine own_start (ef_7 m a1 p2 p3 q4) ?_
  show own_Run p e below _ s₁ (mkF m 0 #[.val (.ref a1), .val (.int p2), .val (.int p3), .val (.long q4), .second] [])
  refine own_go (fun _ k => XS.aloadN X0.here hx rfl (hb hby d7_0) rfl rfl k) ?_
  show own_Run p e below _ s₁ (mkF m 1 #[.val (.ref a1), .val (.int p2), .val (.int p3), .val (.long q4), .second] [(.ref a1)])
  obtain ⟨T89, X89, e89, st89⟩ := getF X0 hx hZ hown (host := "") (Or.inl (W 34 rfl)) Via.refl e0 F_mCount_a1 (g := (mkF m 1 #[.val (.ref a1), .val (.int p2), .val (.int p3), .val (.long q4), .second] [(.ref a1)])) rfl rfl (hb hby d7_1)
  refine own_go st89 ?_
  show own_Run p e below _ T89 (mkF m 4 #[.val (.ref a1), .val (.int p2), .val (.int p3), .val (.long q4), .second] [(.int (2 : Int32))])
  refine own_go (fun _ k => XS.aloadN X89.here hx rfl (hb hby d7_4) rfl rfl k) ?_
  show own_Run p e below _ T89 (mkF m 5 #[.val (.ref a1), .val (.int p2), .val (.int p3), .val (.long q4), .second] [(.ref a1), (.int (2 : Int32))])
  obtain ⟨T90, X90, e90, st90⟩ := getF X89 hx hZ hown (host := "") (Or.inl (W 10 rfl)) Via.refl e89 F_mOffsets_a1 (g := (mkF m 5 #[.val (.ref a1), .val (.int p2), .val (.int p3), .val (.long q4), .second] [(.ref a1), (.int (2 : Int32))])) rfl rfl (hb hby d7_5)
  refine own_go st90 ?_
  show own_Run p e below _ T90 (mkF m 8 #[.val (.ref a1), .val (.int p2), .val (.int p3), .val (.long q4), .second] [(.ref b1), (.int (2 : Int32))])
  obtain ⟨cl91, Ar91, q91, S91, N91, H91, G91⟩ := id V_b1
  refine own_go (X90.arraylength hx (by rw [e90]; exact Ar91.1) (State.isArrayOf_alike hZ.alike Ar91.2.1) (g := (mkF m 8 #[.val (.ref a1), .val (.int p2), .val (.int p3), .val (.long q4), .second] [(.ref b1), (.int (2 : Int32))])) rfl rfl (hb hby d7_8)) ?_
  rw [len_of S91 N91]
  show own_Run p e below _ T90 (mkF m 9 #[.val (.ref a1), .val (.int p2), .val (.int p3), .val (.long q4), .second] [(.int (16 : Int32)), (.int (2 : Int32))])
  refine own_go (fun _ k => XS.icmpYes X90.here hx rfl (pc0 := 9) (pc' := 63) rfl (hb hby d7_9) rfl (feq (by decide : ¬ ((2 : Int32) = (16 : Int32)))).2 (by decide) (by decide) k) ?_
  show own_Run p e below _ T90 (mkF m 63 #[.val (.ref a1), .val (.int p2), .val (.int p3), .val (.long q4), .second] [])
  refine own_go (fun _ k => XS.aloadN X90.here hx rfl (hb hby d7_63) rfl rfl k) ?_
  show own_Run p e below _ T90 (mkF m 64 #[.val (.ref a1), .val (.int p2), .val (.int p3), .val (.long q4), .second] [(.ref a1)])
  obtain ⟨T92, X92, e92, st92⟩ := getF X90 hx hZ hown (host := "") (Or.inl (W 10 rfl)) Via.refl e90 F_mOffsets_a1 (g := (mkF m 64 #[.val (.ref a1), .val (.int p2), .val (.int p3), .val (.long q4), .second] [(.ref a1)])) rfl rfl (hb hby d7_64)
  refine own_go st92 ?_
  show own_Run p e below _ T92 (mkF m 67 #[.val (.ref a1), .val (.int p2), .val (.int p3), .val (.long q4), .second] [(.ref b1)])
  refine own_go (fun _ k => XS.aloadN X92.here hx rfl (hb hby d7_67) rfl rfl k) ?_
  show own_Run p e below _ T92 (mkF m 68 #[.val (.ref a1), .val (.int p2), .val (.int p3), .val (.long q4), .second] [(.ref a1), (.ref b1)])
  obtain ⟨T93, X93, e93, st93⟩ := getF X92 hx hZ hown (host := "") (Or.inl (W 34 rfl)) Via.refl e92 F_mCount_a1 (g := (mkF m 68 #[.val (.ref a1), .val (.int p2), .val (.int p3), .val (.long q4), .second] [(.ref a1), (.ref b1)])) rfl rfl (hb hby d7_68)
  refine own_go st93 ?_
  show own_Run p e below _ T93 (mkF m 71 #[.val (.ref a1), .val (.int p2), .val (.int p3), .val (.long q4), .second] [(.int (2 : Int32)), (.ref b1)])
  refine own_go (fun _ k => XS.iloadN X93.here hx rfl (hb hby d7_71) rfl k) ?_
  show own_Run p e below _ T93 (mkF m 72 #[.val (.ref a1), .val (.int p2), .val (.int p3), .val (.long q4), .second] [(.int p2), (.int (2 : Int32)), (.ref b1)])
  obtain ⟨cl94, Ar94, q94, S94, N94, H94, G94⟩ := id V_b1
  have hin94 : ¬ ((2 : Int32) < 0 ∨ cl94.slots.size ≤ ((2 : Int32)).toNatClampNeg) := inb_of S94 ⟨by decide, by decide⟩
  obtain ⟨T95, h95, X95, e95, W95, st95⟩ := stI X93 hx hZ e93 Ar94 (j := (2 : Int32)) hin94 (g := (mkF m 72 #[.val (.ref a1), .val (.int p2), .val (.int p3), .val (.long q4), .second] [(.int p2), (.int (2 : Int32)), (.ref b1)])) rfl rfl (hb hby d7_72)
  refine own_go st95 ?_
  show own_Run p e below _ T95 (mkF m 73 #[.val (.ref a1), .val (.int p2), .val (.int p3), .val (.long q4), .second] [])
  have Z0_c96 := Nat.le_trans Z0 (Keep.of_wr W95).1
  have K0_c96 := K0.wr W95 (Or.inl (List.mem_of_getElem? (i := 1) rfl))
  have E_a1_c96 := E_a1.wr W95
  have F_mOffsets_a1_c96 := F_mOffsets_a1.other W95 (Or.inl ne_a1_b1)
  have F_mPositions_a1_c96 := F_mPositions_a1.other W95 (Or.inl ne_a1_b1)
  have F_mTimestamps_a1_c96 := F_mTimestamps_a1.other W95 (Or.inl ne_a1_b1)
  have F_mMaxTimestamp_a1_c96 := F_mMaxTimestamp_a1.other W95 (Or.inl ne_a1_b1)
  have F_mBaseOffset_a1_c96 := F_mBaseOffset_a1.other W95 (Or.inl ne_a1_b1)
  have F_mIntervalBytes_a1_c96 := F_mIntervalBytes_a1.other W95 (Or.inl ne_a1_b1)
  have F_mCount_a1_c96 := F_mCount_a1.other W95 (Or.inl ne_a1_b1)
  have V_b2_c96 := V_b2.other W95 (Ne.symm ne_b1_b2)
  have V_b3_c96 := V_b3.other W95 (Ne.symm ne_b1_b3)
  have V_b1_c95 : Arv Z h95 b1 k1 .int (16 : Int32) [(.int x0), (.int x1), (.int p2), (.int (0 : Int32)), (.int (0 : Int32)), (.int (0 : Int32)), (.int (0 : Int32)), (.int (0 : Int32)), (.int (0 : Int32)), (.int (0 : Int32)), (.int (0 : Int32)), (.int (0 : Int32)), (.int (0 : Int32)), (.int (0 : Int32)), (.int (0 : Int32)), (.int (0 : Int32))] (.int (0 : Int32)) := Arv.set Ar94 q94 S94 N94 H94 G94 rfl W95 2 rfl (Nat.le_of_ble_eq_true rfl)
  have N95 := Fr.snoc X95 N0 g_b1
  refine own_go (fun _ k => XS.aloadN X95.here hx rfl (hb hby d7_73) rfl rfl k) ?_
  show own_Run p e below _ T95 (mkF m 74 #[.val (.ref a1), .val (.int p2), .val (.int p3), .val (.long q4), .second] [(.ref a1)])
  obtain ⟨T97, X97, e97, st97⟩ := getF X95 hx hZ hown (host := "") (Or.inl (W 12 rfl)) Via.refl e95 F_mPositions_a1_c96 (g := (mkF m 74 #[.val (.ref a1), .val (.int p2), .val (.int p3), .val (.long q4), .second] [(.ref a1)])) rfl rfl (hb hby d7_74)
  refine own_go st97 ?_
  show own_Run p e below _ T97 (mkF m 77 #[.val (.ref a1), .val (.int p2), .val (.int p3), .val (.long q4), .second] [(.ref b2)])
  refine own_go (fun _ k => XS.aloadN X97.here hx rfl (hb hby d7_77) rfl rfl k) ?_
  show own_Run p e below _ T97 (mkF m 78 #[.val (.ref a1), .val (.int p2), .val (.int p3), .val (.long q4), .second] [(.ref a1), (.ref b2)])
  obtain ⟨T98, X98, e98, st98⟩ := getF X97 hx hZ hown (host := "") (Or.inl (W 34 rfl)) Via.refl e97 F_mCount_a1_c96 (g := (mkF m 78 #[.val (.ref a1), .val (.int p2), .val (.int p3), .val (.long q4), .second] [(.ref a1), (.ref b2)])) rfl rfl (hb hby d7_78)
  refine own_go st98 ?_
  show own_Run p e below _ T98 (mkF m 81 #[.val (.ref a1), .val (.int p2), .val (.int p3), .val (.long q4), .second] [(.int (2 : Int32)), (.ref b2)])
  refine own_go (fun _ k => XS.iloadN X98.here hx rfl (hb hby d7_81) rfl k) ?_
  show own_Run p e below _ T98 (mkF m 82 #[.val (.ref a1), .val (.int p2), .val (.int p3), .val (.long q4), .second] [(.int p3), (.int (2 : Int32)), (.ref b2)])
  obtain ⟨cl99, Ar99, q99, S99, N99, H99, G99⟩ := id V_b2_c96
  have hin99 : ¬ ((2 : Int32) < 0 ∨ cl99.slots.size ≤ ((2 : Int32)).toNatClampNeg) := inb_of S99 ⟨by decide, by decide⟩
  obtain ⟨T100, h100, X100, e100, W100, st100⟩ := stI X98 hx hZ e98 Ar99 (j := (2 : Int32)) hin99 (g := (mkF m 82 #[.val (.ref a1), .val (.int p2), .val (.int p3), .val (.long q4), .second] [(.int p3), (.int (2 : Int32)), (.ref b2)])) rfl rfl (hb hby d7_82)
  refine own_go st100 ?_
  show own_Run p e below _ T100 (mkF m 83 #[.val (.ref a1), .val (.int p2), .val (.int p3), .val (.long q4), .second] [])
  have Z0_c101 := Nat.le_trans Z0_c96 (Keep.of_wr W100).1
  have K0_c101 := K0_c96.wr W100 (Or.inl (List.mem_of_getElem? (i := 2) rfl))
  have E_a1_c101 := E_a1_c96.wr W100
  have F_mOffsets_a1_c101 := F_mOffsets_a1_c96.other W100 (Or.inl ne_a1_b2)
  have F_mPositions_a1_c101 := F_mPositions_a1_c96.other W100 (Or.inl ne_a1_b2)
  have F_mTimestamps_a1_c101 := F_mTimestamps_a1_c96.other W100 (Or.inl ne_a1_b2)
  have F_mMaxTimestamp_a1_c101 := F_mMaxTimestamp_a1_c96.other W100 (Or.inl ne_a1_b2)
  have F_mBaseOffset_a1_c101 := F_mBaseOffset_a1_c96.other W100 (Or.inl ne_a1_b2)
  have F_mIntervalBytes_a1_c101 := F_mIntervalBytes_a1_c96.other W100 (Or.inl ne_a1_b2)
  have F_mCount_a1_c101 := F_mCount_a1_c96.other W100 (Or.inl ne_a1_b2)
  have V_b3_c101 := V_b3_c96.other W100 (Ne.symm ne_b2_b3)
  have V_b1_c101 := V_b1_c95.other W100 ne_b1_b2
  have V_b2_c100 : Arv Z h100 b2 k2 .int (16 : Int32) [(.int y0), (.int y1), (.int p3), (.int (0 : Int32)), (.int (0 : Int32)), (.int (0 : Int32)), (.int (0 : Int32)), (.int (0 : Int32)), (.int (0 : Int32)), (.int (0 : Int32)), (.int (0 : Int32)), (.int (0 : Int32)), (.int (0 : Int32)), (.int (0 : Int32)), (.int (0 : Int32)), (.int (0 : Int32))] (.int (0 : Int32)) := Arv.set Ar99 q99 S99 N99 H99 G99 rfl W100 2 rfl (Nat.le_of_ble_eq_true rfl)
  have N100 := Fr.snoc X100 N95 g_b2
  refine own_go (fun _ k => XS.aloadN X100.here hx rfl (hb hby d7_83) rfl rfl k) ?_
  show own_Run p e below _ T100 (mkF m 84 #[.val (.ref a1), .val (.int p2), .val (.int p3), .val (.long q4), .second] [(.ref a1)])
  obtain ⟨T102, X102, e102, st102⟩ := getF X100 hx hZ hown (host := "") (Or.inl (W 15 rfl)) Via.refl e100 F_mTimestamps_a1_c101 (g := (mkF m 84 #[.val (.ref a1), .val (.int p2), .val (.int p3), .val (.long q4), .second] [(.ref a1)])) rfl rfl (hb hby d7_84)
  refine own_go st102 ?_
  show own_Run p e below _ T102 (mkF m 87 #[.val (.ref a1), .val (.int p2), .val (.int p3), .val (.long q4), .second] [(.ref b3)])
  refine own_go (fun _ k => XS.aloadN X102.here hx rfl (hb hby d7_87) rfl rfl k) ?_
  show own_Run p e below _ T102 (mkF m 88 #[.val (.ref a1), .val (.int p2), .val (.int p3), .val (.long q4), .second] [(.ref a1), (.ref b3)])
  obtain ⟨T103, X103, e103, st103⟩ := getF X102 hx hZ hown (host := "") (Or.inl (W 34 rfl)) Via.refl e102 F_mCount_a1_c101 (g := (mkF m 88 #[.val (.ref a1), .val (.int p2), .val (.int p3), .val (.long q4), .second] [(.ref a1), (.ref b3)])) rfl rfl (hb hby d7_88)
  refine own_go st103 ?_
  show own_Run p e below _ T103 (mkF m 91 #[.val (.ref a1), .val (.int p2), .val (.int p3), .val (.long q4), .second] [(.int (2 : Int32)), (.ref b3)])
  refine own_go (fun _ k => XS.lloadN X103.here hx rfl (hb hby d7_91) rfl k) ?_
  show own_Run p e below _ T103 (mkF m 92 #[.val (.ref a1), .val (.int p2), .val (.int p3), .val (.long q4), .second] [(.long q4), (.int (2 : Int32)), (.ref b3)])
  obtain ⟨cl104, Ar104, q104, S104, N104, H104, G104⟩ := id V_b3_c101
  have hin104 : ¬ ((2 : Int32) < 0 ∨ cl104.slots.size ≤ ((2 : Int32)).toNatClampNeg) := inb_of S104 ⟨by decide, by decide⟩
  obtain ⟨T105, h105, X105, e105, W105, st105⟩ := stJ X103 hx hZ e103 Ar104 (j := (2 : Int32)) hin104 (g := (mkF m 92 #[.val (.ref a1), .val (.int p2), .val (.int p3), .val (.long q4), .second] [(.long q4), (.int (2 : Int32)), (.ref b3)])) rfl rfl (hb hby d7_92)
  refine own_go st105 ?_
  show own_Run p e below _ T105 (mkF m 93 #[.val (.ref a1), .val (.int p2), .val (.int p3), .val (.long q4), .second] [])
  have Z0_c106 := Nat.le_trans Z0_c101 (Keep.of_wr W105).1
  have K0_c106 := K0_c101.wr W105 (Or.inl (List.mem_of_getElem? (i := 3) rfl))
  have E_a1_c106 := E_a1_c101.wr W105
  have F_mOffsets_a1_c106 := F_mOffsets_a1_c101.other W105 (Or.inl ne_a1_b3)
  have F_mPositions_a1_c106 := F_mPositions_a1_c101.other W105 (Or.inl ne_a1_b3)
  have F_mTimestamps_a1_c106 := F_mTimestamps_a1_c101.other W105 (Or.inl ne_a1_b3)
  have F_mMaxTimestamp_a1_c106 := F_mMaxTimestamp_a1_c101.other W105 (Or.inl ne_a1_b3)
  have F_mBaseOffset_a1_c106 := F_mBaseOffset_a1_c101.other W105 (Or.inl ne_a1_b3)
  have F_mIntervalBytes_a1_c106 := F_mIntervalBytes_a1_c101.other W105 (Or.inl ne_a1_b3)
  have F_mCount_a1_c106 := F_mCount_a1_c101.other W105 (Or.inl ne_a1_b3)
  have V_b1_c106 := V_b1_c101.other W105 ne_b1_b3
  have V_b2_c106 := V_b2_c100.other W105 ne_b2_b3
  have V_b3_c105 : Arv Z h105 b3 k3 .long (16 : Int32) [(.long z0), (.long z1), (.long q4), (.long (0 : Int64)), (.long (0 : Int64)), (.long (0 : Int64)), (.long (0 : Int64)), (.long (0 : Int64)), (.long (0 : Int64)), (.long (0 : Int64)), (.long (0 : Int64)), (.long (0 : Int64)), (.long (0 : Int64)), (.long (0 : Int64)), (.long (0 : Int64)), (.long (0 : Int64))] (.long (0 : Int64)) := Arv.set Ar104 q104 S104 N104 H104 G104 rfl W105 2 rfl (Nat.le_of_ble_eq_true rfl)
  have N105 := Fr.snoc X105 N100 g_b3
  refine own_go (fun _ k => XS.aloadN X105.here hx rfl (hb hby d7_93) rfl rfl k) ?_
  refine own_go (fun _ k => XS.dup X105.here hx rfl (hb hby d7_94) rfl rfl k) ?_
  show own_Run p e below _ T105 (mkF m 95 #[.val (.ref a1), .val (.int p2), .val (.int p3), .val (.long q4), .second] [(.ref a1), (.ref a1)])
  obtain ⟨T107, X107, e107, st107⟩ := getF X105 hx hZ hown (host := "") (Or.inl (W 34 rfl)) Via.refl e105 F_mCount_a1_c106 (g := (mkF m 95 #[.val (.ref a1), .val (.int p2), .val (.int p3), .val (.long q4), .second] [(.ref a1), (.ref a1)])) rfl rfl (hb hby d7_95)
  refine own_go st107 ?_
  show own_Run p e below _ T107 (mkF m 98 #[.val (.ref a1), .val (.int p2), .val (.int p3), .val (.long q4), .second] [(.int (2 : Int32)), (.ref a1)])
  refine own_go (fun _ k => XS.iconst X107.here hx rfl (hb hby d7_98) k) ?_
  refine own_go (fun _ k => XS.iadd X107.here hx rfl (hb hby d7_99) rfl k) ?_
  show own_Run p e below _ T107 (mkF m 100 #[.val (.ref a1), .val (.int p2), .val (.int p3), .val (.long q4), .second] [(.int ((2 : Int32) + (1 : Int32))), (.ref a1)])
  rw [show ((2 : Int32) + (1 : Int32)) = (3 : Int32) by decide]
  show own_Run p e below _ T107 (mkF m 100 #[.val (.ref a1), .val (.int p2), .val (.int p3), .val (.long q4), .second] [(.int (3 : Int32)), (.ref a1)])
  obtain ⟨T108, h108, X108, e108, W108, st108⟩ := putF X107 hx hZ hown (host := "") (Or.inl (W 34 rfl)) Via.refl e107 F_mCount_a1_c106 E_a1_c106 (Or.inl (W 35 rfl)) (W 1 rfl) (ty := .int) (by decide) rfl rfl (g := (mkF m 100 #[.val (.ref a1), .val (.int p2), .val (.int p3), .val (.long q4), .second] [(.int (3 : Int32)), (.ref a1)])) rfl rfl (hb hby d7_100)
  refine own_go st108 ?_
  show own_Run p e below _ T108 (mkF m 103 #[.val (.ref a1), .val (.int p2), .val (.int p3), .val (.long q4), .second] [])
  have Z0_c109 := Nat.le_trans Z0_c106 (Keep.of_wr W108).1
  have K0_c109 := K0_c106.wr W108 (Or.inl (List.mem_of_getElem? (i := 0) rfl))
  have E_a1_c109 := E_a1_c106.wr W108
  have F_mOffsets_a1_c109 := F_mOffsets_a1_c106.other W108 (Or.inr (slot_ne (Or.inl (W 11 rfl)) (Or.inl (W 35 rfl)) (by decide) (t := (.array .int)) (t' := .int) (by decide) (by decide)))
  have F_mPositions_a1_c109 := F_mPositions_a1_c106.other W108 (Or.inr (slot_ne (Or.inl (W 13 rfl)) (Or.inl (W 35 rfl)) (by decide) (t := (.array .int)) (t' := .int) (by decide) (by decide)))
  have F_mTimestamps_a1_c109 := F_mTimestamps_a1_c106.other W108 (Or.inr (slot_ne (Or.inl (W 16 rfl)) (Or.inl (W 35 rfl)) (by decide) (t := (.array .long)) (t' := .int) (by decide) (by decide)))
  have F_mMaxTimestamp_a1_c109 := F_mMaxTimestamp_a1_c106.other W108 (Or.inr (slot_ne (Or.inl (W 19 rfl)) (Or.inl (W 35 rfl)) (by decide) (t := .long) (t' := .int) (by decide) (by decide)))
  have F_mBaseOffset_a1_c109 := F_mBaseOffset_a1_c106.other W108 (Or.inr (slot_ne (Or.inr (W 21 rfl)) (Or.inl (W 35 rfl)) (by decide) (t := .long) (t' := .int) (by decide) (by decide)))
  have F_mIntervalBytes_a1_c109 := F_mIntervalBytes_a1_c106.other W108 (Or.inr (slot_ne (Or.inr (W 23 rfl)) (Or.inl (W 35 rfl)) (by decide) (t := .long) (t' := .int) (by decide) (by decide)))
  have V_b1_c109 := V_b1_c106.other W108 (Ne.symm ne_a1_b1)
  have V_b2_c109 := V_b2_c106.other W108 (Ne.symm ne_a1_b2)
  have V_b3_c109 := V_b3_c105.other W108 (Ne.symm ne_a1_b3)
  have F_mCount_a1_c108 : Fld Z h108 a1 "com/example/tote/tote/storage/OffsetIndex" "mCount" "I" (.int (3 : Int32)) := F_mCount_a1_c106.same W108
  have N108 := Fr.snoc X108 N105 g_a1
  refine own_done (Q := fun v h L => Q7c2 Z a1 p2 p3 q4 b1 b2 b3 k1 k2 k3 mx ba iv x0 x1 y0 y1 z0 z1 h0 n0 v h L) (v := none) X108 (fun _ => rfl) hlk (fun fs hr => X108.returnOut hx hret (hb hby d7_103) hr) ?_ (by decide) (by decide)
  show Q7c2 Z a1 p2 p3 q4 b1 b2 b3 k1 k2 k3 mx ba iv x0 x1 y0 y1 z0 z1 h0 n0 _ T108.heap _
  rw [e108]
  exact ⟨rfl, N108, K0_c109, E_a1_c109, F_mOffsets_a1_c109, F_mPositions_a1_c109, F_mTimestamps_a1_c109, F_mMaxTimestamp_a1_c109, F_mBaseOffset_a1_c109, F_mIntervalBytes_a1_c109, F_mCount_a1_c108, V_b1_c109, V_b2_c109, V_b3_c109⟩
def Q5c2 (Z : State) (a1 : Addr) (q2 : Int64) (q3 : Int64) (q4 : Int64) (b1 : Addr) (b2 : Addr) (b3 : Addr) (k1 : ClassId) (k2 : ClassId) (k3 : ClassId) (mx : Int64) (ba : Int64) (iv : Int64) (x0 : Int32) (x1 : Int32) (y0 : Int32) (y1 : Int32) (z0 : Int64) (z1 : Int64) (h0 : Heap) (n0 : Nat) (v : Option Value) (h : Heap) (L : List Loc) : Prop := v = none ∧ Fr n0 L ∧ Keep h0 h [a1, b1, b2, b3] ∧ Exa Z h a1 "com/example/tote/tote/storage/OffsetIndex" ∧ Fld Z h a1 "com/example/tote/tote/storage/OffsetIndex" "mOffsets" "[I" (.ref b1) ∧ Fld Z h a1 "com/example/tote/tote/storage/OffsetIndex" "mPositions" "[I" (.ref b2) ∧ Fld Z h a1 "com/example/tote/tote/storage/OffsetIndex" "mTimestamps" "[J" (.ref b3) ∧ Fld Z h a1 "com/example/tote/tote/storage/OffsetIndex" "mMaxTimestamp" "J" (.long (own_max mx q4)) ∧ Fld Z h a1 "com/example/tote/tote/storage/OffsetIndex" "mBaseOffset" "J" (.long ba) ∧ Fld Z h a1 "com/example/tote/tote/storage/OffsetIndex" "mIntervalBytes" "J" (.long iv) ∧ Fld Z h a1 "com/example/tote/tote/storage/OffsetIndex" "mCount" "I" (.int (3 : Int32)) ∧ Arv Z h b1 k1 .int (16 : Int32) [(.int x0), (.int x1), (.int ((q2 - ba).toInt32)), (.int (0 : Int32)), (.int (0 : Int32)), (.int (0 : Int32)), (.int (0 : Int32)), (.int (0 : Int32)), (.int (0 : Int32)), (.int (0 : Int32)), (.int (0 : Int32)), (.int (0 : Int32)), (.int (0 : Int32)), (.int (0 : Int32)), (.int (0 : Int32)), (.int (0 : Int32))] (.int (0 : Int32)) ∧ Arv Z h b2 k2 .int (16 : Int32) [(.int y0), (.int y1), (.int (q3.toInt32)), (.int (0 : Int32)), (.int (0 : Int32)), (.int (0 : Int32)), (.int (0 : Int32)), (.int (0 : Int32)), (.int (0 : Int32)), (.int (0 : Int32)), (.int (0 : Int32)), (.int (0 : Int32)), (.int (0 : Int32)), (.int (0 : Int32)), (.int (0 : Int32)), (.int (0 : Int32))] (.int (0 : Int32)) ∧ Arv Z h b3 k3 .long (16 : Int32) [(.long z0), (.long z1), (.long mx), (.long (0 : Int64)), (.long (0 : Int64)), (.long (0 : Int64)), (.long (0 : Int64)), (.long (0 : Int64)), (.long (0 : Int64)), (.long (0 : Int64)), (.long (0 : Int64)), (.long (0 : Int64)), (.long (0 : Int64)), (.long (0 : Int64)), (.long (0 : Int64)), (.long (0 : Int64))] (.long (0 : Int64))
set_option maxRecDepth 65536 in
set_option maxHeartbeats 40000000 in
theorem rm5c2 (l : Launch) (Z : State) (a0 : Array Value) (hw : ∀ d ∈ tables_1, d.before a0 Z = true) (ws : List Jvm.Cond) (a1 : Addr) (q2 : Int64) (q3 : Int64) (q4 : Int64) (b1 : Addr) (b2 : Addr) (b3 : Addr) (k1 : ClassId) (k2 : ClassId) (k3 : ClassId) (mx : Int64) (ba : Int64) (iv : Int64) (x0 : Int32) (x1 : Int32) (y0 : Int32) (y1 : Int32) (z0 : Int64) (z1 : Int64) (h0 : Heap) (n0 : Nat) (Z0 : n0 ≤ h0.size) (E_a1 : Exa Z h0 a1 "com/example/tote/tote/storage/OffsetIndex") (F_mOffsets_a1 : Fld Z h0 a1 "com/example/tote/tote/storage/OffsetIndex" "mOffsets" "[I" (.ref b1)) (F_mPositions_a1 : Fld Z h0 a1 "com/example/tote/tote/storage/OffsetIndex" "mPositions" "[I" (.ref b2)) (F_mTimestamps_a1 : Fld Z h0 a1 "com/example/tote/tote/storage/OffsetIndex" "mTimestamps" "[J" (.ref b3)) (F_mMaxTimestamp_a1 : Fld Z h0 a1 "com/example/tote/tote/storage/OffsetIndex" "mMaxTimestamp" "J" (.long mx)) (F_mBaseOffset_a1 : Fld Z h0 a1 "com/example/tote/tote/storage/OffsetIndex" "mBaseOffset" "J" (.long ba)) (F_mIntervalBytes_a1 : Fld Z h0 a1 "com/example/tote/tote/storage/OffsetIndex" "mIntervalBytes" "J" (.long iv)) (F_mCount_a1 : Fld Z h0 a1 "com/example/tote/tote/storage/OffsetIndex" "mCount" "I" (.int (2 : Int32))) (V_b1 : Arv Z h0 b1 k1 .int (16 : Int32) [(.int x0), (.int x1), (.int (0 : Int32)), (.int (0 : Int32)), (.int (0 : Int32)), (.int (0 : Int32)), (.int (0 : Int32)), (.int (0 : Int32)), (.int (0 : Int32)), (.int (0 : Int32)), (.int (0 : Int32)), (.int (0 : Int32)), (.int (0 : Int32)), (.int (0 : Int32)), (.int (0 : Int32)), (.int (0 : Int32))] (.int (0 : Int32))) (V_b2 : Arv Z h0 b2 k2 .int (16 : Int32) [(.int y0), (.int y1), (.int (0 : Int32)), (.int (0 : Int32)), (.int (0 : Int32)), (.int (0 : Int32)), (.int (0 : Int32)), (.int (0 : Int32)), (.int (0 : Int32)), (.int (0 : Int32)), (.int (0 : Int32)), (.int (0 : Int32)), (.int (0 : Int32)), (.int (0 : Int32)), (.int (0 : Int32)), (.int (0 : Int32))] (.int (0 : Int32))) (V_b3 : Arv Z h0 b3 k3 .long (16 : Int32) [(.long z0), (.long z1), (.long (0 : Int64)), (.long (0 : Int64)), (.long (0 : Int64)), (.long (0 : Int64)), (.long (0 : Int64)), (.long (0 : Int64)), (.long (0 : Int64)), (.long (0 : Int64)), (.long (0 : Int64)), (.long (0 : Int64)), (.long (0 : Int64)), (.long (0 : Int64)), (.long (0 : Int64)), (.long (0 : Int64))] (.long (0 : Int64))) (g_a1 : n0 ≤ a1) (g_b1 : n0 ≤ b1) (g_b2 : n0 ≤ b2) (g_b3 : n0 ≤ b3) (ne_a1_b1 : a1 ≠ b1) (ne_a1_b2 : a1 ≠ b2) (ne_a1_b3 : a1 ≠ b3) (ne_b1_b2 : b1 ≠ b2) (ne_b1_b3 : b1 ≠ b3) (ne_b2_b3 : b2 ≠ b3) (ho : (((q2 - ba).toInt32).toInt64) = (q2 - ba)) (hq : ((q3.toInt32).toInt64) = q3) (hgt : iv < (q3 - (y1.toInt64))) :
    MetFree l (⟨"com/example/tote/tote/storage/OffsetIndex", "add", "(JJJ)V"⟩ : MethodName) (head1 (Jvm.Cond.code (⟨"com/example/tote/tote/storage/OffsetIndex", "add", "(JJJ)V"⟩ : MethodName) prog_89_method_2_code 7 none :: ws) ({ frames := 1, cells := 0, slots := 0, locals := 17 } : Room)) (fun a U => a = #[(.ref a1), (.long q2), (.long q3), (.long q4)] ∧ Z.Warmed39 U.vm ∧ U.heap = h0) (fun _ _ _ _ _ => True) (fun _ U o U' => ∃ v L, o = .returned v ∧ Q5c2 Z a1 q2 q3 q4 b1 b2 b3 k1 k2 k3 mx ba iv x0 x1 y0 y1 z0 z1 h0 n0 v U'.heap L ∧ FrameEnd U o U' L ({ frames := 1, cells := 0, slots := 0, locals := 17 } : Room).cells ({ frames := 1, cells := 0, slots := 0, locals := 17 } : Room).slots) := by
  refine MetFree.of_bodySF (plainFor_of_name pn_5) hisR ?_
  intro p e s m args below meth c s₁ Bd hml0 hP hK
  obtain ⟨rfl, hZ, hh⟩ := hP
  have hx := Bd.exec
  have hby := Bd.bytes
  have hml : c.maxLocals = 7 := hml0
  have hown : s.vm.findClass "com/example/tote/tote/storage/OffsetIndex" = some m.cls := findClass_of_methodNamed Bd.named
  have hnm := (name_of_methodNamed Bd.named Bd.method).1
  have hret := Bd.returns
  have hlk : meth.locks = false := BodyLoose.notSynchronized Bd
  have X0 : Stand p l e ({ frames := 1, cells := 0, slots := 0, locals := 17 } : Room) s m #[(.ref a1), (.long q2), (.long q3), (.long q4)] below meth c s₁ [] 0 0 := Stand.of_body Bd
  have e0 : s₁.heap = h0 := by rw [← hh, Bd.state]; rfl
  have N0 := Fr.nil n0
  have W := fun (k : Nat) {d : Jvm.Cond} (h : tables_1[k]? = some d) => hw d (List.mem_of_getElem? h)
  have K0 : Keep h0 h0 [a1, b1, b2, b3] := Keep.refl _ _
  refine own_start (ef_5 m a1 q2 q3 q4) ?_
  show own_Run p e below _ s₁ (mkF m 0 #[.val (.ref a1), .val (.long q2), .second, .val (.long q3), .second, .val (.long q4), .second] [])
  refine own_go (fun _ k => XS.aloadN X0.here hx rfl (hb hby d5_0) rfl rfl k) ?_
  show own_Run p e below _ s₁ (mkF m 1 #[.val (.ref a1), .val (.long q2), .second, .val (.long q3), .second, .val (.long q4), .second] [(.ref a1)])
  obtain ⟨T110, X110, e110, st110⟩ := getF X0 hx hZ hown (host := "") (Or.inl (W 34 rfl)) Via.refl e0 F_mCount_a1 (g := (mkF m 1 #[.val (.ref a1), .val (.long q2), .second, .val (.long q3), .second, .val (.long q4), .second] [(.ref a1)])) rfl rfl (hb hby d5_1)
  refine own_go st110 ?_
  show own_Run p e below _ T110 (mkF m 4 #[.val (.ref a1), .val (.long q2), .second, .val (.long q3), .second, .val (.long q4), .second] [(.int (2 : Int32))])
  refine own_go (fun _ k => XS.ifNo X110.here hx rfl (hb hby d5_4) rfl ((if0 _ _).trans (feq (by decide : ¬ ((2 : Int32) = (0 : Int32)))).1) k) ?_
  show own_Run p e below _ T110 (mkF m 7 #[.val (.ref a1), .val (.long q2), .second, .val (.long q3), .second, .val (.long q4), .second] [])
  refine own_go (fun _ k => XS.lloadN X110.here hx rfl (hb hby d5_7) rfl k) ?_
  refine own_go (fun _ k => XS.aloadN X110.here hx rfl (hb hby d5_8) rfl rfl k) ?_
  show own_Run p e below _ T110 (mkF m 9 #[.val (.ref a1), .val (.long q2), .second, .val (.long q3), .second, .val (.long q4), .second] [(.ref a1), (.long q3)])
  obtain ⟨T111, X111, e111, st111⟩ := getF X110 hx hZ hown (host := "") (Or.inl (W 12 rfl)) Via.refl e110 F_mPositions_a1 (g := (mkF m 9 #[.val (.ref a1), .val (.long q2), .second, .val (.long q3), .second, .val (.long q4), .second] [(.ref a1), (.long q3)])) rfl rfl (hb hby d5_9)
  refine own_go st111 ?_
  show own_Run p e below _ T111 (mkF m 12 #[.val (.ref a1), .val (.long q2), .second, .val (.long q3), .second, .val (.long q4), .second] [(.ref b2), (.long q3)])
  refine own_go (fun _ k => XS.aloadN X111.here hx rfl (hb hby d5_12) rfl rfl k) ?_
  show own_Run p e below _ T111 (mkF m 13 #[.val (.ref a1), .val (.long q2), .second, .val (.long q3), .second, .val (.long q4), .second] [(.ref a1), (.ref b2), (.long q3)])
  obtain ⟨T112, X112, e112, st112⟩ := getF X111 hx hZ hown (host := "") (Or.inl (W 34 rfl)) Via.refl e111 F_mCount_a1 (g := (mkF m 13 #[.val (.ref a1), .val (.long q2), .second, .val (.long q3), .second, .val (.long q4), .second] [(.ref a1), (.ref b2), (.long q3)])) rfl rfl (hb hby d5_13)
  refine own_go st112 ?_
  show own_Run p e below _ T112 (mkF m 16 #[.val (.ref a1), .val (.long q2), .second, .val (.long q3), .second, .val (.long q4), .second] [(.int (2 : Int32)), (.ref b2), (.long q3)])
  refine own_go (fun _ k => XS.iconst X112.here hx rfl (hb hby d5_16) k) ?_
  refine own_go (fun _ k => XS.isub X112.here hx rfl (hb hby d5_17) rfl k) ?_
  show own_Run p e below _ T112 (mkF m 18 #[.val (.ref a1), .val (.long q2), .second, .val (.long q3), .second, .val (.long q4), .second] [(.int ((2 : Int32) - (1 : Int32))), (.ref b2), (.long q3)])
  rw [show ((2 : Int32) - (1 : Int32)) = (1 : Int32) by decide]
  show own_Run p e below _ T112 (mkF m 18 #[.val (.ref a1), .val (.long q2), .second, .val (.long q3), .second, .val (.long q4), .second] [(.int (1 : Int32)), (.ref b2), (.long q3)])
  obtain ⟨cl113, Ar113, q113, S113, N113, H113, G113⟩ := id V_b2
  have hin113 : ¬ ((1 : Int32) < 0 ∨ cl113.slots.size ≤ ((1 : Int32)).toNatClampNeg) := inb_of S113 ⟨by decide, by decide⟩
  refine own_go (X112.iaload hx (j := (1 : Int32)) (v := (.int y1)) (by rw [e112]; exact Ar113.1) (State.isArrayOf_alike hZ.alike Ar113.2.1) Ar113.2.2 hin113 (H113.at hin113 rfl) (g := (mkF m 18 #[.val (.ref a1), .val (.long q2), .second, .val (.long q3), .second, .val (.long q4), .second] [(.int (1 : Int32)), (.ref b2), (.long q3)])) rfl rfl (hb hby d5_18)) ?_
  show own_Run p e below _ T112 (mkF m 19 #[.val (.ref a1), .val (.long q2), .second, .val (.long q3), .second, .val (.long q4), .second] [(.int y1), (.long q3)])
  refine own_go (fun _ k => XS.i2l X112.here hx rfl (hb hby d5_19) rfl k) ?_
  refine own_go (fun _ k => XS.lsub X112.here hx rfl (hb hby d5_20) rfl k) ?_
  refine own_go (fun _ k => XS.aloadN X112.here hx rfl (hb hby d5_21) rfl rfl k) ?_
  show own_Run p e below _ T112 (mkF m 22 #[.val (.ref a1), .val (.long q2), .second, .val (.long q3), .second, .val (.long q4), .second] [(.ref a1), (.long (q3 - (y1.toInt64)))])
  obtain ⟨T114, X114, e114, st114⟩ := getF X112 hx hZ hown (host := "") (Or.inl (W 22 rfl)) Via.refl e112 F_mIntervalBytes_a1 (g := (mkF m 22 #[.val (.ref a1), .val (.long q2), .second, .val (.long q3), .second, .val (.long q4), .second] [(.ref a1), (.long (q3 - (y1.toInt64)))])) rfl rfl (hb hby d5_22)
  refine own_go st114 ?_
  show own_Run p e below _ T114 (mkF m 25 #[.val (.ref a1), .val (.long q2), .second, .val (.long q3), .second, .val (.long q4), .second] [(.long iv), (.long (q3 - (y1.toInt64)))])
  refine own_go (fun _ k => XS.lcmp X114.here hx rfl (hb hby d5_25) rfl k) ?_
  show own_Run p e below _ T114 (mkF m 26 #[.val (.ref a1), .val (.long q2), .second, .val (.long q3), .second, .val (.long q4), .second] [(.int (lcmpW (q3 - (y1.toInt64)) iv))])
  refine own_go (fun _ k => XS.ifNo X114.here hx rfl (hb hby d5_26) rfl (own_lcT hgt).2.2.2 k) ?_
  show own_Run p e below _ T114 (mkF m 29 #[.val (.ref a1), .val (.long q2), .second, .val (.long q3), .second, .val (.long q4), .second] [])
  refine own_go (fun _ k => XS.aloadN X114.here hx rfl (hb hby d5_29) rfl rfl k) ?_
  refine own_go (fun _ k => XS.lloadN X114.here hx rfl (hb hby d5_30) rfl k) ?_
  refine own_go (fun _ k => XS.aloadN X114.here hx rfl (hb hby d5_31) rfl rfl k) ?_
  show own_Run p e below _ T114 (mkF m 32 #[.val (.ref a1), .val (.long q2), .second, .val (.long q3), .second, .val (.long q4), .second] [(.ref a1), (.long q2), (.ref a1)])
  obtain ⟨T115, X115, e115, st115⟩ := getF X114 hx hZ hown (host := "") (Or.inl (W 20 rfl)) Via.refl e114 F_mBaseOffset_a1 (g := (mkF m 32 #[.val (.ref a1), .val (.long q2), .second, .val (.long q3), .second, .val (.long q4), .second] [(.ref a1), (.long q2), (.ref a1)])) rfl rfl (hb hby d5_32)
  refine own_go st115 ?_
  show own_Run p e below _ T115 (mkF m 35 #[.val (.ref a1), .val (.long q2), .second, .val (.long q3), .second, .val (.long q4), .second] [(.long ba), (.long q2), (.ref a1)])
  refine own_go (fun _ k => XS.lsub X115.here hx rfl (hb hby d5_35) rfl k) ?_
  show own_Run p e below _ T115 (mkF m 36 #[.val (.ref a1), .val (.long q2), .second, .val (.long q3), .second, .val (.long q4), .second] [(.long (q2 - ba)), (.ref a1)])
  obtain ⟨_, _, ⟨T116, L116, k116, n116⟩, -, X116, ⟨Lc116, hQ116, l116, y116, z116⟩, st116⟩ := Jvm.LawKit.callS X115 hx (y := (⟨"java/lang/Math", "toIntExact", "(J)I"⟩ : MethodName)) hown (mvT hZ (W 41 rfl)) (mvT hZ (W 42 rfl)) (mvT hZ (W 27 rfl)) (mvT hZ (W 43 rfl)) (by decide) (backOf (W := 1) (rm6 l Z a0 hw [] (q2 - ba) h0 n0 Z0 (ho)) hZ (W 43 rfl) (W 27 rfl) (by decide) (by decide)) (g := (mkF m 36 #[.val (.ref a1), .val (.long q2), .second, .val (.long q3), .second, .val (.long q4), .second] [(.long (q2 - ba)), (.ref a1)])) rfl (by rw [hml]; rfl) (argsL := [(.long (q2 - ba))]) (rest := [(.ref a1)]) (lenOf pd_1 rfl) rfl (by show 2 * 0 + _ ≤ _; exact Nat.le_of_eq rfl) (hb hby d5_36) (fun _ _ => ⟨rfl, e115, (by decide : 0 + 0 ≤ _), (by decide : 0 + 0 ≤ _)⟩)
  dsimp only [Pt.U, Pt.locs, Pt.cells, Pt.slots] at X116 l116 y116 z116 st116 hQ116
  subst l116 y116 z116
  obtain ⟨rfl, N116q, e116⟩ := hQ116
  have N116 := Fr.app N0 N116q
  refine own_go st116 ?_
  show own_Run p e below _ T116 (mkF m 39 #[.val (.ref a1), .val (.long q2), .second, .val (.long q3), .second, .val (.long q4), .second] [(.int ((q2 - ba).toInt32)), (.ref a1)])
  refine own_go (fun _ k => XS.lloadN X116.here hx rfl (hb hby d5_39) rfl k) ?_
  show own_Run p e below _ T116 (mkF m 40 #[.val (.ref a1), .val (.long q2), .second, .val (.long q3), .second, .val (.long q4), .second] [(.long q3), (.int ((q2 - ba).toInt32)), (.ref a1)])
  obtain ⟨_, _, ⟨T117, L117, k117, n117⟩, -, X117, ⟨Lc117, hQ117, l117, y117, z117⟩, st117⟩ := Jvm.LawKit.callS X116 hx (y := (⟨"java/lang/Math", "toIntExact", "(J)I"⟩ : MethodName)) hown (mvT hZ (W 41 rfl)) (mvT hZ (W 42 rfl)) (mvT hZ (W 27 rfl)) (mvT hZ (W 43 rfl)) (by decide) (backOf (W := 2) (rm6 l Z a0 hw [] q3 h0 n0 Z0 (hq)) hZ (W 43 rfl) (W 27 rfl) (by decide) (by decide)) (g := (mkF m 40 #[.val (.ref a1), .val (.long q2), .second, .val (.long q3), .second, .val (.long q4), .second] [(.long q3), (.int ((q2 - ba).toInt32)), (.ref a1)])) rfl (by rw [hml]; rfl) (argsL := [(.long q3)]) (rest := [(.int ((q2 - ba).toInt32)), (.ref a1)]) (lenOf pd_1 rfl) rfl (by show 2 * 0 + _ ≤ _; exact Nat.le_of_eq rfl) (hb hby d5_40) (fun _ _ => ⟨rfl, e116, (by decide : 0 + 0 ≤ _), (by decide : 0 + 0 ≤ _)⟩)
  dsimp only [Pt.U, Pt.locs, Pt.cells, Pt.slots] at X117 l117 y117 z117 st117 hQ117
  subst l117 y117 z117
  obtain ⟨rfl, N117q, e117⟩ := hQ117
  have N117 := Fr.app N116 N117q
  refine own_go st117 ?_
  show own_Run p e below _ T117 (mkF m 43 #[.val (.ref a1), .val (.long q2), .second, .val (.long q3), .second, .val (.long q4), .second] [(.int (q3.toInt32)), (.int ((q2 - ba).toInt32)), (.ref a1)])
  refine own_go (fun _ k => XS.aloadN X117.here hx rfl (hb hby d5_43) rfl rfl k) ?_
  show own_Run p e below _ T117 (mkF m 44 #[.val (.ref a1), .val (.long q2), .second, .val (.long q3), .second, .val (.long q4), .second] [(.ref a1), (.int (q3.toInt32)), (.int ((q2 - ba).toInt32)), (.ref a1)])
  obtain ⟨T118, X118, e118, st118⟩ := getF X117 hx hZ hown (host := "") (Or.inl (W 18 rfl)) Via.refl e117 F_mMaxTimestamp_a1 (g := (mkF m 44 #[.val (.ref a1), .val (.long q2), .second, .val (.long q3), .second, .val (.long q4), .second] [(.ref a1), (.int (q3.toInt32)), (.int ((q2 - ba).toInt32)), (.ref a1)])) rfl rfl (hb hby d5_44)
  refine own_go st118 ?_
  show own_Run p e below _ T118 (mkF m 47 #[.val (.ref a1), .val (.long q2), .second, .val (.long q3), .second, .val (.long q4), .second] [(.long mx), (.int (q3.toInt32)), (.int ((q2 - ba).toInt32)), (.ref a1)])
  obtain ⟨cq119, q119, q119'⟩ := E_a1.cell
  obtain ⟨_, _, ⟨T119, L119, k119, n119⟩, -, X119, ⟨Lc119, hQ119, l119, y119, z119⟩, st119⟩ := X118.privateBack hx (y := (⟨"com/example/tote/tote/storage/OffsetIndex", "append", "(IIJ)V"⟩ : MethodName)) hown (mvT hZ (W 44 rfl)) (mvT hZ (W 45 rfl)) (own_selP (args := #[]) (y := (⟨"com/example/tote/tote/storage/OffsetIndex", "append", "(IIJ)V"⟩ : MethodName)) (mvT hZ (W 32 rfl)) rfl (Cond.privateMethod_at (mvP hZ (W 46 rfl) (args := #[]))) (mvT hZ (W 45 rfl)) (by decide)) (Cond.privateMethod_at (mvP hZ (W 46 rfl) (args := #[]))) (mvT hZ (W 47 rfl)) (by decide) (backOf (W := 0) (rm7c2 l Z a0 hw [] a1 ((q2 - ba).toInt32) (q3.toInt32) mx b1 b2 b3 k1 k2 k3 mx ba iv x0 x1 y0 y1 z0 z1 h0 n0 Z0 E_a1 F_mOffsets_a1 F_mPositions_a1 F_mTimestamps_a1 F_mMaxTimestamp_a1 F_mBaseOffset_a1 F_mIntervalBytes_a1 F_mCount_a1 V_b1 V_b2 V_b3 g_a1 g_b1 g_b2 g_b3 ne_a1_b1 ne_a1_b2 ne_a1_b3 ne_b1_b2 ne_b1_b3 ne_b2_b3) hZ (W 47 rfl) (W 2 rfl) (by decide) (by decide)) (g := (mkF m 47 #[.val (.ref a1), .val (.long q2), .second, .val (.long q3), .second, .val (.long q4), .second] [(.long mx), (.int (q3.toInt32)), (.int ((q2 - ba).toInt32)), (.ref a1)])) rfl (by rw [hml]; rfl) (Steps.refl _) (a := a1) (by rw [e118]; exact q119) q119' (argsL := [(.int ((q2 - ba).toInt32)), (.int (q3.toInt32)), (.long mx)]) (rest := []) (lenOf pd_2 rfl) rfl (by show 2 * 0 + _ ≤ _; exact Nat.le_of_eq rfl) (hb hby d5_47) (fun _ _ => ⟨rfl, e118, (by decide : 0 + 0 ≤ _), (by decide : 0 + 0 ≤ _)⟩)
  dsimp only [Pt.U, Pt.locs, Pt.cells, Pt.slots] at X119 l119 y119 z119 st119 hQ119
  subst l119 y119 z119
  obtain ⟨rfl, N119q, K119, P119_0, P119_1, P119_2, P119_3, P119_4, P119_5, P119_6, P119_7, P119_8, P119_9, P119_10⟩ := hQ119
  have N119 := Fr.app N117 N119q
  refine own_goT st119 ?_
  show own_Run p e below _ T119 (mkF m 50 #[.val (.ref a1), .val (.long q2), .second, .val (.long q3), .second, .val (.long q4), .second] [])
  have Z0_c120 := Nat.le_trans Z0 K119.1
  have K0_c120 := K0.trans K119 (allS (Or.inl (List.mem_of_getElem? (i := 0) rfl)) (allS (Or.inl (List.mem_of_getElem? (i := 1) rfl)) (allS (Or.inl (List.mem_of_getElem? (i := 2) rfl)) (allS (Or.inl (List.mem_of_getElem? (i := 3) rfl)) all0))))
  have E_a1_c120 := E_a1.keep K119
  refine own_go (fun _ k => XS.aloadN X119.here hx rfl (hb hby d5_50) rfl rfl k) ?_
  refine own_go (fun _ k => XS.aloadN X119.here hx rfl (hb hby d5_51) rfl rfl k) ?_
  show own_Run p e below _ T119 (mkF m 52 #[.val (.ref a1), .val (.long q2), .second, .val (.long q3), .second, .val (.long q4), .second] [(.ref a1), (.ref a1)])
  obtain ⟨T121, X121, e121, st121⟩ := getF X119 hx hZ hown (host := "") (Or.inl (W 18 rfl)) Via.refl rfl P119_4 (g := (mkF m 52 #[.val (.ref a1), .val (.long q2), .second, .val (.long q3), .second, .val (.long q4), .second] [(.ref a1), (.ref a1)])) rfl rfl (hb hby d5_52)
  refine own_go st121 ?_
  show own_Run p e below _ T121 (mkF m 55 #[.val (.ref a1), .val (.long q2), .second, .val (.long q3), .second, .val (.long q4), .second] [(.long mx), (.ref a1)])
  refine own_go (fun _ k => XS.lload X121.here hx rfl (hb hby d5_55) rfl k) ?_
  show own_Run p e below _ T121 (mkF m 57 #[.val (.ref a1), .val (.long q2), .second, .val (.long q3), .second, .val (.long q4), .second] [(.long q4), (.long mx), (.ref a1)])
  obtain ⟨_, _, ⟨T122, L122, k122, n122⟩, -, X122, ⟨Lc122, hQ122, l122, y122, z122⟩, st122⟩ := Jvm.LawKit.callS X121 hx (y := (⟨"java/lang/Math", "max", "(JJ)J"⟩ : MethodName)) hown (mvT hZ (W 48 rfl)) (mvT hZ (W 26 rfl)) (mvT hZ (W 27 rfl)) (mvT hZ (W 28 rfl)) (by decide) (backOf (W := 1) (rm3 l Z a0 hw [] mx q4 T119.heap n0 Z0_c120 ) hZ (W 28 rfl) (W 27 rfl) (by decide) (by decide)) (g := (mkF m 57 #[.val (.ref a1), .val (.long q2), .second, .val (.long q3), .second, .val (.long q4), .second] [(.long q4), (.long mx), (.ref a1)])) rfl (by rw [hml]; rfl) (argsL := [(.long mx), (.long q4)]) (rest := [(.ref a1)]) (lenOf pd_3 rfl) rfl (by show 2 * 0 + _ ≤ _; exact Nat.le_of_eq rfl) (hb hby d5_57) (fun _ _ => ⟨rfl, e121, (by decide : 0 + 0 ≤ _), (by decide : 0 + 0 ≤ _)⟩)
  dsimp only [Pt.U, Pt.locs, Pt.cells, Pt.slots] at X122 l122 y122 z122 st122 hQ122
  subst l122 y122 z122
  obtain ⟨rfl, N122q, e122⟩ := hQ122
  have N122 := Fr.app N119 N122q
  refine own_go st122 ?_
  show own_Run p e below _ T122 (mkF m 60 #[.val (.ref a1), .val (.long q2), .second, .val (.long q3), .second, .val (.long q4), .second] [(.long (own_max mx q4)), (.ref a1)])
  obtain ⟨T123, h123, X123, e123, W123, st123⟩ := putF X122 hx hZ hown (host := "") (Or.inl (W 18 rfl)) Via.refl e122 P119_4 P119_0 (Or.inl (W 19 rfl)) (W 1 rfl) (ty := .long) (by decide) rfl rfl (g := (mkF m 60 #[.val (.ref a1), .val (.long q2), .second, .val (.long q3), .second, .val (.long q4), .second] [(.long (own_max mx q4)), (.ref a1)])) rfl rfl (hb hby d5_60)
  refine own_go st123 ?_
  show own_Run p e below _ T123 (mkF m 63 #[.val (.ref a1), .val (.long q2), .second, .val (.long q3), .second, .val (.long q4), .second] [])
  have Z0_c124 := Nat.le_trans Z0_c120 (Keep.of_wr W123).1
  have K0_c124 := K0_c120.wr W123 (Or.inl (List.mem_of_getElem? (i := 0) rfl))
  have P119_0_c124 := P119_0.wr W123
  have P119_1_c124 := P119_1.other W123 (Or.inr (slot_ne (Or.inl (W 11 rfl)) (Or.inl (W 19 rfl)) (by decide) (t := (.array .int)) (t' := .long) (by decide) (by decide)))
  have P119_2_c124 := P119_2.other W123 (Or.inr (slot_ne (Or.inl (W 13 rfl)) (Or.inl (W 19 rfl)) (by decide) (t := (.array .int)) (t' := .long) (by decide) (by decide)))
  have P119_3_c124 := P119_3.other W123 (Or.inr (slot_ne (Or.inl (W 16 rfl)) (Or.inl (W 19 rfl)) (by decide) (t := (.array .long)) (t' := .long) (by decide) (by decide)))
  have P119_5_c124 := P119_5.other W123 (Or.inr (slot_ne (Or.inr (W 21 rfl)) (Or.inl (W 19 rfl)) (by decide) (t := .long) (t' := .long) (by decide) (by decide)))
  have P119_6_c124 := P119_6.other W123 (Or.inr (slot_ne (Or.inr (W 23 rfl)) (Or.inl (W 19 rfl)) (by decide) (t := .long) (t' := .long) (by decide) (by decide)))
  have P119_7_c124 := P119_7.other W123 (Or.inr (slot_ne (Or.inl (W 35 rfl)) (Or.inl (W 19 rfl)) (by decide) (t := .int) (t' := .long) (by decide) (by decide)))
  have P119_8_c124 := P119_8.other W123 (Ne.symm ne_a1_b1)
  have P119_9_c124 := P119_9.other W123 (Ne.symm ne_a1_b2)
  have P119_10_c124 := P119_10.other W123 (Ne.symm ne_a1_b3)
  have F_mMaxTimestamp_a1_c123 : Fld Z h123 a1 "com/example/tote/tote/storage/OffsetIndex" "mMaxTimestamp" "J" (.long (own_max mx q4)) := P119_4.same W123
  have N123 := Fr.snoc X123 N122 g_a1
  refine own_done (Q := fun v h L => Q5c2 Z a1 q2 q3 q4 b1 b2 b3 k1 k2 k3 mx ba iv x0 x1 y0 y1 z0 z1 h0 n0 v h L) (v := none) X123 (fun _ => rfl) hlk (fun fs hr => X123.returnOut hx hret (hb hby d5_63) hr) ?_ (by decide) (by decide)
  show Q5c2 Z a1 q2 q3 q4 b1 b2 b3 k1 k2 k3 mx ba iv x0 x1 y0 y1 z0 z1 h0 n0 _ T123.heap _
  rw [e123]
  exact ⟨rfl, N123, K0_c124, P119_0_c124, P119_1_c124, P119_2_c124, P119_3_c124, F_mMaxTimestamp_a1_c123, P119_5_c124, P119_6_c124, P119_7_c124, P119_8_c124, P119_9_c124, P119_10_c124⟩
def Q7c3 (Z : State) (a1 : Addr) (p2 : Int32) (p3 : Int32) (q4 : Int64) (b1 : Addr) (b2 : Addr) (b3 : Addr) (k1 : ClassId) (k2 : ClassId) (k3 : ClassId) (mx : Int64) (ba : Int64) (iv : Int64) (x0 : Int32) (x1 : Int32) (x2 : Int32) (y0 : Int32) (y1 : Int32) (y2 : Int32) (z0 : Int64) (z1 : Int64) (z2 : Int64) (h0 : Heap) (n0 : Nat) (v : Option Value) (h : Heap) (L : List Loc) : Prop := v = none ∧ Fr n0 L ∧ Keep h0 h [a1, b1, b2, b3] ∧ Exa Z h a1 "com/example/tote/tote/storage/OffsetIndex" ∧ Fld Z h a1 "com/example/tote/tote/storage/OffsetIndex" "mOffsets" "[I" (.ref b1) ∧ Fld Z h a1 "com/example/tote/tote/storage/OffsetIndex" "mPositions" "[I" (.ref b2) ∧ Fld Z h a1 "com/example/tote/tote/storage/OffsetIndex" "mTimestamps" "[J" (.ref b3) ∧ Fld Z h a1 "com/example/tote/tote/storage/OffsetIndex" "mMaxTimestamp" "J" (.long mx) ∧ Fld Z h a1 "com/example/tote/tote/storage/OffsetIndex" "mBaseOffset" "J" (.long ba) ∧ Fld Z h a1 "com/example/tote/tote/storage/OffsetIndex" "mIntervalBytes" "J" (.long iv) ∧ Fld Z h a1 "com/example/tote/tote/storage/OffsetIndex" "mCount" "I" (.int (4 : Int32)) ∧ Arv Z h b1 k1 .int (16 : Int32) [(.int x0), (.int x1), (.int x2), (.int p2), (.int (0 : Int32)), (.int (0 : Int32)), (.int (0 : Int32)), (.int (0 : Int32)), (.int (0 : Int32)), (.int (0 : Int32)), (.int (0 : Int32)), (.int (0 : Int32)), (.int (0 : Int32)), (.int (0 : Int32)), (.int (0 : Int32)), (.int (0 : Int32))] (.int (0 : Int32)) ∧ Arv Z h b2 k2 .int (16 : Int32) [(.int y0), (.int y1), (.int y2), (.int p3), (.int (0 : Int32)), (.int (0 : Int32)), (.int (0 : Int32)), (.int (0 : Int32)), (.int (0 : Int32)), (.int (0 : Int32)), (.int (0 : Int32)), (.int (0 : Int32)), (.int (0 : Int32)), (.int (0 : Int32)), (.int (0 : Int32)), (.int (0 : Int32))] (.int (0 : Int32)) ∧ Arv Z h b3 k3 .long (16 : Int32) [(.long z0), (.long z1), (.long z2), (.long q4), (.long (0 : Int64)), (.long (0 : Int64)), (.long (0 : Int64)), (.long (0 : Int64)), (.long (0 : Int64)), (.long (0 : Int64)), (.long (0 : Int64)), (.long (0 : Int64)), (.long (0 : Int64)), (.long (0 : Int64)), (.long (0 : Int64)), (.long (0 : Int64))] (.long (0 : Int64))
set_option maxRecDepth 65536 in
set_option maxHeartbeats 40000000 in
theorem rm7c3 (l : Launch) (Z : State) (a0 : Array Value) (hw : ∀ d ∈ tables_1, d.before a0 Z = true) (ws : List Jvm.Cond) (a1 : Addr) (p2 : Int32) (p3 : Int32) (q4 : Int64) (b1 : Addr) (b2 : Addr) (b3 : Addr) (k1 : ClassId) (k2 : ClassId) (k3 : ClassId) (mx : Int64) (ba : Int64) (iv : Int64) (x0 : Int32) (x1 : Int32) (x2 : Int32) (y0 : Int32) (y1 : Int32) (y2 : Int32) (z0 : Int64) (z1 : Int64) (z2 : Int64) (h0 : Heap) (n0 : Nat) (Z0 : n0 ≤ h0.size) (E_a1 : Exa Z h0 a1 "com/example/tote/tote/storage/OffsetIndex") (F_mOffsets_a1 : Fld Z h0 a1 "com/example/tote/tote/storage/OffsetIndex" "mOffsets" "[I" (.ref b1)) (F_mPositions_a1 : Fld Z h0 a1 "com/example/tote/tote/storage/OffsetIndex" "mPositions" "[I" (.ref b2)) (F_mTimestamps_a1 : Fld Z h0 a1 "com/example/tote/tote/storage/OffsetIndex" "mTimestamps" "[J" (.ref b3)) (F_mMaxTimestamp_a1 : Fld Z h0 a1 "com/example/tote/tote/storage/OffsetIndex" "mMaxTimestamp" "J" (.long mx)) (F_mBaseOffset_a1 : Fld Z h0 a1 "com/example/tote/tote/storage/OffsetIndex" "mBaseOffset" "J" (.long ba)) (F_mIntervalBytes_a1 : Fld Z h0 a1 "com/example/tote/tote/storage/OffsetIndex" "mIntervalBytes" "J" (.long iv)) (F_mCount_a1 : Fld Z h0 a1 "com/example/tote/tote/storage/OffsetIndex" "mCount" "I" (.int (3 : Int32))) (V_b1 : Arv Z h0 b1 k1 .int (16 : Int32) [(.int x0), (.int x1), (.int x2), (.int (0 : Int32)), (.int (0 : Int32)), (.int (0 : Int32)), (.int (0 : Int32)), (.int (0 : Int32)), (.int (0 : Int32)), (.int (0 : Int32)), (.int (0 : Int32)), (.int (0 : Int32)), (.int (0 : Int32)), (.int (0 : Int32)), (.int (0 : Int32)), (.int (0 : Int32))] (.int (0 : Int32))) (V_b2 : Arv Z h0 b2 k2 .int (16 : Int32) [(.int y0), (.int y1), (.int y2), (.int (0 : Int32)), (.int (0 : Int32)), (.int (0 : Int32)), (.int (0 : Int32)), (.int (0 : Int32)), (.int (0 : Int32)), (.int (0 : Int32)), (.int (0 : Int32)), (.int (0 : Int32)), (.int (0 : Int32)), (.int (0 : Int32)), (.int (0 : Int32)), (.int (0 : Int32))] (.int (0 : Int32))) (V_b3 : Arv Z h0 b3 k3 .long (16 : Int32) [(.long z0), (.long z1), (.long z2), (.long (0 : Int64)), (.long (0 : Int64)), (.long (0 : Int64)), (.long (0 : Int64)), (.long (0 : Int64)), (.long (0 : Int64)), (.long (0 : Int64)), (.long (0 : Int64)), (.long (0 : Int64)), (.long (0 : Int64)), (.long (0 : Int64)), (.long (0 : Int64)), (.long (0 : Int64))] (.long (0 : Int64))) (g_a1 : n0 ≤ a1) (g_b1 : n0 ≤ b1) (g_b2 : n0 ≤ b2) (g_b3 : n0 ≤ b3) (ne_a1_b1 : a1 ≠ b1) (ne_a1_b2 : a1 ≠ b2) (ne_a1_b3 : a1 ≠ b3) (ne_b1_b2 : b1 ≠ b2) (ne_b1_b3 : b1 ≠ b3) (ne_b2_b3 : b2 ≠ b3) :
    MetFree l (⟨"com/example/tote/tote/storage/OffsetIndex", "append", "(IIJ)V"⟩ : MethodName) (head1 (Jvm.Cond.code (⟨"com/example/tote/tote/storage/OffsetIndex", "append", "(IIJ)V"⟩ : MethodName) prog_89_method_15_code 5 none :: ws) ({ frames := 0, cells := 0, slots := 0, locals := 0 } : Room)) (fun a U => a = #[(.ref a1), (.int p2), (.int p3), (.long q4)] ∧ Z.Warmed39 U.vm ∧ U.heap = h0) (fun _ _ _ _ _ => True) (fun _ U o U' => ∃ v L, o = .returned v ∧ Q7c3 Z a1 p2 p3 q4 b1 b2 b3 k1 k2 k3 mx ba iv x0 x1 x2 y0 y1 y2 z0 z1 z2 h0 n0 v U'.heap L ∧ FrameEnd U o U' L ({ frames := 0, cells := 0, slots := 0, locals := 0 } : Room).cells ({ frames := 0, cells := 0, slots := 0, locals := 0 } : Room).slots) := by
  refine MetFree.of_bodySF (plainFor_of_name pn_7) hisR ?_
  intro p e s m args below meth c s₁ Bd hml0 hP hK
  obtain ⟨rfl, hZ, hh⟩ := hP
  have hx := Bd.exec
  have hby := Bd.bytes
  have hml : c.maxLocals = 5 := hml0
  have hown : s.vm.findClass "com/example/tote/tote/storage/OffsetIndex" = some m.cls := findClass_of_methodNamed Bd.named
  have hnm := (name_of_methodNamed Bd.named Bd.method).1
  have hret := Bd.returns
  have hlk : meth.locks = false := BodyLoose.notSynchronized Bd
  have X0 : Stand p l e ({ frames := 0, cells := 0, slots := 0, locals := 0 } : Room) s m #[(.ref a1), (.int p2), (.int p3), (.long q4)] below meth c s₁ [] 0 0 := Stand.of_body Bd
  have e0 : s₁.heap = h0 := by rw [← hh, Bd.state]; rfl
  have N0 := Fr.nil n0
  have W := fun (k : Nat) {d : Jvm.Cond} (h : tables_1[k]? = some d) => hw d (List.mem_of_getElem? h)
  have K0 : Keep h0 h0 [a1, b1, b2, b3] := Keep.refl _ _
  refine own_start (ef_7 m a1 p2 p3 q4) ?_
  show own_Run p e below _ s₁ (mkF m 0 #[.val (.ref a1), .val (.int p2), .val (.int p3), .val (.long q4), .second] [])
  refine own_go (fun _ k => XS.aloadN X0.here hx rfl (hb hby d7_0) rfl rfl k) ?_
  show own_Run p e below _ s₁ (mkF m 1 #[.val (.ref a1), .val (.int p2), .val (.int p3), .val (.long q4), .second] [(.ref a1)])
  obtain ⟨T125, X125, e125, st125⟩ := getF X0 hx hZ hown (host := "") (Or.inl (W 34 rfl)) Via.refl e0 F_mCount_a1 (g := (mkF m 1 #[.val (.ref a1), .val (.int p2), .val (.int p3), .val (.long q4), .second] [(.ref a1)])) rfl rfl (hb hby d7_1)
  refine own_go st125 ?_
  show own_Run p e below _ T125 (mkF m 4 #[.val (.ref a1), .val (.int p2), .val (.int p3), .val (.long q4), .second] [(.int (3 : Int32))])
  refine own_go (fun _ k => XS.aloadN X125.here hx rfl (hb hby d7_4) rfl rfl k) ?_
  show own_Run p e below _ T125 (mkF m 5 #[.val (.ref a1), .val (.int p2), .val (.int p3), .val (.long q4), .second] [(.ref a1), (.int (3 : Int32))])
  obtain ⟨T126, X126, e126, st126⟩ := getF X125 hx hZ hown (host := "") (Or.inl (W 10 rfl)) Via.refl e125 F_mOffsets_a1 (g := (mkF m 5 #[.val (.ref a1), .val (.int p2), .val (.int p3), .val (.long q4), .second] [(.ref a1), (.int (3 : Int32))])) rfl rfl (hb hby d7_5)
  refine own_go st126 ?_
  show own_Run p e below _ T126 (mkF m 8 #[.val (.ref a1), .val (.int p2), .val (.int p3), .val (.long q4), .second] [(.ref b1), (.int (3 : Int32))])
  obtain ⟨cl127, Ar127, q127, S127, N127, H127, G127⟩ := id V_b1
  refine own_go (X126.arraylength hx (by rw [e126]; exact Ar127.1) (State.isArrayOf_alike hZ.alike Ar127.2.1) (g := (mkF m 8 #[.val (.ref a1), .val (.int p2), .val (.int p3), .val (.long q4), .second] [(.ref b1), (.int (3 : Int32))])) rfl rfl (hb hby d7_8)) ?_
  rw [len_of S127 N127]
  show own_Run p e below _ T126 (mkF m 9 #[.val (.ref a1), .val (.int p2), .val (.int p3), .val (.long q4), .second] [(.int (16 : Int32)), (.int (3 : Int32))])
  refine own_go (fun _ k => XS.icmpYes X126.here hx rfl (pc0 := 9) (pc' := 63) rfl (hb hby d7_9) rfl (feq (by decide : ¬ ((3 : Int32) = (16 : Int32)))).2 (by decide) (by decide) k) ?_
  show own_Run p e below _ T126 (mkF m 63 #[.val (.ref a1), .val (.int p2), .val (.int p3), .val (.long q4), .second] [])
  refine own_go (fun _ k => XS.aloadN X126.here hx rfl (hb hby d7_63) rfl rfl k) ?_
  show own_Run p e below _ T126 (mkF m 64 #[.val (.ref a1), .val (.int p2), .val (.int p3), .val (.long q4), .second] [(.ref a1)])
  obtain ⟨T128, X128, e128, st128⟩ := getF X126 hx hZ hown (host := "") (Or.inl (W 10 rfl)) Via.refl e126 F_mOffsets_a1 (g := (mkF m 64 #[.val (.ref a1), .val (.int p2), .val (.int p3), .val (.long q4), .second] [(.ref a1)])) rfl rfl (hb hby d7_64)
  refine own_go st128 ?_
  show own_Run p e below _ T128 (mkF m 67 #[.val (.ref a1), .val (.int p2), .val (.int p3), .val (.long q4), .second] [(.ref b1)])
  refine own_go (fun _ k => XS.aloadN X128.here hx rfl (hb hby d7_67) rfl rfl k) ?_
  show own_Run p e below _ T128 (mkF m 68 #[.val (.ref a1), .val (.int p2), .val (.int p3), .val (.long q4), .second] [(.ref a1), (.ref b1)])
  obtain ⟨T129, X129, e129, st129⟩ := getF X128 hx hZ hown (host := "") (Or.inl (W 34 rfl)) Via.refl e128 F_mCount_a1 (g := (mkF m 68 #[.val (.ref a1), .val (.int p2), .val (.int p3), .val (.long q4), .second] [(.ref a1), (.ref b1)])) rfl rfl (hb hby d7_68)
  refine own_go st129 ?_
  show own_Run p e below _ T129 (mkF m 71 #[.val (.ref a1), .val (.int p2), .val (.int p3), .val (.long q4), .second] [(.int (3 : Int32)), (.ref b1)])
  refine own_go (fun _ k => XS.iloadN X129.here hx rfl (hb hby d7_71) rfl k) ?_
  show own_Run p e below _ T129 (mkF m 72 #[.val (.ref a1), .val (.int p2), .val (.int p3), .val (.long q4), .second] [(.int p2), (.int (3 : Int32)), (.ref b1)])
  obtain ⟨cl130, Ar130, q130, S130, N130, H130, G130⟩ := id V_b1
  have hin130 : ¬ ((3 : Int32) < 0 ∨ cl130.slots.size ≤ ((3 : Int32)).toNatClampNeg) := inb_of S130 ⟨by decide, by decide⟩
  obtain ⟨T131, h131, X131, e131, W131, st131⟩ := stI X129 hx hZ e129 Ar130 (j := (3 : Int32)) hin130 (g := (mkF m 72 #[.val (.ref a1), .val (.int p2), .val (.int p3), .val (.long q4), .second] [(.int p2), (.int (3 : Int32)), (.ref b1)])) rfl rfl (hb hby d7_72)
  refine own_go st131 ?_
  show own_Run p e below _ T131 (mkF m 73 #[.val (.ref a1), .val (.int p2), .val (.int p3), .val (.long q4), .second] [])
  have Z0_c132 := Nat.le_trans Z0 (Keep.of_wr W131).1
  have K0_c132 := K0.wr W131 (Or.inl (List.mem_of_getElem? (i := 1) rfl))
  have E_a1_c132 := E_a1.wr W131
  have F_mOffsets_a1_c132 := F_mOffsets_a1.other W131 (Or.inl ne_a1_b1)
  have F_mPositions_a1_c132 := F_mPositions_a1.other W131 (Or.inl ne_a1_b1)
  have F_mTimestamps_a1_c132 := F_mTimestamps_a1.other W131 (Or.inl ne_a1_b1)
  have F_mMaxTimestamp_a1_c132 := F_mMaxTimestamp_a1.other W131 (Or.inl ne_a1_b1)
  have F_mBaseOffset_a1_c132 := F_mBaseOffset_a1.other W131 (Or.inl ne_a1_b1)
  have F_mIntervalBytes_a1_c132 := F_mIntervalBytes_a1.other W131 (Or.inl ne_a1_b1)
  have F_mCount_a1_c132 := F_mCount_a1.other W131 (Or.inl ne_a1_b1)
  have V_b2_c132 := V_b2.other W131 (Ne.symm ne_b1_b2)
  have V_b3_c132 := V_b3.other W131 (Ne.symm ne_b1_b3)
  have V_b1_c131 : Arv Z h131 b1 k1 .int (16 : Int32) [(.int x0), (.int x1), (.int x2), (.int p2), (.int (0 : Int32)), (.int (0 : Int32)), (.int (0 : Int32)), (.int (0 : Int32)), (.int (0 : Int32)), (.int (0 : Int32)), (.int (0 : Int32)), (.int (0 : Int32)), (.int (0 : Int32)), (.int (0 : Int32)), (.int (0 : Int32)), (.int (0 : Int32))] (.int (0 : Int32)) := Arv.set Ar130 q130 S130 N130 H130 G130 rfl W131 3 rfl (Nat.le_of_ble_eq_true rfl)
  have N131 := Fr.snoc X131 N0 g_b1
  refine own_go (fun _ k => XS.aloadN X131.here hx rfl (hb hby d7_73) rfl rfl k) ?_
  show own_Run p e below _ T131 (mkF m 74 #[.val (.ref a1), .val (.int p2), .val (.int p3), .val (.long q4), .second] [(.ref a1)])
  obtain ⟨T133, X133, e133, st133⟩ := getF X131 hx hZ hown (host := "") (Or.inl (W 12 rfl)) Via.refl e131 F_mPositions_a1_c132 (g := (mkF m 74 #[.val (.ref a1), .val (.int p2), .val (.int p3), .val (.long q4), .second] [(.ref a1)])) rfl rfl (hb hby d7_74)
  refine own_go st133 ?_
  show own_Run p e below _ T133 (mkF m 77 #[.val (.ref a1), .val (.int p2), .val (.int p3), .val (.long q4), .second] [(.ref b2)])
  refine own_go (fun _ k => XS.aloadN X133.here hx rfl (hb hby d7_77) rfl rfl k) ?_
  show own_Run p e below _ T133 (mkF m 78 #[.val (.ref a1), .val (.int p2), .val (.int p3), .val (.long q4), .second] [(.ref a1), (.ref b2)])
  obtain ⟨T134, X134, e134, st134⟩ := getF X133 hx hZ hown (host := "") (Or.inl (W 34 rfl)) Via.refl e133 F_mCount_a1_c132 (g := (mkF m 78 #[.val (.ref a1), .val (.int p2), .val (.int p3), .val (.long q4), .second] [(.ref a1), (.ref b2)])) rfl rfl (hb hby d7_78)
  refine own_go st134 ?_
  show own_Run p e below _ T134 (mkF m 81 #[.val (.ref a1), .val (.int p2), .val (.int p3), .val (.long q4), .second] [(.int (3 : Int32)), (.ref b2)])
  refine own_go (fun _ k => XS.iloadN X134.here hx rfl (hb hby d7_81) rfl k) ?_
  show own_Run p e below _ T134 (mkF m 82 #[.val (.ref a1), .val (.int p2), .val (.int p3), .val (.long q4), .second] [(.int p3), (.int (3 : Int32)), (.ref b2)])
  obtain ⟨cl135, Ar135, q135, S135, N135, H135, G135⟩ := id V_b2_c132
  have hin135 : ¬ ((3 : Int32) < 0 ∨ cl135.slots.size ≤ ((3 : Int32)).toNatClampNeg) := inb_of S135 ⟨by decide, by decide⟩
  obtain ⟨T136, h136, X136, e136, W136, st136⟩ := stI X134 hx hZ e134 Ar135 (j := (3 : Int32)) hin135 (g := (mkF m 82 #[.val (.ref a1), .val (.int p2), .val (.int p3), .val (.long q4), .second] [(.int p3), (.int (3 : Int32)), (.ref b2)])) rfl rfl (hb hby d7_82)
  refine own_go st136 ?_
  show own_Run p e below _ T136 (mkF m 83 #[.val (.ref a1), .val (.int p2), .val (.int p3), .val (.long q4), .second] [])
  have Z0_c137 := Nat.le_trans Z0_c132 (Keep.of_wr W136).1
  have K0_c137 := K0_c132.wr W136 (Or.inl (List.mem_of_getElem? (i := 2) rfl))
  have E_a1_c137 := E_a1_c132.wr W136
  have F_mOffsets_a1_c137 := F_mOffsets_a1_c132.other W136 (Or.inl ne_a1_b2)
  have F_mPositions_a1_c137 := F_mPositions_a1_c132.other W136 (Or.inl ne_a1_b2)
  have F_mTimestamps_a1_c137 := F_mTimestamps_a1_c132.other W136 (Or.inl ne_a1_b2)
  have F_mMaxTimestamp_a1_c137 := F_mMaxTimestamp_a1_c132.other W136 (Or.inl ne_a1_b2)
  have F_mBaseOffset_a1_c137 := F_mBaseOffset_a1_c132.other W136 (Or.inl ne_a1_b2)
  have F_mIntervalBytes_a1_c137 := F_mIntervalBytes_a1_c132.other W136 (Or.inl ne_a1_b2)
  have F_mCount_a1_c137 := F_mCount_a1_c132.other W136 (Or.inl ne_a1_b2)
  have V_b3_c137 := V_b3_c132.other W136 (Ne.symm ne_b2_b3)
  have V_b1_c137 := V_b1_c131.other W136 ne_b1_b2
  have V_b2_c136 : Arv Z h136 b2 k2 .int (16 : Int32) [(.int y0), (.int y1), (.int y2), (.int p3), (.int (0 : Int32)), (.int (0 : Int32)), (.int (0 : Int32)), (.int (0 : Int32)), (.int (0 : Int32)), (.int (0 : Int32)), (.int (0 : Int32)), (.int (0 : Int32)), (.int (0 : Int32)), (.int (0 : Int32)), (.int (0 : Int32)), (.int (0 : Int32))] (.int (0 : Int32)) := Arv.set Ar135 q135 S135 N135 H135 G135 rfl W136 3 rfl (Nat.le_of_ble_eq_true rfl)
  have N136 := Fr.snoc X136 N131 g_b2
  refine own_go (fun _ k => XS.aloadN X136.here hx rfl (hb hby d7_83) rfl rfl k) ?_
  show own_Run p e below _ T136 (mkF m 84 #[.val (.ref a1), .val (.int p2), .val (.int p3), .val (.long q4), .second] [(.ref a1)])
  obtain ⟨T138, X138, e138, st138⟩ := getF X136 hx hZ hown (host := "") (Or.inl (W 15 rfl)) Via.refl e136 F_mTimestamps_a1_c137 (g := (mkF m 84 #[.val (.ref a1), .val (.int p2), .val (.int p3), .val (.long q4), .second] [(.ref a1)])) rfl rfl (hb hby d7_84)
  refine own_go st138 ?_
  show own_Run p e below _ T138 (mkF m 87 #[.val (.ref a1), .val (.int p2), .val (.int p3), .val (.long q4), .second] [(.ref b3)])
  refine own_go (fun _ k => XS.aloadN X138.here hx rfl (hb hby d7_87) rfl rfl k) ?_
  show own_Run p e below _ T138 (mkF m 88 #[.val (.ref a1), .val (.int p2), .val (.int p3), .val (.long q4), .second] [(.ref a1), (.ref b3)])
  obtain ⟨T139, X139, e139, st139⟩ := getF X138 hx hZ hown (host := "") (Or.inl (W 34 rfl)) Via.refl e138 F_mCount_a1_c137 (g := (mkF m 88 #[.val (.ref a1), .val (.int p2), .val (.int p3), .val (.long q4), .second] [(.ref a1), (.ref b3)])) rfl rfl (hb hby d7_88)
  refine own_go st139 ?_
  show own_Run p e below _ T139 (mkF m 91 #[.val (.ref a1), .val (.int p2), .val (.int p3), .val (.long q4), .second] [(.int (3 : Int32)), (.ref b3)])
  refine own_go (fun _ k => XS.lloadN X139.here hx rfl (hb hby d7_91) rfl k) ?_
  show own_Run p e below _ T139 (mkF m 92 #[.val (.ref a1), .val (.int p2), .val (.int p3), .val (.long q4), .second] [(.long q4), (.int (3 : Int32)), (.ref b3)])
  obtain ⟨cl140, Ar140, q140, S140, N140, H140, G140⟩ := id V_b3_c137
  have hin140 : ¬ ((3 : Int32) < 0 ∨ cl140.slots.size ≤ ((3 : Int32)).toNatClampNeg) := inb_of S140 ⟨by decide, by decide⟩
  obtain ⟨T141, h141, X141, e141, W141, st141⟩ := stJ X139 hx hZ e139 Ar140 (j := (3 : Int32)) hin140 (g := (mkF m 92 #[.val (.ref a1), .val (.int p2), .val (.int p3), .val (.long q4), .second] [(.long q4), (.int (3 : Int32)), (.ref b3)])) rfl rfl (hb hby d7_92)
  refine own_go st141 ?_
  show own_Run p e below _ T141 (mkF m 93 #[.val (.ref a1), .val (.int p2), .val (.int p3), .val (.long q4), .second] [])
  have Z0_c142 := Nat.le_trans Z0_c137 (Keep.of_wr W141).1
  have K0_c142 := K0_c137.wr W141 (Or.inl (List.mem_of_getElem? (i := 3) rfl))
  have E_a1_c142 := E_a1_c137.wr W141
  have F_mOffsets_a1_c142 := F_mOffsets_a1_c137.other W141 (Or.inl ne_a1_b3)
  have F_mPositions_a1_c142 := F_mPositions_a1_c137.other W141 (Or.inl ne_a1_b3)
  have F_mTimestamps_a1_c142 := F_mTimestamps_a1_c137.other W141 (Or.inl ne_a1_b3)
  have F_mMaxTimestamp_a1_c142 := F_mMaxTimestamp_a1_c137.other W141 (Or.inl ne_a1_b3)
  have F_mBaseOffset_a1_c142 := F_mBaseOffset_a1_c137.other W141 (Or.inl ne_a1_b3)
  have F_mIntervalBytes_a1_c142 := F_mIntervalBytes_a1_c137.other W141 (Or.inl ne_a1_b3)
  have F_mCount_a1_c142 := F_mCount_a1_c137.other W141 (Or.inl ne_a1_b3)
  have V_b1_c142 := V_b1_c137.other W141 ne_b1_b3
  have V_b2_c142 := V_b2_c136.other W141 ne_b2_b3
  have V_b3_c141 : Arv Z h141 b3 k3 .long (16 : Int32) [(.long z0), (.long z1), (.long z2), (.long q4), (.long (0 : Int64)), (.long (0 : Int64)), (.long (0 : Int64)), (.long (0 : Int64)), (.long (0 : Int64)), (.long (0 : Int64)), (.long (0 : Int64)), (.long (0 : Int64)), (.long (0 : Int64)), (.long (0 : Int64)), (.long (0 : Int64)), (.long (0 : Int64))] (.long (0 : Int64)) := Arv.set Ar140 q140 S140 N140 H140 G140 rfl W141 3 rfl (Nat.le_of_ble_eq_true rfl)
  have N141 := Fr.snoc X141 N136 g_b3
  refine own_go (fun _ k => XS.aloadN X141.here hx rfl (hb hby d7_93) rfl rfl k) ?_
  refine own_go (fun _ k => XS.dup X141.here hx rfl (hb hby d7_94) rfl rfl k) ?_
  show own_Run p e below _ T141 (mkF m 95 #[.val (.ref a1), .val (.int p2), .val (.int p3), .val (.long q4), .second] [(.ref a1), (.ref a1)])
  obtain ⟨T143, X143, e143, st143⟩ := getF X141 hx hZ hown (host := "") (Or.inl (W 34 rfl)) Via.refl e141 F_mCount_a1_c142 (g := (mkF m 95 #[.val (.ref a1), .val (.int p2), .val (.int p3), .val (.long q4), .second] [(.ref a1), (.ref a1)])) rfl rfl (hb hby d7_95)
  refine own_go st143 ?_
  show own_Run p e below _ T143 (mkF m 98 #[.val (.ref a1), .val (.int p2), .val (.int p3), .val (.long q4), .second] [(.int (3 : Int32)), (.ref a1)])
  refine own_go (fun _ k => XS.iconst X143.here hx rfl (hb hby d7_98) k) ?_
  refine own_go (fun _ k => XS.iadd X143.here hx rfl (hb hby d7_99) rfl k) ?_
  show own_Run p e below _ T143 (mkF m 100 #[.val (.ref a1), .val (.int p2), .val (.int p3), .val (.long q4), .second] [(.int ((3 : Int32) + (1 : Int32))), (.ref a1)])
  rw [show ((3 : Int32) + (1 : Int32)) = (4 : Int32) by decide]
  show own_Run p e below _ T143 (mkF m 100 #[.val (.ref a1), .val (.int p2), .val (.int p3), .val (.long q4), .second] [(.int (4 : Int32)), (.ref a1)])
  obtain ⟨T144, h144, X144, e144, W144, st144⟩ := putF X143 hx hZ hown (host := "") (Or.inl (W 34 rfl)) Via.refl e143 F_mCount_a1_c142 E_a1_c142 (Or.inl (W 35 rfl)) (W 1 rfl) (ty := .int) (by decide) rfl rfl (g := (mkF m 100 #[.val (.ref a1), .val (.int p2), .val (.int p3), .val (.long q4), .second] [(.int (4 : Int32)), (.ref a1)])) rfl rfl (hb hby d7_100)
  refine own_go st144 ?_
  show own_Run p e below _ T144 (mkF m 103 #[.val (.ref a1), .val (.int p2), .val (.int p3), .val (.long q4), .second] [])
  have Z0_c145 := Nat.le_trans Z0_c142 (Keep.of_wr W144).1
  have K0_c145 := K0_c142.wr W144 (Or.inl (List.mem_of_getElem? (i := 0) rfl))
  have E_a1_c145 := E_a1_c142.wr W144
  have F_mOffsets_a1_c145 := F_mOffsets_a1_c142.other W144 (Or.inr (slot_ne (Or.inl (W 11 rfl)) (Or.inl (W 35 rfl)) (by decide) (t := (.array .int)) (t' := .int) (by decide) (by decide)))
  have F_mPositions_a1_c145 := F_mPositions_a1_c142.other W144 (Or.inr (slot_ne (Or.inl (W 13 rfl)) (Or.inl (W 35 rfl)) (by decide) (t := (.array .int)) (t' := .int) (by decide) (by decide)))
  have F_mTimestamps_a1_c145 := F_mTimestamps_a1_c142.other W144 (Or.inr (slot_ne (Or.inl (W 16 rfl)) (Or.inl (W 35 rfl)) (by decide) (t := (.array .long)) (t' := .int) (by decide) (by decide)))
  have F_mMaxTimestamp_a1_c145 := F_mMaxTimestamp_a1_c142.other W144 (Or.inr (slot_ne (Or.inl (W 19 rfl)) (Or.inl (W 35 rfl)) (by decide) (t := .long) (t' := .int) (by decide) (by decide)))
  have F_mBaseOffset_a1_c145 := F_mBaseOffset_a1_c142.other W144 (Or.inr (slot_ne (Or.inr (W 21 rfl)) (Or.inl (W 35 rfl)) (by decide) (t := .long) (t' := .int) (by decide) (by decide)))
  have F_mIntervalBytes_a1_c145 := F_mIntervalBytes_a1_c142.other W144 (Or.inr (slot_ne (Or.inr (W 23 rfl)) (Or.inl (W 35 rfl)) (by decide) (t := .long) (t' := .int) (by decide) (by decide)))
  have V_b1_c145 := V_b1_c142.other W144 (Ne.symm ne_a1_b1)
  have V_b2_c145 := V_b2_c142.other W144 (Ne.symm ne_a1_b2)
  have V_b3_c145 := V_b3_c141.other W144 (Ne.symm ne_a1_b3)
  have F_mCount_a1_c144 : Fld Z h144 a1 "com/example/tote/tote/storage/OffsetIndex" "mCount" "I" (.int (4 : Int32)) := F_mCount_a1_c142.same W144
  have N144 := Fr.snoc X144 N141 g_a1
  refine own_done (Q := fun v h L => Q7c3 Z a1 p2 p3 q4 b1 b2 b3 k1 k2 k3 mx ba iv x0 x1 x2 y0 y1 y2 z0 z1 z2 h0 n0 v h L) (v := none) X144 (fun _ => rfl) hlk (fun fs hr => X144.returnOut hx hret (hb hby d7_103) hr) ?_ (by decide) (by decide)
  show Q7c3 Z a1 p2 p3 q4 b1 b2 b3 k1 k2 k3 mx ba iv x0 x1 x2 y0 y1 y2 z0 z1 z2 h0 n0 _ T144.heap _
  rw [e144]
  exact ⟨rfl, N144, K0_c145, E_a1_c145, F_mOffsets_a1_c145, F_mPositions_a1_c145, F_mTimestamps_a1_c145, F_mMaxTimestamp_a1_c145, F_mBaseOffset_a1_c145, F_mIntervalBytes_a1_c145, F_mCount_a1_c144, V_b1_c145, V_b2_c145, V_b3_c145⟩
def Q5c3 (Z : State) (a1 : Addr) (q2 : Int64) (q3 : Int64) (q4 : Int64) (b1 : Addr) (b2 : Addr) (b3 : Addr) (k1 : ClassId) (k2 : ClassId) (k3 : ClassId) (mx : Int64) (ba : Int64) (iv : Int64) (x0 : Int32) (x1 : Int32) (x2 : Int32) (y0 : Int32) (y1 : Int32) (y2 : Int32) (z0 : Int64) (z1 : Int64) (z2 : Int64) (h0 : Heap) (n0 : Nat) (v : Option Value) (h : Heap) (L : List Loc) : Prop := v = none ∧ Fr n0 L ∧ Keep h0 h [a1, b1, b2, b3] ∧ Exa Z h a1 "com/example/tote/tote/storage/OffsetIndex" ∧ Fld Z h a1 "com/example/tote/tote/storage/OffsetIndex" "mOffsets" "[I" (.ref b1) ∧ Fld Z h a1 "com/example/tote/tote/storage/OffsetIndex" "mPositions" "[I" (.ref b2) ∧ Fld Z h a1 "com/example/tote/tote/storage/OffsetIndex" "mTimestamps" "[J" (.ref b3) ∧ Fld Z h a1 "com/example/tote/tote/storage/OffsetIndex" "mMaxTimestamp" "J" (.long (own_max mx q4)) ∧ Fld Z h a1 "com/example/tote/tote/storage/OffsetIndex" "mBaseOffset" "J" (.long ba) ∧ Fld Z h a1 "com/example/tote/tote/storage/OffsetIndex" "mIntervalBytes" "J" (.long iv) ∧ Fld Z h a1 "com/example/tote/tote/storage/OffsetIndex" "mCount" "I" (.int (4 : Int32)) ∧ Arv Z h b1 k1 .int (16 : Int32) [(.int x0), (.int x1), (.int x2), (.int ((q2 - ba).toInt32)), (.int (0 : Int32)), (.int (0 : Int32)), (.int (0 : Int32)), (.int (0 : Int32)), (.int (0 : Int32)), (.int (0 : Int32)), (.int (0 : Int32)), (.int (0 : Int32)), (.int (0 : Int32)), (.int (0 : Int32)), (.int (0 : Int32)), (.int (0 : Int32))] (.int (0 : Int32)) ∧ Arv Z h b2 k2 .int (16 : Int32) [(.int y0), (.int y1), (.int y2), (.int (q3.toInt32)), (.int (0 : Int32)), (.int (0 : Int32)), (.int (0 : Int32)), (.int (0 : Int32)), (.int (0 : Int32)), (.int (0 : Int32)), (.int (0 : Int32)), (.int (0 : Int32)), (.int (0 : Int32)), (.int (0 : Int32)), (.int (0 : Int32)), (.int (0 : Int32))] (.int (0 : Int32)) ∧ Arv Z h b3 k3 .long (16 : Int32) [(.long z0), (.long z1), (.long z2), (.long mx), (.long (0 : Int64)), (.long (0 : Int64)), (.long (0 : Int64)), (.long (0 : Int64)), (.long (0 : Int64)), (.long (0 : Int64)), (.long (0 : Int64)), (.long (0 : Int64)), (.long (0 : Int64)), (.long (0 : Int64)), (.long (0 : Int64)), (.long (0 : Int64))] (.long (0 : Int64))
set_option maxRecDepth 65536 in
set_option maxHeartbeats 40000000 in
theorem rm5c3 (l : Launch) (Z : State) (a0 : Array Value) (hw : ∀ d ∈ tables_1, d.before a0 Z = true) (ws : List Jvm.Cond) (a1 : Addr) (q2 : Int64) (q3 : Int64) (q4 : Int64) (b1 : Addr) (b2 : Addr) (b3 : Addr) (k1 : ClassId) (k2 : ClassId) (k3 : ClassId) (mx : Int64) (ba : Int64) (iv : Int64) (x0 : Int32) (x1 : Int32) (x2 : Int32) (y0 : Int32) (y1 : Int32) (y2 : Int32) (z0 : Int64) (z1 : Int64) (z2 : Int64) (h0 : Heap) (n0 : Nat) (Z0 : n0 ≤ h0.size) (E_a1 : Exa Z h0 a1 "com/example/tote/tote/storage/OffsetIndex") (F_mOffsets_a1 : Fld Z h0 a1 "com/example/tote/tote/storage/OffsetIndex" "mOffsets" "[I" (.ref b1)) (F_mPositions_a1 : Fld Z h0 a1 "com/example/tote/tote/storage/OffsetIndex" "mPositions" "[I" (.ref b2)) (F_mTimestamps_a1 : Fld Z h0 a1 "com/example/tote/tote/storage/OffsetIndex" "mTimestamps" "[J" (.ref b3)) (F_mMaxTimestamp_a1 : Fld Z h0 a1 "com/example/tote/tote/storage/OffsetIndex" "mMaxTimestamp" "J" (.long mx)) (F_mBaseOffset_a1 : Fld Z h0 a1 "com/example/tote/tote/storage/OffsetIndex" "mBaseOffset" "J" (.long ba)) (F_mIntervalBytes_a1 : Fld Z h0 a1 "com/example/tote/tote/storage/OffsetIndex" "mIntervalBytes" "J" (.long iv)) (F_mCount_a1 : Fld Z h0 a1 "com/example/tote/tote/storage/OffsetIndex" "mCount" "I" (.int (3 : Int32))) (V_b1 : Arv Z h0 b1 k1 .int (16 : Int32) [(.int x0), (.int x1), (.int x2), (.int (0 : Int32)), (.int (0 : Int32)), (.int (0 : Int32)), (.int (0 : Int32)), (.int (0 : Int32)), (.int (0 : Int32)), (.int (0 : Int32)), (.int (0 : Int32)), (.int (0 : Int32)), (.int (0 : Int32)), (.int (0 : Int32)), (.int (0 : Int32)), (.int (0 : Int32))] (.int (0 : Int32))) (V_b2 : Arv Z h0 b2 k2 .int (16 : Int32) [(.int y0), (.int y1), (.int y2), (.int (0 : Int32)), (.int (0 : Int32)), (.int (0 : Int32)), (.int (0 : Int32)), (.int (0 : Int32)), (.int (0 : Int32)), (.int (0 : Int32)), (.int (0 : Int32)), (.int (0 : Int32)), (.int (0 : Int32)), (.int (0 : Int32)), (.int (0 : Int32)), (.int (0 : Int32))] (.int (0 : Int32))) (V_b3 : Arv Z h0 b3 k3 .long (16 : Int32) [(.long z0), (.long z1), (.long z2), (.long (0 : Int64)), (.long (0 : Int64)), (.long (0 : Int64)), (.long (0 : Int64)), (.long (0 : Int64)), (.long (0 : Int64)), (.long (0 : Int64)), (.long (0 : Int64)), (.long (0 : Int64)), (.long (0 : Int64)), (.long (0 : Int64)), (.long (0 : Int64)), (.long (0 : Int64))] (.long (0 : Int64))) (g_a1 : n0 ≤ a1) (g_b1 : n0 ≤ b1) (g_b2 : n0 ≤ b2) (g_b3 : n0 ≤ b3) (ne_a1_b1 : a1 ≠ b1) (ne_a1_b2 : a1 ≠ b2) (ne_a1_b3 : a1 ≠ b3) (ne_b1_b2 : b1 ≠ b2) (ne_b1_b3 : b1 ≠ b3) (ne_b2_b3 : b2 ≠ b3) (ho : (((q2 - ba).toInt32).toInt64) = (q2 - ba)) (hq : ((q3.toInt32).toInt64) = q3) (hgt : iv < (q3 - (y2.toInt64))) :
    MetFree l (⟨"com/example/tote/tote/storage/OffsetIndex", "add", "(JJJ)V"⟩ : MethodName) (head1 (Jvm.Cond.code (⟨"com/example/tote/tote/storage/OffsetIndex", "add", "(JJJ)V"⟩ : MethodName) prog_89_method_2_code 7 none :: ws) ({ frames := 1, cells := 0, slots := 0, locals := 17 } : Room)) (fun a U => a = #[(.ref a1), (.long q2), (.long q3), (.long q4)] ∧ Z.Warmed39 U.vm ∧ U.heap = h0) (fun _ _ _ _ _ => True) (fun _ U o U' => ∃ v L, o = .returned v ∧ Q5c3 Z a1 q2 q3 q4 b1 b2 b3 k1 k2 k3 mx ba iv x0 x1 x2 y0 y1 y2 z0 z1 z2 h0 n0 v U'.heap L ∧ FrameEnd U o U' L ({ frames := 1, cells := 0, slots := 0, locals := 17 } : Room).cells ({ frames := 1, cells := 0, slots := 0, locals := 17 } : Room).slots) := by
  refine MetFree.of_bodySF (plainFor_of_name pn_5) hisR ?_
  intro p e s m args below meth c s₁ Bd hml0 hP hK
  obtain ⟨rfl, hZ, hh⟩ := hP
  have hx := Bd.exec
  have hby := Bd.bytes
  have hml : c.maxLocals = 7 := hml0
  have hown : s.vm.findClass "com/example/tote/tote/storage/OffsetIndex" = some m.cls := findClass_of_methodNamed Bd.named
  have hnm := (name_of_methodNamed Bd.named Bd.method).1
  have hret := Bd.returns
  have hlk : meth.locks = false := BodyLoose.notSynchronized Bd
  have X0 : Stand p l e ({ frames := 1, cells := 0, slots := 0, locals := 17 } : Room) s m #[(.ref a1), (.long q2), (.long q3), (.long q4)] below meth c s₁ [] 0 0 := Stand.of_body Bd
  have e0 : s₁.heap = h0 := by rw [← hh, Bd.state]; rfl
  have N0 := Fr.nil n0
  have W := fun (k : Nat) {d : Jvm.Cond} (h : tables_1[k]? = some d) => hw d (List.mem_of_getElem? h)
  have K0 : Keep h0 h0 [a1, b1, b2, b3] := Keep.refl _ _
  refine own_start (ef_5 m a1 q2 q3 q4) ?_
  show own_Run p e below _ s₁ (mkF m 0 #[.val (.ref a1), .val (.long q2), .second, .val (.long q3), .second, .val (.long q4), .second] [])
  refine own_go (fun _ k => XS.aloadN X0.here hx rfl (hb hby d5_0) rfl rfl k) ?_
  show own_Run p e below _ s₁ (mkF m 1 #[.val (.ref a1), .val (.long q2), .second, .val (.long q3), .second, .val (.long q4), .second] [(.ref a1)])
  obtain ⟨T146, X146, e146, st146⟩ := getF X0 hx hZ hown (host := "") (Or.inl (W 34 rfl)) Via.refl e0 F_mCount_a1 (g := (mkF m 1 #[.val (.ref a1), .val (.long q2), .second, .val (.long q3), .second, .val (.long q4), .second] [(.ref a1)])) rfl rfl (hb hby d5_1)
  refine own_go st146 ?_
  show own_Run p e below _ T146 (mkF m 4 #[.val (.ref a1), .val (.long q2), .second, .val (.long q3), .second, .val (.long q4), .second] [(.int (3 : Int32))])
  refine own_go (fun _ k => XS.ifNo X146.here hx rfl (hb hby d5_4) rfl ((if0 _ _).trans (feq (by decide : ¬ ((3 : Int32) = (0 : Int32)))).1) k) ?_
  show own_Run p e below _ T146 (mkF m 7 #[.val (.ref a1), .val (.long q2), .second, .val (.long q3), .second, .val (.long q4), .second] [])
  refine own_go (fun _ k => XS.lloadN X146.here hx rfl (hb hby d5_7) rfl k) ?_
  refine own_go (fun _ k => XS.aloadN X146.here hx rfl (hb hby d5_8) rfl rfl k) ?_
  show own_Run p e below _ T146 (mkF m 9 #[.val (.ref a1), .val (.long q2), .second, .val (.long q3), .second, .val (.long q4), .second] [(.ref a1), (.long q3)])
  obtain ⟨T147, X147, e147, st147⟩ := getF X146 hx hZ hown (host := "") (Or.inl (W 12 rfl)) Via.refl e146 F_mPositions_a1 (g := (mkF m 9 #[.val (.ref a1), .val (.long q2), .second, .val (.long q3), .second, .val (.long q4), .second] [(.ref a1), (.long q3)])) rfl rfl (hb hby d5_9)
  refine own_go st147 ?_
  show own_Run p e below _ T147 (mkF m 12 #[.val (.ref a1), .val (.long q2), .second, .val (.long q3), .second, .val (.long q4), .second] [(.ref b2), (.long q3)])
  refine own_go (fun _ k => XS.aloadN X147.here hx rfl (hb hby d5_12) rfl rfl k) ?_
  show own_Run p e below _ T147 (mkF m 13 #[.val (.ref a1), .val (.long q2), .second, .val (.long q3), .second, .val (.long q4), .second] [(.ref a1), (.ref b2), (.long q3)])
  obtain ⟨T148, X148, e148, st148⟩ := getF X147 hx hZ hown (host := "") (Or.inl (W 34 rfl)) Via.refl e147 F_mCount_a1 (g := (mkF m 13 #[.val (.ref a1), .val (.long q2), .second, .val (.long q3), .second, .val (.long q4), .second] [(.ref a1), (.ref b2), (.long q3)])) rfl rfl (hb hby d5_13)
  refine own_go st148 ?_
  show own_Run p e below _ T148 (mkF m 16 #[.val (.ref a1), .val (.long q2), .second, .val (.long q3), .second, .val (.long q4), .second] [(.int (3 : Int32)), (.ref b2), (.long q3)])
  refine own_go (fun _ k => XS.iconst X148.here hx rfl (hb hby d5_16) k) ?_
  refine own_go (fun _ k => XS.isub X148.here hx rfl (hb hby d5_17) rfl k) ?_
  show own_Run p e below _ T148 (mkF m 18 #[.val (.ref a1), .val (.long q2), .second, .val (.long q3), .second, .val (.long q4), .second] [(.int ((3 : Int32) - (1 : Int32))), (.ref b2), (.long q3)])
  rw [show ((3 : Int32) - (1 : Int32)) = (2 : Int32) by decide]
  show own_Run p e below _ T148 (mkF m 18 #[.val (.ref a1), .val (.long q2), .second, .val (.long q3), .second, .val (.long q4), .second] [(.int (2 : Int32)), (.ref b2), (.long q3)])
  obtain ⟨cl149, Ar149, q149, S149, N149, H149, G149⟩ := id V_b2
  have hin149 : ¬ ((2 : Int32) < 0 ∨ cl149.slots.size ≤ ((2 : Int32)).toNatClampNeg) := inb_of S149 ⟨by decide, by decide⟩
  refine own_go (X148.iaload hx (j := (2 : Int32)) (v := (.int y2)) (by rw [e148]; exact Ar149.1) (State.isArrayOf_alike hZ.alike Ar149.2.1) Ar149.2.2 hin149 (H149.at hin149 rfl) (g := (mkF m 18 #[.val (.ref a1), .val (.long q2), .second, .val (.long q3), .second, .val (.long q4), .second] [(.int (2 : Int32)), (.ref b2), (.long q3)])) rfl rfl (hb hby d5_18)) ?_
  show own_Run p e below _ T148 (mkF m 19 #[.val (.ref a1), .val (.long q2), .second, .val (.long q3), .second, .val (.long q4), .second] [(.int y2), (.long q3)])
  refine own_go (fun _ k => XS.i2l X148.here hx rfl (hb hby d5_19) rfl k) ?_
  refine own_go (fun _ k => XS.lsub X148.here hx rfl (hb hby d5_20) rfl k) ?_
  refine own_go (fun _ k => XS.aloadN X148.here hx rfl (hb hby d5_21) rfl rfl k) ?_
  show own_Run p e below _ T148 (mkF m 22 #[.val (.ref a1), .val (.long q2), .second, .val (.long q3), .second, .val (.long q4), .second] [(.ref a1), (.long (q3 - (y2.toInt64)))])
  obtain ⟨T150, X150, e150, st150⟩ := getF X148 hx hZ hown (host := "") (Or.inl (W 22 rfl)) Via.refl e148 F_mIntervalBytes_a1 (g := (mkF m 22 #[.val (.ref a1), .val (.long q2), .second, .val (.long q3), .second, .val (.long q4), .second] [(.ref a1), (.long (q3 - (y2.toInt64)))])) rfl rfl (hb hby d5_22)
  refine own_go st150 ?_
  show own_Run p e below _ T150 (mkF m 25 #[.val (.ref a1), .val (.long q2), .second, .val (.long q3), .second, .val (.long q4), .second] [(.long iv), (.long (q3 - (y2.toInt64)))])
  refine own_go (fun _ k => XS.lcmp X150.here hx rfl (hb hby d5_25) rfl k) ?_
  show own_Run p e below _ T150 (mkF m 26 #[.val (.ref a1), .val (.long q2), .second, .val (.long q3), .second, .val (.long q4), .second] [(.int (lcmpW (q3 - (y2.toInt64)) iv))])
  refine own_go (fun _ k => XS.ifNo X150.here hx rfl (hb hby d5_26) rfl (own_lcT hgt).2.2.2 k) ?_
  show own_Run p e below _ T150 (mkF m 29 #[.val (.ref a1), .val (.long q2), .second, .val (.long q3), .second, .val (.long q4), .second] [])
  refine own_go (fun _ k => XS.aloadN X150.here hx rfl (hb hby d5_29) rfl rfl k) ?_
  refine own_go (fun _ k => XS.lloadN X150.here hx rfl (hb hby d5_30) rfl k) ?_
  refine own_go (fun _ k => XS.aloadN X150.here hx rfl (hb hby d5_31) rfl rfl k) ?_
  show own_Run p e below _ T150 (mkF m 32 #[.val (.ref a1), .val (.long q2), .second, .val (.long q3), .second, .val (.long q4), .second] [(.ref a1), (.long q2), (.ref a1)])
  obtain ⟨T151, X151, e151, st151⟩ := getF X150 hx hZ hown (host := "") (Or.inl (W 20 rfl)) Via.refl e150 F_mBaseOffset_a1 (g := (mkF m 32 #[.val (.ref a1), .val (.long q2), .second, .val (.long q3), .second, .val (.long q4), .second] [(.ref a1), (.long q2), (.ref a1)])) rfl rfl (hb hby d5_32)
  refine own_go st151 ?_
  show own_Run p e below _ T151 (mkF m 35 #[.val (.ref a1), .val (.long q2), .second, .val (.long q3), .second, .val (.long q4), .second] [(.long ba), (.long q2), (.ref a1)])
  refine own_go (fun _ k => XS.lsub X151.here hx rfl (hb hby d5_35) rfl k) ?_
  show own_Run p e below _ T151 (mkF m 36 #[.val (.ref a1), .val (.long q2), .second, .val (.long q3), .second, .val (.long q4), .second] [(.long (q2 - ba)), (.ref a1)])
  obtain ⟨_, _, ⟨T152, L152, k152, n152⟩, -, X152, ⟨Lc152, hQ152, l152, y152, z152⟩, st152⟩ := Jvm.LawKit.callS X151 hx (y := (⟨"java/lang/Math", "toIntExact", "(J)I"⟩ : MethodName)) hown (mvT hZ (W 41 rfl)) (mvT hZ (W 42 rfl)) (mvT hZ (W 27 rfl)) (mvT hZ (W 43 rfl)) (by decide) (backOf (W := 1) (rm6 l Z a0 hw [] (q2 - ba) h0 n0 Z0 (ho)) hZ (W 43 rfl) (W 27 rfl) (by decide) (by decide)) (g := (mkF m 36 #[.val (.ref a1), .val (.long q2), .second, .val (.long q3), .second, .val (.long q4), .second] [(.long (q2 - ba)), (.ref a1)])) rfl (by rw [hml]; rfl) (argsL := [(.long (q2 - ba))]) (rest := [(.ref a1)]) (lenOf pd_1 rfl) rfl (by show 2 * 0 + _ ≤ _; exact Nat.le_of_eq rfl) (hb hby d5_36) (fun _ _ => ⟨rfl, e151, (by decide : 0 + 0 ≤ _), (by decide : 0 + 0 ≤ _)⟩)
  dsimp only [Pt.U, Pt.locs, Pt.cells, Pt.slots] at X152 l152 y152 z152 st152 hQ152
  subst l152 y152 z152
  obtain ⟨rfl, N152q, e152⟩ := hQ152
  have N152 := Fr.app N0 N152q
  refine own_go st152 ?_
  show own_Run p e below _ T152 (mkF m 39 #[.val (.ref a1), .val (.long q2), .second, .val (.long q3), .second, .val (.long q4), .second] [(.int ((q2 - ba).toInt32)), (.ref a1)])
  refine own_go (fun _ k => XS.lloadN X152.here hx rfl (hb hby d5_39) rfl k) ?_
  show own_Run p e below _ T152 (mkF m 40 #[.val (.ref a1), .val (.long q2), .second, .val (.long q3), .second, .val (.long q4), .second] [(.long q3), (.int ((q2 - ba).toInt32)), (.ref a1)])
  obtain ⟨_, _, ⟨T153, L153, k153, n153⟩, -, X153, ⟨Lc153, hQ153, l153, y153, z153⟩, st153⟩ := Jvm.LawKit.callS X152 hx (y := (⟨"java/lang/Math", "toIntExact", "(J)I"⟩ : MethodName)) hown (mvT hZ (W 41 rfl)) (mvT hZ (W 42 rfl)) (mvT hZ (W 27 rfl)) (mvT hZ (W 43 rfl)) (by decide) (backOf (W := 2) (rm6 l Z a0 hw [] q3 h0 n0 Z0 (hq)) hZ (W 43 rfl) (W 27 rfl) (by decide) (by decide)) (g := (mkF m 40 #[.val (.ref a1), .val (.long q2), .second, .val (.long q3), .second, .val (.long q4), .second] [(.long q3), (.int ((q2 - ba).toInt32)), (.ref a1)])) rfl (by rw [hml]; rfl) (argsL := [(.long q3)]) (rest := [(.int ((q2 - ba).toInt32)), (.ref a1)]) (lenOf pd_1 rfl) rfl (by show 2 * 0 + _ ≤ _; exact Nat.le_of_eq rfl) (hb hby d5_40) (fun _ _ => ⟨rfl, e152, (by decide : 0 + 0 ≤ _), (by decide : 0 + 0 ≤ _)⟩)
  dsimp only [Pt.U, Pt.locs, Pt.cells, Pt.slots] at X153 l153 y153 z153 st153 hQ153
  subst l153 y153 z153
  obtain ⟨rfl, N153q, e153⟩ := hQ153
  have N153 := Fr.app N152 N153q
  refine own_go st153 ?_
  show own_Run p e below _ T153 (mkF m 43 #[.val (.ref a1), .val (.long q2), .second, .val (.long q3), .second, .val (.long q4), .second] [(.int (q3.toInt32)), (.int ((q2 - ba).toInt32)), (.ref a1)])
  refine own_go (fun _ k => XS.aloadN X153.here hx rfl (hb hby d5_43) rfl rfl k) ?_
  show own_Run p e below _ T153 (mkF m 44 #[.val (.ref a1), .val (.long q2), .second, .val (.long q3), .second, .val (.long q4), .second] [(.ref a1), (.int (q3.toInt32)), (.int ((q2 - ba).toInt32)), (.ref a1)])
  obtain ⟨T154, X154, e154, st154⟩ := getF X153 hx hZ hown (host := "") (Or.inl (W 18 rfl)) Via.refl e153 F_mMaxTimestamp_a1 (g := (mkF m 44 #[.val (.ref a1), .val (.long q2), .second, .val (.long q3), .second, .val (.long q4), .second] [(.ref a1), (.int (q3.toInt32)), (.int ((q2 - ba).toInt32)), (.ref a1)])) rfl rfl (hb hby d5_44)
  refine own_go st154 ?_
  show own_Run p e below _ T154 (mkF m 47 #[.val (.ref a1), .val (.long q2), .second, .val (.long q3), .second, .val (.long q4), .second] [(.long mx), (.int (q3.toInt32)), (.int ((q2 - ba).toInt32)), (.ref a1)])
  obtain ⟨cq155, q155, q155'⟩ := E_a1.cell
  obtain ⟨_, _, ⟨T155, L155, k155, n155⟩, -, X155, ⟨Lc155, hQ155, l155, y155, z155⟩, st155⟩ := X154.privateBack hx (y := (⟨"com/example/tote/tote/storage/OffsetIndex", "append", "(IIJ)V"⟩ : MethodName)) hown (mvT hZ (W 44 rfl)) (mvT hZ (W 45 rfl)) (own_selP (args := #[]) (y := (⟨"com/example/tote/tote/storage/OffsetIndex", "append", "(IIJ)V"⟩ : MethodName)) (mvT hZ (W 32 rfl)) rfl (Cond.privateMethod_at (mvP hZ (W 46 rfl) (args := #[]))) (mvT hZ (W 45 rfl)) (by decide)) (Cond.privateMethod_at (mvP hZ (W 46 rfl) (args := #[]))) (mvT hZ (W 47 rfl)) (by decide) (backOf (W := 0) (rm7c3 l Z a0 hw [] a1 ((q2 - ba).toInt32) (q3.toInt32) mx b1 b2 b3 k1 k2 k3 mx ba iv x0 x1 x2 y0 y1 y2 z0 z1 z2 h0 n0 Z0 E_a1 F_mOffsets_a1 F_mPositions_a1 F_mTimestamps_a1 F_mMaxTimestamp_a1 F_mBaseOffset_a1 F_mIntervalBytes_a1 F_mCount_a1 V_b1 V_b2 V_b3 g_a1 g_b1 g_b2 g_b3 ne_a1_b1 ne_a1_b2 ne_a1_b3 ne_b1_b2 ne_b1_b3 ne_b2_b3) hZ (W 47 rfl) (W 2 rfl) (by decide) (by decide)) (g := (mkF m 47 #[.val (.ref a1), .val (.long q2), .second, .val (.long q3), .second, .val (.long q4), .second] [(.long mx), (.int (q3.toInt32)), (.int ((q2 - ba).toInt32)), (.ref a1)])) rfl (by rw [hml]; rfl) (Steps.refl _) (a := a1) (by rw [e154]; exact q155) q155' (argsL := [(.int ((q2 - ba).toInt32)), (.int (q3.toInt32)), (.long mx)]) (rest := []) (lenOf pd_2 rfl) rfl (by show 2 * 0 + _ ≤ _; exact Nat.le_of_eq rfl) (hb hby d5_47) (fun _ _ => ⟨rfl, e154, (by decide : 0 + 0 ≤ _), (by decide : 0 + 0 ≤ _)⟩)
  dsimp only [Pt.U, Pt.locs, Pt.cells, Pt.slots] at X155 l155 y155 z155 st155 hQ155
  subst l155 y155 z155
  obtain ⟨rfl, N155q, K155, P155_0, P155_1, P155_2, P155_3, P155_4, P155_5, P155_6, P155_7, P155_8, P155_9, P155_10⟩ := hQ155
  have N155 := Fr.app N153 N155q
  refine own_goT st155 ?_
  show own_Run p e below _ T155 (mkF m 50 #[.val (.ref a1), .val (.long q2), .second, .val (.long q3), .second, .val (.long q4), .second] [])
  have Z0_c156 := Nat.le_trans Z0 K155.1
  have K0_c156 := K0.trans K155 (allS (Or.inl (List.mem_of_getElem? (i := 0) rfl)) (allS (Or.inl (List.mem_of_getElem? (i := 1) rfl)) (allS (Or.inl (List.mem_of_getElem? (i := 2) rfl)) (allS (Or.inl (List.mem_of_getElem? (i := 3) rfl)) all0))))
  have E_a1_c156 := E_a1.keep K155
  refine own_go (fun _ k => XS.aloadN X155.here hx rfl (hb hby d5_50) rfl rfl k) ?_
  refine own_go (fun _ k => XS.aloadN X155.here hx rfl (hb hby d5_51) rfl rfl k) ?_
  show own_Run p e below _ T155 (mkF m 52 #[.val (.ref a1), .val (.long q2), .second, .val (.long q3), .second, .val (.long q4), .second] [(.ref a1), (.ref a1)])
  obtain ⟨T157, X157, e157, st157⟩ := getF X155 hx hZ hown (host := "") (Or.inl (W 18 rfl)) Via.refl rfl P155_4 (g := (mkF m 52 #[.val (.ref a1), .val (.long q2), .second, .val (.long q3), .second, .val (.long q4), .second] [(.ref a1), (.ref a1)])) rfl rfl (hb hby d5_52)
  refine own_go st157 ?_
  show own_Run p e below _ T157 (mkF m 55 #[.val (.ref a1), .val (.long q2), .second, .val (.long q3), .second, .val (.long q4), .second] [(.long mx), (.ref a1)])
  refine own_go (fun _ k => XS.lload X157.here hx rfl (hb hby d5_55) rfl k) ?_
  show own_Run p e below _ T157 (mkF m 57 #[.val (.ref a1), .val (.long q2), .second, .val (.long q3), .second, .val (.long q4), .second] [(.long q4), (.long mx), (.ref a1)])
  obtain ⟨_, _, ⟨T158, L158, k158, n158⟩, -, X158, ⟨Lc158, hQ158, l158, y158, z158⟩, st158⟩ := Jvm.LawKit.callS X157 hx (y := (⟨"java/lang/Math", "max", "(JJ)J"⟩ : MethodName)) hown (mvT hZ (W 48 rfl)) (mvT hZ (W 26 rfl)) (mvT hZ (W 27 rfl)) (mvT hZ (W 28 rfl)) (by decide) (backOf (W := 1) (rm3 l Z a0 hw [] mx q4 T155.heap n0 Z0_c156 ) hZ (W 28 rfl) (W 27 rfl) (by decide) (by decide)) (g := (mkF m 57 #[.val (.ref a1), .val (.long q2), .second, .val (.long q3), .second, .val (.long q4), .second] [(.long q4), (.long mx), (.ref a1)])) rfl (by rw [hml]; rfl) (argsL := [(.long mx), (.long q4)]) (rest := [(.ref a1)]) (lenOf pd_3 rfl) rfl (by show 2 * 0 + _ ≤ _; exact Nat.le_of_eq rfl) (hb hby d5_57) (fun _ _ => ⟨rfl, e157, (by decide : 0 + 0 ≤ _), (by decide : 0 + 0 ≤ _)⟩)
  dsimp only [Pt.U, Pt.locs, Pt.cells, Pt.slots] at X158 l158 y158 z158 st158 hQ158
  subst l158 y158 z158
  obtain ⟨rfl, N158q, e158⟩ := hQ158
  have N158 := Fr.app N155 N158q
  refine own_go st158 ?_
  show own_Run p e below _ T158 (mkF m 60 #[.val (.ref a1), .val (.long q2), .second, .val (.long q3), .second, .val (.long q4), .second] [(.long (own_max mx q4)), (.ref a1)])
  obtain ⟨T159, h159, X159, e159, W159, st159⟩ := putF X158 hx hZ hown (host := "") (Or.inl (W 18 rfl)) Via.refl e158 P155_4 P155_0 (Or.inl (W 19 rfl)) (W 1 rfl) (ty := .long) (by decide) rfl rfl (g := (mkF m 60 #[.val (.ref a1), .val (.long q2), .second, .val (.long q3), .second, .val (.long q4), .second] [(.long (own_max mx q4)), (.ref a1)])) rfl rfl (hb hby d5_60)
  refine own_go st159 ?_
  show own_Run p e below _ T159 (mkF m 63 #[.val (.ref a1), .val (.long q2), .second, .val (.long q3), .second, .val (.long q4), .second] [])
  have Z0_c160 := Nat.le_trans Z0_c156 (Keep.of_wr W159).1
  have K0_c160 := K0_c156.wr W159 (Or.inl (List.mem_of_getElem? (i := 0) rfl))
  have P155_0_c160 := P155_0.wr W159
  have P155_1_c160 := P155_1.other W159 (Or.inr (slot_ne (Or.inl (W 11 rfl)) (Or.inl (W 19 rfl)) (by decide) (t := (.array .int)) (t' := .long) (by decide) (by decide)))
  have P155_2_c160 := P155_2.other W159 (Or.inr (slot_ne (Or.inl (W 13 rfl)) (Or.inl (W 19 rfl)) (by decide) (t := (.array .int)) (t' := .long) (by decide) (by decide)))
  have P155_3_c160 := P155_3.other W159 (Or.inr (slot_ne (Or.inl (W 16 rfl)) (Or.inl (W 19 rfl)) (by decide) (t := (.array .long)) (t' := .long) (by decide) (by decide)))
  have P155_5_c160 := P155_5.other W159 (Or.inr (slot_ne (Or.inr (W 21 rfl)) (Or.inl (W 19 rfl)) (by decide) (t := .long) (t' := .long) (by decide) (by decide)))
  have P155_6_c160 := P155_6.other W159 (Or.inr (slot_ne (Or.inr (W 23 rfl)) (Or.inl (W 19 rfl)) (by decide) (t := .long) (t' := .long) (by decide) (by decide)))
  have P155_7_c160 := P155_7.other W159 (Or.inr (slot_ne (Or.inl (W 35 rfl)) (Or.inl (W 19 rfl)) (by decide) (t := .int) (t' := .long) (by decide) (by decide)))
  have P155_8_c160 := P155_8.other W159 (Ne.symm ne_a1_b1)
  have P155_9_c160 := P155_9.other W159 (Ne.symm ne_a1_b2)
  have P155_10_c160 := P155_10.other W159 (Ne.symm ne_a1_b3)
  have F_mMaxTimestamp_a1_c159 : Fld Z h159 a1 "com/example/tote/tote/storage/OffsetIndex" "mMaxTimestamp" "J" (.long (own_max mx q4)) := P155_4.same W159
  have N159 := Fr.snoc X159 N158 g_a1
  refine own_done (Q := fun v h L => Q5c3 Z a1 q2 q3 q4 b1 b2 b3 k1 k2 k3 mx ba iv x0 x1 x2 y0 y1 y2 z0 z1 z2 h0 n0 v h L) (v := none) X159 (fun _ => rfl) hlk (fun fs hr => X159.returnOut hx hret (hb hby d5_63) hr) ?_ (by decide) (by decide)
  show Q5c3 Z a1 q2 q3 q4 b1 b2 b3 k1 k2 k3 mx ba iv x0 x1 x2 y0 y1 y2 z0 z1 z2 h0 n0 _ T159.heap _
  rw [e159]
  exact ⟨rfl, N159, K0_c160, P155_0_c160, P155_1_c160, P155_2_c160, P155_3_c160, F_mMaxTimestamp_a1_c159, P155_5_c160, P155_6_c160, P155_7_c160, P155_8_c160, P155_9_c160, P155_10_c160⟩
theorem d4_0 : decode prog_89_method_6_code 0 = .ok (.iconst 0, 1) := by decide +kernel
theorem d4_1 : decode prog_89_method_6_code 1 = .ok (.istore_n 3, 1) := by decide +kernel
theorem d4_2 : decode prog_89_method_6_code 2 = .ok (.aload_n 0, 1) := by decide +kernel
theorem d4_3 : decode prog_89_method_6_code 3 = .ok (.getfield 36, 3) := by decide +kernel
theorem d4_6 : decode prog_89_method_6_code 6 = .ok (.istore 4, 2) := by decide +kernel
theorem d4_8 : decode prog_89_method_6_code 8 = .ok (.iload_n 3, 1) := by decide +kernel
theorem d4_9 : decode prog_89_method_6_code 9 = .ok (.iload 4, 2) := by decide +kernel
theorem d4_11 : decode prog_89_method_6_code 11 = .ok (.if_icmp .ge 38, 3) := by decide +kernel
theorem d4_14 : decode prog_89_method_6_code 14 = .ok (.iload_n 3, 1) := by decide +kernel
theorem d4_15 : decode prog_89_method_6_code 15 = .ok (.iload 4, 2) := by decide +kernel
theorem d4_17 : decode prog_89_method_6_code 17 = .ok (.iadd, 1) := by decide +kernel
theorem d4_18 : decode prog_89_method_6_code 18 = .ok (.iconst 1, 1) := by decide +kernel
theorem d4_19 : decode prog_89_method_6_code 19 = .ok (.iushr, 1) := by decide +kernel
theorem d4_20 : decode prog_89_method_6_code 20 = .ok (.istore 5, 2) := by decide +kernel
theorem d4_22 : decode prog_89_method_6_code 22 = .ok (.aload_n 0, 1) := by decide +kernel
theorem d4_23 : decode prog_89_method_6_code 23 = .ok (.getfield 20, 3) := by decide +kernel
theorem d4_26 : decode prog_89_method_6_code 26 = .ok (.iload 5, 2) := by decide +kernel
theorem d4_28 : decode prog_89_method_6_code 28 = .ok (.laload, 1) := by decide +kernel
theorem d4_29 : decode prog_89_method_6_code 29 = .ok (.lload_n 1, 1) := by decide +kernel
theorem d4_30 : decode prog_89_method_6_code 30 = .ok (.lcmp, 1) := by decide +kernel
theorem d4_31 : decode prog_89_method_6_code 31 = .ok (.ifCond .ge 11, 3) := by decide +kernel
theorem d4_34 : decode prog_89_method_6_code 34 = .ok (.iload 5, 2) := by decide +kernel
theorem d4_36 : decode prog_89_method_6_code 36 = .ok (.iconst 1, 1) := by decide +kernel
theorem d4_37 : decode prog_89_method_6_code 37 = .ok (.iadd, 1) := by decide +kernel
theorem d4_38 : decode prog_89_method_6_code 38 = .ok (.istore_n 3, 1) := by decide +kernel
theorem d4_39 : decode prog_89_method_6_code 39 = .ok (.goto 7, 3) := by decide +kernel
theorem d4_42 : decode prog_89_method_6_code 42 = .ok (.iload 5, 2) := by decide +kernel
theorem d4_44 : decode prog_89_method_6_code 44 = .ok (.istore 4, 2) := by decide +kernel
theorem d4_46 : decode prog_89_method_6_code 46 = .ok (.goto (-38), 3) := by decide +kernel
theorem d4_49 : decode prog_89_method_6_code 49 = .ok (.iload_n 3, 1) := by decide +kernel
theorem d4_50 : decode prog_89_method_6_code 50 = .ok (.iconst 1, 1) := by decide +kernel
theorem d4_51 : decode prog_89_method_6_code 51 = .ok (.isub, 1) := by decide +kernel
theorem d4_52 : decode prog_89_method_6_code 52 = .ok (.ireturn, 1) := by decide +kernel
theorem pn_4 : plainName "com/example/tote/tote/storage/OffsetIndex" = true := by first | (simp [plainName, overriddenIn]; done) | decide +kernel
theorem ef_4 (m : MethodId) (x0 : Addr) (x1 : Int64) : entryFrame m #[(.ref x0), (.long x1)] 6 = mkF m 0 #[.val (.ref x0), .val (.long x1), .second, .unset, .unset, .unset] [] := by first | (simp [entryFrame, mkF, argsToLocals, Value.category]; done) | rfl
def Q4n0 (Z : State) (a1 : Addr) (q2 : Int64) (b3 : Addr) (k3 : ClassId) (r : Int32) (h0 : Heap) (n0 : Nat) (v : Option Value) (h : Heap) (L : List Loc) : Prop := v = some (.int r) ∧ Fr n0 L ∧ h = h0
set_option maxRecDepth 65536 in
set_option maxHeartbeats 40000000 in
theorem rm4n0 (l : Launch) (Z : State) (a0 : Array Value) (hw : ∀ d ∈ tables_1, d.before a0 Z = true) (ws : List Jvm.Cond) (a1 : Addr) (q2 : Int64) (b3 : Addr) (k3 : ClassId) (r : Int32) (h0 : Heap) (n0 : Nat) (Z0 : n0 ≤ h0.size) (F_mTimestamps_a1 : Fld Z h0 a1 "com/example/tote/tote/storage/OffsetIndex" "mTimestamps" "[J" (.ref b3)) (F_mCount_a1 : Fld Z h0 a1 "com/example/tote/tote/storage/OffsetIndex" "mCount" "I" (.int (0 : Int32))) (V_b3 : Arv Z h0 b3 k3 .long (16 : Int32) [(.long (0 : Int64)), (.long (0 : Int64)), (.long (0 : Int64)), (.long (0 : Int64)), (.long (0 : Int64)), (.long (0 : Int64)), (.long (0 : Int64)), (.long (0 : Int64)), (.long (0 : Int64)), (.long (0 : Int64)), (.long (0 : Int64)), (.long (0 : Int64)), (.long (0 : Int64)), (.long (0 : Int64)), (.long (0 : Int64)), (.long (0 : Int64))] (.long (0 : Int64))) (hp : (r = (-1 : Int32))) :
    MetFree l (⟨"com/example/tote/tote/storage/OffsetIndex", "floorTime", "(J)I"⟩ : MethodName) (head1 (Jvm.Cond.code (⟨"com/example/tote/tote/storage/OffsetIndex", "floorTime", "(J)I"⟩ : MethodName) prog_89_method_6_code 6 (some .int) :: ws) ({ frames := 0, cells := 0, slots := 0, locals := 0 } : Room)) (fun a U => a = #[(.ref a1), (.long q2)] ∧ Z.Warmed39 U.vm ∧ U.heap = h0) (fun _ _ _ _ _ => True) (fun _ U o U' => ∃ v L, o = .returned v ∧ Q4n0 Z a1 q2 b3 k3 r h0 n0 v U'.heap L ∧ FrameEnd U o U' L ({ frames := 0, cells := 0, slots := 0, locals := 0 } : Room).cells ({ frames := 0, cells := 0, slots := 0, locals := 0 } : Room).slots) := by
  refine MetFree.of_bodySF (plainFor_of_name pn_4) hisR ?_
  intro p e s m args below meth c s₁ Bd hml0 hP hK
  obtain ⟨rfl, hZ, hh⟩ := hP
  have hx := Bd.exec
  have hby := Bd.bytes
  have hml : c.maxLocals = 6 := hml0
  have hown : s.vm.findClass "com/example/tote/tote/storage/OffsetIndex" = some m.cls := findClass_of_methodNamed Bd.named
  have hnm := (name_of_methodNamed Bd.named Bd.method).1
  have hret := Bd.returns
  have hlk : meth.locks = false := BodyLoose.notSynchronized Bd
  have X0 : Stand p l e ({ frames := 0, cells := 0, slots := 0, locals := 0 } : Room) s m #[(.ref a1), (.long q2)] below meth c s₁ [] 0 0 := Stand.of_body Bd
  have e0 : s₁.heap = h0 := by rw [← hh, Bd.state]; rfl
  have N0 := Fr.nil n0
  have W := fun (k : Nat) {d : Jvm.Cond} (h : tables_1[k]? = some d) => hw d (List.mem_of_getElem? h)
  have K0 : Keep h0 h0 [] := Keep.refl _ _
  refine own_start (ef_4 m a1 q2) ?_
  show own_Run p e below _ s₁ (mkF m 0 #[.val (.ref a1), .val (.long q2), .second, .unset, .unset, .unset] [])
  rcases hp with rfl
  · show own_Run p e below _ s₁ (mkF m 0 #[.val (.ref a1), .val (.long q2), .second, .unset, .unset, .unset] [])
    refine own_go (fun _ k => XS.iconst X0.here hx rfl (hb hby d4_0) k) ?_
    refine own_go (fun _ k => XS.istoreN X0.here hx rfl (hb hby d4_1) rfl (l' := #[.val (.ref a1), .val (.long q2), .second, .val (.int (0 : Int32)), .unset, .unset]) rfl k) ?_
    refine own_go (fun _ k => XS.aloadN X0.here hx rfl (hb hby d4_2) rfl rfl k) ?_
    show own_Run p e below _ s₁ (mkF m 3 #[.val (.ref a1), .val (.long q2), .second, .val (.int (0 : Int32)), .unset, .unset] [(.ref a1)])
    obtain ⟨T161, X161, e161, st161⟩ := getF X0 hx hZ hown (host := "") (Or.inl (W 34 rfl)) Via.refl e0 F_mCount_a1 (g := (mkF m 3 #[.val (.ref a1), .val (.long q2), .second, .val (.int (0 : Int32)), .unset, .unset] [(.ref a1)])) rfl rfl (hb hby d4_3)
    refine own_go st161 ?_
    show own_Run p e below _ T161 (mkF m 6 #[.val (.ref a1), .val (.long q2), .second, .val (.int (0 : Int32)), .unset, .unset] [(.int (0 : Int32))])
    refine own_go (fun _ k => XS.istore X161.here hx rfl (hb hby d4_6) rfl (l' := #[.val (.ref a1), .val (.long q2), .second, .val (.int (0 : Int32)), .val (.int (0 : Int32)), .unset]) rfl k) ?_
    refine own_go (fun _ k => XS.iloadN X161.here hx rfl (hb hby d4_8) rfl k) ?_
    refine own_go (fun _ k => XS.iload X161.here hx rfl (hb hby d4_9) rfl k) ?_
    show own_Run p e below _ T161 (mkF m 11 #[.val (.ref a1), .val (.long q2), .second, .val (.int (0 : Int32)), .val (.int (0 : Int32)), .unset] [(.int (0 : Int32)), (.int (0 : Int32))])
    refine own_go (fun _ k => XS.icmpYes X161.here hx rfl (pc0 := 11) (pc' := 49) rfl (hb hby d4_11) rfl (flt (by decide : ¬ ((0 : Int32) < (0 : Int32)))).2.1 (by decide) (by decide) k) ?_
    show own_Run p e below _ T161 (mkF m 49 #[.val (.ref a1), .val (.long q2), .second, .val (.int (0 : Int32)), .val (.int (0 : Int32)), .unset] [])
    refine own_go (fun _ k => XS.iloadN X161.here hx rfl (hb hby d4_49) rfl k) ?_
    refine own_go (fun _ k => XS.iconst X161.here hx rfl (hb hby d4_50) k) ?_
    refine own_go (fun _ k => XS.isub X161.here hx rfl (hb hby d4_51) rfl k) ?_
    show own_Run p e below _ T161 (mkF m 52 #[.val (.ref a1), .val (.long q2), .second, .val (.int (0 : Int32)), .val (.int (0 : Int32)), .unset] [(.int ((0 : Int32) - (1 : Int32)))])
    rw [show ((0 : Int32) - (1 : Int32)) = (-1 : Int32) by decide]
    show own_Run p e below _ T161 (mkF m 52 #[.val (.ref a1), .val (.long q2), .second, .val (.int (0 : Int32)), .val (.int (0 : Int32)), .unset] [(.int (-1 : Int32))])
    refine own_done (Q := fun v h L => Q4n0 Z a1 q2 b3 k3 (-1 : Int32) h0 n0 v h L) (v := (some (.int (-1 : Int32)))) X161 (fun h => by rw [hret] at h; cases h) hlk (fun fs hr => own_retI X161 hx hret (hb hby d4_52) hr) ?_ (by decide) (by decide)
    show Q4n0 Z a1 q2 b3 k3 (-1 : Int32) h0 n0 _ T161.heap _
    rw [e161]
    exact ⟨rfl, N0, rfl⟩
def Q4n1 (Z : State) (a1 : Addr) (q2 : Int64) (b3 : Addr) (k3 : ClassId) (z0 : Int64) (r : Int32) (h0 : Heap) (n0 : Nat) (v : Option Value) (h : Heap) (L : List Loc) : Prop := v = some (.int r) ∧ Fr n0 L ∧ h = h0
set_option maxRecDepth 65536 in
set_option maxHeartbeats 40000000 in
theorem rm4n1 (l : Launch) (Z : State) (a0 : Array Value) (hw : ∀ d ∈ tables_1, d.before a0 Z = true) (ws : List Jvm.Cond) (a1 : Addr) (q2 : Int64) (b3 : Addr) (k3 : ClassId) (z0 : Int64) (r : Int32) (h0 : Heap) (n0 : Nat) (Z0 : n0 ≤ h0.size) (F_mTimestamps_a1 : Fld Z h0 a1 "com/example/tote/tote/storage/OffsetIndex" "mTimestamps" "[J" (.ref b3)) (F_mCount_a1 : Fld Z h0 a1 "com/example/tote/tote/storage/OffsetIndex" "mCount" "I" (.int (1 : Int32))) (V_b3 : Arv Z h0 b3 k3 .long (16 : Int32) [(.long z0), (.long (0 : Int64)), (.long (0 : Int64)), (.long (0 : Int64)), (.long (0 : Int64)), (.long (0 : Int64)), (.long (0 : Int64)), (.long (0 : Int64)), (.long (0 : Int64)), (.long (0 : Int64)), (.long (0 : Int64)), (.long (0 : Int64)), (.long (0 : Int64)), (.long (0 : Int64)), (.long (0 : Int64)), (.long (0 : Int64))] (.long (0 : Int64))) (hp : (¬ (z0 < q2) ∧ r = (-1 : Int32)) ∨ (z0 < q2 ∧ r = (0 : Int32))) :
    MetFree l (⟨"com/example/tote/tote/storage/OffsetIndex", "floorTime", "(J)I"⟩ : MethodName) (head1 (Jvm.Cond.code (⟨"com/example/tote/tote/storage/OffsetIndex", "floorTime", "(J)I"⟩ : MethodName) prog_89_method_6_code 6 (some .int) :: ws) ({ frames := 0, cells := 0, slots := 0, locals := 0 } : Room)) (fun a U => a = #[(.ref a1), (.long q2)] ∧ Z.Warmed39 U.vm ∧ U.heap = h0) (fun _ _ _ _ _ => True) (fun _ U o U' => ∃ v L, o = .returned v ∧ Q4n1 Z a1 q2 b3 k3 z0 r h0 n0 v U'.heap L ∧ FrameEnd U o U' L ({ frames := 0, cells := 0, slots := 0, locals := 0 } : Room).cells ({ frames := 0, cells := 0, slots := 0, locals := 0 } : Room).slots) := by
  refine MetFree.of_bodySF (plainFor_of_name pn_4) hisR ?_
  intro p e s m args below meth c s₁ Bd hml0 hP hK
  obtain ⟨rfl, hZ, hh⟩ := hP
  have hx := Bd.exec
  have hby := Bd.bytes
  have hml : c.maxLocals = 6 := hml0
  have hown : s.vm.findClass "com/example/tote/tote/storage/OffsetIndex" = some m.cls := findClass_of_methodNamed Bd.named
  have hnm := (name_of_methodNamed Bd.named Bd.method).1
  have hret := Bd.returns
  have hlk : meth.locks = false := BodyLoose.notSynchronized Bd
  have X0 : Stand p l e ({ frames := 0, cells := 0, slots := 0, locals := 0 } : Room) s m #[(.ref a1), (.long q2)] below meth c s₁ [] 0 0 := Stand.of_body Bd
  have e0 : s₁.heap = h0 := by rw [← hh, Bd.state]; rfl
  have N0 := Fr.nil n0
  have W := fun (k : Nat) {d : Jvm.Cond} (h : tables_1[k]? = some d) => hw d (List.mem_of_getElem? h)
  have K0 : Keep h0 h0 [] := Keep.refl _ _
  refine own_start (ef_4 m a1 q2) ?_
  show own_Run p e below _ s₁ (mkF m 0 #[.val (.ref a1), .val (.long q2), .second, .unset, .unset, .unset] [])
  rcases hp with ⟨hz0, rfl⟩ | ⟨hz0, rfl⟩
  · show own_Run p e below _ s₁ (mkF m 0 #[.val (.ref a1), .val (.long q2), .second, .unset, .unset, .unset] [])
    refine own_go (fun _ k => XS.iconst X0.here hx rfl (hb hby d4_0) k) ?_
    refine own_go (fun _ k => XS.istoreN X0.here hx rfl (hb hby d4_1) rfl (l' := #[.val (.ref a1), .val (.long q2), .second, .val (.int (0 : Int32)), .unset, .unset]) rfl k) ?_
    refine own_go (fun _ k => XS.aloadN X0.here hx rfl (hb hby d4_2) rfl rfl k) ?_
    show own_Run p e below _ s₁ (mkF m 3 #[.val (.ref a1), .val (.long q2), .second, .val (.int (0 : Int32)), .unset, .unset] [(.ref a1)])
    obtain ⟨T162, X162, e162, st162⟩ := getF X0 hx hZ hown (host := "") (Or.inl (W 34 rfl)) Via.refl e0 F_mCount_a1 (g := (mkF m 3 #[.val (.ref a1), .val (.long q2), .second, .val (.int (0 : Int32)), .unset, .unset] [(.ref a1)])) rfl rfl (hb hby d4_3)
    refine own_go st162 ?_
    show own_Run p e below _ T162 (mkF m 6 #[.val (.ref a1), .val (.long q2), .second, .val (.int (0 : Int32)), .unset, .unset] [(.int (1 : Int32))])
    refine own_go (fun _ k => XS.istore X162.here hx rfl (hb hby d4_6) rfl (l' := #[.val (.ref a1), .val (.long q2), .second, .val (.int (0 : Int32)), .val (.int (1 : Int32)), .unset]) rfl k) ?_
    refine own_go (fun _ k => XS.iloadN X162.here hx rfl (hb hby d4_8) rfl k) ?_
    refine own_go (fun _ k => XS.iload X162.here hx rfl (hb hby d4_9) rfl k) ?_
    show own_Run p e below _ T162 (mkF m 11 #[.val (.ref a1), .val (.long q2), .second, .val (.int (0 : Int32)), .val (.int (1 : Int32)), .unset] [(.int (1 : Int32)), (.int (0 : Int32))])
    refine own_go (fun _ k => XS.icmpNo X162.here hx rfl (hb hby d4_11) rfl (tlt (by decide : (0 : Int32) < (1 : Int32))).2.1 k) ?_
    show own_Run p e below _ T162 (mkF m 14 #[.val (.ref a1), .val (.long q2), .second, .val (.int (0 : Int32)), .val (.int (1 : Int32)), .unset] [])
    refine own_go (fun _ k => XS.iloadN X162.here hx rfl (hb hby d4_14) rfl k) ?_
    refine own_go (fun _ k => XS.iload X162.here hx rfl (hb hby d4_15) rfl k) ?_
    refine own_go (fun _ k => XS.iadd X162.here hx rfl (hb hby d4_17) rfl k) ?_
    show own_Run p e below _ T162 (mkF m 18 #[.val (.ref a1), .val (.long q2), .second, .val (.int (0 : Int32)), .val (.int (1 : Int32)), .unset] [(.int ((0 : Int32) + (1 : Int32)))])
    rw [show ((0 : Int32) + (1 : Int32)) = (1 : Int32) by decide]
    show own_Run p e below _ T162 (mkF m 18 #[.val (.ref a1), .val (.long q2), .second, .val (.int (0 : Int32)), .val (.int (1 : Int32)), .unset] [(.int (1 : Int32))])
    refine own_go (fun _ k => XS.iconst X162.here hx rfl (hb hby d4_18) k) ?_
    refine own_go (fun _ k => XS.iushr X162.here hx rfl (hb hby d4_19) rfl k) ?_
    show own_Run p e below _ T162 (mkF m 20 #[.val (.ref a1), .val (.long q2), .second, .val (.int (0 : Int32)), .val (.int (1 : Int32)), .unset] [(.int (((1 : Int32).toUInt32 >>> ((1 : Int32) &&& 31).toUInt32).toInt32))])
    rw [show (((1 : Int32).toUInt32 >>> ((1 : Int32) &&& 31).toUInt32).toInt32) = (0 : Int32) by decide]
    show own_Run p e below _ T162 (mkF m 20 #[.val (.ref a1), .val (.long q2), .second, .val (.int (0 : Int32)), .val (.int (1 : Int32)), .unset] [(.int (0 : Int32))])
    refine own_go (fun _ k => XS.istore X162.here hx rfl (hb hby d4_20) rfl (l' := #[.val (.ref a1), .val (.long q2), .second, .val (.int (0 : Int32)), .val (.int (1 : Int32)), .val (.int (0 : Int32))]) rfl k) ?_
    refine own_go (fun _ k => XS.aloadN X162.here hx rfl (hb hby d4_22) rfl rfl k) ?_
    show own_Run p e below _ T162 (mkF m 23 #[.val (.ref a1), .val (.long q2), .second, .val (.int (0 : Int32)), .val (.int (1 : Int32)), .val (.int (0 : Int32))] [(.ref a1)])
    obtain ⟨T163, X163, e163, st163⟩ := getF X162 hx hZ hown (host := "") (Or.inl (W 15 rfl)) Via.refl e162 F_mTimestamps_a1 (g := (mkF m 23 #[.val (.ref a1), .val (.long q2), .second, .val (.int (0 : Int32)), .val (.int (1 : Int32)), .val (.int (0 : Int32))] [(.ref a1)])) rfl rfl (hb hby d4_23)
    refine own_go st163 ?_
    show own_Run p e below _ T163 (mkF m 26 #[.val (.ref a1), .val (.long q2), .second, .val (.int (0 : Int32)), .val (.int (1 : Int32)), .val (.int (0 : Int32))] [(.ref b3)])
    refine own_go (fun _ k => XS.iload X163.here hx rfl (hb hby d4_26) rfl k) ?_
    show own_Run p e below _ T163 (mkF m 28 #[.val (.ref a1), .val (.long q2), .second, .val (.int (0 : Int32)), .val (.int (1 : Int32)), .val (.int (0 : Int32))] [(.int (0 : Int32)), (.ref b3)])
    obtain ⟨cl164, Ar164, q164, S164, N164, H164, G164⟩ := id V_b3
    have hin164 : ¬ ((0 : Int32) < 0 ∨ cl164.slots.size ≤ ((0 : Int32)).toNatClampNeg) := inb_of S164 ⟨by decide, by decide⟩
    refine own_go (X163.laload hx (j := (0 : Int32)) (v := (.long z0)) (by rw [e163]; exact Ar164.1) (State.isArrayOf_alike hZ.alike Ar164.2.1) Ar164.2.2 hin164 (H164.at hin164 rfl) (g := (mkF m 28 #[.val (.ref a1), .val (.long q2), .second, .val (.int (0 : Int32)), .val (.int (1 : Int32)), .val (.int (0 : Int32))] [(.int (0 : Int32)), (.ref b3)])) rfl rfl (hb hby d4_28)) ?_
    show own_Run p e below _ T163 (mkF m 29 #[.val (.ref a1), .val (.long q2), .second, .val (.int (0 : Int32)), .val (.int (1 : Int32)), .val (.int (0 : Int32))] [(.long z0)])
    refine own_go (fun _ k => XS.lloadN X163.here hx rfl (hb hby d4_29) rfl k) ?_
    refine own_go (fun _ k => XS.lcmp X163.here hx rfl (hb hby d4_30) rfl k) ?_
    show own_Run p e below _ T163 (mkF m 31 #[.val (.ref a1), .val (.long q2), .second, .val (.int (0 : Int32)), .val (.int (1 : Int32)), .val (.int (0 : Int32))] [(.int (lcmpW z0 q2))])
    refine own_go (fun _ k => XS.ifYes X163.here hx rfl (pc0 := 31) (pc' := 42) rfl (hb hby d4_31) rfl (own_lcF hz0).2.1 (by decide) (by decide) k) ?_
    show own_Run p e below _ T163 (mkF m 42 #[.val (.ref a1), .val (.long q2), .second, .val (.int (0 : Int32)), .val (.int (1 : Int32)), .val (.int (0 : Int32))] [])
    refine own_go (fun _ k => XS.iload X163.here hx rfl (hb hby d4_42) rfl k) ?_
    refine own_go (fun _ k => XS.istore X163.here hx rfl (hb hby d4_44) rfl (l' := #[.val (.ref a1), .val (.long q2), .second, .val (.int (0 : Int32)), .val (.int (0 : Int32)), .val (.int (0 : Int32))]) rfl k) ?_
    refine own_go (fun _ k => XS.goto X163.here hx rfl (pc0 := 46) (pc' := 8) rfl (hb hby d4_46) (by decide) (by decide) k) ?_
    refine own_go (fun _ k => XS.iloadN X163.here hx rfl (hb hby d4_8) rfl k) ?_
    show own_Run p e below _ T163 (mkF m 9 #[.val (.ref a1), .val (.long q2), .second, .val (.int (0 : Int32)), .val (.int (0 : Int32)), .val (.int (0 : Int32))] [(.int (0 : Int32))])
    refine own_go (fun _ k => XS.iload X163.here hx rfl (hb hby d4_9) rfl k) ?_
    show own_Run p e below _ T163 (mkF m 11 #[.val (.ref a1), .val (.long q2), .second, .val (.int (0 : Int32)), .val (.int (0 : Int32)), .val (.int (0 : Int32))] [(.int (0 : Int32)), (.int (0 : Int32))])
    refine own_go (fun _ k => XS.icmpYes X163.here hx rfl (pc0 := 11) (pc' := 49) rfl (hb hby d4_11) rfl (flt (by decide : ¬ ((0 : Int32) < (0 : Int32)))).2.1 (by decide) (by decide) k) ?_
    show own_Run p e below _ T163 (mkF m 49 #[.val (.ref a1), .val (.long q2), .second, .val (.int (0 : Int32)), .val (.int (0 : Int32)), .val (.int (0 : Int32))] [])
    refine own_go (fun _ k => XS.iloadN X163.here hx rfl (hb hby d4_49) rfl k) ?_
    refine own_go (fun _ k => XS.iconst X163.here hx rfl (hb hby d4_50) k) ?_
    refine own_go (fun _ k => XS.isub X163.here hx rfl (hb hby d4_51) rfl k) ?_
    show own_Run p e below _ T163 (mkF m 52 #[.val (.ref a1), .val (.long q2), .second, .val (.int (0 : Int32)), .val (.int (0 : Int32)), .val (.int (0 : Int32))] [(.int ((0 : Int32) - (1 : Int32)))])
    rw [show ((0 : Int32) - (1 : Int32)) = (-1 : Int32) by decide]
    show own_Run p e below _ T163 (mkF m 52 #[.val (.ref a1), .val (.long q2), .second, .val (.int (0 : Int32)), .val (.int (0 : Int32)), .val (.int (0 : Int32))] [(.int (-1 : Int32))])
    refine own_done (Q := fun v h L => Q4n1 Z a1 q2 b3 k3 z0 (-1 : Int32) h0 n0 v h L) (v := (some (.int (-1 : Int32)))) X163 (fun h => by rw [hret] at h; cases h) hlk (fun fs hr => own_retI X163 hx hret (hb hby d4_52) hr) ?_ (by decide) (by decide)
    show Q4n1 Z a1 q2 b3 k3 z0 (-1 : Int32) h0 n0 _ T163.heap _
    rw [e163]
    exact ⟨rfl, N0, rfl⟩
  · show own_Run p e below _ s₁ (mkF m 0 #[.val (.ref a1), .val (.long q2), .second, .unset, .unset, .unset] [])
    refine own_go (fun _ k => XS.iconst X0.here hx rfl (hb hby d4_0) k) ?_
    refine own_go (fun _ k => XS.istoreN X0.here hx rfl (hb hby d4_1) rfl (l' := #[.val (.ref a1), .val (.long q2), .second, .val (.int (0 : Int32)), .unset, .unset]) rfl k) ?_
    refine own_go (fun _ k => XS.aloadN X0.here hx rfl (hb hby d4_2) rfl rfl k) ?_
    show own_Run p e below _ s₁ (mkF m 3 #[.val (.ref a1), .val (.long q2), .second, .val (.int (0 : Int32)), .unset, .unset] [(.ref a1)])
    obtain ⟨T165, X165, e165, st165⟩ := getF X0 hx hZ hown (host := "") (Or.inl (W 34 rfl)) Via.refl e0 F_mCount_a1 (g := (mkF m 3 #[.val (.ref a1), .val (.long q2), .second, .val (.int (0 : Int32)), .unset, .unset] [(.ref a1)])) rfl rfl (hb hby d4_3)
    refine own_go st165 ?_
    show own_Run p e below _ T165 (mkF m 6 #[.val (.ref a1), .val (.long q2), .second, .val (.int (0 : Int32)), .unset, .unset] [(.int (1 : Int32))])
    refine own_go (fun _ k => XS.istore X165.here hx rfl (hb hby d4_6) rfl (l' := #[.val (.ref a1), .val (.long q2), .second, .val (.int (0 : Int32)), .val (.int (1 : Int32)), .unset]) rfl k) ?_
    refine own_go (fun _ k => XS.iloadN X165.here hx rfl (hb hby d4_8) rfl k) ?_
    refine own_go (fun _ k => XS.iload X165.here hx rfl (hb hby d4_9) rfl k) ?_
    show own_Run p e below _ T165 (mkF m 11 #[.val (.ref a1), .val (.long q2), .second, .val (.int (0 : Int32)), .val (.int (1 : Int32)), .unset] [(.int (1 : Int32)), (.int (0 : Int32))])
    refine own_go (fun _ k => XS.icmpNo X165.here hx rfl (hb hby d4_11) rfl (tlt (by decide : (0 : Int32) < (1 : Int32))).2.1 k) ?_
    show own_Run p e below _ T165 (mkF m 14 #[.val (.ref a1), .val (.long q2), .second, .val (.int (0 : Int32)), .val (.int (1 : Int32)), .unset] [])
    refine own_go (fun _ k => XS.iloadN X165.here hx rfl (hb hby d4_14) rfl k) ?_
    refine own_go (fun _ k => XS.iload X165.here hx rfl (hb hby d4_15) rfl k) ?_
    refine own_go (fun _ k => XS.iadd X165.here hx rfl (hb hby d4_17) rfl k) ?_
    show own_Run p e below _ T165 (mkF m 18 #[.val (.ref a1), .val (.long q2), .second, .val (.int (0 : Int32)), .val (.int (1 : Int32)), .unset] [(.int ((0 : Int32) + (1 : Int32)))])
    rw [show ((0 : Int32) + (1 : Int32)) = (1 : Int32) by decide]
    show own_Run p e below _ T165 (mkF m 18 #[.val (.ref a1), .val (.long q2), .second, .val (.int (0 : Int32)), .val (.int (1 : Int32)), .unset] [(.int (1 : Int32))])
    refine own_go (fun _ k => XS.iconst X165.here hx rfl (hb hby d4_18) k) ?_
    refine own_go (fun _ k => XS.iushr X165.here hx rfl (hb hby d4_19) rfl k) ?_
    show own_Run p e below _ T165 (mkF m 20 #[.val (.ref a1), .val (.long q2), .second, .val (.int (0 : Int32)), .val (.int (1 : Int32)), .unset] [(.int (((1 : Int32).toUInt32 >>> ((1 : Int32) &&& 31).toUInt32).toInt32))])
    rw [show (((1 : Int32).toUInt32 >>> ((1 : Int32) &&& 31).toUInt32).toInt32) = (0 : Int32) by decide]
    show own_Run p e below _ T165 (mkF m 20 #[.val (.ref a1), .val (.long q2), .second, .val (.int (0 : Int32)), .val (.int (1 : Int32)), .unset] [(.int (0 : Int32))])
    refine own_go (fun _ k => XS.istore X165.here hx rfl (hb hby d4_20) rfl (l' := #[.val (.ref a1), .val (.long q2), .second, .val (.int (0 : Int32)), .val (.int (1 : Int32)), .val (.int (0 : Int32))]) rfl k) ?_
    refine own_go (fun _ k => XS.aloadN X165.here hx rfl (hb hby d4_22) rfl rfl k) ?_
    show own_Run p e below _ T165 (mkF m 23 #[.val (.ref a1), .val (.long q2), .second, .val (.int (0 : Int32)), .val (.int (1 : Int32)), .val (.int (0 : Int32))] [(.ref a1)])
    obtain ⟨T166, X166, e166, st166⟩ := getF X165 hx hZ hown (host := "") (Or.inl (W 15 rfl)) Via.refl e165 F_mTimestamps_a1 (g := (mkF m 23 #[.val (.ref a1), .val (.long q2), .second, .val (.int (0 : Int32)), .val (.int (1 : Int32)), .val (.int (0 : Int32))] [(.ref a1)])) rfl rfl (hb hby d4_23)
    refine own_go st166 ?_
    show own_Run p e below _ T166 (mkF m 26 #[.val (.ref a1), .val (.long q2), .second, .val (.int (0 : Int32)), .val (.int (1 : Int32)), .val (.int (0 : Int32))] [(.ref b3)])
    refine own_go (fun _ k => XS.iload X166.here hx rfl (hb hby d4_26) rfl k) ?_
    show own_Run p e below _ T166 (mkF m 28 #[.val (.ref a1), .val (.long q2), .second, .val (.int (0 : Int32)), .val (.int (1 : Int32)), .val (.int (0 : Int32))] [(.int (0 : Int32)), (.ref b3)])
    obtain ⟨cl167, Ar167, q167, S167, N167, H167, G167⟩ := id V_b3
    have hin167 : ¬ ((0 : Int32) < 0 ∨ cl167.slots.size ≤ ((0 : Int32)).toNatClampNeg) := inb_of S167 ⟨by decide, by decide⟩
    refine own_go (X166.laload hx (j := (0 : Int32)) (v := (.long z0)) (by rw [e166]; exact Ar167.1) (State.isArrayOf_alike hZ.alike Ar167.2.1) Ar167.2.2 hin167 (H167.at hin167 rfl) (g := (mkF m 28 #[.val (.ref a1), .val (.long q2), .second, .val (.int (0 : Int32)), .val (.int (1 : Int32)), .val (.int (0 : Int32))] [(.int (0 : Int32)), (.ref b3)])) rfl rfl (hb hby d4_28)) ?_
    show own_Run p e below _ T166 (mkF m 29 #[.val (.ref a1), .val (.long q2), .second, .val (.int (0 : Int32)), .val (.int (1 : Int32)), .val (.int (0 : Int32))] [(.long z0)])
    refine own_go (fun _ k => XS.lloadN X166.here hx rfl (hb hby d4_29) rfl k) ?_
    refine own_go (fun _ k => XS.lcmp X166.here hx rfl (hb hby d4_30) rfl k) ?_
    show own_Run p e below _ T166 (mkF m 31 #[.val (.ref a1), .val (.long q2), .second, .val (.int (0 : Int32)), .val (.int (1 : Int32)), .val (.int (0 : Int32))] [(.int (lcmpW z0 q2))])
    refine own_go (fun _ k => XS.ifNo X166.here hx rfl (hb hby d4_31) rfl (own_lcT hz0).2.1 k) ?_
    show own_Run p e below _ T166 (mkF m 34 #[.val (.ref a1), .val (.long q2), .second, .val (.int (0 : Int32)), .val (.int (1 : Int32)), .val (.int (0 : Int32))] [])
    refine own_go (fun _ k => XS.iload X166.here hx rfl (hb hby d4_34) rfl k) ?_
    refine own_go (fun _ k => XS.iconst X166.here hx rfl (hb hby d4_36) k) ?_
    refine own_go (fun _ k => XS.iadd X166.here hx rfl (hb hby d4_37) rfl k) ?_
    show own_Run p e below _ T166 (mkF m 38 #[.val (.ref a1), .val (.long q2), .second, .val (.int (0 : Int32)), .val (.int (1 : Int32)), .val (.int (0 : Int32))] [(.int ((0 : Int32) + (1 : Int32)))])
    rw [show ((0 : Int32) + (1 : Int32)) = (1 : Int32) by decide]
    show own_Run p e below _ T166 (mkF m 38 #[.val (.ref a1), .val (.long q2), .second, .val (.int (0 : Int32)), .val (.int (1 : Int32)), .val (.int (0 : Int32))] [(.int (1 : Int32))])
    refine own_go (fun _ k => XS.istoreN X166.here hx rfl (hb hby d4_38) rfl (l' := #[.val (.ref a1), .val (.long q2), .second, .val (.int (1 : Int32)), .val (.int (1 : Int32)), .val (.int (0 : Int32))]) rfl k) ?_
    refine own_go (fun _ k => XS.goto X166.here hx rfl (pc0 := 39) (pc' := 46) rfl (hb hby d4_39) (by decide) (by decide) k) ?_
    refine own_go (fun _ k => XS.goto X166.here hx rfl (pc0 := 46) (pc' := 8) rfl (hb hby d4_46) (by decide) (by decide) k) ?_
    refine own_go (fun _ k => XS.iloadN X166.here hx rfl (hb hby d4_8) rfl k) ?_
    show own_Run p e below _ T166 (mkF m 9 #[.val (.ref a1), .val (.long q2), .second, .val (.int (1 : Int32)), .val (.int (1 : Int32)), .val (.int (0 : Int32))] [(.int (1 : Int32))])
    refine own_go (fun _ k => XS.iload X166.here hx rfl (hb hby d4_9) rfl k) ?_
    show own_Run p e below _ T166 (mkF m 11 #[.val (.ref a1), .val (.long q2), .second, .val (.int (1 : Int32)), .val (.int (1 : Int32)), .val (.int (0 : Int32))] [(.int (1 : Int32)), (.int (1 : Int32))])
    refine own_go (fun _ k => XS.icmpYes X166.here hx rfl (pc0 := 11) (pc' := 49) rfl (hb hby d4_11) rfl (flt (by decide : ¬ ((1 : Int32) < (1 : Int32)))).2.1 (by decide) (by decide) k) ?_
    show own_Run p e below _ T166 (mkF m 49 #[.val (.ref a1), .val (.long q2), .second, .val (.int (1 : Int32)), .val (.int (1 : Int32)), .val (.int (0 : Int32))] [])
    refine own_go (fun _ k => XS.iloadN X166.here hx rfl (hb hby d4_49) rfl k) ?_
    refine own_go (fun _ k => XS.iconst X166.here hx rfl (hb hby d4_50) k) ?_
    refine own_go (fun _ k => XS.isub X166.here hx rfl (hb hby d4_51) rfl k) ?_
    show own_Run p e below _ T166 (mkF m 52 #[.val (.ref a1), .val (.long q2), .second, .val (.int (1 : Int32)), .val (.int (1 : Int32)), .val (.int (0 : Int32))] [(.int ((1 : Int32) - (1 : Int32)))])
    rw [show ((1 : Int32) - (1 : Int32)) = (0 : Int32) by decide]
    show own_Run p e below _ T166 (mkF m 52 #[.val (.ref a1), .val (.long q2), .second, .val (.int (1 : Int32)), .val (.int (1 : Int32)), .val (.int (0 : Int32))] [(.int (0 : Int32))])
    refine own_done (Q := fun v h L => Q4n1 Z a1 q2 b3 k3 z0 (0 : Int32) h0 n0 v h L) (v := (some (.int (0 : Int32)))) X166 (fun h => by rw [hret] at h; cases h) hlk (fun fs hr => own_retI X166 hx hret (hb hby d4_52) hr) ?_ (by decide) (by decide)
    show Q4n1 Z a1 q2 b3 k3 z0 (0 : Int32) h0 n0 _ T166.heap _
    rw [e166]
    exact ⟨rfl, N0, rfl⟩
def Q4n2 (Z : State) (a1 : Addr) (q2 : Int64) (b3 : Addr) (k3 : ClassId) (z0 : Int64) (z1 : Int64) (r : Int32) (h0 : Heap) (n0 : Nat) (v : Option Value) (h : Heap) (L : List Loc) : Prop := v = some (.int r) ∧ Fr n0 L ∧ h = h0
set_option maxRecDepth 65536 in
set_option maxHeartbeats 40000000 in
theorem rm4n2 (l : Launch) (Z : State) (a0 : Array Value) (hw : ∀ d ∈ tables_1, d.before a0 Z = true) (ws : List Jvm.Cond) (a1 : Addr) (q2 : Int64) (b3 : Addr) (k3 : ClassId) (z0 : Int64) (z1 : Int64) (r : Int32) (h0 : Heap) (n0 : Nat) (Z0 : n0 ≤ h0.size) (F_mTimestamps_a1 : Fld Z h0 a1 "com/example/tote/tote/storage/OffsetIndex" "mTimestamps" "[J" (.ref b3)) (F_mCount_a1 : Fld Z h0 a1 "com/example/tote/tote/storage/OffsetIndex" "mCount" "I" (.int (2 : Int32))) (V_b3 : Arv Z h0 b3 k3 .long (16 : Int32) [(.long z0), (.long z1), (.long (0 : Int64)), (.long (0 : Int64)), (.long (0 : Int64)), (.long (0 : Int64)), (.long (0 : Int64)), (.long (0 : Int64)), (.long (0 : Int64)), (.long (0 : Int64)), (.long (0 : Int64)), (.long (0 : Int64)), (.long (0 : Int64)), (.long (0 : Int64)), (.long (0 : Int64)), (.long (0 : Int64))] (.long (0 : Int64))) (hp : (¬ (z0 < q2) ∧ ¬ (z1 < q2) ∧ r = (-1 : Int32)) ∨ (z0 < q2 ∧ ¬ (z1 < q2) ∧ r = (0 : Int32)) ∨ (z0 < q2 ∧ z1 < q2 ∧ r = (1 : Int32))) :
    MetFree l (⟨"com/example/tote/tote/storage/OffsetIndex", "floorTime", "(J)I"⟩ : MethodName) (head1 (Jvm.Cond.code (⟨"com/example/tote/tote/storage/OffsetIndex", "floorTime", "(J)I"⟩ : MethodName) prog_89_method_6_code 6 (some .int) :: ws) ({ frames := 0, cells := 0, slots := 0, locals := 0 } : Room)) (fun a U => a = #[(.ref a1), (.long q2)] ∧ Z.Warmed39 U.vm ∧ U.heap = h0) (fun _ _ _ _ _ => True) (fun _ U o U' => ∃ v L, o = .returned v ∧ Q4n2 Z a1 q2 b3 k3 z0 z1 r h0 n0 v U'.heap L ∧ FrameEnd U o U' L ({ frames := 0, cells := 0, slots := 0, locals := 0 } : Room).cells ({ frames := 0, cells := 0, slots := 0, locals := 0 } : Room).slots) := by
  refine MetFree.of_bodySF (plainFor_of_name pn_4) hisR ?_
  intro p e s m args below meth c s₁ Bd hml0 hP hK
  obtain ⟨rfl, hZ, hh⟩ := hP
  have hx := Bd.exec
  have hby := Bd.bytes
  have hml : c.maxLocals = 6 := hml0
  have hown : s.vm.findClass "com/example/tote/tote/storage/OffsetIndex" = some m.cls := findClass_of_methodNamed Bd.named
  have hnm := (name_of_methodNamed Bd.named Bd.method).1
  have hret := Bd.returns
  have hlk : meth.locks = false := BodyLoose.notSynchronized Bd
  have X0 : Stand p l e ({ frames := 0, cells := 0, slots := 0, locals := 0 } : Room) s m #[(.ref a1), (.long q2)] below meth c s₁ [] 0 0 := Stand.of_body Bd
  have e0 : s₁.heap = h0 := by rw [← hh, Bd.state]; rfl
  have N0 := Fr.nil n0
  have W := fun (k : Nat) {d : Jvm.Cond} (h : tables_1[k]? = some d) => hw d (List.mem_of_getElem? h)
  have K0 : Keep h0 h0 [] := Keep.refl _ _
  refine own_start (ef_4 m a1 q2) ?_
  show own_Run p e below _ s₁ (mkF m 0 #[.val (.ref a1), .val (.long q2), .second, .unset, .unset, .unset] [])
  rcases hp with ⟨hz0, hz1, rfl⟩ | ⟨hz0, hz1, rfl⟩ | ⟨hz0, hz1, rfl⟩
  · show own_Run p e below _ s₁ (mkF m 0 #[.val (.ref a1), .val (.long q2), .second, .unset, .unset, .unset] [])
    refine own_go (fun _ k => XS.iconst X0.here hx rfl (hb hby d4_0) k) ?_
    refine own_go (fun _ k => XS.istoreN X0.here hx rfl (hb hby d4_1) rfl (l' := #[.val (.ref a1), .val (.long q2), .second, .val (.int (0 : Int32)), .unset, .unset]) rfl k) ?_
    refine own_go (fun _ k => XS.aloadN X0.here hx rfl (hb hby d4_2) rfl rfl k) ?_
    show own_Run p e below _ s₁ (mkF m 3 #[.val (.ref a1), .val (.long q2), .second, .val (.int (0 : Int32)), .unset, .unset] [(.ref a1)])
    obtain ⟨T168, X168, e168, st168⟩ := getF X0 hx hZ hown (host := "") (Or.inl (W 34 rfl)) Via.refl e0 F_mCount_a1 (g := (mkF m 3 #[.val (.ref a1), .val (.long q2), .second, .val (.int (0 : Int32)), .unset, .unset] [(.ref a1)])) rfl rfl (hb hby d4_3)
    refine own_go st168 ?_
    show own_Run p e below _ T168 (mkF m 6 #[.val (.ref a1), .val (.long q2), .second, .val (.int (0 : Int32)), .unset, .unset] [(.int (2 : Int32))])
    refine own_go (fun _ k => XS.istore X168.here hx rfl (hb hby d4_6) rfl (l' := #[.val (.ref a1), .val (.long q2), .second, .val (.int (0 : Int32)), .val (.int (2 : Int32)), .unset]) rfl k) ?_
    refine own_go (fun _ k => XS.iloadN X168.here hx rfl (hb hby d4_8) rfl k) ?_
    refine own_go (fun _ k => XS.iload X168.here hx rfl (hb hby d4_9) rfl k) ?_
    show own_Run p e below _ T168 (mkF m 11 #[.val (.ref a1), .val (.long q2), .second, .val (.int (0 : Int32)), .val (.int (2 : Int32)), .unset] [(.int (2 : Int32)), (.int (0 : Int32))])
    refine own_go (fun _ k => XS.icmpNo X168.here hx rfl (hb hby d4_11) rfl (tlt (by decide : (0 : Int32) < (2 : Int32))).2.1 k) ?_
    show own_Run p e below _ T168 (mkF m 14 #[.val (.ref a1), .val (.long q2), .second, .val (.int (0 : Int32)), .val (.int (2 : Int32)), .unset] [])
    refine own_go (fun _ k => XS.iloadN X168.here hx rfl (hb hby d4_14) rfl k) ?_
    refine own_go (fun _ k => XS.iload X168.here hx rfl (hb hby d4_15) rfl k) ?_
    refine own_go (fun _ k => XS.iadd X168.here hx rfl (hb hby d4_17) rfl k) ?_
    show own_Run p e below _ T168 (mkF m 18 #[.val (.ref a1), .val (.long q2), .second, .val (.int (0 : Int32)), .val (.int (2 : Int32)), .unset] [(.int ((0 : Int32) + (2 : Int32)))])
    rw [show ((0 : Int32) + (2 : Int32)) = (2 : Int32) by decide]
    show own_Run p e below _ T168 (mkF m 18 #[.val (.ref a1), .val (.long q2), .second, .val (.int (0 : Int32)), .val (.int (2 : Int32)), .unset] [(.int (2 : Int32))])
    refine own_go (fun _ k => XS.iconst X168.here hx rfl (hb hby d4_18) k) ?_
    refine own_go (fun _ k => XS.iushr X168.here hx rfl (hb hby d4_19) rfl k) ?_
    show own_Run p e below _ T168 (mkF m 20 #[.val (.ref a1), .val (.long q2), .second, .val (.int (0 : Int32)), .val (.int (2 : Int32)), .unset] [(.int (((2 : Int32).toUInt32 >>> ((1 : Int32) &&& 31).toUInt32).toInt32))])
    rw [show (((2 : Int32).toUInt32 >>> ((1 : Int32) &&& 31).toUInt32).toInt32) = (1 : Int32) by decide]
    show own_Run p e below _ T168 (mkF m 20 #[.val (.ref a1), .val (.long q2), .second, .val (.int (0 : Int32)), .val (.int (2 : Int32)), .unset] [(.int (1 : Int32))])
    refine own_go (fun _ k => XS.istore X168.here hx rfl (hb hby d4_20) rfl (l' := #[.val (.ref a1), .val (.long q2), .second, .val (.int (0 : Int32)), .val (.int (2 : Int32)), .val (.int (1 : Int32))]) rfl k) ?_
    refine own_go (fun _ k => XS.aloadN X168.here hx rfl (hb hby d4_22) rfl rfl k) ?_
    show own_Run p e below _ T168 (mkF m 23 #[.val (.ref a1), .val (.long q2), .second, .val (.int (0 : Int32)), .val (.int (2 : Int32)), .val (.int (1 : Int32))] [(.ref a1)])
    obtain ⟨T169, X169, e169, st169⟩ := getF X168 hx hZ hown (host := "") (Or.inl (W 15 rfl)) Via.refl e168 F_mTimestamps_a1 (g := (mkF m 23 #[.val (.ref a1), .val (.long q2), .second, .val (.int (0 : Int32)), .val (.int (2 : Int32)), .val (.int (1 : Int32))] [(.ref a1)])) rfl rfl (hb hby d4_23)
    refine own_go st169 ?_
    show own_Run p e below _ T169 (mkF m 26 #[.val (.ref a1), .val (.long q2), .second, .val (.int (0 : Int32)), .val (.int (2 : Int32)), .val (.int (1 : Int32))] [(.ref b3)])
    refine own_go (fun _ k => XS.iload X169.here hx rfl (hb hby d4_26) rfl k) ?_
    show own_Run p e below _ T169 (mkF m 28 #[.val (.ref a1), .val (.long q2), .second, .val (.int (0 : Int32)), .val (.int (2 : Int32)), .val (.int (1 : Int32))] [(.int (1 : Int32)), (.ref b3)])
    obtain ⟨cl170, Ar170, q170, S170, N170, H170, G170⟩ := id V_b3
    have hin170 : ¬ ((1 : Int32) < 0 ∨ cl170.slots.size ≤ ((1 : Int32)).toNatClampNeg) := inb_of S170 ⟨by decide, by decide⟩
    refine own_go (X169.laload hx (j := (1 : Int32)) (v := (.long z1)) (by rw [e169]; exact Ar170.1) (State.isArrayOf_alike hZ.alike Ar170.2.1) Ar170.2.2 hin170 (H170.at hin170 rfl) (g := (mkF m 28 #[.val (.ref a1), .val (.long q2), .second, .val (.int (0 : Int32)), .val (.int (2 : Int32)), .val (.int (1 : Int32))] [(.int (1 : Int32)), (.ref b3)])) rfl rfl (hb hby d4_28)) ?_
    show own_Run p e below _ T169 (mkF m 29 #[.val (.ref a1), .val (.long q2), .second, .val (.int (0 : Int32)), .val (.int (2 : Int32)), .val (.int (1 : Int32))] [(.long z1)])
    refine own_go (fun _ k => XS.lloadN X169.here hx rfl (hb hby d4_29) rfl k) ?_
    refine own_go (fun _ k => XS.lcmp X169.here hx rfl (hb hby d4_30) rfl k) ?_
    show own_Run p e below _ T169 (mkF m 31 #[.val (.ref a1), .val (.long q2), .second, .val (.int (0 : Int32)), .val (.int (2 : Int32)), .val (.int (1 : Int32))] [(.int (lcmpW z1 q2))])
    refine own_go (fun _ k => XS.ifYes X169.here hx rfl (pc0 := 31) (pc' := 42) rfl (hb hby d4_31) rfl (own_lcF hz1).2.1 (by decide) (by decide) k) ?_
    show own_Run p e below _ T169 (mkF m 42 #[.val (.ref a1), .val (.long q2), .second, .val (.int (0 : Int32)), .val (.int (2 : Int32)), .val (.int (1 : Int32))] [])
    refine own_go (fun _ k => XS.iload X169.here hx rfl (hb hby d4_42) rfl k) ?_
    refine own_go (fun _ k => XS.istore X169.here hx rfl (hb hby d4_44) rfl (l' := #[.val (.ref a1), .val (.long q2), .second, .val (.int (0 : Int32)), .val (.int (1 : Int32)), .val (.int (1 : Int32))]) rfl k) ?_
    refine own_go (fun _ k => XS.goto X169.here hx rfl (pc0 := 46) (pc' := 8) rfl (hb hby d4_46) (by decide) (by decide) k) ?_
    refine own_go (fun _ k => XS.iloadN X169.here hx rfl (hb hby d4_8) rfl k) ?_
    show own_Run p e below _ T169 (mkF m 9 #[.val (.ref a1), .val (.long q2), .second, .val (.int (0 : Int32)), .val (.int (1 : Int32)), .val (.int (1 : Int32))] [(.int (0 : Int32))])
    refine own_go (fun _ k => XS.iload X169.here hx rfl (hb hby d4_9) rfl k) ?_
    show own_Run p e below _ T169 (mkF m 11 #[.val (.ref a1), .val (.long q2), .second, .val (.int (0 : Int32)), .val (.int (1 : Int32)), .val (.int (1 : Int32))] [(.int (1 : Int32)), (.int (0 : Int32))])
    refine own_go (fun _ k => XS.icmpNo X169.here hx rfl (hb hby d4_11) rfl (tlt (by decide : (0 : Int32) < (1 : Int32))).2.1 k) ?_
    show own_Run p e below _ T169 (mkF m 14 #[.val (.ref a1), .val (.long q2), .second, .val (.int (0 : Int32)), .val (.int (1 : Int32)), .val (.int (1 : Int32))] [])
    refine own_go (fun _ k => XS.iloadN X169.here hx rfl (hb hby d4_14) rfl k) ?_
    refine own_go (fun _ k => XS.iload X169.here hx rfl (hb hby d4_15) rfl k) ?_
    refine own_go (fun _ k => XS.iadd X169.here hx rfl (hb hby d4_17) rfl k) ?_
    show own_Run p e below _ T169 (mkF m 18 #[.val (.ref a1), .val (.long q2), .second, .val (.int (0 : Int32)), .val (.int (1 : Int32)), .val (.int (1 : Int32))] [(.int ((0 : Int32) + (1 : Int32)))])
    rw [show ((0 : Int32) + (1 : Int32)) = (1 : Int32) by decide]
    show own_Run p e below _ T169 (mkF m 18 #[.val (.ref a1), .val (.long q2), .second, .val (.int (0 : Int32)), .val (.int (1 : Int32)), .val (.int (1 : Int32))] [(.int (1 : Int32))])
    refine own_go (fun _ k => XS.iconst X169.here hx rfl (hb hby d4_18) k) ?_
    refine own_go (fun _ k => XS.iushr X169.here hx rfl (hb hby d4_19) rfl k) ?_
    show own_Run p e below _ T169 (mkF m 20 #[.val (.ref a1), .val (.long q2), .second, .val (.int (0 : Int32)), .val (.int (1 : Int32)), .val (.int (1 : Int32))] [(.int (((1 : Int32).toUInt32 >>> ((1 : Int32) &&& 31).toUInt32).toInt32))])
    rw [show (((1 : Int32).toUInt32 >>> ((1 : Int32) &&& 31).toUInt32).toInt32) = (0 : Int32) by decide]
    show own_Run p e below _ T169 (mkF m 20 #[.val (.ref a1), .val (.long q2), .second, .val (.int (0 : Int32)), .val (.int (1 : Int32)), .val (.int (1 : Int32))] [(.int (0 : Int32))])
    refine own_go (fun _ k => XS.istore X169.here hx rfl (hb hby d4_20) rfl (l' := #[.val (.ref a1), .val (.long q2), .second, .val (.int (0 : Int32)), .val (.int (1 : Int32)), .val (.int (0 : Int32))]) rfl k) ?_
    refine own_go (fun _ k => XS.aloadN X169.here hx rfl (hb hby d4_22) rfl rfl k) ?_
    show own_Run p e below _ T169 (mkF m 23 #[.val (.ref a1), .val (.long q2), .second, .val (.int (0 : Int32)), .val (.int (1 : Int32)), .val (.int (0 : Int32))] [(.ref a1)])
    obtain ⟨T171, X171, e171, st171⟩ := getF X169 hx hZ hown (host := "") (Or.inl (W 15 rfl)) Via.refl e169 F_mTimestamps_a1 (g := (mkF m 23 #[.val (.ref a1), .val (.long q2), .second, .val (.int (0 : Int32)), .val (.int (1 : Int32)), .val (.int (0 : Int32))] [(.ref a1)])) rfl rfl (hb hby d4_23)
    refine own_go st171 ?_
    show own_Run p e below _ T171 (mkF m 26 #[.val (.ref a1), .val (.long q2), .second, .val (.int (0 : Int32)), .val (.int (1 : Int32)), .val (.int (0 : Int32))] [(.ref b3)])
    refine own_go (fun _ k => XS.iload X171.here hx rfl (hb hby d4_26) rfl k) ?_
    show own_Run p e below _ T171 (mkF m 28 #[.val (.ref a1), .val (.long q2), .second, .val (.int (0 : Int32)), .val (.int (1 : Int32)), .val (.int (0 : Int32))] [(.int (0 : Int32)), (.ref b3)])
    obtain ⟨cl172, Ar172, q172, S172, N172, H172, G172⟩ := id V_b3
    have hin172 : ¬ ((0 : Int32) < 0 ∨ cl172.slots.size ≤ ((0 : Int32)).toNatClampNeg) := inb_of S172 ⟨by decide, by decide⟩
    refine own_go (X171.laload hx (j := (0 : Int32)) (v := (.long z0)) (by rw [e171]; exact Ar172.1) (State.isArrayOf_alike hZ.alike Ar172.2.1) Ar172.2.2 hin172 (H172.at hin172 rfl) (g := (mkF m 28 #[.val (.ref a1), .val (.long q2), .second, .val (.int (0 : Int32)), .val (.int (1 : Int32)), .val (.int (0 : Int32))] [(.int (0 : Int32)), (.ref b3)])) rfl rfl (hb hby d4_28)) ?_
    show own_Run p e below _ T171 (mkF m 29 #[.val (.ref a1), .val (.long q2), .second, .val (.int (0 : Int32)), .val (.int (1 : Int32)), .val (.int (0 : Int32))] [(.long z0)])
    refine own_go (fun _ k => XS.lloadN X171.here hx rfl (hb hby d4_29) rfl k) ?_
    refine own_go (fun _ k => XS.lcmp X171.here hx rfl (hb hby d4_30) rfl k) ?_
    show own_Run p e below _ T171 (mkF m 31 #[.val (.ref a1), .val (.long q2), .second, .val (.int (0 : Int32)), .val (.int (1 : Int32)), .val (.int (0 : Int32))] [(.int (lcmpW z0 q2))])
    refine own_go (fun _ k => XS.ifYes X171.here hx rfl (pc0 := 31) (pc' := 42) rfl (hb hby d4_31) rfl (own_lcF hz0).2.1 (by decide) (by decide) k) ?_
    show own_Run p e below _ T171 (mkF m 42 #[.val (.ref a1), .val (.long q2), .second, .val (.int (0 : Int32)), .val (.int (1 : Int32)), .val (.int (0 : Int32))] [])
    refine own_go (fun _ k => XS.iload X171.here hx rfl (hb hby d4_42) rfl k) ?_
    refine own_go (fun _ k => XS.istore X171.here hx rfl (hb hby d4_44) rfl (l' := #[.val (.ref a1), .val (.long q2), .second, .val (.int (0 : Int32)), .val (.int (0 : Int32)), .val (.int (0 : Int32))]) rfl k) ?_
    refine own_go (fun _ k => XS.goto X171.here hx rfl (pc0 := 46) (pc' := 8) rfl (hb hby d4_46) (by decide) (by decide) k) ?_
    refine own_go (fun _ k => XS.iloadN X171.here hx rfl (hb hby d4_8) rfl k) ?_
    show own_Run p e below _ T171 (mkF m 9 #[.val (.ref a1), .val (.long q2), .second, .val (.int (0 : Int32)), .val (.int (0 : Int32)), .val (.int (0 : Int32))] [(.int (0 : Int32))])
    refine own_go (fun _ k => XS.iload X171.here hx rfl (hb hby d4_9) rfl k) ?_
    show own_Run p e below _ T171 (mkF m 11 #[.val (.ref a1), .val (.long q2), .second, .val (.int (0 : Int32)), .val (.int (0 : Int32)), .val (.int (0 : Int32))] [(.int (0 : Int32)), (.int (0 : Int32))])
    refine own_go (fun _ k => XS.icmpYes X171.here hx rfl (pc0 := 11) (pc' := 49) rfl (hb hby d4_11) rfl (flt (by decide : ¬ ((0 : Int32) < (0 : Int32)))).2.1 (by decide) (by decide) k) ?_
    show own_Run p e below _ T171 (mkF m 49 #[.val (.ref a1), .val (.long q2), .second, .val (.int (0 : Int32)), .val (.int (0 : Int32)), .val (.int (0 : Int32))] [])
    refine own_go (fun _ k => XS.iloadN X171.here hx rfl (hb hby d4_49) rfl k) ?_
    refine own_go (fun _ k => XS.iconst X171.here hx rfl (hb hby d4_50) k) ?_
    refine own_go (fun _ k => XS.isub X171.here hx rfl (hb hby d4_51) rfl k) ?_
    show own_Run p e below _ T171 (mkF m 52 #[.val (.ref a1), .val (.long q2), .second, .val (.int (0 : Int32)), .val (.int (0 : Int32)), .val (.int (0 : Int32))] [(.int ((0 : Int32) - (1 : Int32)))])
    rw [show ((0 : Int32) - (1 : Int32)) = (-1 : Int32) by decide]
    show own_Run p e below _ T171 (mkF m 52 #[.val (.ref a1), .val (.long q2), .second, .val (.int (0 : Int32)), .val (.int (0 : Int32)), .val (.int (0 : Int32))] [(.int (-1 : Int32))])
    refine own_done (Q := fun v h L => Q4n2 Z a1 q2 b3 k3 z0 z1 (-1 : Int32) h0 n0 v h L) (v := (some (.int (-1 : Int32)))) X171 (fun h => by rw [hret] at h; cases h) hlk (fun fs hr => own_retI X171 hx hret (hb hby d4_52) hr) ?_ (by decide) (by decide)
    show Q4n2 Z a1 q2 b3 k3 z0 z1 (-1 : Int32) h0 n0 _ T171.heap _
    rw [e171]
    exact ⟨rfl, N0, rfl⟩
  · show own_Run p e below _ s₁ (mkF m 0 #[.val (.ref a1), .val (.long q2), .second, .unset, .unset, .unset] [])
    refine own_go (fun _ k => XS.iconst X0.here hx rfl (hb hby d4_0) k) ?_
    refine own_go (fun _ k => XS.istoreN X0.here hx rfl (hb hby d4_1) rfl (l' := #[.val (.ref a1), .val (.long q2), .second, .val (.int (0 : Int32)), .unset, .unset]) rfl k) ?_
    refine own_go (fun _ k => XS.aloadN X0.here hx rfl (hb hby d4_2) rfl rfl k) ?_
    show own_Run p e below _ s₁ (mkF m 3 #[.val (.ref a1), .val (.long q2), .second, .val (.int (0 : Int32)), .unset, .unset] [(.ref a1)])
    obtain ⟨T173, X173, e173, st173⟩ := getF X0 hx hZ hown (host := "") (Or.inl (W 34 rfl)) Via.refl e0 F_mCount_a1 (g := (mkF m 3 #[.val (.ref a1), .val (.long q2), .second, .val (.int (0 : Int32)), .unset, .unset] [(.ref a1)])) rfl rfl (hb hby d4_3)
    refine own_go st173 ?_
    show own_Run p e below _ T173 (mkF m 6 #[.val (.ref a1), .val (.long q2), .second, .val (.int (0 : Int32)), .unset, .unset] [(.int (2 : Int32))])
    refine own_go (fun _ k => XS.istore X173.here hx rfl (hb hby d4_6) rfl (l' := #[.val (.ref a1), .val (.long q2), .second, .val (.int (0 : Int32)), .val (.int (2 : Int32)), .unset]) rfl k) ?_
    refine own_go (fun _ k => XS.iloadN X173.here hx rfl (hb hby d4_8) rfl k) ?_
    refine own_go (fun _ k => XS.iload X173.here hx rfl (hb hby d4_9) rfl k) ?_
    show own_Run p e below _ T173 (mkF m 11 #[.val (.ref a1), .val (.long q2), .second, .val (.int (0 : Int32)), .val (.int (2 : Int32)), .unset] [(.int (2 : Int32)), (.int (0 : Int32))])
    refine own_go (fun _ k => XS.icmpNo X173.here hx rfl (hb hby d4_11) rfl (tlt (by decide : (0 : Int32) < (2 : Int32))).2.1 k) ?_
    show own_Run p e below _ T173 (mkF m 14 #[.val (.ref a1), .val (.long q2), .second, .val (.int (0 : Int32)), .val (.int (2 : Int32)), .unset] [])
    refine own_go (fun _ k => XS.iloadN X173.here hx rfl (hb hby d4_14) rfl k) ?_
    refine own_go (fun _ k => XS.iload X173.here hx rfl (hb hby d4_15) rfl k) ?_
    refine own_go (fun _ k => XS.iadd X173.here hx rfl (hb hby d4_17) rfl k) ?_
    show own_Run p e below _ T173 (mkF m 18 #[.val (.ref a1), .val (.long q2), .second, .val (.int (0 : Int32)), .val (.int (2 : Int32)), .unset] [(.int ((0 : Int32) + (2 : Int32)))])
    rw [show ((0 : Int32) + (2 : Int32)) = (2 : Int32) by decide]
    show own_Run p e below _ T173 (mkF m 18 #[.val (.ref a1), .val (.long q2), .second, .val (.int (0 : Int32)), .val (.int (2 : Int32)), .unset] [(.int (2 : Int32))])
    refine own_go (fun _ k => XS.iconst X173.here hx rfl (hb hby d4_18) k) ?_
    refine own_go (fun _ k => XS.iushr X173.here hx rfl (hb hby d4_19) rfl k) ?_
    show own_Run p e below _ T173 (mkF m 20 #[.val (.ref a1), .val (.long q2), .second, .val (.int (0 : Int32)), .val (.int (2 : Int32)), .unset] [(.int (((2 : Int32).toUInt32 >>> ((1 : Int32) &&& 31).toUInt32).toInt32))])
    rw [show (((2 : Int32).toUInt32 >>> ((1 : Int32) &&& 31).toUInt32).toInt32) = (1 : Int32) by decide]
    show own_Run p e below _ T173 (mkF m 20 #[.val (.ref a1), .val (.long q2), .second, .val (.int (0 : Int32)), .val (.int (2 : Int32)), .unset] [(.int (1 : Int32))])
    refine own_go (fun _ k => XS.istore X173.here hx rfl (hb hby d4_20) rfl (l' := #[.val (.ref a1), .val (.long q2), .second, .val (.int (0 : Int32)), .val (.int (2 : Int32)), .val (.int (1 : Int32))]) rfl k) ?_
    refine own_go (fun _ k => XS.aloadN X173.here hx rfl (hb hby d4_22) rfl rfl k) ?_
    show own_Run p e below _ T173 (mkF m 23 #[.val (.ref a1), .val (.long q2), .second, .val (.int (0 : Int32)), .val (.int (2 : Int32)), .val (.int (1 : Int32))] [(.ref a1)])
    obtain ⟨T174, X174, e174, st174⟩ := getF X173 hx hZ hown (host := "") (Or.inl (W 15 rfl)) Via.refl e173 F_mTimestamps_a1 (g := (mkF m 23 #[.val (.ref a1), .val (.long q2), .second, .val (.int (0 : Int32)), .val (.int (2 : Int32)), .val (.int (1 : Int32))] [(.ref a1)])) rfl rfl (hb hby d4_23)
    refine own_go st174 ?_
    show own_Run p e below _ T174 (mkF m 26 #[.val (.ref a1), .val (.long q2), .second, .val (.int (0 : Int32)), .val (.int (2 : Int32)), .val (.int (1 : Int32))] [(.ref b3)])
    refine own_go (fun _ k => XS.iload X174.here hx rfl (hb hby d4_26) rfl k) ?_
    show own_Run p e below _ T174 (mkF m 28 #[.val (.ref a1), .val (.long q2), .second, .val (.int (0 : Int32)), .val (.int (2 : Int32)), .val (.int (1 : Int32))] [(.int (1 : Int32)), (.ref b3)])
    obtain ⟨cl175, Ar175, q175, S175, N175, H175, G175⟩ := id V_b3
    have hin175 : ¬ ((1 : Int32) < 0 ∨ cl175.slots.size ≤ ((1 : Int32)).toNatClampNeg) := inb_of S175 ⟨by decide, by decide⟩
    refine own_go (X174.laload hx (j := (1 : Int32)) (v := (.long z1)) (by rw [e174]; exact Ar175.1) (State.isArrayOf_alike hZ.alike Ar175.2.1) Ar175.2.2 hin175 (H175.at hin175 rfl) (g := (mkF m 28 #[.val (.ref a1), .val (.long q2), .second, .val (.int (0 : Int32)), .val (.int (2 : Int32)), .val (.int (1 : Int32))] [(.int (1 : Int32)), (.ref b3)])) rfl rfl (hb hby d4_28)) ?_
    show own_Run p e below _ T174 (mkF m 29 #[.val (.ref a1), .val (.long q2), .second, .val (.int (0 : Int32)), .val (.int (2 : Int32)), .val (.int (1 : Int32))] [(.long z1)])
    refine own_go (fun _ k => XS.lloadN X174.here hx rfl (hb hby d4_29) rfl k) ?_
    refine own_go (fun _ k => XS.lcmp X174.here hx rfl (hb hby d4_30) rfl k) ?_
    show own_Run p e below _ T174 (mkF m 31 #[.val (.ref a1), .val (.long q2), .second, .val (.int (0 : Int32)), .val (.int (2 : Int32)), .val (.int (1 : Int32))] [(.int (lcmpW z1 q2))])
    refine own_go (fun _ k => XS.ifYes X174.here hx rfl (pc0 := 31) (pc' := 42) rfl (hb hby d4_31) rfl (own_lcF hz1).2.1 (by decide) (by decide) k) ?_
    show own_Run p e below _ T174 (mkF m 42 #[.val (.ref a1), .val (.long q2), .second, .val (.int (0 : Int32)), .val (.int (2 : Int32)), .val (.int (1 : Int32))] [])
    refine own_go (fun _ k => XS.iload X174.here hx rfl (hb hby d4_42) rfl k) ?_
    refine own_go (fun _ k => XS.istore X174.here hx rfl (hb hby d4_44) rfl (l' := #[.val (.ref a1), .val (.long q2), .second, .val (.int (0 : Int32)), .val (.int (1 : Int32)), .val (.int (1 : Int32))]) rfl k) ?_
    refine own_go (fun _ k => XS.goto X174.here hx rfl (pc0 := 46) (pc' := 8) rfl (hb hby d4_46) (by decide) (by decide) k) ?_
    refine own_go (fun _ k => XS.iloadN X174.here hx rfl (hb hby d4_8) rfl k) ?_
    show own_Run p e below _ T174 (mkF m 9 #[.val (.ref a1), .val (.long q2), .second, .val (.int (0 : Int32)), .val (.int (1 : Int32)), .val (.int (1 : Int32))] [(.int (0 : Int32))])
    refine own_go (fun _ k => XS.iload X174.here hx rfl (hb hby d4_9) rfl k) ?_
    show own_Run p e below _ T174 (mkF m 11 #[.val (.ref a1), .val (.long q2), .second, .val (.int (0 : Int32)), .val (.int (1 : Int32)), .val (.int (1 : Int32))] [(.int (1 : Int32)), (.int (0 : Int32))])
    refine own_go (fun _ k => XS.icmpNo X174.here hx rfl (hb hby d4_11) rfl (tlt (by decide : (0 : Int32) < (1 : Int32))).2.1 k) ?_
    show own_Run p e below _ T174 (mkF m 14 #[.val (.ref a1), .val (.long q2), .second, .val (.int (0 : Int32)), .val (.int (1 : Int32)), .val (.int (1 : Int32))] [])
    refine own_go (fun _ k => XS.iloadN X174.here hx rfl (hb hby d4_14) rfl k) ?_
    refine own_go (fun _ k => XS.iload X174.here hx rfl (hb hby d4_15) rfl k) ?_
    refine own_go (fun _ k => XS.iadd X174.here hx rfl (hb hby d4_17) rfl k) ?_
    show own_Run p e below _ T174 (mkF m 18 #[.val (.ref a1), .val (.long q2), .second, .val (.int (0 : Int32)), .val (.int (1 : Int32)), .val (.int (1 : Int32))] [(.int ((0 : Int32) + (1 : Int32)))])
    rw [show ((0 : Int32) + (1 : Int32)) = (1 : Int32) by decide]
    show own_Run p e below _ T174 (mkF m 18 #[.val (.ref a1), .val (.long q2), .second, .val (.int (0 : Int32)), .val (.int (1 : Int32)), .val (.int (1 : Int32))] [(.int (1 : Int32))])
    refine own_go (fun _ k => XS.iconst X174.here hx rfl (hb hby d4_18) k) ?_
    refine own_go (fun _ k => XS.iushr X174.here hx rfl (hb hby d4_19) rfl k) ?_
    show own_Run p e below _ T174 (mkF m 20 #[.val (.ref a1), .val (.long q2), .second, .val (.int (0 : Int32)), .val (.int (1 : Int32)), .val (.int (1 : Int32))] [(.int (((1 : Int32).toUInt32 >>> ((1 : Int32) &&& 31).toUInt32).toInt32))])
    rw [show (((1 : Int32).toUInt32 >>> ((1 : Int32) &&& 31).toUInt32).toInt32) = (0 : Int32) by decide]
    show own_Run p e below _ T174 (mkF m 20 #[.val (.ref a1), .val (.long q2), .second, .val (.int (0 : Int32)), .val (.int (1 : Int32)), .val (.int (1 : Int32))] [(.int (0 : Int32))])
    refine own_go (fun _ k => XS.istore X174.here hx rfl (hb hby d4_20) rfl (l' := #[.val (.ref a1), .val (.long q2), .second, .val (.int (0 : Int32)), .val (.int (1 : Int32)), .val (.int (0 : Int32))]) rfl k) ?_
    refine own_go (fun _ k => XS.aloadN X174.here hx rfl (hb hby d4_22) rfl rfl k) ?_
    show own_Run p e below _ T174 (mkF m 23 #[.val (.ref a1), .val (.long q2), .second, .val (.int (0 : Int32)), .val (.int (1 : Int32)), .val (.int (0 : Int32))] [(.ref a1)])
    obtain ⟨T176, X176, e176, st176⟩ := getF X174 hx hZ hown (host := "") (Or.inl (W 15 rfl)) Via.refl e174 F_mTimestamps_a1 (g := (mkF m 23 #[.val (.ref a1), .val (.long q2), .second, .val (.int (0 : Int32)), .val (.int (1 : Int32)), .val (.int (0 : Int32))] [(.ref a1)])) rfl rfl (hb hby d4_23)
    refine own_go st176 ?_
    show own_Run p e below _ T176 (mkF m 26 #[.val (.ref a1), .val (.long q2), .second, .val (.int (0 : Int32)), .val (.int (1 : Int32)), .val (.int (0 : Int32))] [(.ref b3)])
    refine own_go (fun _ k => XS.iload X176.here hx rfl (hb hby d4_26) rfl k) ?_
    show own_Run p e below _ T176 (mkF m 28 #[.val (.ref a1), .val (.long q2), .second, .val (.int (0 : Int32)), .val (.int (1 : Int32)), .val (.int (0 : Int32))] [(.int (0 : Int32)), (.ref b3)])
    obtain ⟨cl177, Ar177, q177, S177, N177, H177, G177⟩ := id V_b3
    have hin177 : ¬ ((0 : Int32) < 0 ∨ cl177.slots.size ≤ ((0 : Int32)).toNatClampNeg) := inb_of S177 ⟨by decide, by decide⟩
    refine own_go (X176.laload hx (j := (0 : Int32)) (v := (.long z0)) (by rw [e176]; exact Ar177.1) (State.isArrayOf_alike hZ.alike Ar177.2.1) Ar177.2.2 hin177 (H177.at hin177 rfl) (g := (mkF m 28 #[.val (.ref a1), .val (.long q2), .second, .val (.int (0 : Int32)), .val (.int (1 : Int32)), .val (.int (0 : Int32))] [(.int (0 : Int32)), (.ref b3)])) rfl rfl (hb hby d4_28)) ?_
    show own_Run p e below _ T176 (mkF m 29 #[.val (.ref a1), .val (.long q2), .second, .val (.int (0 : Int32)), .val (.int (1 : Int32)), .val (.int (0 : Int32))] [(.long z0)])
    refine own_go (fun _ k => XS.lloadN X176.here hx rfl (hb hby d4_29) rfl k) ?_
    refine own_go (fun _ k => XS.lcmp X176.here hx rfl (hb hby d4_30) rfl k) ?_
    show own_Run p e below _ T176 (mkF m 31 #[.val (.ref a1), .val (.long q2), .second, .val (.int (0 : Int32)), .val (.int (1 : Int32)), .val (.int (0 : Int32))] [(.int (lcmpW z0 q2))])
    refine own_go (fun _ k => XS.ifNo X176.here hx rfl (hb hby d4_31) rfl (own_lcT hz0).2.1 k) ?_
    show own_Run p e below _ T176 (mkF m 34 #[.val (.ref a1), .val (.long q2), .second, .val (.int (0 : Int32)), .val (.int (1 : Int32)), .val (.int (0 : Int32))] [])
    refine own_go (fun _ k => XS.iload X176.here hx rfl (hb hby d4_34) rfl k) ?_
    refine own_go (fun _ k => XS.iconst X176.here hx rfl (hb hby d4_36) k) ?_
    refine own_go (fun _ k => XS.iadd X176.here hx rfl (hb hby d4_37) rfl k) ?_
    show own_Run p e below _ T176 (mkF m 38 #[.val (.ref a1), .val (.long q2), .second, .val (.int (0 : Int32)), .val (.int (1 : Int32)), .val (.int (0 : Int32))] [(.int ((0 : Int32) + (1 : Int32)))])
    rw [show ((0 : Int32) + (1 : Int32)) = (1 : Int32) by decide]
    show own_Run p e below _ T176 (mkF m 38 #[.val (.ref a1), .val (.long q2), .second, .val (.int (0 : Int32)), .val (.int (1 : Int32)), .val (.int (0 : Int32))] [(.int (1 : Int32))])
    refine own_go (fun _ k => XS.istoreN X176.here hx rfl (hb hby d4_38) rfl (l' := #[.val (.ref a1), .val (.long q2), .second, .val (.int (1 : Int32)), .val (.int (1 : Int32)), .val (.int (0 : Int32))]) rfl k) ?_
    refine own_go (fun _ k => XS.goto X176.here hx rfl (pc0 := 39) (pc' := 46) rfl (hb hby d4_39) (by decide) (by decide) k) ?_
    refine own_go (fun _ k => XS.goto X176.here hx rfl (pc0 := 46) (pc' := 8) rfl (hb hby d4_46) (by decide) (by decide) k) ?_
    refine own_go (fun _ k => XS.iloadN X176.here hx rfl (hb hby d4_8) rfl k) ?_
    show own_Run p e below _ T176 (mkF m 9 #[.val (.ref a1), .val (.long q2), .second, .val (.int (1 : Int32)), .val (.int (1 : Int32)), .val (.int (0 : Int32))] [(.int (1 : Int32))])
    refine own_go (fun _ k => XS.iload X176.here hx rfl (hb hby d4_9) rfl k) ?_
    show own_Run p e below _ T176 (mkF m 11 #[.val (.ref a1), .val (.long q2), .second, .val (.int (1 : Int32)), .val (.int (1 : Int32)), .val (.int (0 : Int32))] [(.int (1 : Int32)), (.int (1 : Int32))])
    refine own_go (fun _ k => XS.icmpYes X176.here hx rfl (pc0 := 11) (pc' := 49) rfl (hb hby d4_11) rfl (flt (by decide : ¬ ((1 : Int32) < (1 : Int32)))).2.1 (by decide) (by decide) k) ?_
    show own_Run p e below _ T176 (mkF m 49 #[.val (.ref a1), .val (.long q2), .second, .val (.int (1 : Int32)), .val (.int (1 : Int32)), .val (.int (0 : Int32))] [])
    refine own_go (fun _ k => XS.iloadN X176.here hx rfl (hb hby d4_49) rfl k) ?_
    refine own_go (fun _ k => XS.iconst X176.here hx rfl (hb hby d4_50) k) ?_
    refine own_go (fun _ k => XS.isub X176.here hx rfl (hb hby d4_51) rfl k) ?_
    show own_Run p e below _ T176 (mkF m 52 #[.val (.ref a1), .val (.long q2), .second, .val (.int (1 : Int32)), .val (.int (1 : Int32)), .val (.int (0 : Int32))] [(.int ((1 : Int32) - (1 : Int32)))])
    rw [show ((1 : Int32) - (1 : Int32)) = (0 : Int32) by decide]
    show own_Run p e below _ T176 (mkF m 52 #[.val (.ref a1), .val (.long q2), .second, .val (.int (1 : Int32)), .val (.int (1 : Int32)), .val (.int (0 : Int32))] [(.int (0 : Int32))])
    refine own_done (Q := fun v h L => Q4n2 Z a1 q2 b3 k3 z0 z1 (0 : Int32) h0 n0 v h L) (v := (some (.int (0 : Int32)))) X176 (fun h => by rw [hret] at h; cases h) hlk (fun fs hr => own_retI X176 hx hret (hb hby d4_52) hr) ?_ (by decide) (by decide)
    show Q4n2 Z a1 q2 b3 k3 z0 z1 (0 : Int32) h0 n0 _ T176.heap _
    rw [e176]
    exact ⟨rfl, N0, rfl⟩
  · show own_Run p e below _ s₁ (mkF m 0 #[.val (.ref a1), .val (.long q2), .second, .unset, .unset, .unset] [])
    refine own_go (fun _ k => XS.iconst X0.here hx rfl (hb hby d4_0) k) ?_
    refine own_go (fun _ k => XS.istoreN X0.here hx rfl (hb hby d4_1) rfl (l' := #[.val (.ref a1), .val (.long q2), .second, .val (.int (0 : Int32)), .unset, .unset]) rfl k) ?_
    refine own_go (fun _ k => XS.aloadN X0.here hx rfl (hb hby d4_2) rfl rfl k) ?_
    show own_Run p e below _ s₁ (mkF m 3 #[.val (.ref a1), .val (.long q2), .second, .val (.int (0 : Int32)), .unset, .unset] [(.ref a1)])
    obtain ⟨T178, X178, e178, st178⟩ := getF X0 hx hZ hown (host := "") (Or.inl (W 34 rfl)) Via.refl e0 F_mCount_a1 (g := (mkF m 3 #[.val (.ref a1), .val (.long q2), .second, .val (.int (0 : Int32)), .unset, .unset] [(.ref a1)])) rfl rfl (hb hby d4_3)
    refine own_go st178 ?_
    show own_Run p e below _ T178 (mkF m 6 #[.val (.ref a1), .val (.long q2), .second, .val (.int (0 : Int32)), .unset, .unset] [(.int (2 : Int32))])
    refine own_go (fun _ k => XS.istore X178.here hx rfl (hb hby d4_6) rfl (l' := #[.val (.ref a1), .val (.long q2), .second, .val (.int (0 : Int32)), .val (.int (2 : Int32)), .unset]) rfl k) ?_
    refine own_go (fun _ k => XS.iloadN X178.here hx rfl (hb hby d4_8) rfl k) ?_
    refine own_go (fun _ k => XS.iload X178.here hx rfl (hb hby d4_9) rfl k) ?_
    show own_Run p e below _ T178 (mkF m 11 #[.val (.ref a1), .val (.long q2), .second, .val (.int (0 : Int32)), .val (.int (2 : Int32)), .unset] [(.int (2 : Int32)), (.int (0 : Int32))])
    refine own_go (fun _ k => XS.icmpNo X178.here hx rfl (hb hby d4_11) rfl (tlt (by decide : (0 : Int32) < (2 : Int32))).2.1 k) ?_
    show own_Run p e below _ T178 (mkF m 14 #[.val (.ref a1), .val (.long q2), .second, .val (.int (0 : Int32)), .val (.int (2 : Int32)), .unset] [])
    refine own_go (fun _ k => XS.iloadN X178.here hx rfl (hb hby d4_14) rfl k) ?_
    refine own_go (fun _ k => XS.iload X178.here hx rfl (hb hby d4_15) rfl k) ?_
    refine own_go (fun _ k => XS.iadd X178.here hx rfl (hb hby d4_17) rfl k) ?_
    show own_Run p e below _ T178 (mkF m 18 #[.val (.ref a1), .val (.long q2), .second, .val (.int (0 : Int32)), .val (.int (2 : Int32)), .unset] [(.int ((0 : Int32) + (2 : Int32)))])
    rw [show ((0 : Int32) + (2 : Int32)) = (2 : Int32) by decide]
    show own_Run p e below _ T178 (mkF m 18 #[.val (.ref a1), .val (.long q2), .second, .val (.int (0 : Int32)), .val (.int (2 : Int32)), .unset] [(.int (2 : Int32))])
    refine own_go (fun _ k => XS.iconst X178.here hx rfl (hb hby d4_18) k) ?_
    refine own_go (fun _ k => XS.iushr X178.here hx rfl (hb hby d4_19) rfl k) ?_
    show own_Run p e below _ T178 (mkF m 20 #[.val (.ref a1), .val (.long q2), .second, .val (.int (0 : Int32)), .val (.int (2 : Int32)), .unset] [(.int (((2 : Int32).toUInt32 >>> ((1 : Int32) &&& 31).toUInt32).toInt32))])
    rw [show (((2 : Int32).toUInt32 >>> ((1 : Int32) &&& 31).toUInt32).toInt32) = (1 : Int32) by decide]
    show own_Run p e below _ T178 (mkF m 20 #[.val (.ref a1), .val (.long q2), .second, .val (.int (0 : Int32)), .val (.int (2 : Int32)), .unset] [(.int (1 : Int32))])
    refine own_go (fun _ k => XS.istore X178.here hx rfl (hb hby d4_20) rfl (l' := #[.val (.ref a1), .val (.long q2), .second, .val (.int (0 : Int32)), .val (.int (2 : Int32)), .val (.int (1 : Int32))]) rfl k) ?_
    refine own_go (fun _ k => XS.aloadN X178.here hx rfl (hb hby d4_22) rfl rfl k) ?_
    show own_Run p e below _ T178 (mkF m 23 #[.val (.ref a1), .val (.long q2), .second, .val (.int (0 : Int32)), .val (.int (2 : Int32)), .val (.int (1 : Int32))] [(.ref a1)])
    obtain ⟨T179, X179, e179, st179⟩ := getF X178 hx hZ hown (host := "") (Or.inl (W 15 rfl)) Via.refl e178 F_mTimestamps_a1 (g := (mkF m 23 #[.val (.ref a1), .val (.long q2), .second, .val (.int (0 : Int32)), .val (.int (2 : Int32)), .val (.int (1 : Int32))] [(.ref a1)])) rfl rfl (hb hby d4_23)
    refine own_go st179 ?_
    show own_Run p e below _ T179 (mkF m 26 #[.val (.ref a1), .val (.long q2), .second, .val (.int (0 : Int32)), .val (.int (2 : Int32)), .val (.int (1 : Int32))] [(.ref b3)])
    refine own_go (fun _ k => XS.iload X179.here hx rfl (hb hby d4_26) rfl k) ?_
    show own_Run p e below _ T179 (mkF m 28 #[.val (.ref a1), .val (.long q2), .second, .val (.int (0 : Int32)), .val (.int (2 : Int32)), .val (.int (1 : Int32))] [(.int (1 : Int32)), (.ref b3)])
    obtain ⟨cl180, Ar180, q180, S180, N180, H180, G180⟩ := id V_b3
    have hin180 : ¬ ((1 : Int32) < 0 ∨ cl180.slots.size ≤ ((1 : Int32)).toNatClampNeg) := inb_of S180 ⟨by decide, by decide⟩
    refine own_go (X179.laload hx (j := (1 : Int32)) (v := (.long z1)) (by rw [e179]; exact Ar180.1) (State.isArrayOf_alike hZ.alike Ar180.2.1) Ar180.2.2 hin180 (H180.at hin180 rfl) (g := (mkF m 28 #[.val (.ref a1), .val (.long q2), .second, .val (.int (0 : Int32)), .val (.int (2 : Int32)), .val (.int (1 : Int32))] [(.int (1 : Int32)), (.ref b3)])) rfl rfl (hb hby d4_28)) ?_
    show own_Run p e below _ T179 (mkF m 29 #[.val (.ref a1), .val (.long q2), .second, .val (.int (0 : Int32)), .val (.int (2 : Int32)), .val (.int (1 : Int32))] [(.long z1)])
    refine own_go (fun _ k => XS.lloadN X179.here hx rfl (hb hby d4_29) rfl k) ?_
    refine own_go (fun _ k => XS.lcmp X179.here hx rfl (hb hby d4_30) rfl k) ?_
    show own_Run p e below _ T179 (mkF m 31 #[.val (.ref a1), .val (.long q2), .second, .val (.int (0 : Int32)), .val (.int (2 : Int32)), .val (.int (1 : Int32))] [(.int (lcmpW z1 q2))])
    refine own_go (fun _ k => XS.ifNo X179.here hx rfl (hb hby d4_31) rfl (own_lcT hz1).2.1 k) ?_
    show own_Run p e below _ T179 (mkF m 34 #[.val (.ref a1), .val (.long q2), .second, .val (.int (0 : Int32)), .val (.int (2 : Int32)), .val (.int (1 : Int32))] [])
    refine own_go (fun _ k => XS.iload X179.here hx rfl (hb hby d4_34) rfl k) ?_
    refine own_go (fun _ k => XS.iconst X179.here hx rfl (hb hby d4_36) k) ?_
    refine own_go (fun _ k => XS.iadd X179.here hx rfl (hb hby d4_37) rfl k) ?_
    show own_Run p e below _ T179 (mkF m 38 #[.val (.ref a1), .val (.long q2), .second, .val (.int (0 : Int32)), .val (.int (2 : Int32)), .val (.int (1 : Int32))] [(.int ((1 : Int32) + (1 : Int32)))])
    rw [show ((1 : Int32) + (1 : Int32)) = (2 : Int32) by decide]
    show own_Run p e below _ T179 (mkF m 38 #[.val (.ref a1), .val (.long q2), .second, .val (.int (0 : Int32)), .val (.int (2 : Int32)), .val (.int (1 : Int32))] [(.int (2 : Int32))])
    refine own_go (fun _ k => XS.istoreN X179.here hx rfl (hb hby d4_38) rfl (l' := #[.val (.ref a1), .val (.long q2), .second, .val (.int (2 : Int32)), .val (.int (2 : Int32)), .val (.int (1 : Int32))]) rfl k) ?_
    refine own_go (fun _ k => XS.goto X179.here hx rfl (pc0 := 39) (pc' := 46) rfl (hb hby d4_39) (by decide) (by decide) k) ?_
    refine own_go (fun _ k => XS.goto X179.here hx rfl (pc0 := 46) (pc' := 8) rfl (hb hby d4_46) (by decide) (by decide) k) ?_
    refine own_go (fun _ k => XS.iloadN X179.here hx rfl (hb hby d4_8) rfl k) ?_
    show own_Run p e below _ T179 (mkF m 9 #[.val (.ref a1), .val (.long q2), .second, .val (.int (2 : Int32)), .val (.int (2 : Int32)), .val (.int (1 : Int32))] [(.int (2 : Int32))])
    refine own_go (fun _ k => XS.iload X179.here hx rfl (hb hby d4_9) rfl k) ?_
    show own_Run p e below _ T179 (mkF m 11 #[.val (.ref a1), .val (.long q2), .second, .val (.int (2 : Int32)), .val (.int (2 : Int32)), .val (.int (1 : Int32))] [(.int (2 : Int32)), (.int (2 : Int32))])
    refine own_go (fun _ k => XS.icmpYes X179.here hx rfl (pc0 := 11) (pc' := 49) rfl (hb hby d4_11) rfl (flt (by decide : ¬ ((2 : Int32) < (2 : Int32)))).2.1 (by decide) (by decide) k) ?_
    show own_Run p e below _ T179 (mkF m 49 #[.val (.ref a1), .val (.long q2), .second, .val (.int (2 : Int32)), .val (.int (2 : Int32)), .val (.int (1 : Int32))] [])
    refine own_go (fun _ k => XS.iloadN X179.here hx rfl (hb hby d4_49) rfl k) ?_
    refine own_go (fun _ k => XS.iconst X179.here hx rfl (hb hby d4_50) k) ?_
    refine own_go (fun _ k => XS.isub X179.here hx rfl (hb hby d4_51) rfl k) ?_
    show own_Run p e below _ T179 (mkF m 52 #[.val (.ref a1), .val (.long q2), .second, .val (.int (2 : Int32)), .val (.int (2 : Int32)), .val (.int (1 : Int32))] [(.int ((2 : Int32) - (1 : Int32)))])
    rw [show ((2 : Int32) - (1 : Int32)) = (1 : Int32) by decide]
    show own_Run p e below _ T179 (mkF m 52 #[.val (.ref a1), .val (.long q2), .second, .val (.int (2 : Int32)), .val (.int (2 : Int32)), .val (.int (1 : Int32))] [(.int (1 : Int32))])
    refine own_done (Q := fun v h L => Q4n2 Z a1 q2 b3 k3 z0 z1 (1 : Int32) h0 n0 v h L) (v := (some (.int (1 : Int32)))) X179 (fun h => by rw [hret] at h; cases h) hlk (fun fs hr => own_retI X179 hx hret (hb hby d4_52) hr) ?_ (by decide) (by decide)
    show Q4n2 Z a1 q2 b3 k3 z0 z1 (1 : Int32) h0 n0 _ T179.heap _
    rw [e179]
    exact ⟨rfl, N0, rfl⟩
def Q4n3 (Z : State) (a1 : Addr) (q2 : Int64) (b3 : Addr) (k3 : ClassId) (z0 : Int64) (z1 : Int64) (z2 : Int64) (r : Int32) (h0 : Heap) (n0 : Nat) (v : Option Value) (h : Heap) (L : List Loc) : Prop := v = some (.int r) ∧ Fr n0 L ∧ h = h0
set_option maxRecDepth 65536 in
set_option maxHeartbeats 40000000 in
theorem rm4n3 (l : Launch) (Z : State) (a0 : Array Value) (hw : ∀ d ∈ tables_1, d.before a0 Z = true) (ws : List Jvm.Cond) (a1 : Addr) (q2 : Int64) (b3 : Addr) (k3 : ClassId) (z0 : Int64) (z1 : Int64) (z2 : Int64) (r : Int32) (h0 : Heap) (n0 : Nat) (Z0 : n0 ≤ h0.size) (F_mTimestamps_a1 : Fld Z h0 a1 "com/example/tote/tote/storage/OffsetIndex" "mTimestamps" "[J" (.ref b3)) (F_mCount_a1 : Fld Z h0 a1 "com/example/tote/tote/storage/OffsetIndex" "mCount" "I" (.int (3 : Int32))) (V_b3 : Arv Z h0 b3 k3 .long (16 : Int32) [(.long z0), (.long z1), (.long z2), (.long (0 : Int64)), (.long (0 : Int64)), (.long (0 : Int64)), (.long (0 : Int64)), (.long (0 : Int64)), (.long (0 : Int64)), (.long (0 : Int64)), (.long (0 : Int64)), (.long (0 : Int64)), (.long (0 : Int64)), (.long (0 : Int64)), (.long (0 : Int64)), (.long (0 : Int64))] (.long (0 : Int64))) (hp : (¬ (z0 < q2) ∧ ¬ (z1 < q2) ∧ ¬ (z2 < q2) ∧ r = (-1 : Int32)) ∨ (z0 < q2 ∧ ¬ (z1 < q2) ∧ ¬ (z2 < q2) ∧ r = (0 : Int32)) ∨ (z0 < q2 ∧ z1 < q2 ∧ ¬ (z2 < q2) ∧ r = (1 : Int32)) ∨ (z0 < q2 ∧ z1 < q2 ∧ z2 < q2 ∧ r = (2 : Int32))) :
    MetFree l (⟨"com/example/tote/tote/storage/OffsetIndex", "floorTime", "(J)I"⟩ : MethodName) (head1 (Jvm.Cond.code (⟨"com/example/tote/tote/storage/OffsetIndex", "floorTime", "(J)I"⟩ : MethodName) prog_89_method_6_code 6 (some .int) :: ws) ({ frames := 0, cells := 0, slots := 0, locals := 0 } : Room)) (fun a U => a = #[(.ref a1), (.long q2)] ∧ Z.Warmed39 U.vm ∧ U.heap = h0) (fun _ _ _ _ _ => True) (fun _ U o U' => ∃ v L, o = .returned v ∧ Q4n3 Z a1 q2 b3 k3 z0 z1 z2 r h0 n0 v U'.heap L ∧ FrameEnd U o U' L ({ frames := 0, cells := 0, slots := 0, locals := 0 } : Room).cells ({ frames := 0, cells := 0, slots := 0, locals := 0 } : Room).slots) := by
  refine MetFree.of_bodySF (plainFor_of_name pn_4) hisR ?_
  intro p e s m args below meth c s₁ Bd hml0 hP hK
  obtain ⟨rfl, hZ, hh⟩ := hP
  have hx := Bd.exec
  have hby := Bd.bytes
  have hml : c.maxLocals = 6 := hml0
  have hown : s.vm.findClass "com/example/tote/tote/storage/OffsetIndex" = some m.cls := findClass_of_methodNamed Bd.named
  have hnm := (name_of_methodNamed Bd.named Bd.method).1
  have hret := Bd.returns
  have hlk : meth.locks = false := BodyLoose.notSynchronized Bd
  have X0 : Stand p l e ({ frames := 0, cells := 0, slots := 0, locals := 0 } : Room) s m #[(.ref a1), (.long q2)] below meth c s₁ [] 0 0 := Stand.of_body Bd
  have e0 : s₁.heap = h0 := by rw [← hh, Bd.state]; rfl
  have N0 := Fr.nil n0
  have W := fun (k : Nat) {d : Jvm.Cond} (h : tables_1[k]? = some d) => hw d (List.mem_of_getElem? h)
  have K0 : Keep h0 h0 [] := Keep.refl _ _
  refine own_start (ef_4 m a1 q2) ?_
  show own_Run p e below _ s₁ (mkF m 0 #[.val (.ref a1), .val (.long q2), .second, .unset, .unset, .unset] [])
  rcases hp with ⟨hz0, hz1, hz2, rfl⟩ | ⟨hz0, hz1, hz2, rfl⟩ | ⟨hz0, hz1, hz2, rfl⟩ | ⟨hz0, hz1, hz2, rfl⟩
  · show own_Run p e below _ s₁ (mkF m 0 #[.val (.ref a1), .val (.long q2), .second, .unset, .unset, .unset] [])
    refine own_go (fun _ k => XS.iconst X0.here hx rfl (hb hby d4_0) k) ?_
    refine own_go (fun _ k => XS.istoreN X0.here hx rfl (hb hby d4_1) rfl (l' := #[.val (.ref a1), .val (.long q2), .second, .val (.int (0 : Int32)), .unset, .unset]) rfl k) ?_
    refine own_go (fun _ k => XS.aloadN X0.here hx rfl (hb hby d4_2) rfl rfl k) ?_
    show own_Run p e below _ s₁ (mkF m 3 #[.val (.ref a1), .val (.long q2), .second, .val (.int (0 : Int32)), .unset, .unset] [(.ref a1)])
    obtain ⟨T181, X181, e181, st181⟩ := getF X0 hx hZ hown (host := "") (Or.inl (W 34 rfl)) Via.refl e0 F_mCount_a1 (g := (mkF m 3 #[.val (.ref a1), .val (.long q2), .second, .val (.int (0 : Int32)), .unset, .unset] [(.ref a1)])) rfl rfl (hb hby d4_3)
    refine own_go st181 ?_
    show own_Run p e below _ T181 (mkF m 6 #[.val (.ref a1), .val (.long q2), .second, .val (.int (0 : Int32)), .unset, .unset] [(.int (3 : Int32))])
    refine own_go (fun _ k => XS.istore X181.here hx rfl (hb hby d4_6) rfl (l' := #[.val (.ref a1), .val (.long q2), .second, .val (.int (0 : Int32)), .val (.int (3 : Int32)), .unset]) rfl k) ?_
    refine own_go (fun _ k => XS.iloadN X181.here hx rfl (hb hby d4_8) rfl k) ?_
    refine own_go (fun _ k => XS.iload X181.here hx rfl (hb hby d4_9) rfl k) ?_
    show own_Run p e below _ T181 (mkF m 11 #[.val (.ref a1), .val (.long q2), .second, .val (.int (0 : Int32)), .val (.int (3 : Int32)), .unset] [(.int (3 : Int32)), (.int (0 : Int32))])
    refine own_go (fun _ k => XS.icmpNo X181.here hx rfl (hb hby d4_11) rfl (tlt (by decide : (0 : Int32) < (3 : Int32))).2.1 k) ?_
    show own_Run p e below _ T181 (mkF m 14 #[.val (.ref a1), .val (.long q2), .second, .val (.int (0 : Int32)), .val (.int (3 : Int32)), .unset] [])
    refine own_go (fun _ k => XS.iloadN X181.here hx rfl (hb hby d4_14) rfl k) ?_
    refine own_go (fun _ k => XS.iload X181.here hx rfl (hb hby d4_15) rfl k) ?_
    refine own_go (fun _ k => XS.iadd X181.here hx rfl (hb hby d4_17) rfl k) ?_
    show own_Run p e below _ T181 (mkF m 18 #[.val (.ref a1), .val (.long q2), .second, .val (.int (0 : Int32)), .val (.int (3 : Int32)), .unset] [(.int ((0 : Int32) + (3 : Int32)))])
    rw [show ((0 : Int32) + (3 : Int32)) = (3 : Int32) by decide]
    show own_Run p e below _ T181 (mkF m 18 #[.val (.ref a1), .val (.long q2), .second, .val (.int (0 : Int32)), .val (.int (3 : Int32)), .unset] [(.int (3 : Int32))])
    refine own_go (fun _ k => XS.iconst X181.here hx rfl (hb hby d4_18) k) ?_
    refine own_go (fun _ k => XS.iushr X181.here hx rfl (hb hby d4_19) rfl k) ?_
    show own_Run p e below _ T181 (mkF m 20 #[.val (.ref a1), .val (.long q2), .second, .val (.int (0 : Int32)), .val (.int (3 : Int32)), .unset] [(.int (((3 : Int32).toUInt32 >>> ((1 : Int32) &&& 31).toUInt32).toInt32))])
    rw [show (((3 : Int32).toUInt32 >>> ((1 : Int32) &&& 31).toUInt32).toInt32) = (1 : Int32) by decide]
    show own_Run p e below _ T181 (mkF m 20 #[.val (.ref a1), .val (.long q2), .second, .val (.int (0 : Int32)), .val (.int (3 : Int32)), .unset] [(.int (1 : Int32))])
    refine own_go (fun _ k => XS.istore X181.here hx rfl (hb hby d4_20) rfl (l' := #[.val (.ref a1), .val (.long q2), .second, .val (.int (0 : Int32)), .val (.int (3 : Int32)), .val (.int (1 : Int32))]) rfl k) ?_
    refine own_go (fun _ k => XS.aloadN X181.here hx rfl (hb hby d4_22) rfl rfl k) ?_
    show own_Run p e below _ T181 (mkF m 23 #[.val (.ref a1), .val (.long q2), .second, .val (.int (0 : Int32)), .val (.int (3 : Int32)), .val (.int (1 : Int32))] [(.ref a1)])
    obtain ⟨T182, X182, e182, st182⟩ := getF X181 hx hZ hown (host := "") (Or.inl (W 15 rfl)) Via.refl e181 F_mTimestamps_a1 (g := (mkF m 23 #[.val (.ref a1), .val (.long q2), .second, .val (.int (0 : Int32)), .val (.int (3 : Int32)), .val (.int (1 : Int32))] [(.ref a1)])) rfl rfl (hb hby d4_23)
    refine own_go st182 ?_
    show own_Run p e below _ T182 (mkF m 26 #[.val (.ref a1), .val (.long q2), .second, .val (.int (0 : Int32)), .val (.int (3 : Int32)), .val (.int (1 : Int32))] [(.ref b3)])
    refine own_go (fun _ k => XS.iload X182.here hx rfl (hb hby d4_26) rfl k) ?_
    show own_Run p e below _ T182 (mkF m 28 #[.val (.ref a1), .val (.long q2), .second, .val (.int (0 : Int32)), .val (.int (3 : Int32)), .val (.int (1 : Int32))] [(.int (1 : Int32)), (.ref b3)])
    obtain ⟨cl183, Ar183, q183, S183, N183, H183, G183⟩ := id V_b3
    have hin183 : ¬ ((1 : Int32) < 0 ∨ cl183.slots.size ≤ ((1 : Int32)).toNatClampNeg) := inb_of S183 ⟨by decide, by decide⟩
    refine own_go (X182.laload hx (j := (1 : Int32)) (v := (.long z1)) (by rw [e182]; exact Ar183.1) (State.isArrayOf_alike hZ.alike Ar183.2.1) Ar183.2.2 hin183 (H183.at hin183 rfl) (g := (mkF m 28 #[.val (.ref a1), .val (.long q2), .second, .val (.int (0 : Int32)), .val (.int (3 : Int32)), .val (.int (1 : Int32))] [(.int (1 : Int32)), (.ref b3)])) rfl rfl (hb hby d4_28)) ?_
    show own_Run p e below _ T182 (mkF m 29 #[.val (.ref a1), .val (.long q2), .second, .val (.int (0 : Int32)), .val (.int (3 : Int32)), .val (.int (1 : Int32))] [(.long z1)])
    refine own_go (fun _ k => XS.lloadN X182.here hx rfl (hb hby d4_29) rfl k) ?_
    refine own_go (fun _ k => XS.lcmp X182.here hx rfl (hb hby d4_30) rfl k) ?_
    show own_Run p e below _ T182 (mkF m 31 #[.val (.ref a1), .val (.long q2), .second, .val (.int (0 : Int32)), .val (.int (3 : Int32)), .val (.int (1 : Int32))] [(.int (lcmpW z1 q2))])
    refine own_go (fun _ k => XS.ifYes X182.here hx rfl (pc0 := 31) (pc' := 42) rfl (hb hby d4_31) rfl (own_lcF hz1).2.1 (by decide) (by decide) k) ?_
    show own_Run p e below _ T182 (mkF m 42 #[.val (.ref a1), .val (.long q2), .second, .val (.int (0 : Int32)), .val (.int (3 : Int32)), .val (.int (1 : Int32))] [])
    refine own_go (fun _ k => XS.iload X182.here hx rfl (hb hby d4_42) rfl k) ?_
    refine own_go (fun _ k => XS.istore X182.here hx rfl (hb hby d4_44) rfl (l' := #[.val (.ref a1), .val (.long q2), .second, .val (.int (0 : Int32)), .val (.int (1 : Int32)), .val (.int (1 : Int32))]) rfl k) ?_
    refine own_go (fun _ k => XS.goto X182.here hx rfl (pc0 := 46) (pc' := 8) rfl (hb hby d4_46) (by decide) (by decide) k) ?_
    refine own_go (fun _ k => XS.iloadN X182.here hx rfl (hb hby d4_8) rfl k) ?_
    show own_Run p e below _ T182 (mkF m 9 #[.val (.ref a1), .val (.long q2), .second, .val (.int (0 : Int32)), .val (.int (1 : Int32)), .val (.int (1 : Int32))] [(.int (0 : Int32))])
    refine own_go (fun _ k => XS.iload X182.here hx rfl (hb hby d4_9) rfl k) ?_
    show own_Run p e below _ T182 (mkF m 11 #[.val (.ref a1), .val (.long q2), .second, .val (.int (0 : Int32)), .val (.int (1 : Int32)), .val (.int (1 : Int32))] [(.int (1 : Int32)), (.int (0 : Int32))])
    refine own_go (fun _ k => XS.icmpNo X182.here hx rfl (hb hby d4_11) rfl (tlt (by decide : (0 : Int32) < (1 : Int32))).2.1 k) ?_
    show own_Run p e below _ T182 (mkF m 14 #[.val (.ref a1), .val (.long q2), .second, .val (.int (0 : Int32)), .val (.int (1 : Int32)), .val (.int (1 : Int32))] [])
    refine own_go (fun _ k => XS.iloadN X182.here hx rfl (hb hby d4_14) rfl k) ?_
    refine own_go (fun _ k => XS.iload X182.here hx rfl (hb hby d4_15) rfl k) ?_
    refine own_go (fun _ k => XS.iadd X182.here hx rfl (hb hby d4_17) rfl k) ?_
    show own_Run p e below _ T182 (mkF m 18 #[.val (.ref a1), .val (.long q2), .second, .val (.int (0 : Int32)), .val (.int (1 : Int32)), .val (.int (1 : Int32))] [(.int ((0 : Int32) + (1 : Int32)))])
    rw [show ((0 : Int32) + (1 : Int32)) = (1 : Int32) by decide]
    show own_Run p e below _ T182 (mkF m 18 #[.val (.ref a1), .val (.long q2), .second, .val (.int (0 : Int32)), .val (.int (1 : Int32)), .val (.int (1 : Int32))] [(.int (1 : Int32))])
    refine own_go (fun _ k => XS.iconst X182.here hx rfl (hb hby d4_18) k) ?_
    refine own_go (fun _ k => XS.iushr X182.here hx rfl (hb hby d4_19) rfl k) ?_
    show own_Run p e below _ T182 (mkF m 20 #[.val (.ref a1), .val (.long q2), .second, .val (.int (0 : Int32)), .val (.int (1 : Int32)), .val (.int (1 : Int32))] [(.int (((1 : Int32).toUInt32 >>> ((1 : Int32) &&& 31).toUInt32).toInt32))])
    rw [show (((1 : Int32).toUInt32 >>> ((1 : Int32) &&& 31).toUInt32).toInt32) = (0 : Int32) by decide]
    show own_Run p e below _ T182 (mkF m 20 #[.val (.ref a1), .val (.long q2), .second, .val (.int (0 : Int32)), .val (.int (1 : Int32)), .val (.int (1 : Int32))] [(.int (0 : Int32))])
    refine own_go (fun _ k => XS.istore X182.here hx rfl (hb hby d4_20) rfl (l' := #[.val (.ref a1), .val (.long q2), .second, .val (.int (0 : Int32)), .val (.int (1 : Int32)), .val (.int (0 : Int32))]) rfl k) ?_
    refine own_go (fun _ k => XS.aloadN X182.here hx rfl (hb hby d4_22) rfl rfl k) ?_
    show own_Run p e below _ T182 (mkF m 23 #[.val (.ref a1), .val (.long q2), .second, .val (.int (0 : Int32)), .val (.int (1 : Int32)), .val (.int (0 : Int32))] [(.ref a1)])
    obtain ⟨T184, X184, e184, st184⟩ := getF X182 hx hZ hown (host := "") (Or.inl (W 15 rfl)) Via.refl e182 F_mTimestamps_a1 (g := (mkF m 23 #[.val (.ref a1), .val (.long q2), .second, .val (.int (0 : Int32)), .val (.int (1 : Int32)), .val (.int (0 : Int32))] [(.ref a1)])) rfl rfl (hb hby d4_23)
    refine own_go st184 ?_
    show own_Run p e below _ T184 (mkF m 26 #[.val (.ref a1), .val (.long q2), .second, .val (.int (0 : Int32)), .val (.int (1 : Int32)), .val (.int (0 : Int32))] [(.ref b3)])
    refine own_go (fun _ k => XS.iload X184.here hx rfl (hb hby d4_26) rfl k) ?_
    show own_Run p e below _ T184 (mkF m 28 #[.val (.ref a1), .val (.long q2), .second, .val (.int (0 : Int32)), .val (.int (1 : Int32)), .val (.int (0 : Int32))] [(.int (0 : Int32)), (.ref b3)])
    obtain ⟨cl185, Ar185, q185, S185, N185, H185, G185⟩ := id V_b3
    have hin185 : ¬ ((0 : Int32) < 0 ∨ cl185.slots.size ≤ ((0 : Int32)).toNatClampNeg) := inb_of S185 ⟨by decide, by decide⟩
    refine own_go (X184.laload hx (j := (0 : Int32)) (v := (.long z0)) (by rw [e184]; exact Ar185.1) (State.isArrayOf_alike hZ.alike Ar185.2.1) Ar185.2.2 hin185 (H185.at hin185 rfl) (g := (mkF m 28 #[.val (.ref a1), .val (.long q2), .second, .val (.int (0 : Int32)), .val (.int (1 : Int32)), .val (.int (0 : Int32))] [(.int (0 : Int32)), (.ref b3)])) rfl rfl (hb hby d4_28)) ?_
    show own_Run p e below _ T184 (mkF m 29 #[.val (.ref a1), .val (.long q2), .second, .val (.int (0 : Int32)), .val (.int (1 : Int32)), .val (.int (0 : Int32))] [(.long z0)])
    refine own_go (fun _ k => XS.lloadN X184.here hx rfl (hb hby d4_29) rfl k) ?_
    refine own_go (fun _ k => XS.lcmp X184.here hx rfl (hb hby d4_30) rfl k) ?_
    show own_Run p e below _ T184 (mkF m 31 #[.val (.ref a1), .val (.long q2), .second, .val (.int (0 : Int32)), .val (.int (1 : Int32)), .val (.int (0 : Int32))] [(.int (lcmpW z0 q2))])
    refine own_go (fun _ k => XS.ifYes X184.here hx rfl (pc0 := 31) (pc' := 42) rfl (hb hby d4_31) rfl (own_lcF hz0).2.1 (by decide) (by decide) k) ?_
    show own_Run p e below _ T184 (mkF m 42 #[.val (.ref a1), .val (.long q2), .second, .val (.int (0 : Int32)), .val (.int (1 : Int32)), .val (.int (0 : Int32))] [])
    refine own_go (fun _ k => XS.iload X184.here hx rfl (hb hby d4_42) rfl k) ?_
    refine own_go (fun _ k => XS.istore X184.here hx rfl (hb hby d4_44) rfl (l' := #[.val (.ref a1), .val (.long q2), .second, .val (.int (0 : Int32)), .val (.int (0 : Int32)), .val (.int (0 : Int32))]) rfl k) ?_
    refine own_go (fun _ k => XS.goto X184.here hx rfl (pc0 := 46) (pc' := 8) rfl (hb hby d4_46) (by decide) (by decide) k) ?_
    refine own_go (fun _ k => XS.iloadN X184.here hx rfl (hb hby d4_8) rfl k) ?_
    show own_Run p e below _ T184 (mkF m 9 #[.val (.ref a1), .val (.long q2), .second, .val (.int (0 : Int32)), .val (.int (0 : Int32)), .val (.int (0 : Int32))] [(.int (0 : Int32))])
    refine own_go (fun _ k => XS.iload X184.here hx rfl (hb hby d4_9) rfl k) ?_
    show own_Run p e below _ T184 (mkF m 11 #[.val (.ref a1), .val (.long q2), .second, .val (.int (0 : Int32)), .val (.int (0 : Int32)), .val (.int (0 : Int32))] [(.int (0 : Int32)), (.int (0 : Int32))])
    refine own_go (fun _ k => XS.icmpYes X184.here hx rfl (pc0 := 11) (pc' := 49) rfl (hb hby d4_11) rfl (flt (by decide : ¬ ((0 : Int32) < (0 : Int32)))).2.1 (by decide) (by decide) k) ?_
    show own_Run p e below _ T184 (mkF m 49 #[.val (.ref a1), .val (.long q2), .second, .val (.int (0 : Int32)), .val (.int (0 : Int32)), .val (.int (0 : Int32))] [])
    refine own_go (fun _ k => XS.iloadN X184.here hx rfl (hb hby d4_49) rfl k) ?_
    refine own_go (fun _ k => XS.iconst X184.here hx rfl (hb hby d4_50) k) ?_
    refine own_go (fun _ k => XS.isub X184.here hx rfl (hb hby d4_51) rfl k) ?_
    show own_Run p e below _ T184 (mkF m 52 #[.val (.ref a1), .val (.long q2), .second, .val (.int (0 : Int32)), .val (.int (0 : Int32)), .val (.int (0 : Int32))] [(.int ((0 : Int32) - (1 : Int32)))])
    rw [show ((0 : Int32) - (1 : Int32)) = (-1 : Int32) by decide]
    show own_Run p e below _ T184 (mkF m 52 #[.val (.ref a1), .val (.long q2), .second, .val (.int (0 : Int32)), .val (.int (0 : Int32)), .val (.int (0 : Int32))] [(.int (-1 : Int32))])
    refine own_done (Q := fun v h L => Q4n3 Z a1 q2 b3 k3 z0 z1 z2 (-1 : Int32) h0 n0 v h L) (v := (some (.int (-1 : Int32)))) X184 (fun h => by rw [hret] at h; cases h) hlk (fun fs hr => own_retI X184 hx hret (hb hby d4_52) hr) ?_ (by decide) (by decide)
    show Q4n3 Z a1 q2 b3 k3 z0 z1 z2 (-1 : Int32) h0 n0 _ T184.heap _
    rw [e184]
    exact ⟨rfl, N0, rfl⟩
  · show own_Run p e below _ s₁ (mkF m 0 #[.val (.ref a1), .val (.long q2), .second, .unset, .unset, .unset] [])
    refine own_go (fun _ k => XS.iconst X0.here hx rfl (hb hby d4_0) k) ?_
    refine own_go (fun _ k => XS.istoreN X0.here hx rfl (hb hby d4_1) rfl (l' := #[.val (.ref a1), .val (.long q2), .second, .val (.int (0 : Int32)), .unset, .unset]) rfl k) ?_
    refine own_go (fun _ k => XS.aloadN X0.here hx rfl (hb hby d4_2) rfl rfl k) ?_
    show own_Run p e below _ s₁ (mkF m 3 #[.val (.ref a1), .val (.long q2), .second, .val (.int (0 : Int32)), .unset, .unset] [(.ref a1)])
    obtain ⟨T186, X186, e186, st186⟩ := getF X0 hx hZ hown (host := "") (Or.inl (W 34 rfl)) Via.refl e0 F_mCount_a1 (g := (mkF m 3 #[.val (.ref a1), .val (.long q2), .second, .val (.int (0 : Int32)), .unset, .unset] [(.ref a1)])) rfl rfl (hb hby d4_3)
    refine own_go st186 ?_
    show own_Run p e below _ T186 (mkF m 6 #[.val (.ref a1), .val (.long q2), .second, .val (.int (0 : Int32)), .unset, .unset] [(.int (3 : Int32))])
    refine own_go (fun _ k => XS.istore X186.here hx rfl (hb hby d4_6) rfl (l' := #[.val (.ref a1), .val (.long q2), .second, .val (.int (0 : Int32)), .val (.int (3 : Int32)), .unset]) rfl k) ?_
    refine own_go (fun _ k => XS.iloadN X186.here hx rfl (hb hby d4_8) rfl k) ?_
    refine own_go (fun _ k => XS.iload X186.here hx rfl (hb hby d4_9) rfl k) ?_
    show own_Run p e below _ T186 (mkF m 11 #[.val (.ref a1), .val (.long q2), .second, .val (.int (0 : Int32)), .val (.int (3 : Int32)), .unset] [(.int (3 : Int32)), (.int (0 : Int32))])
    refine own_go (fun _ k => XS.icmpNo X186.here hx rfl (hb hby d4_11) rfl (tlt (by decide : (0 : Int32) < (3 : Int32))).2.1 k) ?_
    show own_Run p e below _ T186 (mkF m 14 #[.val (.ref a1), .val (.long q2), .second, .val (.int (0 : Int32)), .val (.int (3 : Int32)), .unset] [])
    refine own_go (fun _ k => XS.iloadN X186.here hx rfl (hb hby d4_14) rfl k) ?_
    refine own_go (fun _ k => XS.iload X186.here hx rfl (hb hby d4_15) rfl k) ?_
    refine own_go (fun _ k => XS.iadd X186.here hx rfl (hb hby d4_17) rfl k) ?_
    show own_Run p e below _ T186 (mkF m 18 #[.val (.ref a1), .val (.long q2), .second, .val (.int (0 : Int32)), .val (.int (3 : Int32)), .unset] [(.int ((0 : Int32) + (3 : Int32)))])
    rw [show ((0 : Int32) + (3 : Int32)) = (3 : Int32) by decide]
    show own_Run p e below _ T186 (mkF m 18 #[.val (.ref a1), .val (.long q2), .second, .val (.int (0 : Int32)), .val (.int (3 : Int32)), .unset] [(.int (3 : Int32))])
    refine own_go (fun _ k => XS.iconst X186.here hx rfl (hb hby d4_18) k) ?_
    refine own_go (fun _ k => XS.iushr X186.here hx rfl (hb hby d4_19) rfl k) ?_
    show own_Run p e below _ T186 (mkF m 20 #[.val (.ref a1), .val (.long q2), .second, .val (.int (0 : Int32)), .val (.int (3 : Int32)), .unset] [(.int (((3 : Int32).toUInt32 >>> ((1 : Int32) &&& 31).toUInt32).toInt32))])
    rw [show (((3 : Int32).toUInt32 >>> ((1 : Int32) &&& 31).toUInt32).toInt32) = (1 : Int32) by decide]
    show own_Run p e below _ T186 (mkF m 20 #[.val (.ref a1), .val (.long q2), .second, .val (.int (0 : Int32)), .val (.int (3 : Int32)), .unset] [(.int (1 : Int32))])
    refine own_go (fun _ k => XS.istore X186.here hx rfl (hb hby d4_20) rfl (l' := #[.val (.ref a1), .val (.long q2), .second, .val (.int (0 : Int32)), .val (.int (3 : Int32)), .val (.int (1 : Int32))]) rfl k) ?_
    refine own_go (fun _ k => XS.aloadN X186.here hx rfl (hb hby d4_22) rfl rfl k) ?_
    show own_Run p e below _ T186 (mkF m 23 #[.val (.ref a1), .val (.long q2), .second, .val (.int (0 : Int32)), .val (.int (3 : Int32)), .val (.int (1 : Int32))] [(.ref a1)])
    obtain ⟨T187, X187, e187, st187⟩ := getF X186 hx hZ hown (host := "") (Or.inl (W 15 rfl)) Via.refl e186 F_mTimestamps_a1 (g := (mkF m 23 #[.val (.ref a1), .val (.long q2), .second, .val (.int (0 : Int32)), .val (.int (3 : Int32)), .val (.int (1 : Int32))] [(.ref a1)])) rfl rfl (hb hby d4_23)
    refine own_go st187 ?_
    show own_Run p e below _ T187 (mkF m 26 #[.val (.ref a1), .val (.long q2), .second, .val (.int (0 : Int32)), .val (.int (3 : Int32)), .val (.int (1 : Int32))] [(.ref b3)])
    refine own_go (fun _ k => XS.iload X187.here hx rfl (hb hby d4_26) rfl k) ?_
    show own_Run p e below _ T187 (mkF m 28 #[.val (.ref a1), .val (.long q2), .second, .val (.int (0 : Int32)), .val (.int (3 : Int32)), .val (.int (1 : Int32))] [(.int (1 : Int32)), (.ref b3)])
    obtain ⟨cl188, Ar188, q188, S188, N188, H188, G188⟩ := id V_b3
    have hin188 : ¬ ((1 : Int32) < 0 ∨ cl188.slots.size ≤ ((1 : Int32)).toNatClampNeg) := inb_of S188 ⟨by decide, by decide⟩
    refine own_go (X187.laload hx (j := (1 : Int32)) (v := (.long z1)) (by rw [e187]; exact Ar188.1) (State.isArrayOf_alike hZ.alike Ar188.2.1) Ar188.2.2 hin188 (H188.at hin188 rfl) (g := (mkF m 28 #[.val (.ref a1), .val (.long q2), .second, .val (.int (0 : Int32)), .val (.int (3 : Int32)), .val (.int (1 : Int32))] [(.int (1 : Int32)), (.ref b3)])) rfl rfl (hb hby d4_28)) ?_
    show own_Run p e below _ T187 (mkF m 29 #[.val (.ref a1), .val (.long q2), .second, .val (.int (0 : Int32)), .val (.int (3 : Int32)), .val (.int (1 : Int32))] [(.long z1)])
    refine own_go (fun _ k => XS.lloadN X187.here hx rfl (hb hby d4_29) rfl k) ?_
    refine own_go (fun _ k => XS.lcmp X187.here hx rfl (hb hby d4_30) rfl k) ?_
    show own_Run p e below _ T187 (mkF m 31 #[.val (.ref a1), .val (.long q2), .second, .val (.int (0 : Int32)), .val (.int (3 : Int32)), .val (.int (1 : Int32))] [(.int (lcmpW z1 q2))])
    refine own_go (fun _ k => XS.ifYes X187.here hx rfl (pc0 := 31) (pc' := 42) rfl (hb hby d4_31) rfl (own_lcF hz1).2.1 (by decide) (by decide) k) ?_
    show own_Run p e below _ T187 (mkF m 42 #[.val (.ref a1), .val (.long q2), .second, .val (.int (0 : Int32)), .val (.int (3 : Int32)), .val (.int (1 : Int32))] [])
    refine own_go (fun _ k => XS.iload X187.here hx rfl (hb hby d4_42) rfl k) ?_
    refine own_go (fun _ k => XS.istore X187.here hx rfl (hb hby d4_44) rfl (l' := #[.val (.ref a1), .val (.long q2), .second, .val (.int (0 : Int32)), .val (.int (1 : Int32)), .val (.int (1 : Int32))]) rfl k) ?_
    refine own_go (fun _ k => XS.goto X187.here hx rfl (pc0 := 46) (pc' := 8) rfl (hb hby d4_46) (by decide) (by decide) k) ?_
    refine own_go (fun _ k => XS.iloadN X187.here hx rfl (hb hby d4_8) rfl k) ?_
    show own_Run p e below _ T187 (mkF m 9 #[.val (.ref a1), .val (.long q2), .second, .val (.int (0 : Int32)), .val (.int (1 : Int32)), .val (.int (1 : Int32))] [(.int (0 : Int32))])
    refine own_go (fun _ k => XS.iload X187.here hx rfl (hb hby d4_9) rfl k) ?_
    show own_Run p e below _ T187 (mkF m 11 #[.val (.ref a1), .val (.long q2), .second, .val (.int (0 : Int32)), .val (.int (1 : Int32)), .val (.int (1 : Int32))] [(.int (1 : Int32)), (.int (0 : Int32))])
    refine own_go (fun _ k => XS.icmpNo X187.here hx rfl (hb hby d4_11) rfl (tlt (by decide : (0 : Int32) < (1 : Int32))).2.1 k) ?_
    show own_Run p e below _ T187 (mkF m 14 #[.val (.ref a1), .val (.long q2), .second, .val (.int (0 : Int32)), .val (.int (1 : Int32)), .val (.int (1 : Int32))] [])
    refine own_go (fun _ k => XS.iloadN X187.here hx rfl (hb hby d4_14) rfl k) ?_
    refine own_go (fun _ k => XS.iload X187.here hx rfl (hb hby d4_15) rfl k) ?_
    refine own_go (fun _ k => XS.iadd X187.here hx rfl (hb hby d4_17) rfl k) ?_
    show own_Run p e below _ T187 (mkF m 18 #[.val (.ref a1), .val (.long q2), .second, .val (.int (0 : Int32)), .val (.int (1 : Int32)), .val (.int (1 : Int32))] [(.int ((0 : Int32) + (1 : Int32)))])
    rw [show ((0 : Int32) + (1 : Int32)) = (1 : Int32) by decide]
    show own_Run p e below _ T187 (mkF m 18 #[.val (.ref a1), .val (.long q2), .second, .val (.int (0 : Int32)), .val (.int (1 : Int32)), .val (.int (1 : Int32))] [(.int (1 : Int32))])
    refine own_go (fun _ k => XS.iconst X187.here hx rfl (hb hby d4_18) k) ?_
    refine own_go (fun _ k => XS.iushr X187.here hx rfl (hb hby d4_19) rfl k) ?_
    show own_Run p e below _ T187 (mkF m 20 #[.val (.ref a1), .val (.long q2), .second, .val (.int (0 : Int32)), .val (.int (1 : Int32)), .val (.int (1 : Int32))] [(.int (((1 : Int32).toUInt32 >>> ((1 : Int32) &&& 31).toUInt32).toInt32))])
    rw [show (((1 : Int32).toUInt32 >>> ((1 : Int32) &&& 31).toUInt32).toInt32) = (0 : Int32) by decide]
    show own_Run p e below _ T187 (mkF m 20 #[.val (.ref a1), .val (.long q2), .second, .val (.int (0 : Int32)), .val (.int (1 : Int32)), .val (.int (1 : Int32))] [(.int (0 : Int32))])
    refine own_go (fun _ k => XS.istore X187.here hx rfl (hb hby d4_20) rfl (l' := #[.val (.ref a1), .val (.long q2), .second, .val (.int (0 : Int32)), .val (.int (1 : Int32)), .val (.int (0 : Int32))]) rfl k) ?_
    refine own_go (fun _ k => XS.aloadN X187.here hx rfl (hb hby d4_22) rfl rfl k) ?_
    show own_Run p e below _ T187 (mkF m 23 #[.val (.ref a1), .val (.long q2), .second, .val (.int (0 : Int32)), .val (.int (1 : Int32)), .val (.int (0 : Int32))] [(.ref a1)])
    obtain ⟨T189, X189, e189, st189⟩ := getF X187 hx hZ hown (host := "") (Or.inl (W 15 rfl)) Via.refl e187 F_mTimestamps_a1 (g := (mkF m 23 #[.val (.ref a1), .val (.long q2), .second, .val (.int (0 : Int32)), .val (.int (1 : Int32)), .val (.int (0 : Int32))] [(.ref a1)])) rfl rfl (hb hby d4_23)
    refine own_go st189 ?_
    show own_Run p e below _ T189 (mkF m 26 #[.val (.ref a1), .val (.long q2), .second, .val (.int (0 : Int32)), .val (.int (1 : Int32)), .val (.int (0 : Int32))] [(.ref b3)])
    refine own_go (fun _ k => XS.iload X189.here hx rfl (hb hby d4_26) rfl k) ?_
    show own_Run p e below _ T189 (mkF m 28 #[.val (.ref a1), .val (.long q2), .second, .val (.int (0 : Int32)), .val (.int (1 : Int32)), .val (.int (0 : Int32))] [(.int (0 : Int32)), (.ref b3)])
    obtain ⟨cl190, Ar190, q190, S190, N190, H190, G190⟩ := id V_b3
    have hin190 : ¬ ((0 : Int32) < 0 ∨ cl190.slots.size ≤ ((0 : Int32)).toNatClampNeg) := inb_of S190 ⟨by decide, by decide⟩
    refine own_go (X189.laload hx (j := (0 : Int32)) (v := (.long z0)) (by rw [e189]; exact Ar190.1) (State.isArrayOf_alike hZ.alike Ar190.2.1) Ar190.2.2 hin190 (H190.at hin190 rfl) (g := (mkF m 28 #[.val (.ref a1), .val (.long q2), .second, .val (.int (0 : Int32)), .val (.int (1 : Int32)), .val (.int (0 : Int32))] [(.int (0 : Int32)), (.ref b3)])) rfl rfl (hb hby d4_28)) ?_
    show own_Run p e below _ T189 (mkF m 29 #[.val (.ref a1), .val (.long q2), .second, .val (.int (0 : Int32)), .val (.int (1 : Int32)), .val (.int (0 : Int32))] [(.long z0)])
    refine own_go (fun _ k => XS.lloadN X189.here hx rfl (hb hby d4_29) rfl k) ?_
    refine own_go (fun _ k => XS.lcmp X189.here hx rfl (hb hby d4_30) rfl k) ?_
    show own_Run p e below _ T189 (mkF m 31 #[.val (.ref a1), .val (.long q2), .second, .val (.int (0 : Int32)), .val (.int (1 : Int32)), .val (.int (0 : Int32))] [(.int (lcmpW z0 q2))])
    refine own_go (fun _ k => XS.ifNo X189.here hx rfl (hb hby d4_31) rfl (own_lcT hz0).2.1 k) ?_
    show own_Run p e below _ T189 (mkF m 34 #[.val (.ref a1), .val (.long q2), .second, .val (.int (0 : Int32)), .val (.int (1 : Int32)), .val (.int (0 : Int32))] [])
    refine own_go (fun _ k => XS.iload X189.here hx rfl (hb hby d4_34) rfl k) ?_
    refine own_go (fun _ k => XS.iconst X189.here hx rfl (hb hby d4_36) k) ?_
    refine own_go (fun _ k => XS.iadd X189.here hx rfl (hb hby d4_37) rfl k) ?_
    show own_Run p e below _ T189 (mkF m 38 #[.val (.ref a1), .val (.long q2), .second, .val (.int (0 : Int32)), .val (.int (1 : Int32)), .val (.int (0 : Int32))] [(.int ((0 : Int32) + (1 : Int32)))])
    rw [show ((0 : Int32) + (1 : Int32)) = (1 : Int32) by decide]
    show own_Run p e below _ T189 (mkF m 38 #[.val (.ref a1), .val (.long q2), .second, .val (.int (0 : Int32)), .val (.int (1 : Int32)), .val (.int (0 : Int32))] [(.int (1 : Int32))])
    refine own_go (fun _ k => XS.istoreN X189.here hx rfl (hb hby d4_38) rfl (l' := #[.val (.ref a1), .val (.long q2), .second, .val (.int (1 : Int32)), .val (.int (1 : Int32)), .val (.int (0 : Int32))]) rfl k) ?_
    refine own_go (fun _ k => XS.goto X189.here hx rfl (pc0 := 39) (pc' := 46) rfl (hb hby d4_39) (by decide) (by decide) k) ?_
    refine own_go (fun _ k => XS.goto X189.here hx rfl (pc0 := 46) (pc' := 8) rfl (hb hby d4_46) (by decide) (by decide) k) ?_
    refine own_go (fun _ k => XS.iloadN X189.here hx rfl (hb hby d4_8) rfl k) ?_
    show own_Run p e below _ T189 (mkF m 9 #[.val (.ref a1), .val (.long q2), .second, .val (.int (1 : Int32)), .val (.int (1 : Int32)), .val (.int (0 : Int32))] [(.int (1 : Int32))])
    refine own_go (fun _ k => XS.iload X189.here hx rfl (hb hby d4_9) rfl k) ?_
    show own_Run p e below _ T189 (mkF m 11 #[.val (.ref a1), .val (.long q2), .second, .val (.int (1 : Int32)), .val (.int (1 : Int32)), .val (.int (0 : Int32))] [(.int (1 : Int32)), (.int (1 : Int32))])
    refine own_go (fun _ k => XS.icmpYes X189.here hx rfl (pc0 := 11) (pc' := 49) rfl (hb hby d4_11) rfl (flt (by decide : ¬ ((1 : Int32) < (1 : Int32)))).2.1 (by decide) (by decide) k) ?_
    show own_Run p e below _ T189 (mkF m 49 #[.val (.ref a1), .val (.long q2), .second, .val (.int (1 : Int32)), .val (.int (1 : Int32)), .val (.int (0 : Int32))] [])
    refine own_go (fun _ k => XS.iloadN X189.here hx rfl (hb hby d4_49) rfl k) ?_
    refine own_go (fun _ k => XS.iconst X189.here hx rfl (hb hby d4_50) k) ?_
    refine own_go (fun _ k => XS.isub X189.here hx rfl (hb hby d4_51) rfl k) ?_
    show own_Run p e below _ T189 (mkF m 52 #[.val (.ref a1), .val (.long q2), .second, .val (.int (1 : Int32)), .val (.int (1 : Int32)), .val (.int (0 : Int32))] [(.int ((1 : Int32) - (1 : Int32)))])
    rw [show ((1 : Int32) - (1 : Int32)) = (0 : Int32) by decide]
    show own_Run p e below _ T189 (mkF m 52 #[.val (.ref a1), .val (.long q2), .second, .val (.int (1 : Int32)), .val (.int (1 : Int32)), .val (.int (0 : Int32))] [(.int (0 : Int32))])
    refine own_done (Q := fun v h L => Q4n3 Z a1 q2 b3 k3 z0 z1 z2 (0 : Int32) h0 n0 v h L) (v := (some (.int (0 : Int32)))) X189 (fun h => by rw [hret] at h; cases h) hlk (fun fs hr => own_retI X189 hx hret (hb hby d4_52) hr) ?_ (by decide) (by decide)
    show Q4n3 Z a1 q2 b3 k3 z0 z1 z2 (0 : Int32) h0 n0 _ T189.heap _
    rw [e189]
    exact ⟨rfl, N0, rfl⟩
  · show own_Run p e below _ s₁ (mkF m 0 #[.val (.ref a1), .val (.long q2), .second, .unset, .unset, .unset] [])
    refine own_go (fun _ k => XS.iconst X0.here hx rfl (hb hby d4_0) k) ?_
    refine own_go (fun _ k => XS.istoreN X0.here hx rfl (hb hby d4_1) rfl (l' := #[.val (.ref a1), .val (.long q2), .second, .val (.int (0 : Int32)), .unset, .unset]) rfl k) ?_
    refine own_go (fun _ k => XS.aloadN X0.here hx rfl (hb hby d4_2) rfl rfl k) ?_
    show own_Run p e below _ s₁ (mkF m 3 #[.val (.ref a1), .val (.long q2), .second, .val (.int (0 : Int32)), .unset, .unset] [(.ref a1)])
    obtain ⟨T191, X191, e191, st191⟩ := getF X0 hx hZ hown (host := "") (Or.inl (W 34 rfl)) Via.refl e0 F_mCount_a1 (g := (mkF m 3 #[.val (.ref a1), .val (.long q2), .second, .val (.int (0 : Int32)), .unset, .unset] [(.ref a1)])) rfl rfl (hb hby d4_3)
    refine own_go st191 ?_
    show own_Run p e below _ T191 (mkF m 6 #[.val (.ref a1), .val (.long q2), .second, .val (.int (0 : Int32)), .unset, .unset] [(.int (3 : Int32))])
    refine own_go (fun _ k => XS.istore X191.here hx rfl (hb hby d4_6) rfl (l' := #[.val (.ref a1), .val (.long q2), .second, .val (.int (0 : Int32)), .val (.int (3 : Int32)), .unset]) rfl k) ?_
    refine own_go (fun _ k => XS.iloadN X191.here hx rfl (hb hby d4_8) rfl k) ?_
    refine own_go (fun _ k => XS.iload X191.here hx rfl (hb hby d4_9) rfl k) ?_
    show own_Run p e below _ T191 (mkF m 11 #[.val (.ref a1), .val (.long q2), .second, .val (.int (0 : Int32)), .val (.int (3 : Int32)), .unset] [(.int (3 : Int32)), (.int (0 : Int32))])
    refine own_go (fun _ k => XS.icmpNo X191.here hx rfl (hb hby d4_11) rfl (tlt (by decide : (0 : Int32) < (3 : Int32))).2.1 k) ?_
    show own_Run p e below _ T191 (mkF m 14 #[.val (.ref a1), .val (.long q2), .second, .val (.int (0 : Int32)), .val (.int (3 : Int32)), .unset] [])
    refine own_go (fun _ k => XS.iloadN X191.here hx rfl (hb hby d4_14) rfl k) ?_
    refine own_go (fun _ k => XS.iload X191.here hx rfl (hb hby d4_15) rfl k) ?_
    refine own_go (fun _ k => XS.iadd X191.here hx rfl (hb hby d4_17) rfl k) ?_
    show own_Run p e below _ T191 (mkF m 18 #[.val (.ref a1), .val (.long q2), .second, .val (.int (0 : Int32)), .val (.int (3 : Int32)), .unset] [(.int ((0 : Int32) + (3 : Int32)))])
    rw [show ((0 : Int32) + (3 : Int32)) = (3 : Int32) by decide]
    show own_Run p e below _ T191 (mkF m 18 #[.val (.ref a1), .val (.long q2), .second, .val (.int (0 : Int32)), .val (.int (3 : Int32)), .unset] [(.int (3 : Int32))])
    refine own_go (fun _ k => XS.iconst X191.here hx rfl (hb hby d4_18) k) ?_
    refine own_go (fun _ k => XS.iushr X191.here hx rfl (hb hby d4_19) rfl k) ?_
    show own_Run p e below _ T191 (mkF m 20 #[.val (.ref a1), .val (.long q2), .second, .val (.int (0 : Int32)), .val (.int (3 : Int32)), .unset] [(.int (((3 : Int32).toUInt32 >>> ((1 : Int32) &&& 31).toUInt32).toInt32))])
    rw [show (((3 : Int32).toUInt32 >>> ((1 : Int32) &&& 31).toUInt32).toInt32) = (1 : Int32) by decide]
    show own_Run p e below _ T191 (mkF m 20 #[.val (.ref a1), .val (.long q2), .second, .val (.int (0 : Int32)), .val (.int (3 : Int32)), .unset] [(.int (1 : Int32))])
    refine own_go (fun _ k => XS.istore X191.here hx rfl (hb hby d4_20) rfl (l' := #[.val (.ref a1), .val (.long q2), .second, .val (.int (0 : Int32)), .val (.int (3 : Int32)), .val (.int (1 : Int32))]) rfl k) ?_
    refine own_go (fun _ k => XS.aloadN X191.here hx rfl (hb hby d4_22) rfl rfl k) ?_
    show own_Run p e below _ T191 (mkF m 23 #[.val (.ref a1), .val (.long q2), .second, .val (.int (0 : Int32)), .val (.int (3 : Int32)), .val (.int (1 : Int32))] [(.ref a1)])
    obtain ⟨T192, X192, e192, st192⟩ := getF X191 hx hZ hown (host := "") (Or.inl (W 15 rfl)) Via.refl e191 F_mTimestamps_a1 (g := (mkF m 23 #[.val (.ref a1), .val (.long q2), .second, .val (.int (0 : Int32)), .val (.int (3 : Int32)), .val (.int (1 : Int32))] [(.ref a1)])) rfl rfl (hb hby d4_23)
    refine own_go st192 ?_
    show own_Run p e below _ T192 (mkF m 26 #[.val (.ref a1), .val (.long q2), .second, .val (.int (0 : Int32)), .val (.int (3 : Int32)), .val (.int (1 : Int32))] [(.ref b3)])
    refine own_go (fun _ k => XS.iload X192.here hx rfl (hb hby d4_26) rfl k) ?_
    show own_Run p e below _ T192 (mkF m 28 #[.val (.ref a1), .val (.long q2), .second, .val (.int (0 : Int32)), .val (.int (3 : Int32)), .val (.int (1 : Int32))] [(.int (1 : Int32)), (.ref b3)])
    obtain ⟨cl193, Ar193, q193, S193, N193, H193, G193⟩ := id V_b3
    have hin193 : ¬ ((1 : Int32) < 0 ∨ cl193.slots.size ≤ ((1 : Int32)).toNatClampNeg) := inb_of S193 ⟨by decide, by decide⟩
    refine own_go (X192.laload hx (j := (1 : Int32)) (v := (.long z1)) (by rw [e192]; exact Ar193.1) (State.isArrayOf_alike hZ.alike Ar193.2.1) Ar193.2.2 hin193 (H193.at hin193 rfl) (g := (mkF m 28 #[.val (.ref a1), .val (.long q2), .second, .val (.int (0 : Int32)), .val (.int (3 : Int32)), .val (.int (1 : Int32))] [(.int (1 : Int32)), (.ref b3)])) rfl rfl (hb hby d4_28)) ?_
    show own_Run p e below _ T192 (mkF m 29 #[.val (.ref a1), .val (.long q2), .second, .val (.int (0 : Int32)), .val (.int (3 : Int32)), .val (.int (1 : Int32))] [(.long z1)])
    refine own_go (fun _ k => XS.lloadN X192.here hx rfl (hb hby d4_29) rfl k) ?_
    refine own_go (fun _ k => XS.lcmp X192.here hx rfl (hb hby d4_30) rfl k) ?_
    show own_Run p e below _ T192 (mkF m 31 #[.val (.ref a1), .val (.long q2), .second, .val (.int (0 : Int32)), .val (.int (3 : Int32)), .val (.int (1 : Int32))] [(.int (lcmpW z1 q2))])
    refine own_go (fun _ k => XS.ifNo X192.here hx rfl (hb hby d4_31) rfl (own_lcT hz1).2.1 k) ?_
    show own_Run p e below _ T192 (mkF m 34 #[.val (.ref a1), .val (.long q2), .second, .val (.int (0 : Int32)), .val (.int (3 : Int32)), .val (.int (1 : Int32))] [])
    refine own_go (fun _ k => XS.iload X192.here hx rfl (hb hby d4_34) rfl k) ?_
    refine own_go (fun _ k => XS.iconst X192.here hx rfl (hb hby d4_36) k) ?_
    refine own_go (fun _ k => XS.iadd X192.here hx rfl (hb hby d4_37) rfl k) ?_
    show own_Run p e below _ T192 (mkF m 38 #[.val (.ref a1), .val (.long q2), .second, .val (.int (0 : Int32)), .val (.int (3 : Int32)), .val (.int (1 : Int32))] [(.int ((1 : Int32) + (1 : Int32)))])
    rw [show ((1 : Int32) + (1 : Int32)) = (2 : Int32) by decide]
    show own_Run p e below _ T192 (mkF m 38 #[.val (.ref a1), .val (.long q2), .second, .val (.int (0 : Int32)), .val (.int (3 : Int32)), .val (.int (1 : Int32))] [(.int (2 : Int32))])
    refine own_go (fun _ k => XS.istoreN X192.here hx rfl (hb hby d4_38) rfl (l' := #[.val (.ref a1), .val (.long q2), .second, .val (.int (2 : Int32)), .val (.int (3 : Int32)), .val (.int (1 : Int32))]) rfl k) ?_
    refine own_go (fun _ k => XS.goto X192.here hx rfl (pc0 := 39) (pc' := 46) rfl (hb hby d4_39) (by decide) (by decide) k) ?_
    refine own_go (fun _ k => XS.goto X192.here hx rfl (pc0 := 46) (pc' := 8) rfl (hb hby d4_46) (by decide) (by decide) k) ?_
    refine own_go (fun _ k => XS.iloadN X192.here hx rfl (hb hby d4_8) rfl k) ?_
    show own_Run p e below _ T192 (mkF m 9 #[.val (.ref a1), .val (.long q2), .second, .val (.int (2 : Int32)), .val (.int (3 : Int32)), .val (.int (1 : Int32))] [(.int (2 : Int32))])
    refine own_go (fun _ k => XS.iload X192.here hx rfl (hb hby d4_9) rfl k) ?_
    show own_Run p e below _ T192 (mkF m 11 #[.val (.ref a1), .val (.long q2), .second, .val (.int (2 : Int32)), .val (.int (3 : Int32)), .val (.int (1 : Int32))] [(.int (3 : Int32)), (.int (2 : Int32))])
    refine own_go (fun _ k => XS.icmpNo X192.here hx rfl (hb hby d4_11) rfl (tlt (by decide : (2 : Int32) < (3 : Int32))).2.1 k) ?_
    show own_Run p e below _ T192 (mkF m 14 #[.val (.ref a1), .val (.long q2), .second, .val (.int (2 : Int32)), .val (.int (3 : Int32)), .val (.int (1 : Int32))] [])
    refine own_go (fun _ k => XS.iloadN X192.here hx rfl (hb hby d4_14) rfl k) ?_
    refine own_go (fun _ k => XS.iload X192.here hx rfl (hb hby d4_15) rfl k) ?_
    refine own_go (fun _ k => XS.iadd X192.here hx rfl (hb hby d4_17) rfl k) ?_
    show own_Run p e below _ T192 (mkF m 18 #[.val (.ref a1), .val (.long q2), .second, .val (.int (2 : Int32)), .val (.int (3 : Int32)), .val (.int (1 : Int32))] [(.int ((2 : Int32) + (3 : Int32)))])
    rw [show ((2 : Int32) + (3 : Int32)) = (5 : Int32) by decide]
    show own_Run p e below _ T192 (mkF m 18 #[.val (.ref a1), .val (.long q2), .second, .val (.int (2 : Int32)), .val (.int (3 : Int32)), .val (.int (1 : Int32))] [(.int (5 : Int32))])
    refine own_go (fun _ k => XS.iconst X192.here hx rfl (hb hby d4_18) k) ?_
    refine own_go (fun _ k => XS.iushr X192.here hx rfl (hb hby d4_19) rfl k) ?_
    show own_Run p e below _ T192 (mkF m 20 #[.val (.ref a1), .val (.long q2), .second, .val (.int (2 : Int32)), .val (.int (3 : Int32)), .val (.int (1 : Int32))] [(.int (((5 : Int32).toUInt32 >>> ((1 : Int32) &&& 31).toUInt32).toInt32))])
    rw [show (((5 : Int32).toUInt32 >>> ((1 : Int32) &&& 31).toUInt32).toInt32) = (2 : Int32) by decide]
    show own_Run p e below _ T192 (mkF m 20 #[.val (.ref a1), .val (.long q2), .second, .val (.int (2 : Int32)), .val (.int (3 : Int32)), .val (.int (1 : Int32))] [(.int (2 : Int32))])
    refine own_go (fun _ k => XS.istore X192.here hx rfl (hb hby d4_20) rfl (l' := #[.val (.ref a1), .val (.long q2), .second, .val (.int (2 : Int32)), .val (.int (3 : Int32)), .val (.int (2 : Int32))]) rfl k) ?_
    refine own_go (fun _ k => XS.aloadN X192.here hx rfl (hb hby d4_22) rfl rfl k) ?_
    show own_Run p e below _ T192 (mkF m 23 #[.val (.ref a1), .val (.long q2), .second, .val (.int (2 : Int32)), .val (.int (3 : Int32)), .val (.int (2 : Int32))] [(.ref a1)])
    obtain ⟨T194, X194, e194, st194⟩ := getF X192 hx hZ hown (host := "") (Or.inl (W 15 rfl)) Via.refl e192 F_mTimestamps_a1 (g := (mkF m 23 #[.val (.ref a1), .val (.long q2), .second, .val (.int (2 : Int32)), .val (.int (3 : Int32)), .val (.int (2 : Int32))] [(.ref a1)])) rfl rfl (hb hby d4_23)
    refine own_go st194 ?_
    show own_Run p e below _ T194 (mkF m 26 #[.val (.ref a1), .val (.long q2), .second, .val (.int (2 : Int32)), .val (.int (3 : Int32)), .val (.int (2 : Int32))] [(.ref b3)])
    refine own_go (fun _ k => XS.iload X194.here hx rfl (hb hby d4_26) rfl k) ?_
    show own_Run p e below _ T194 (mkF m 28 #[.val (.ref a1), .val (.long q2), .second, .val (.int (2 : Int32)), .val (.int (3 : Int32)), .val (.int (2 : Int32))] [(.int (2 : Int32)), (.ref b3)])
    obtain ⟨cl195, Ar195, q195, S195, N195, H195, G195⟩ := id V_b3
    have hin195 : ¬ ((2 : Int32) < 0 ∨ cl195.slots.size ≤ ((2 : Int32)).toNatClampNeg) := inb_of S195 ⟨by decide, by decide⟩
    refine own_go (X194.laload hx (j := (2 : Int32)) (v := (.long z2)) (by rw [e194]; exact Ar195.1) (State.isArrayOf_alike hZ.alike Ar195.2.1) Ar195.2.2 hin195 (H195.at hin195 rfl) (g := (mkF m 28 #[.val (.ref a1), .val (.long q2), .second, .val (.int (2 : Int32)), .val (.int (3 : Int32)), .val (.int (2 : Int32))] [(.int (2 : Int32)), (.ref b3)])) rfl rfl (hb hby d4_28)) ?_
    show own_Run p e below _ T194 (mkF m 29 #[.val (.ref a1), .val (.long q2), .second, .val (.int (2 : Int32)), .val (.int (3 : Int32)), .val (.int (2 : Int32))] [(.long z2)])
    refine own_go (fun _ k => XS.lloadN X194.here hx rfl (hb hby d4_29) rfl k) ?_
    refine own_go (fun _ k => XS.lcmp X194.here hx rfl (hb hby d4_30) rfl k) ?_
    show own_Run p e below _ T194 (mkF m 31 #[.val (.ref a1), .val (.long q2), .second, .val (.int (2 : Int32)), .val (.int (3 : Int32)), .val (.int (2 : Int32))] [(.int (lcmpW z2 q2))])
    refine own_go (fun _ k => XS.ifYes X194.here hx rfl (pc0 := 31) (pc' := 42) rfl (hb hby d4_31) rfl (own_lcF hz2).2.1 (by decide) (by decide) k) ?_
    show own_Run p e below _ T194 (mkF m 42 #[.val (.ref a1), .val (.long q2), .second, .val (.int (2 : Int32)), .val (.int (3 : Int32)), .val (.int (2 : Int32))] [])
    refine own_go (fun _ k => XS.iload X194.here hx rfl (hb hby d4_42) rfl k) ?_
    refine own_go (fun _ k => XS.istore X194.here hx rfl (hb hby d4_44) rfl (l' := #[.val (.ref a1), .val (.long q2), .second, .val (.int (2 : Int32)), .val (.int (2 : Int32)), .val (.int (2 : Int32))]) rfl k) ?_
    refine own_go (fun _ k => XS.goto X194.here hx rfl (pc0 := 46) (pc' := 8) rfl (hb hby d4_46) (by decide) (by decide) k) ?_
    refine own_go (fun _ k => XS.iloadN X194.here hx rfl (hb hby d4_8) rfl k) ?_
    show own_Run p e below _ T194 (mkF m 9 #[.val (.ref a1), .val (.long q2), .second, .val (.int (2 : Int32)), .val (.int (2 : Int32)), .val (.int (2 : Int32))] [(.int (2 : Int32))])
    refine own_go (fun _ k => XS.iload X194.here hx rfl (hb hby d4_9) rfl k) ?_
    show own_Run p e below _ T194 (mkF m 11 #[.val (.ref a1), .val (.long q2), .second, .val (.int (2 : Int32)), .val (.int (2 : Int32)), .val (.int (2 : Int32))] [(.int (2 : Int32)), (.int (2 : Int32))])
    refine own_go (fun _ k => XS.icmpYes X194.here hx rfl (pc0 := 11) (pc' := 49) rfl (hb hby d4_11) rfl (flt (by decide : ¬ ((2 : Int32) < (2 : Int32)))).2.1 (by decide) (by decide) k) ?_
    show own_Run p e below _ T194 (mkF m 49 #[.val (.ref a1), .val (.long q2), .second, .val (.int (2 : Int32)), .val (.int (2 : Int32)), .val (.int (2 : Int32))] [])
    refine own_go (fun _ k => XS.iloadN X194.here hx rfl (hb hby d4_49) rfl k) ?_
    refine own_go (fun _ k => XS.iconst X194.here hx rfl (hb hby d4_50) k) ?_
    refine own_go (fun _ k => XS.isub X194.here hx rfl (hb hby d4_51) rfl k) ?_
    show own_Run p e below _ T194 (mkF m 52 #[.val (.ref a1), .val (.long q2), .second, .val (.int (2 : Int32)), .val (.int (2 : Int32)), .val (.int (2 : Int32))] [(.int ((2 : Int32) - (1 : Int32)))])
    rw [show ((2 : Int32) - (1 : Int32)) = (1 : Int32) by decide]
    show own_Run p e below _ T194 (mkF m 52 #[.val (.ref a1), .val (.long q2), .second, .val (.int (2 : Int32)), .val (.int (2 : Int32)), .val (.int (2 : Int32))] [(.int (1 : Int32))])
    refine own_done (Q := fun v h L => Q4n3 Z a1 q2 b3 k3 z0 z1 z2 (1 : Int32) h0 n0 v h L) (v := (some (.int (1 : Int32)))) X194 (fun h => by rw [hret] at h; cases h) hlk (fun fs hr => own_retI X194 hx hret (hb hby d4_52) hr) ?_ (by decide) (by decide)
    show Q4n3 Z a1 q2 b3 k3 z0 z1 z2 (1 : Int32) h0 n0 _ T194.heap _
    rw [e194]
    exact ⟨rfl, N0, rfl⟩
  · show own_Run p e below _ s₁ (mkF m 0 #[.val (.ref a1), .val (.long q2), .second, .unset, .unset, .unset] [])
    refine own_go (fun _ k => XS.iconst X0.here hx rfl (hb hby d4_0) k) ?_
    refine own_go (fun _ k => XS.istoreN X0.here hx rfl (hb hby d4_1) rfl (l' := #[.val (.ref a1), .val (.long q2), .second, .val (.int (0 : Int32)), .unset, .unset]) rfl k) ?_
    refine own_go (fun _ k => XS.aloadN X0.here hx rfl (hb hby d4_2) rfl rfl k) ?_
    show own_Run p e below _ s₁ (mkF m 3 #[.val (.ref a1), .val (.long q2), .second, .val (.int (0 : Int32)), .unset, .unset] [(.ref a1)])
    obtain ⟨T196, X196, e196, st196⟩ := getF X0 hx hZ hown (host := "") (Or.inl (W 34 rfl)) Via.refl e0 F_mCount_a1 (g := (mkF m 3 #[.val (.ref a1), .val (.long q2), .second, .val (.int (0 : Int32)), .unset, .unset] [(.ref a1)])) rfl rfl (hb hby d4_3)
    refine own_go st196 ?_
    show own_Run p e below _ T196 (mkF m 6 #[.val (.ref a1), .val (.long q2), .second, .val (.int (0 : Int32)), .unset, .unset] [(.int (3 : Int32))])
    refine own_go (fun _ k => XS.istore X196.here hx rfl (hb hby d4_6) rfl (l' := #[.val (.ref a1), .val (.long q2), .second, .val (.int (0 : Int32)), .val (.int (3 : Int32)), .unset]) rfl k) ?_
    refine own_go (fun _ k => XS.iloadN X196.here hx rfl (hb hby d4_8) rfl k) ?_
    refine own_go (fun _ k => XS.iload X196.here hx rfl (hb hby d4_9) rfl k) ?_
    show own_Run p e below _ T196 (mkF m 11 #[.val (.ref a1), .val (.long q2), .second, .val (.int (0 : Int32)), .val (.int (3 : Int32)), .unset] [(.int (3 : Int32)), (.int (0 : Int32))])
    refine own_go (fun _ k => XS.icmpNo X196.here hx rfl (hb hby d4_11) rfl (tlt (by decide : (0 : Int32) < (3 : Int32))).2.1 k) ?_
    show own_Run p e below _ T196 (mkF m 14 #[.val (.ref a1), .val (.long q2), .second, .val (.int (0 : Int32)), .val (.int (3 : Int32)), .unset] [])
    refine own_go (fun _ k => XS.iloadN X196.here hx rfl (hb hby d4_14) rfl k) ?_
    refine own_go (fun _ k => XS.iload X196.here hx rfl (hb hby d4_15) rfl k) ?_
    refine own_go (fun _ k => XS.iadd X196.here hx rfl (hb hby d4_17) rfl k) ?_
    show own_Run p e below _ T196 (mkF m 18 #[.val (.ref a1), .val (.long q2), .second, .val (.int (0 : Int32)), .val (.int (3 : Int32)), .unset] [(.int ((0 : Int32) + (3 : Int32)))])
    rw [show ((0 : Int32) + (3 : Int32)) = (3 : Int32) by decide]
    show own_Run p e below _ T196 (mkF m 18 #[.val (.ref a1), .val (.long q2), .second, .val (.int (0 : Int32)), .val (.int (3 : Int32)), .unset] [(.int (3 : Int32))])
    refine own_go (fun _ k => XS.iconst X196.here hx rfl (hb hby d4_18) k) ?_
    refine own_go (fun _ k => XS.iushr X196.here hx rfl (hb hby d4_19) rfl k) ?_
    show own_Run p e below _ T196 (mkF m 20 #[.val (.ref a1), .val (.long q2), .second, .val (.int (0 : Int32)), .val (.int (3 : Int32)), .unset] [(.int (((3 : Int32).toUInt32 >>> ((1 : Int32) &&& 31).toUInt32).toInt32))])
    rw [show (((3 : Int32).toUInt32 >>> ((1 : Int32) &&& 31).toUInt32).toInt32) = (1 : Int32) by decide]
    show own_Run p e below _ T196 (mkF m 20 #[.val (.ref a1), .val (.long q2), .second, .val (.int (0 : Int32)), .val (.int (3 : Int32)), .unset] [(.int (1 : Int32))])
    refine own_go (fun _ k => XS.istore X196.here hx rfl (hb hby d4_20) rfl (l' := #[.val (.ref a1), .val (.long q2), .second, .val (.int (0 : Int32)), .val (.int (3 : Int32)), .val (.int (1 : Int32))]) rfl k) ?_
    refine own_go (fun _ k => XS.aloadN X196.here hx rfl (hb hby d4_22) rfl rfl k) ?_
    show own_Run p e below _ T196 (mkF m 23 #[.val (.ref a1), .val (.long q2), .second, .val (.int (0 : Int32)), .val (.int (3 : Int32)), .val (.int (1 : Int32))] [(.ref a1)])
    obtain ⟨T197, X197, e197, st197⟩ := getF X196 hx hZ hown (host := "") (Or.inl (W 15 rfl)) Via.refl e196 F_mTimestamps_a1 (g := (mkF m 23 #[.val (.ref a1), .val (.long q2), .second, .val (.int (0 : Int32)), .val (.int (3 : Int32)), .val (.int (1 : Int32))] [(.ref a1)])) rfl rfl (hb hby d4_23)
    refine own_go st197 ?_
    show own_Run p e below _ T197 (mkF m 26 #[.val (.ref a1), .val (.long q2), .second, .val (.int (0 : Int32)), .val (.int (3 : Int32)), .val (.int (1 : Int32))] [(.ref b3)])
    refine own_go (fun _ k => XS.iload X197.here hx rfl (hb hby d4_26) rfl k) ?_
    show own_Run p e below _ T197 (mkF m 28 #[.val (.ref a1), .val (.long q2), .second, .val (.int (0 : Int32)), .val (.int (3 : Int32)), .val (.int (1 : Int32))] [(.int (1 : Int32)), (.ref b3)])
    obtain ⟨cl198, Ar198, q198, S198, N198, H198, G198⟩ := id V_b3
    have hin198 : ¬ ((1 : Int32) < 0 ∨ cl198.slots.size ≤ ((1 : Int32)).toNatClampNeg) := inb_of S198 ⟨by decide, by decide⟩
    refine own_go (X197.laload hx (j := (1 : Int32)) (v := (.long z1)) (by rw [e197]; exact Ar198.1) (State.isArrayOf_alike hZ.alike Ar198.2.1) Ar198.2.2 hin198 (H198.at hin198 rfl) (g := (mkF m 28 #[.val (.ref a1), .val (.long q2), .second, .val (.int (0 : Int32)), .val (.int (3 : Int32)), .val (.int (1 : Int32))] [(.int (1 : Int32)), (.ref b3)])) rfl rfl (hb hby d4_28)) ?_
    show own_Run p e below _ T197 (mkF m 29 #[.val (.ref a1), .val (.long q2), .second, .val (.int (0 : Int32)), .val (.int (3 : Int32)), .val (.int (1 : Int32))] [(.long z1)])
    refine own_go (fun _ k => XS.lloadN X197.here hx rfl (hb hby d4_29) rfl k) ?_
    refine own_go (fun _ k => XS.lcmp X197.here hx rfl (hb hby d4_30) rfl k) ?_
    show own_Run p e below _ T197 (mkF m 31 #[.val (.ref a1), .val (.long q2), .second, .val (.int (0 : Int32)), .val (.int (3 : Int32)), .val (.int (1 : Int32))] [(.int (lcmpW z1 q2))])
    refine own_go (fun _ k => XS.ifNo X197.here hx rfl (hb hby d4_31) rfl (own_lcT hz1).2.1 k) ?_
    show own_Run p e below _ T197 (mkF m 34 #[.val (.ref a1), .val (.long q2), .second, .val (.int (0 : Int32)), .val (.int (3 : Int32)), .val (.int (1 : Int32))] [])
    refine own_go (fun _ k => XS.iload X197.here hx rfl (hb hby d4_34) rfl k) ?_
    refine own_go (fun _ k => XS.iconst X197.here hx rfl (hb hby d4_36) k) ?_
    refine own_go (fun _ k => XS.iadd X197.here hx rfl (hb hby d4_37) rfl k) ?_
    show own_Run p e below _ T197 (mkF m 38 #[.val (.ref a1), .val (.long q2), .second, .val (.int (0 : Int32)), .val (.int (3 : Int32)), .val (.int (1 : Int32))] [(.int ((1 : Int32) + (1 : Int32)))])
    rw [show ((1 : Int32) + (1 : Int32)) = (2 : Int32) by decide]
    show own_Run p e below _ T197 (mkF m 38 #[.val (.ref a1), .val (.long q2), .second, .val (.int (0 : Int32)), .val (.int (3 : Int32)), .val (.int (1 : Int32))] [(.int (2 : Int32))])
    refine own_go (fun _ k => XS.istoreN X197.here hx rfl (hb hby d4_38) rfl (l' := #[.val (.ref a1), .val (.long q2), .second, .val (.int (2 : Int32)), .val (.int (3 : Int32)), .val (.int (1 : Int32))]) rfl k) ?_
    refine own_go (fun _ k => XS.goto X197.here hx rfl (pc0 := 39) (pc' := 46) rfl (hb hby d4_39) (by decide) (by decide) k) ?_
    refine own_go (fun _ k => XS.goto X197.here hx rfl (pc0 := 46) (pc' := 8) rfl (hb hby d4_46) (by decide) (by decide) k) ?_
    refine own_go (fun _ k => XS.iloadN X197.here hx rfl (hb hby d4_8) rfl k) ?_
    show own_Run p e below _ T197 (mkF m 9 #[.val (.ref a1), .val (.long q2), .second, .val (.int (2 : Int32)), .val (.int (3 : Int32)), .val (.int (1 : Int32))] [(.int (2 : Int32))])
    refine own_go (fun _ k => XS.iload X197.here hx rfl (hb hby d4_9) rfl k) ?_
    show own_Run p e below _ T197 (mkF m 11 #[.val (.ref a1), .val (.long q2), .second, .val (.int (2 : Int32)), .val (.int (3 : Int32)), .val (.int (1 : Int32))] [(.int (3 : Int32)), (.int (2 : Int32))])
    refine own_go (fun _ k => XS.icmpNo X197.here hx rfl (hb hby d4_11) rfl (tlt (by decide : (2 : Int32) < (3 : Int32))).2.1 k) ?_
    show own_Run p e below _ T197 (mkF m 14 #[.val (.ref a1), .val (.long q2), .second, .val (.int (2 : Int32)), .val (.int (3 : Int32)), .val (.int (1 : Int32))] [])
    refine own_go (fun _ k => XS.iloadN X197.here hx rfl (hb hby d4_14) rfl k) ?_
    refine own_go (fun _ k => XS.iload X197.here hx rfl (hb hby d4_15) rfl k) ?_
    refine own_go (fun _ k => XS.iadd X197.here hx rfl (hb hby d4_17) rfl k) ?_
    show own_Run p e below _ T197 (mkF m 18 #[.val (.ref a1), .val (.long q2), .second, .val (.int (2 : Int32)), .val (.int (3 : Int32)), .val (.int (1 : Int32))] [(.int ((2 : Int32) + (3 : Int32)))])
    rw [show ((2 : Int32) + (3 : Int32)) = (5 : Int32) by decide]
    show own_Run p e below _ T197 (mkF m 18 #[.val (.ref a1), .val (.long q2), .second, .val (.int (2 : Int32)), .val (.int (3 : Int32)), .val (.int (1 : Int32))] [(.int (5 : Int32))])
    refine own_go (fun _ k => XS.iconst X197.here hx rfl (hb hby d4_18) k) ?_
    refine own_go (fun _ k => XS.iushr X197.here hx rfl (hb hby d4_19) rfl k) ?_
    show own_Run p e below _ T197 (mkF m 20 #[.val (.ref a1), .val (.long q2), .second, .val (.int (2 : Int32)), .val (.int (3 : Int32)), .val (.int (1 : Int32))] [(.int (((5 : Int32).toUInt32 >>> ((1 : Int32) &&& 31).toUInt32).toInt32))])
    rw [show (((5 : Int32).toUInt32 >>> ((1 : Int32) &&& 31).toUInt32).toInt32) = (2 : Int32) by decide]
    show own_Run p e below _ T197 (mkF m 20 #[.val (.ref a1), .val (.long q2), .second, .val (.int (2 : Int32)), .val (.int (3 : Int32)), .val (.int (1 : Int32))] [(.int (2 : Int32))])
    refine own_go (fun _ k => XS.istore X197.here hx rfl (hb hby d4_20) rfl (l' := #[.val (.ref a1), .val (.long q2), .second, .val (.int (2 : Int32)), .val (.int (3 : Int32)), .val (.int (2 : Int32))]) rfl k) ?_
    refine own_go (fun _ k => XS.aloadN X197.here hx rfl (hb hby d4_22) rfl rfl k) ?_
    show own_Run p e below _ T197 (mkF m 23 #[.val (.ref a1), .val (.long q2), .second, .val (.int (2 : Int32)), .val (.int (3 : Int32)), .val (.int (2 : Int32))] [(.ref a1)])
    obtain ⟨T199, X199, e199, st199⟩ := getF X197 hx hZ hown (host := "") (Or.inl (W 15 rfl)) Via.refl e197 F_mTimestamps_a1 (g := (mkF m 23 #[.val (.ref a1), .val (.long q2), .second, .val (.int (2 : Int32)), .val (.int (3 : Int32)), .val (.int (2 : Int32))] [(.ref a1)])) rfl rfl (hb hby d4_23)
    refine own_go st199 ?_
    show own_Run p e below _ T199 (mkF m 26 #[.val (.ref a1), .val (.long q2), .second, .val (.int (2 : Int32)), .val (.int (3 : Int32)), .val (.int (2 : Int32))] [(.ref b3)])
    refine own_go (fun _ k => XS.iload X199.here hx rfl (hb hby d4_26) rfl k) ?_
    show own_Run p e below _ T199 (mkF m 28 #[.val (.ref a1), .val (.long q2), .second, .val (.int (2 : Int32)), .val (.int (3 : Int32)), .val (.int (2 : Int32))] [(.int (2 : Int32)), (.ref b3)])
    obtain ⟨cl200, Ar200, q200, S200, N200, H200, G200⟩ := id V_b3
    have hin200 : ¬ ((2 : Int32) < 0 ∨ cl200.slots.size ≤ ((2 : Int32)).toNatClampNeg) := inb_of S200 ⟨by decide, by decide⟩
    refine own_go (X199.laload hx (j := (2 : Int32)) (v := (.long z2)) (by rw [e199]; exact Ar200.1) (State.isArrayOf_alike hZ.alike Ar200.2.1) Ar200.2.2 hin200 (H200.at hin200 rfl) (g := (mkF m 28 #[.val (.ref a1), .val (.long q2), .second, .val (.int (2 : Int32)), .val (.int (3 : Int32)), .val (.int (2 : Int32))] [(.int (2 : Int32)), (.ref b3)])) rfl rfl (hb hby d4_28)) ?_
    show own_Run p e below _ T199 (mkF m 29 #[.val (.ref a1), .val (.long q2), .second, .val (.int (2 : Int32)), .val (.int (3 : Int32)), .val (.int (2 : Int32))] [(.long z2)])
    refine own_go (fun _ k => XS.lloadN X199.here hx rfl (hb hby d4_29) rfl k) ?_
    refine own_go (fun _ k => XS.lcmp X199.here hx rfl (hb hby d4_30) rfl k) ?_
    show own_Run p e below _ T199 (mkF m 31 #[.val (.ref a1), .val (.long q2), .second, .val (.int (2 : Int32)), .val (.int (3 : Int32)), .val (.int (2 : Int32))] [(.int (lcmpW z2 q2))])
    refine own_go (fun _ k => XS.ifNo X199.here hx rfl (hb hby d4_31) rfl (own_lcT hz2).2.1 k) ?_
    show own_Run p e below _ T199 (mkF m 34 #[.val (.ref a1), .val (.long q2), .second, .val (.int (2 : Int32)), .val (.int (3 : Int32)), .val (.int (2 : Int32))] [])
    refine own_go (fun _ k => XS.iload X199.here hx rfl (hb hby d4_34) rfl k) ?_
    refine own_go (fun _ k => XS.iconst X199.here hx rfl (hb hby d4_36) k) ?_
    refine own_go (fun _ k => XS.iadd X199.here hx rfl (hb hby d4_37) rfl k) ?_
    show own_Run p e below _ T199 (mkF m 38 #[.val (.ref a1), .val (.long q2), .second, .val (.int (2 : Int32)), .val (.int (3 : Int32)), .val (.int (2 : Int32))] [(.int ((2 : Int32) + (1 : Int32)))])
    rw [show ((2 : Int32) + (1 : Int32)) = (3 : Int32) by decide]
    show own_Run p e below _ T199 (mkF m 38 #[.val (.ref a1), .val (.long q2), .second, .val (.int (2 : Int32)), .val (.int (3 : Int32)), .val (.int (2 : Int32))] [(.int (3 : Int32))])
    refine own_go (fun _ k => XS.istoreN X199.here hx rfl (hb hby d4_38) rfl (l' := #[.val (.ref a1), .val (.long q2), .second, .val (.int (3 : Int32)), .val (.int (3 : Int32)), .val (.int (2 : Int32))]) rfl k) ?_
    refine own_go (fun _ k => XS.goto X199.here hx rfl (pc0 := 39) (pc' := 46) rfl (hb hby d4_39) (by decide) (by decide) k) ?_
    refine own_go (fun _ k => XS.goto X199.here hx rfl (pc0 := 46) (pc' := 8) rfl (hb hby d4_46) (by decide) (by decide) k) ?_
    refine own_go (fun _ k => XS.iloadN X199.here hx rfl (hb hby d4_8) rfl k) ?_
    show own_Run p e below _ T199 (mkF m 9 #[.val (.ref a1), .val (.long q2), .second, .val (.int (3 : Int32)), .val (.int (3 : Int32)), .val (.int (2 : Int32))] [(.int (3 : Int32))])
    refine own_go (fun _ k => XS.iload X199.here hx rfl (hb hby d4_9) rfl k) ?_
    show own_Run p e below _ T199 (mkF m 11 #[.val (.ref a1), .val (.long q2), .second, .val (.int (3 : Int32)), .val (.int (3 : Int32)), .val (.int (2 : Int32))] [(.int (3 : Int32)), (.int (3 : Int32))])
    refine own_go (fun _ k => XS.icmpYes X199.here hx rfl (pc0 := 11) (pc' := 49) rfl (hb hby d4_11) rfl (flt (by decide : ¬ ((3 : Int32) < (3 : Int32)))).2.1 (by decide) (by decide) k) ?_
    show own_Run p e below _ T199 (mkF m 49 #[.val (.ref a1), .val (.long q2), .second, .val (.int (3 : Int32)), .val (.int (3 : Int32)), .val (.int (2 : Int32))] [])
    refine own_go (fun _ k => XS.iloadN X199.here hx rfl (hb hby d4_49) rfl k) ?_
    refine own_go (fun _ k => XS.iconst X199.here hx rfl (hb hby d4_50) k) ?_
    refine own_go (fun _ k => XS.isub X199.here hx rfl (hb hby d4_51) rfl k) ?_
    show own_Run p e below _ T199 (mkF m 52 #[.val (.ref a1), .val (.long q2), .second, .val (.int (3 : Int32)), .val (.int (3 : Int32)), .val (.int (2 : Int32))] [(.int ((3 : Int32) - (1 : Int32)))])
    rw [show ((3 : Int32) - (1 : Int32)) = (2 : Int32) by decide]
    show own_Run p e below _ T199 (mkF m 52 #[.val (.ref a1), .val (.long q2), .second, .val (.int (3 : Int32)), .val (.int (3 : Int32)), .val (.int (2 : Int32))] [(.int (2 : Int32))])
    refine own_done (Q := fun v h L => Q4n3 Z a1 q2 b3 k3 z0 z1 z2 (2 : Int32) h0 n0 v h L) (v := (some (.int (2 : Int32)))) X199 (fun h => by rw [hret] at h; cases h) hlk (fun fs hr => own_retI X199 hx hret (hb hby d4_52) hr) ?_ (by decide) (by decide)
    show Q4n3 Z a1 q2 b3 k3 z0 z1 z2 (2 : Int32) h0 n0 _ T199.heap _
    rw [e199]
    exact ⟨rfl, N0, rfl⟩
def Q4n4 (Z : State) (a1 : Addr) (q2 : Int64) (b3 : Addr) (k3 : ClassId) (z0 : Int64) (z1 : Int64) (z2 : Int64) (z3 : Int64) (r : Int32) (h0 : Heap) (n0 : Nat) (v : Option Value) (h : Heap) (L : List Loc) : Prop := v = some (.int r) ∧ Fr n0 L ∧ h = h0
set_option maxRecDepth 65536 in
set_option maxHeartbeats 40000000 in
theorem rm4n4 (l : Launch) (Z : State) (a0 : Array Value) (hw : ∀ d ∈ tables_1, d.before a0 Z = true) (ws : List Jvm.Cond) (a1 : Addr) (q2 : Int64) (b3 : Addr) (k3 : ClassId) (z0 : Int64) (z1 : Int64) (z2 : Int64) (z3 : Int64) (r : Int32) (h0 : Heap) (n0 : Nat) (Z0 : n0 ≤ h0.size) (F_mTimestamps_a1 : Fld Z h0 a1 "com/example/tote/tote/storage/OffsetIndex" "mTimestamps" "[J" (.ref b3)) (F_mCount_a1 : Fld Z h0 a1 "com/example/tote/tote/storage/OffsetIndex" "mCount" "I" (.int (4 : Int32))) (V_b3 : Arv Z h0 b3 k3 .long (16 : Int32) [(.long z0), (.long z1), (.long z2), (.long z3), (.long (0 : Int64)), (.long (0 : Int64)), (.long (0 : Int64)), (.long (0 : Int64)), (.long (0 : Int64)), (.long (0 : Int64)), (.long (0 : Int64)), (.long (0 : Int64)), (.long (0 : Int64)), (.long (0 : Int64)), (.long (0 : Int64)), (.long (0 : Int64))] (.long (0 : Int64))) (hp : (¬ (z0 < q2) ∧ ¬ (z1 < q2) ∧ ¬ (z2 < q2) ∧ ¬ (z3 < q2) ∧ r = (-1 : Int32)) ∨ (z0 < q2 ∧ ¬ (z1 < q2) ∧ ¬ (z2 < q2) ∧ ¬ (z3 < q2) ∧ r = (0 : Int32)) ∨ (z0 < q2 ∧ z1 < q2 ∧ ¬ (z2 < q2) ∧ ¬ (z3 < q2) ∧ r = (1 : Int32)) ∨ (z0 < q2 ∧ z1 < q2 ∧ z2 < q2 ∧ ¬ (z3 < q2) ∧ r = (2 : Int32)) ∨ (z0 < q2 ∧ z1 < q2 ∧ z2 < q2 ∧ z3 < q2 ∧ r = (3 : Int32))) :
    MetFree l (⟨"com/example/tote/tote/storage/OffsetIndex", "floorTime", "(J)I"⟩ : MethodName) (head1 (Jvm.Cond.code (⟨"com/example/tote/tote/storage/OffsetIndex", "floorTime", "(J)I"⟩ : MethodName) prog_89_method_6_code 6 (some .int) :: ws) ({ frames := 0, cells := 0, slots := 0, locals := 0 } : Room)) (fun a U => a = #[(.ref a1), (.long q2)] ∧ Z.Warmed39 U.vm ∧ U.heap = h0) (fun _ _ _ _ _ => True) (fun _ U o U' => ∃ v L, o = .returned v ∧ Q4n4 Z a1 q2 b3 k3 z0 z1 z2 z3 r h0 n0 v U'.heap L ∧ FrameEnd U o U' L ({ frames := 0, cells := 0, slots := 0, locals := 0 } : Room).cells ({ frames := 0, cells := 0, slots := 0, locals := 0 } : Room).slots) := by
  refine MetFree.of_bodySF (plainFor_of_name pn_4) hisR ?_
  intro p e s m args below meth c s₁ Bd hml0 hP hK
  obtain ⟨rfl, hZ, hh⟩ := hP
  have hx := Bd.exec
  have hby := Bd.bytes
  have hml : c.maxLocals = 6 := hml0
  have hown : s.vm.findClass "com/example/tote/tote/storage/OffsetIndex" = some m.cls := findClass_of_methodNamed Bd.named
  have hnm := (name_of_methodNamed Bd.named Bd.method).1
  have hret := Bd.returns
  have hlk : meth.locks = false := BodyLoose.notSynchronized Bd
  have X0 : Stand p l e ({ frames := 0, cells := 0, slots := 0, locals := 0 } : Room) s m #[(.ref a1), (.long q2)] below meth c s₁ [] 0 0 := Stand.of_body Bd
  have e0 : s₁.heap = h0 := by rw [← hh, Bd.state]; rfl
  have N0 := Fr.nil n0
  have W := fun (k : Nat) {d : Jvm.Cond} (h : tables_1[k]? = some d) => hw d (List.mem_of_getElem? h)
  have K0 : Keep h0 h0 [] := Keep.refl _ _
  refine own_start (ef_4 m a1 q2) ?_
  show own_Run p e below _ s₁ (mkF m 0 #[.val (.ref a1), .val (.long q2), .second, .unset, .unset, .unset] [])
  rcases hp with ⟨hz0, hz1, hz2, hz3, rfl⟩ | ⟨hz0, hz1, hz2, hz3, rfl⟩ | ⟨hz0, hz1, hz2, hz3, rfl⟩ | ⟨hz0, hz1, hz2, hz3, rfl⟩ | ⟨hz0, hz1, hz2, hz3, rfl⟩
  · show own_Run p e below _ s₁ (mkF m 0 #[.val (.ref a1), .val (.long q2), .second, .unset, .unset, .unset] [])
    refine own_go (fun _ k => XS.iconst X0.here hx rfl (hb hby d4_0) k) ?_
    refine own_go (fun _ k => XS.istoreN X0.here hx rfl (hb hby d4_1) rfl (l' := #[.val (.ref a1), .val (.long q2), .second, .val (.int (0 : Int32)), .unset, .unset]) rfl k) ?_
    refine own_go (fun _ k => XS.aloadN X0.here hx rfl (hb hby d4_2) rfl rfl k) ?_
    show own_Run p e below _ s₁ (mkF m 3 #[.val (.ref a1), .val (.long q2), .second, .val (.int (0 : Int32)), .unset, .unset] [(.ref a1)])
    obtain ⟨T201, X201, e201, st201⟩ := getF X0 hx hZ hown (host := "") (Or.inl (W 34 rfl)) Via.refl e0 F_mCount_a1 (g := (mkF m 3 #[.val (.ref a1), .val (.long q2), .second, .val (.int (0 : Int32)), .unset, .unset] [(.ref a1)])) rfl rfl (hb hby d4_3)
    refine own_go st201 ?_
    show own_Run p e below _ T201 (mkF m 6 #[.val (.ref a1), .val (.long q2), .second, .val (.int (0 : Int32)), .unset, .unset] [(.int (4 : Int32))])
    refine own_go (fun _ k => XS.istore X201.here hx rfl (hb hby d4_6) rfl (l' := #[.val (.ref a1), .val (.long q2), .second, .val (.int (0 : Int32)), .val (.int (4 : Int32)), .unset]) rfl k) ?_
    refine own_go (fun _ k => XS.iloadN X201.here hx rfl (hb hby d4_8) rfl k) ?_
    refine own_go (fun _ k => XS.iload X201.here hx rfl (hb hby d4_9) rfl k) ?_
    show own_Run p e below _ T201 (mkF m 11 #[.val (.ref a1), .val (.long q2), .second, .val (.int (0 : Int32)), .val (.int (4 : Int32)), .unset] [(.int (4 : Int32)), (.int (0 : Int32))])
    refine own_go (fun _ k => XS.icmpNo X201.here hx rfl (hb hby d4_11) rfl (tlt (by decide : (0 : Int32) < (4 : Int32))).2.1 k) ?_
    show own_Run p e below _ T201 (mkF m 14 #[.val (.ref a1), .val (.long q2), .second, .val (.int (0 : Int32)), .val (.int (4 : Int32)), .unset] [])
    refine own_go (fun _ k => XS.iloadN X201.here hx rfl (hb hby d4_14) rfl k) ?_
    refine own_go (fun _ k => XS.iload X201.here hx rfl (hb hby d4_15) rfl k) ?_
    refine own_go (fun _ k => XS.iadd X201.here hx rfl (hb hby d4_17) rfl k) ?_
    show own_Run p e below _ T201 (mkF m 18 #[.val (.ref a1), .val (.long q2), .second, .val (.int (0 : Int32)), .val (.int (4 : Int32)), .unset] [(.int ((0 : Int32) + (4 : Int32)))])
    rw [show ((0 : Int32) + (4 : Int32)) = (4 : Int32) by decide]
    show own_Run p e below _ T201 (mkF m 18 #[.val (.ref a1), .val (.long q2), .second, .val (.int (0 : Int32)), .val (.int (4 : Int32)), .unset] [(.int (4 : Int32))])
    refine own_go (fun _ k => XS.iconst X201.here hx rfl (hb hby d4_18) k) ?_
    refine own_go (fun _ k => XS.iushr X201.here hx rfl (hb hby d4_19) rfl k) ?_
    show own_Run p e below _ T201 (mkF m 20 #[.val (.ref a1), .val (.long q2), .second, .val (.int (0 : Int32)), .val (.int (4 : Int32)), .unset] [(.int (((4 : Int32).toUInt32 >>> ((1 : Int32) &&& 31).toUInt32).toInt32))])
    rw [show (((4 : Int32).toUInt32 >>> ((1 : Int32) &&& 31).toUInt32).toInt32) = (2 : Int32) by decide]
    show own_Run p e below _ T201 (mkF m 20 #[.val (.ref a1), .val (.long q2), .second, .val (.int (0 : Int32)), .val (.int (4 : Int32)), .unset] [(.int (2 : Int32))])
    refine own_go (fun _ k => XS.istore X201.here hx rfl (hb hby d4_20) rfl (l' := #[.val (.ref a1), .val (.long q2), .second, .val (.int (0 : Int32)), .val (.int (4 : Int32)), .val (.int (2 : Int32))]) rfl k) ?_
    refine own_go (fun _ k => XS.aloadN X201.here hx rfl (hb hby d4_22) rfl rfl k) ?_
    show own_Run p e below _ T201 (mkF m 23 #[.val (.ref a1), .val (.long q2), .second, .val (.int (0 : Int32)), .val (.int (4 : Int32)), .val (.int (2 : Int32))] [(.ref a1)])
    obtain ⟨T202, X202, e202, st202⟩ := getF X201 hx hZ hown (host := "") (Or.inl (W 15 rfl)) Via.refl e201 F_mTimestamps_a1 (g := (mkF m 23 #[.val (.ref a1), .val (.long q2), .second, .val (.int (0 : Int32)), .val (.int (4 : Int32)), .val (.int (2 : Int32))] [(.ref a1)])) rfl rfl (hb hby d4_23)
    refine own_go st202 ?_
    show own_Run p e below _ T202 (mkF m 26 #[.val (.ref a1), .val (.long q2), .second, .val (.int (0 : Int32)), .val (.int (4 : Int32)), .val (.int (2 : Int32))] [(.ref b3)])
    refine own_go (fun _ k => XS.iload X202.here hx rfl (hb hby d4_26) rfl k) ?_
    show own_Run p e below _ T202 (mkF m 28 #[.val (.ref a1), .val (.long q2), .second, .val (.int (0 : Int32)), .val (.int (4 : Int32)), .val (.int (2 : Int32))] [(.int (2 : Int32)), (.ref b3)])
    obtain ⟨cl203, Ar203, q203, S203, N203, H203, G203⟩ := id V_b3
    have hin203 : ¬ ((2 : Int32) < 0 ∨ cl203.slots.size ≤ ((2 : Int32)).toNatClampNeg) := inb_of S203 ⟨by decide, by decide⟩
    refine own_go (X202.laload hx (j := (2 : Int32)) (v := (.long z2)) (by rw [e202]; exact Ar203.1) (State.isArrayOf_alike hZ.alike Ar203.2.1) Ar203.2.2 hin203 (H203.at hin203 rfl) (g := (mkF m 28 #[.val (.ref a1), .val (.long q2), .second, .val (.int (0 : Int32)), .val (.int (4 : Int32)), .val (.int (2 : Int32))] [(.int (2 : Int32)), (.ref b3)])) rfl rfl (hb hby d4_28)) ?_
    show own_Run p e below _ T202 (mkF m 29 #[.val (.ref a1), .val (.long q2), .second, .val (.int (0 : Int32)), .val (.int (4 : Int32)), .val (.int (2 : Int32))] [(.long z2)])
    refine own_go (fun _ k => XS.lloadN X202.here hx rfl (hb hby d4_29) rfl k) ?_
    refine own_go (fun _ k => XS.lcmp X202.here hx rfl (hb hby d4_30) rfl k) ?_
    show own_Run p e below _ T202 (mkF m 31 #[.val (.ref a1), .val (.long q2), .second, .val (.int (0 : Int32)), .val (.int (4 : Int32)), .val (.int (2 : Int32))] [(.int (lcmpW z2 q2))])
    refine own_go (fun _ k => XS.ifYes X202.here hx rfl (pc0 := 31) (pc' := 42) rfl (hb hby d4_31) rfl (own_lcF hz2).2.1 (by decide) (by decide) k) ?_
    show own_Run p e below _ T202 (mkF m 42 #[.val (.ref a1), .val (.long q2), .second, .val (.int (0 : Int32)), .val (.int (4 : Int32)), .val (.int (2 : Int32))] [])
    refine own_go (fun _ k => XS.iload X202.here hx rfl (hb hby d4_42) rfl k) ?_
    refine own_go (fun _ k => XS.istore X202.here hx rfl (hb hby d4_44) rfl (l' := #[.val (.ref a1), .val (.long q2), .second, .val (.int (0 : Int32)), .val (.int (2 : Int32)), .val (.int (2 : Int32))]) rfl k) ?_
    refine own_go (fun _ k => XS.goto X202.here hx rfl (pc0 := 46) (pc' := 8) rfl (hb hby d4_46) (by decide) (by decide) k) ?_
    refine own_go (fun _ k => XS.iloadN X202.here hx rfl (hb hby d4_8) rfl k) ?_
    show own_Run p e below _ T202 (mkF m 9 #[.val (.ref a1), .val (.long q2), .second, .val (.int (0 : Int32)), .val (.int (2 : Int32)), .val (.int (2 : Int32))] [(.int (0 : Int32))])
    refine own_go (fun _ k => XS.iload X202.here hx rfl (hb hby d4_9) rfl k) ?_
    show own_Run p e below _ T202 (mkF m 11 #[.val (.ref a1), .val (.long q2), .second, .val (.int (0 : Int32)), .val (.int (2 : Int32)), .val (.int (2 : Int32))] [(.int (2 : Int32)), (.int (0 : Int32))])
    refine own_go (fun _ k => XS.icmpNo X202.here hx rfl (hb hby d4_11) rfl (tlt (by decide : (0 : Int32) < (2 : Int32))).2.1 k) ?_
    show own_Run p e below _ T202 (mkF m 14 #[.val (.ref a1), .val (.long q2), .second, .val (.int (0 : Int32)), .val (.int (2 : Int32)), .val (.int (2 : Int32))] [])
    refine own_go (fun _ k => XS.iloadN X202.here hx rfl (hb hby d4_14) rfl k) ?_
    refine own_go (fun _ k => XS.iload X202.here hx rfl (hb hby d4_15) rfl k) ?_
    refine own_go (fun _ k => XS.iadd X202.here hx rfl (hb hby d4_17) rfl k) ?_
    show own_Run p e below _ T202 (mkF m 18 #[.val (.ref a1), .val (.long q2), .second, .val (.int (0 : Int32)), .val (.int (2 : Int32)), .val (.int (2 : Int32))] [(.int ((0 : Int32) + (2 : Int32)))])
    rw [show ((0 : Int32) + (2 : Int32)) = (2 : Int32) by decide]
    show own_Run p e below _ T202 (mkF m 18 #[.val (.ref a1), .val (.long q2), .second, .val (.int (0 : Int32)), .val (.int (2 : Int32)), .val (.int (2 : Int32))] [(.int (2 : Int32))])
    refine own_go (fun _ k => XS.iconst X202.here hx rfl (hb hby d4_18) k) ?_
    refine own_go (fun _ k => XS.iushr X202.here hx rfl (hb hby d4_19) rfl k) ?_
    show own_Run p e below _ T202 (mkF m 20 #[.val (.ref a1), .val (.long q2), .second, .val (.int (0 : Int32)), .val (.int (2 : Int32)), .val (.int (2 : Int32))] [(.int (((2 : Int32).toUInt32 >>> ((1 : Int32) &&& 31).toUInt32).toInt32))])
    rw [show (((2 : Int32).toUInt32 >>> ((1 : Int32) &&& 31).toUInt32).toInt32) = (1 : Int32) by decide]
    show own_Run p e below _ T202 (mkF m 20 #[.val (.ref a1), .val (.long q2), .second, .val (.int (0 : Int32)), .val (.int (2 : Int32)), .val (.int (2 : Int32))] [(.int (1 : Int32))])
    refine own_go (fun _ k => XS.istore X202.here hx rfl (hb hby d4_20) rfl (l' := #[.val (.ref a1), .val (.long q2), .second, .val (.int (0 : Int32)), .val (.int (2 : Int32)), .val (.int (1 : Int32))]) rfl k) ?_
    refine own_go (fun _ k => XS.aloadN X202.here hx rfl (hb hby d4_22) rfl rfl k) ?_
    show own_Run p e below _ T202 (mkF m 23 #[.val (.ref a1), .val (.long q2), .second, .val (.int (0 : Int32)), .val (.int (2 : Int32)), .val (.int (1 : Int32))] [(.ref a1)])
    obtain ⟨T204, X204, e204, st204⟩ := getF X202 hx hZ hown (host := "") (Or.inl (W 15 rfl)) Via.refl e202 F_mTimestamps_a1 (g := (mkF m 23 #[.val (.ref a1), .val (.long q2), .second, .val (.int (0 : Int32)), .val (.int (2 : Int32)), .val (.int (1 : Int32))] [(.ref a1)])) rfl rfl (hb hby d4_23)
    refine own_go st204 ?_
    show own_Run p e below _ T204 (mkF m 26 #[.val (.ref a1), .val (.long q2), .second, .val (.int (0 : Int32)), .val (.int (2 : Int32)), .val (.int (1 : Int32))] [(.ref b3)])
    refine own_go (fun _ k => XS.iload X204.here hx rfl (hb hby d4_26) rfl k) ?_
    show own_Run p e below _ T204 (mkF m 28 #[.val (.ref a1), .val (.long q2), .second, .val (.int (0 : Int32)), .val (.int (2 : Int32)), .val (.int (1 : Int32))] [(.int (1 : Int32)), (.ref b3)])
    obtain ⟨cl205, Ar205, q205, S205, N205, H205, G205⟩ := id V_b3
    have hin205 : ¬ ((1 : Int32) < 0 ∨ cl205.slots.size ≤ ((1 : Int32)).toNatClampNeg) := inb_of S205 ⟨by decide, by decide⟩
    refine own_go (X204.laload hx (j := (1 : Int32)) (v := (.long z1)) (by rw [e204]; exact Ar205.1) (State.isArrayOf_alike hZ.alike Ar205.2.1) Ar205.2.2 hin205 (H205.at hin205 rfl) (g := (mkF m 28 #[.val (.ref a1), .val (.long q2), .second, .val (.int (0 : Int32)), .val (.int (2 : Int32)), .val (.int (1 : Int32))] [(.int (1 : Int32)), (.ref b3)])) rfl rfl (hb hby d4_28)) ?_
    show own_Run p e below _ T204 (mkF m 29 #[.val (.ref a1), .val (.long q2), .second, .val (.int (0 : Int32)), .val (.int (2 : Int32)), .val (.int (1 : Int32))] [(.long z1)])
    refine own_go (fun _ k => XS.lloadN X204.here hx rfl (hb hby d4_29) rfl k) ?_
    refine own_go (fun _ k => XS.lcmp X204.here hx rfl (hb hby d4_30) rfl k) ?_
    show own_Run p e below _ T204 (mkF m 31 #[.val (.ref a1), .val (.long q2), .second, .val (.int (0 : Int32)), .val (.int (2 : Int32)), .val (.int (1 : Int32))] [(.int (lcmpW z1 q2))])
    refine own_go (fun _ k => XS.ifYes X204.here hx rfl (pc0 := 31) (pc' := 42) rfl (hb hby d4_31) rfl (own_lcF hz1).2.1 (by decide) (by decide) k) ?_
    show own_Run p e below _ T204 (mkF m 42 #[.val (.ref a1), .val (.long q2), .second, .val (.int (0 : Int32)), .val (.int (2 : Int32)), .val (.int (1 : Int32))] [])
    refine own_go (fun _ k => XS.iload X204.here hx rfl (hb hby d4_42) rfl k) ?_
    refine own_go (fun _ k => XS.istore X204.here hx rfl (hb hby d4_44) rfl (l' := #[.val (.ref a1), .val (.long q2), .second, .val (.int (0 : Int32)), .val (.int (1 : Int32)), .val (.int (1 : Int32))]) rfl k) ?_
    refine own_go (fun _ k => XS.goto X204.here hx rfl (pc0 := 46) (pc' := 8) rfl (hb hby d4_46) (by decide) (by decide) k) ?_
    refine own_go (fun _ k => XS.iloadN X204.here hx rfl (hb hby d4_8) rfl k) ?_
    show own_Run p e below _ T204 (mkF m 9 #[.val (.ref a1), .val (.long q2), .second, .val (.int (0 : Int32)), .val (.int (1 : Int32)), .val (.int (1 : Int32))] [(.int (0 : Int32))])
    refine own_go (fun _ k => XS.iload X204.here hx rfl (hb hby d4_9) rfl k) ?_
    show own_Run p e below _ T204 (mkF m 11 #[.val (.ref a1), .val (.long q2), .second, .val (.int (0 : Int32)), .val (.int (1 : Int32)), .val (.int (1 : Int32))] [(.int (1 : Int32)), (.int (0 : Int32))])
    refine own_go (fun _ k => XS.icmpNo X204.here hx rfl (hb hby d4_11) rfl (tlt (by decide : (0 : Int32) < (1 : Int32))).2.1 k) ?_
    show own_Run p e below _ T204 (mkF m 14 #[.val (.ref a1), .val (.long q2), .second, .val (.int (0 : Int32)), .val (.int (1 : Int32)), .val (.int (1 : Int32))] [])
    refine own_go (fun _ k => XS.iloadN X204.here hx rfl (hb hby d4_14) rfl k) ?_
    refine own_go (fun _ k => XS.iload X204.here hx rfl (hb hby d4_15) rfl k) ?_
    refine own_go (fun _ k => XS.iadd X204.here hx rfl (hb hby d4_17) rfl k) ?_
    show own_Run p e below _ T204 (mkF m 18 #[.val (.ref a1), .val (.long q2), .second, .val (.int (0 : Int32)), .val (.int (1 : Int32)), .val (.int (1 : Int32))] [(.int ((0 : Int32) + (1 : Int32)))])
    rw [show ((0 : Int32) + (1 : Int32)) = (1 : Int32) by decide]
    show own_Run p e below _ T204 (mkF m 18 #[.val (.ref a1), .val (.long q2), .second, .val (.int (0 : Int32)), .val (.int (1 : Int32)), .val (.int (1 : Int32))] [(.int (1 : Int32))])
    refine own_go (fun _ k => XS.iconst X204.here hx rfl (hb hby d4_18) k) ?_
    refine own_go (fun _ k => XS.iushr X204.here hx rfl (hb hby d4_19) rfl k) ?_
    show own_Run p e below _ T204 (mkF m 20 #[.val (.ref a1), .val (.long q2), .second, .val (.int (0 : Int32)), .val (.int (1 : Int32)), .val (.int (1 : Int32))] [(.int (((1 : Int32).toUInt32 >>> ((1 : Int32) &&& 31).toUInt32).toInt32))])
    rw [show (((1 : Int32).toUInt32 >>> ((1 : Int32) &&& 31).toUInt32).toInt32) = (0 : Int32) by decide]
    show own_Run p e below _ T204 (mkF m 20 #[.val (.ref a1), .val (.long q2), .second, .val (.int (0 : Int32)), .val (.int (1 : Int32)), .val (.int (1 : Int32))] [(.int (0 : Int32))])
    refine own_go (fun _ k => XS.istore X204.here hx rfl (hb hby d4_20) rfl (l' := #[.val (.ref a1), .val (.long q2), .second, .val (.int (0 : Int32)), .val (.int (1 : Int32)), .val (.int (0 : Int32))]) rfl k) ?_
    refine own_go (fun _ k => XS.aloadN X204.here hx rfl (hb hby d4_22) rfl rfl k) ?_
    show own_Run p e below _ T204 (mkF m 23 #[.val (.ref a1), .val (.long q2), .second, .val (.int (0 : Int32)), .val (.int (1 : Int32)), .val (.int (0 : Int32))] [(.ref a1)])
    obtain ⟨T206, X206, e206, st206⟩ := getF X204 hx hZ hown (host := "") (Or.inl (W 15 rfl)) Via.refl e204 F_mTimestamps_a1 (g := (mkF m 23 #[.val (.ref a1), .val (.long q2), .second, .val (.int (0 : Int32)), .val (.int (1 : Int32)), .val (.int (0 : Int32))] [(.ref a1)])) rfl rfl (hb hby d4_23)
    refine own_go st206 ?_
    show own_Run p e below _ T206 (mkF m 26 #[.val (.ref a1), .val (.long q2), .second, .val (.int (0 : Int32)), .val (.int (1 : Int32)), .val (.int (0 : Int32))] [(.ref b3)])
    refine own_go (fun _ k => XS.iload X206.here hx rfl (hb hby d4_26) rfl k) ?_
    show own_Run p e below _ T206 (mkF m 28 #[.val (.ref a1), .val (.long q2), .second, .val (.int (0 : Int32)), .val (.int (1 : Int32)), .val (.int (0 : Int32))] [(.int (0 : Int32)), (.ref b3)])
    obtain ⟨cl207, Ar207, q207, S207, N207, H207, G207⟩ := id V_b3
    have hin207 : ¬ ((0 : Int32) < 0 ∨ cl207.slots.size ≤ ((0 : Int32)).toNatClampNeg) := inb_of S207 ⟨by decide, by decide⟩
    refine own_go (X206.laload hx (j := (0 : Int32)) (v := (.long z0)) (by rw [e206]; exact Ar207.1) (State.isArrayOf_alike hZ.alike Ar207.2.1) Ar207.2.2 hin207 (H207.at hin207 rfl) (g := (mkF m 28 #[.val (.ref a1), .val (.long q2), .second, .val (.int (0 : Int32)), .val (.int (1 : Int32)), .val (.int (0 : Int32))] [(.int (0 : Int32)), (.ref b3)])) rfl rfl (hb hby d4_28)) ?_
    show own_Run p e below _ T206 (mkF m 29 #[.val (.ref a1), .val (.long q2), .second, .val (.int (0 : Int32)), .val (.int (1 : Int32)), .val (.int (0 : Int32))] [(.long z0)])
    refine own_go (fun _ k => XS.lloadN X206.here hx rfl (hb hby d4_29) rfl k) ?_
    refine own_go (fun _ k => XS.lcmp X206.here hx rfl (hb hby d4_30) rfl k) ?_
    show own_Run p e below _ T206 (mkF m 31 #[.val (.ref a1), .val (.long q2), .second, .val (.int (0 : Int32)), .val (.int (1 : Int32)), .val (.int (0 : Int32))] [(.int (lcmpW z0 q2))])
    refine own_go (fun _ k => XS.ifYes X206.here hx rfl (pc0 := 31) (pc' := 42) rfl (hb hby d4_31) rfl (own_lcF hz0).2.1 (by decide) (by decide) k) ?_
    show own_Run p e below _ T206 (mkF m 42 #[.val (.ref a1), .val (.long q2), .second, .val (.int (0 : Int32)), .val (.int (1 : Int32)), .val (.int (0 : Int32))] [])
    refine own_go (fun _ k => XS.iload X206.here hx rfl (hb hby d4_42) rfl k) ?_
    refine own_go (fun _ k => XS.istore X206.here hx rfl (hb hby d4_44) rfl (l' := #[.val (.ref a1), .val (.long q2), .second, .val (.int (0 : Int32)), .val (.int (0 : Int32)), .val (.int (0 : Int32))]) rfl k) ?_
    refine own_go (fun _ k => XS.goto X206.here hx rfl (pc0 := 46) (pc' := 8) rfl (hb hby d4_46) (by decide) (by decide) k) ?_
    refine own_go (fun _ k => XS.iloadN X206.here hx rfl (hb hby d4_8) rfl k) ?_
    show own_Run p e below _ T206 (mkF m 9 #[.val (.ref a1), .val (.long q2), .second, .val (.int (0 : Int32)), .val (.int (0 : Int32)), .val (.int (0 : Int32))] [(.int (0 : Int32))])
    refine own_go (fun _ k => XS.iload X206.here hx rfl (hb hby d4_9) rfl k) ?_
    show own_Run p e below _ T206 (mkF m 11 #[.val (.ref a1), .val (.long q2), .second, .val (.int (0 : Int32)), .val (.int (0 : Int32)), .val (.int (0 : Int32))] [(.int (0 : Int32)), (.int (0 : Int32))])
    refine own_go (fun _ k => XS.icmpYes X206.here hx rfl (pc0 := 11) (pc' := 49) rfl (hb hby d4_11) rfl (flt (by decide : ¬ ((0 : Int32) < (0 : Int32)))).2.1 (by decide) (by decide) k) ?_
    show own_Run p e below _ T206 (mkF m 49 #[.val (.ref a1), .val (.long q2), .second, .val (.int (0 : Int32)), .val (.int (0 : Int32)), .val (.int (0 : Int32))] [])
    refine own_go (fun _ k => XS.iloadN X206.here hx rfl (hb hby d4_49) rfl k) ?_
    refine own_go (fun _ k => XS.iconst X206.here hx rfl (hb hby d4_50) k) ?_
    refine own_go (fun _ k => XS.isub X206.here hx rfl (hb hby d4_51) rfl k) ?_
    show own_Run p e below _ T206 (mkF m 52 #[.val (.ref a1), .val (.long q2), .second, .val (.int (0 : Int32)), .val (.int (0 : Int32)), .val (.int (0 : Int32))] [(.int ((0 : Int32) - (1 : Int32)))])
    rw [show ((0 : Int32) - (1 : Int32)) = (-1 : Int32) by decide]
    show own_Run p e below _ T206 (mkF m 52 #[.val (.ref a1), .val (.long q2), .second, .val (.int (0 : Int32)), .val (.int (0 : Int32)), .val (.int (0 : Int32))] [(.int (-1 : Int32))])
    refine own_done (Q := fun v h L => Q4n4 Z a1 q2 b3 k3 z0 z1 z2 z3 (-1 : Int32) h0 n0 v h L) (v := (some (.int (-1 : Int32)))) X206 (fun h => by rw [hret] at h; cases h) hlk (fun fs hr => own_retI X206 hx hret (hb hby d4_52) hr) ?_ (by decide) (by decide)
    show Q4n4 Z a1 q2 b3 k3 z0 z1 z2 z3 (-1 : Int32) h0 n0 _ T206.heap _
    rw [e206]
    exact ⟨rfl, N0, rfl⟩
  · show own_Run p e below _ s₁ (mkF m 0 #[.val (.ref a1), .val (.long q2), .second, .unset, .unset, .unset] [])
    refine own_go (fun _ k => XS.iconst X0.here hx rfl (hb hby d4_0) k) ?_
    refine own_go (fun _ k => XS.istoreN X0.here hx rfl (hb hby d4_1) rfl (l' := #[.val (.ref a1), .val (.long q2), .second, .val (.int (0 : Int32)), .unset, .unset]) rfl k) ?_
    refine own_go (fun _ k => XS.aloadN X0.here hx rfl (hb hby d4_2) rfl rfl k) ?_
    show own_Run p e below _ s₁ (mkF m 3 #[.val (.ref a1), .val (.long q2), .second, .val (.int (0 : Int32)), .unset, .unset] [(.ref a1)])
    obtain ⟨T208, X208, e208, st208⟩ := getF X0 hx hZ hown (host := "") (Or.inl (W 34 rfl)) Via.refl e0 F_mCount_a1 (g := (mkF m 3 #[.val (.ref a1), .val (.long q2), .second, .val (.int (0 : Int32)), .unset, .unset] [(.ref a1)])) rfl rfl (hb hby d4_3)
    refine own_go st208 ?_
    show own_Run p e below _ T208 (mkF m 6 #[.val (.ref a1), .val (.long q2), .second, .val (.int (0 : Int32)), .unset, .unset] [(.int (4 : Int32))])
    refine own_go (fun _ k => XS.istore X208.here hx rfl (hb hby d4_6) rfl (l' := #[.val (.ref a1), .val (.long q2), .second, .val (.int (0 : Int32)), .val (.int (4 : Int32)), .unset]) rfl k) ?_
    refine own_go (fun _ k => XS.iloadN X208.here hx rfl (hb hby d4_8) rfl k) ?_
    refine own_go (fun _ k => XS.iload X208.here hx rfl (hb hby d4_9) rfl k) ?_
    show own_Run p e below _ T208 (mkF m 11 #[.val (.ref a1), .val (.long q2), .second, .val (.int (0 : Int32)), .val (.int (4 : Int32)), .unset] [(.int (4 : Int32)), (.int (0 : Int32))])
    refine own_go (fun _ k => XS.icmpNo X208.here hx rfl (hb hby d4_11) rfl (tlt (by decide : (0 : Int32) < (4 : Int32))).2.1 k) ?_
    show own_Run p e below _ T208 (mkF m 14 #[.val (.ref a1), .val (.long q2), .second, .val (.int (0 : Int32)), .val (.int (4 : Int32)), .unset] [])
    refine own_go (fun _ k => XS.iloadN X208.here hx rfl (hb hby d4_14) rfl k) ?_
    refine own_go (fun _ k => XS.iload X208.here hx rfl (hb hby d4_15) rfl k) ?_
    refine own_go (fun _ k => XS.iadd X208.here hx rfl (hb hby d4_17) rfl k) ?_
    show own_Run p e below _ T208 (mkF m 18 #[.val (.ref a1), .val (.long q2), .second, .val (.int (0 : Int32)), .val (.int (4 : Int32)), .unset] [(.int ((0 : Int32) + (4 : Int32)))])
    rw [show ((0 : Int32) + (4 : Int32)) = (4 : Int32) by decide]
    show own_Run p e below _ T208 (mkF m 18 #[.val (.ref a1), .val (.long q2), .second, .val (.int (0 : Int32)), .val (.int (4 : Int32)), .unset] [(.int (4 : Int32))])
    refine own_go (fun _ k => XS.iconst X208.here hx rfl (hb hby d4_18) k) ?_
    refine own_go (fun _ k => XS.iushr X208.here hx rfl (hb hby d4_19) rfl k) ?_
    show own_Run p e below _ T208 (mkF m 20 #[.val (.ref a1), .val (.long q2), .second, .val (.int (0 : Int32)), .val (.int (4 : Int32)), .unset] [(.int (((4 : Int32).toUInt32 >>> ((1 : Int32) &&& 31).toUInt32).toInt32))])
    rw [show (((4 : Int32).toUInt32 >>> ((1 : Int32) &&& 31).toUInt32).toInt32) = (2 : Int32) by decide]
    show own_Run p e below _ T208 (mkF m 20 #[.val (.ref a1), .val (.long q2), .second, .val (.int (0 : Int32)), .val (.int (4 : Int32)), .unset] [(.int (2 : Int32))])
    refine own_go (fun _ k => XS.istore X208.here hx rfl (hb hby d4_20) rfl (l' := #[.val (.ref a1), .val (.long q2), .second, .val (.int (0 : Int32)), .val (.int (4 : Int32)), .val (.int (2 : Int32))]) rfl k) ?_
    refine own_go (fun _ k => XS.aloadN X208.here hx rfl (hb hby d4_22) rfl rfl k) ?_
    show own_Run p e below _ T208 (mkF m 23 #[.val (.ref a1), .val (.long q2), .second, .val (.int (0 : Int32)), .val (.int (4 : Int32)), .val (.int (2 : Int32))] [(.ref a1)])
    obtain ⟨T209, X209, e209, st209⟩ := getF X208 hx hZ hown (host := "") (Or.inl (W 15 rfl)) Via.refl e208 F_mTimestamps_a1 (g := (mkF m 23 #[.val (.ref a1), .val (.long q2), .second, .val (.int (0 : Int32)), .val (.int (4 : Int32)), .val (.int (2 : Int32))] [(.ref a1)])) rfl rfl (hb hby d4_23)
    refine own_go st209 ?_
    show own_Run p e below _ T209 (mkF m 26 #[.val (.ref a1), .val (.long q2), .second, .val (.int (0 : Int32)), .val (.int (4 : Int32)), .val (.int (2 : Int32))] [(.ref b3)])
    refine own_go (fun _ k => XS.iload X209.here hx rfl (hb hby d4_26) rfl k) ?_
    show own_Run p e below _ T209 (mkF m 28 #[.val (.ref a1), .val (.long q2), .second, .val (.int (0 : Int32)), .val (.int (4 : Int32)), .val (.int (2 : Int32))] [(.int (2 : Int32)), (.ref b3)])
    obtain ⟨cl210, Ar210, q210, S210, N210, H210, G210⟩ := id V_b3
    have hin210 : ¬ ((2 : Int32) < 0 ∨ cl210.slots.size ≤ ((2 : Int32)).toNatClampNeg) := inb_of S210 ⟨by decide, by decide⟩
    refine own_go (X209.laload hx (j := (2 : Int32)) (v := (.long z2)) (by rw [e209]; exact Ar210.1) (State.isArrayOf_alike hZ.alike Ar210.2.1) Ar210.2.2 hin210 (H210.at hin210 rfl) (g := (mkF m 28 #[.val (.ref a1), .val (.long q2), .second, .val (.int (0 : Int32)), .val (.int (4 : Int32)), .val (.int (2 : Int32))] [(.int (2 : Int32)), (.ref b3)])) rfl rfl (hb hby d4_28)) ?_
    show own_Run p e below _ T209 (mkF m 29 #[.val (.ref a1), .val (.long q2), .second, .val (.int (0 : Int32)), .val (.int (4 : Int32)), .val (.int (2 : Int32))] [(.long z2)])
    refine own_go (fun _ k => XS.lloadN X209.here hx rfl (hb hby d4_29) rfl k) ?_
    refine own_go (fun _ k => XS.lcmp X209.here hx rfl (hb hby d4_30) rfl k) ?_
    show own_Run p e below _ T209 (mkF m 31 #[.val (.ref a1), .val (.long q2), .second, .val (.int (0 : Int32)), .val (.int (4 : Int32)), .val (.int (2 : Int32))] [(.int (lcmpW z2 q2))])
    refine own_go (fun _ k => XS.ifYes X209.here hx rfl (pc0 := 31) (pc' := 42) rfl (hb hby d4_31) rfl (own_lcF hz2).2.1 (by decide) (by decide) k) ?_
    show own_Run p e below _ T209 (mkF m 42 #[.val (.ref a1), .val (.long q2), .second, .val (.int (0 : Int32)), .val (.int (4 : Int32)), .val (.int (2 : Int32))] [])
    refine own_go (fun _ k => XS.iload X209.here hx rfl (hb hby d4_42) rfl k) ?_
    refine own_go (fun _ k => XS.istore X209.here hx rfl (hb hby d4_44) rfl (l' := #[.val (.ref a1), .val (.long q2), .second, .val (.int (0 : Int32)), .val (.int (2 : Int32)), .val (.int (2 : Int32))]) rfl k) ?_
    refine own_go (fun _ k => XS.goto X209.here hx rfl (pc0 := 46) (pc' := 8) rfl (hb hby d4_46) (by decide) (by decide) k) ?_
    refine own_go (fun _ k => XS.iloadN X209.here hx rfl (hb hby d4_8) rfl k) ?_
    show own_Run p e below _ T209 (mkF m 9 #[.val (.ref a1), .val (.long q2), .second, .val (.int (0 : Int32)), .val (.int (2 : Int32)), .val (.int (2 : Int32))] [(.int (0 : Int32))])
    refine own_go (fun _ k => XS.iload X209.here hx rfl (hb hby d4_9) rfl k) ?_
    show own_Run p e below _ T209 (mkF m 11 #[.val (.ref a1), .val (.long q2), .second, .val (.int (0 : Int32)), .val (.int (2 : Int32)), .val (.int (2 : Int32))] [(.int (2 : Int32)), (.int (0 : Int32))])
    refine own_go (fun _ k => XS.icmpNo X209.here hx rfl (hb hby d4_11) rfl (tlt (by decide : (0 : Int32) < (2 : Int32))).2.1 k) ?_
    show own_Run p e below _ T209 (mkF m 14 #[.val (.ref a1), .val (.long q2), .second, .val (.int (0 : Int32)), .val (.int (2 : Int32)), .val (.int (2 : Int32))] [])
    refine own_go (fun _ k => XS.iloadN X209.here hx rfl (hb hby d4_14) rfl k) ?_
    refine own_go (fun _ k => XS.iload X209.here hx rfl (hb hby d4_15) rfl k) ?_
    refine own_go (fun _ k => XS.iadd X209.here hx rfl (hb hby d4_17) rfl k) ?_
    show own_Run p e below _ T209 (mkF m 18 #[.val (.ref a1), .val (.long q2), .second, .val (.int (0 : Int32)), .val (.int (2 : Int32)), .val (.int (2 : Int32))] [(.int ((0 : Int32) + (2 : Int32)))])
    rw [show ((0 : Int32) + (2 : Int32)) = (2 : Int32) by decide]
    show own_Run p e below _ T209 (mkF m 18 #[.val (.ref a1), .val (.long q2), .second, .val (.int (0 : Int32)), .val (.int (2 : Int32)), .val (.int (2 : Int32))] [(.int (2 : Int32))])
    refine own_go (fun _ k => XS.iconst X209.here hx rfl (hb hby d4_18) k) ?_
    refine own_go (fun _ k => XS.iushr X209.here hx rfl (hb hby d4_19) rfl k) ?_
    show own_Run p e below _ T209 (mkF m 20 #[.val (.ref a1), .val (.long q2), .second, .val (.int (0 : Int32)), .val (.int (2 : Int32)), .val (.int (2 : Int32))] [(.int (((2 : Int32).toUInt32 >>> ((1 : Int32) &&& 31).toUInt32).toInt32))])
    rw [show (((2 : Int32).toUInt32 >>> ((1 : Int32) &&& 31).toUInt32).toInt32) = (1 : Int32) by decide]
    show own_Run p e below _ T209 (mkF m 20 #[.val (.ref a1), .val (.long q2), .second, .val (.int (0 : Int32)), .val (.int (2 : Int32)), .val (.int (2 : Int32))] [(.int (1 : Int32))])
    refine own_go (fun _ k => XS.istore X209.here hx rfl (hb hby d4_20) rfl (l' := #[.val (.ref a1), .val (.long q2), .second, .val (.int (0 : Int32)), .val (.int (2 : Int32)), .val (.int (1 : Int32))]) rfl k) ?_
    refine own_go (fun _ k => XS.aloadN X209.here hx rfl (hb hby d4_22) rfl rfl k) ?_
    show own_Run p e below _ T209 (mkF m 23 #[.val (.ref a1), .val (.long q2), .second, .val (.int (0 : Int32)), .val (.int (2 : Int32)), .val (.int (1 : Int32))] [(.ref a1)])
    obtain ⟨T211, X211, e211, st211⟩ := getF X209 hx hZ hown (host := "") (Or.inl (W 15 rfl)) Via.refl e209 F_mTimestamps_a1 (g := (mkF m 23 #[.val (.ref a1), .val (.long q2), .second, .val (.int (0 : Int32)), .val (.int (2 : Int32)), .val (.int (1 : Int32))] [(.ref a1)])) rfl rfl (hb hby d4_23)
    refine own_go st211 ?_
    show own_Run p e below _ T211 (mkF m 26 #[.val (.ref a1), .val (.long q2), .second, .val (.int (0 : Int32)), .val (.int (2 : Int32)), .val (.int (1 : Int32))] [(.ref b3)])
    refine own_go (fun _ k => XS.iload X211.here hx rfl (hb hby d4_26) rfl k) ?_
    show own_Run p e below _ T211 (mkF m 28 #[.val (.ref a1), .val (.long q2), .second, .val (.int (0 : Int32)), .val (.int (2 : Int32)), .val (.int (1 : Int32))] [(.int (1 : Int32)), (.ref b3)])
    obtain ⟨cl212, Ar212, q212, S212, N212, H212, G212⟩ := id V_b3
    have hin212 : ¬ ((1 : Int32) < 0 ∨ cl212.slots.size ≤ ((1 : Int32)).toNatClampNeg) := inb_of S212 ⟨by decide, by decide⟩
    refine own_go (X211.laload hx (j := (1 : Int32)) (v := (.long z1)) (by rw [e211]; exact Ar212.1) (State.isArrayOf_alike hZ.alike Ar212.2.1) Ar212.2.2 hin212 (H212.at hin212 rfl) (g := (mkF m 28 #[.val (.ref a1), .val (.long q2), .second, .val (.int (0 : Int32)), .val (.int (2 : Int32)), .val (.int (1 : Int32))] [(.int (1 : Int32)), (.ref b3)])) rfl rfl (hb hby d4_28)) ?_
    show own_Run p e below _ T211 (mkF m 29 #[.val (.ref a1), .val (.long q2), .second, .val (.int (0 : Int32)), .val (.int (2 : Int32)), .val (.int (1 : Int32))] [(.long z1)])
    refine own_go (fun _ k => XS.lloadN X211.here hx rfl (hb hby d4_29) rfl k) ?_
    refine own_go (fun _ k => XS.lcmp X211.here hx rfl (hb hby d4_30) rfl k) ?_
    show own_Run p e below _ T211 (mkF m 31 #[.val (.ref a1), .val (.long q2), .second, .val (.int (0 : Int32)), .val (.int (2 : Int32)), .val (.int (1 : Int32))] [(.int (lcmpW z1 q2))])
    refine own_go (fun _ k => XS.ifYes X211.here hx rfl (pc0 := 31) (pc' := 42) rfl (hb hby d4_31) rfl (own_lcF hz1).2.1 (by decide) (by decide) k) ?_
    show own_Run p e below _ T211 (mkF m 42 #[.val (.ref a1), .val (.long q2), .second, .val (.int (0 : Int32)), .val (.int (2 : Int32)), .val (.int (1 : Int32))] [])
    refine own_go (fun _ k => XS.iload X211.here hx rfl (hb hby d4_42) rfl k) ?_
    refine own_go (fun _ k => XS.istore X211.here hx rfl (hb hby d4_44) rfl (l' := #[.val (.ref a1), .val (.long q2), .second, .val (.int (0 : Int32)), .val (.int (1 : Int32)), .val (.int (1 : Int32))]) rfl k) ?_
    refine own_go (fun _ k => XS.goto X211.here hx rfl (pc0 := 46) (pc' := 8) rfl (hb hby d4_46) (by decide) (by decide) k) ?_
    refine own_go (fun _ k => XS.iloadN X211.here hx rfl (hb hby d4_8) rfl k) ?_
    show own_Run p e below _ T211 (mkF m 9 #[.val (.ref a1), .val (.long q2), .second, .val (.int (0 : Int32)), .val (.int (1 : Int32)), .val (.int (1 : Int32))] [(.int (0 : Int32))])
    refine own_go (fun _ k => XS.iload X211.here hx rfl (hb hby d4_9) rfl k) ?_
    show own_Run p e below _ T211 (mkF m 11 #[.val (.ref a1), .val (.long q2), .second, .val (.int (0 : Int32)), .val (.int (1 : Int32)), .val (.int (1 : Int32))] [(.int (1 : Int32)), (.int (0 : Int32))])
    refine own_go (fun _ k => XS.icmpNo X211.here hx rfl (hb hby d4_11) rfl (tlt (by decide : (0 : Int32) < (1 : Int32))).2.1 k) ?_
    show own_Run p e below _ T211 (mkF m 14 #[.val (.ref a1), .val (.long q2), .second, .val (.int (0 : Int32)), .val (.int (1 : Int32)), .val (.int (1 : Int32))] [])
    refine own_go (fun _ k => XS.iloadN X211.here hx rfl (hb hby d4_14) rfl k) ?_
    refine own_go (fun _ k => XS.iload X211.here hx rfl (hb hby d4_15) rfl k) ?_
    refine own_go (fun _ k => XS.iadd X211.here hx rfl (hb hby d4_17) rfl k) ?_
    show own_Run p e below _ T211 (mkF m 18 #[.val (.ref a1), .val (.long q2), .second, .val (.int (0 : Int32)), .val (.int (1 : Int32)), .val (.int (1 : Int32))] [(.int ((0 : Int32) + (1 : Int32)))])
    rw [show ((0 : Int32) + (1 : Int32)) = (1 : Int32) by decide]
    show own_Run p e below _ T211 (mkF m 18 #[.val (.ref a1), .val (.long q2), .second, .val (.int (0 : Int32)), .val (.int (1 : Int32)), .val (.int (1 : Int32))] [(.int (1 : Int32))])
    refine own_go (fun _ k => XS.iconst X211.here hx rfl (hb hby d4_18) k) ?_
    refine own_go (fun _ k => XS.iushr X211.here hx rfl (hb hby d4_19) rfl k) ?_
    show own_Run p e below _ T211 (mkF m 20 #[.val (.ref a1), .val (.long q2), .second, .val (.int (0 : Int32)), .val (.int (1 : Int32)), .val (.int (1 : Int32))] [(.int (((1 : Int32).toUInt32 >>> ((1 : Int32) &&& 31).toUInt32).toInt32))])
    rw [show (((1 : Int32).toUInt32 >>> ((1 : Int32) &&& 31).toUInt32).toInt32) = (0 : Int32) by decide]
    show own_Run p e below _ T211 (mkF m 20 #[.val (.ref a1), .val (.long q2), .second, .val (.int (0 : Int32)), .val (.int (1 : Int32)), .val (.int (1 : Int32))] [(.int (0 : Int32))])
    refine own_go (fun _ k => XS.istore X211.here hx rfl (hb hby d4_20) rfl (l' := #[.val (.ref a1), .val (.long q2), .second, .val (.int (0 : Int32)), .val (.int (1 : Int32)), .val (.int (0 : Int32))]) rfl k) ?_
    refine own_go (fun _ k => XS.aloadN X211.here hx rfl (hb hby d4_22) rfl rfl k) ?_
    show own_Run p e below _ T211 (mkF m 23 #[.val (.ref a1), .val (.long q2), .second, .val (.int (0 : Int32)), .val (.int (1 : Int32)), .val (.int (0 : Int32))] [(.ref a1)])
    obtain ⟨T213, X213, e213, st213⟩ := getF X211 hx hZ hown (host := "") (Or.inl (W 15 rfl)) Via.refl e211 F_mTimestamps_a1 (g := (mkF m 23 #[.val (.ref a1), .val (.long q2), .second, .val (.int (0 : Int32)), .val (.int (1 : Int32)), .val (.int (0 : Int32))] [(.ref a1)])) rfl rfl (hb hby d4_23)
    refine own_go st213 ?_
    show own_Run p e below _ T213 (mkF m 26 #[.val (.ref a1), .val (.long q2), .second, .val (.int (0 : Int32)), .val (.int (1 : Int32)), .val (.int (0 : Int32))] [(.ref b3)])
    refine own_go (fun _ k => XS.iload X213.here hx rfl (hb hby d4_26) rfl k) ?_
    show own_Run p e below _ T213 (mkF m 28 #[.val (.ref a1), .val (.long q2), .second, .val (.int (0 : Int32)), .val (.int (1 : Int32)), .val (.int (0 : Int32))] [(.int (0 : Int32)), (.ref b3)])
    obtain ⟨cl214, Ar214, q214, S214, N214, H214, G214⟩ := id V_b3
    have hin214 : ¬ ((0 : Int32) < 0 ∨ cl214.slots.size ≤ ((0 : Int32)).toNatClampNeg) := inb_of S214 ⟨by decide, by decide⟩
    refine own_go (X213.laload hx (j := (0 : Int32)) (v := (.long z0)) (by rw [e213]; exact Ar214.1) (State.isArrayOf_alike hZ.alike Ar214.2.1) Ar214.2.2 hin214 (H214.at hin214 rfl) (g := (mkF m 28 #[.val (.ref a1), .val (.long q2), .second, .val (.int (0 : Int32)), .val (.int (1 : Int32)), .val (.int (0 : Int32))] [(.int (0 : Int32)), (.ref b3)])) rfl rfl (hb hby d4_28)) ?_
    show own_Run p e below _ T213 (mkF m 29 #[.val (.ref a1), .val (.long q2), .second, .val (.int (0 : Int32)), .val (.int (1 : Int32)), .val (.int (0 : Int32))] [(.long z0)])
    refine own_go (fun _ k => XS.lloadN X213.here hx rfl (hb hby d4_29) rfl k) ?_
    refine own_go (fun _ k => XS.lcmp X213.here hx rfl (hb hby d4_30) rfl k) ?_
    show own_Run p e below _ T213 (mkF m 31 #[.val (.ref a1), .val (.long q2), .second, .val (.int (0 : Int32)), .val (.int (1 : Int32)), .val (.int (0 : Int32))] [(.int (lcmpW z0 q2))])
    refine own_go (fun _ k => XS.ifNo X213.here hx rfl (hb hby d4_31) rfl (own_lcT hz0).2.1 k) ?_
    show own_Run p e below _ T213 (mkF m 34 #[.val (.ref a1), .val (.long q2), .second, .val (.int (0 : Int32)), .val (.int (1 : Int32)), .val (.int (0 : Int32))] [])
    refine own_go (fun _ k => XS.iload X213.here hx rfl (hb hby d4_34) rfl k) ?_
    refine own_go (fun _ k => XS.iconst X213.here hx rfl (hb hby d4_36) k) ?_
    refine own_go (fun _ k => XS.iadd X213.here hx rfl (hb hby d4_37) rfl k) ?_
    show own_Run p e below _ T213 (mkF m 38 #[.val (.ref a1), .val (.long q2), .second, .val (.int (0 : Int32)), .val (.int (1 : Int32)), .val (.int (0 : Int32))] [(.int ((0 : Int32) + (1 : Int32)))])
    rw [show ((0 : Int32) + (1 : Int32)) = (1 : Int32) by decide]
    show own_Run p e below _ T213 (mkF m 38 #[.val (.ref a1), .val (.long q2), .second, .val (.int (0 : Int32)), .val (.int (1 : Int32)), .val (.int (0 : Int32))] [(.int (1 : Int32))])
    refine own_go (fun _ k => XS.istoreN X213.here hx rfl (hb hby d4_38) rfl (l' := #[.val (.ref a1), .val (.long q2), .second, .val (.int (1 : Int32)), .val (.int (1 : Int32)), .val (.int (0 : Int32))]) rfl k) ?_
    refine own_go (fun _ k => XS.goto X213.here hx rfl (pc0 := 39) (pc' := 46) rfl (hb hby d4_39) (by decide) (by decide) k) ?_
    refine own_go (fun _ k => XS.goto X213.here hx rfl (pc0 := 46) (pc' := 8) rfl (hb hby d4_46) (by decide) (by decide) k) ?_
    refine own_go (fun _ k => XS.iloadN X213.here hx rfl (hb hby d4_8) rfl k) ?_
    show own_Run p e below _ T213 (mkF m 9 #[.val (.ref a1), .val (.long q2), .second, .val (.int (1 : Int32)), .val (.int (1 : Int32)), .val (.int (0 : Int32))] [(.int (1 : Int32))])
    refine own_go (fun _ k => XS.iload X213.here hx rfl (hb hby d4_9) rfl k) ?_
    show own_Run p e below _ T213 (mkF m 11 #[.val (.ref a1), .val (.long q2), .second, .val (.int (1 : Int32)), .val (.int (1 : Int32)), .val (.int (0 : Int32))] [(.int (1 : Int32)), (.int (1 : Int32))])
    refine own_go (fun _ k => XS.icmpYes X213.here hx rfl (pc0 := 11) (pc' := 49) rfl (hb hby d4_11) rfl (flt (by decide : ¬ ((1 : Int32) < (1 : Int32)))).2.1 (by decide) (by decide) k) ?_
    show own_Run p e below _ T213 (mkF m 49 #[.val (.ref a1), .val (.long q2), .second, .val (.int (1 : Int32)), .val (.int (1 : Int32)), .val (.int (0 : Int32))] [])
    refine own_go (fun _ k => XS.iloadN X213.here hx rfl (hb hby d4_49) rfl k) ?_
    refine own_go (fun _ k => XS.iconst X213.here hx rfl (hb hby d4_50) k) ?_
    refine own_go (fun _ k => XS.isub X213.here hx rfl (hb hby d4_51) rfl k) ?_
    show own_Run p e below _ T213 (mkF m 52 #[.val (.ref a1), .val (.long q2), .second, .val (.int (1 : Int32)), .val (.int (1 : Int32)), .val (.int (0 : Int32))] [(.int ((1 : Int32) - (1 : Int32)))])
    rw [show ((1 : Int32) - (1 : Int32)) = (0 : Int32) by decide]
    show own_Run p e below _ T213 (mkF m 52 #[.val (.ref a1), .val (.long q2), .second, .val (.int (1 : Int32)), .val (.int (1 : Int32)), .val (.int (0 : Int32))] [(.int (0 : Int32))])
    refine own_done (Q := fun v h L => Q4n4 Z a1 q2 b3 k3 z0 z1 z2 z3 (0 : Int32) h0 n0 v h L) (v := (some (.int (0 : Int32)))) X213 (fun h => by rw [hret] at h; cases h) hlk (fun fs hr => own_retI X213 hx hret (hb hby d4_52) hr) ?_ (by decide) (by decide)
    show Q4n4 Z a1 q2 b3 k3 z0 z1 z2 z3 (0 : Int32) h0 n0 _ T213.heap _
    rw [e213]
    exact ⟨rfl, N0, rfl⟩
  · show own_Run p e below _ s₁ (mkF m 0 #[.val (.ref a1), .val (.long q2), .second, .unset, .unset, .unset] [])
    refine own_go (fun _ k => XS.iconst X0.here hx rfl (hb hby d4_0) k) ?_
    refine own_go (fun _ k => XS.istoreN X0.here hx rfl (hb hby d4_1) rfl (l' := #[.val (.ref a1), .val (.long q2), .second, .val (.int (0 : Int32)), .unset, .unset]) rfl k) ?_
    refine own_go (fun _ k => XS.aloadN X0.here hx rfl (hb hby d4_2) rfl rfl k) ?_
    show own_Run p e below _ s₁ (mkF m 3 #[.val (.ref a1), .val (.long q2), .second, .val (.int (0 : Int32)), .unset, .unset] [(.ref a1)])
    obtain ⟨T215, X215, e215, st215⟩ := getF X0 hx hZ hown (host := "") (Or.inl (W 34 rfl)) Via.refl e0 F_mCount_a1 (g := (mkF m 3 #[.val (.ref a1), .val (.long q2), .second, .val (.int (0 : Int32)), .unset, .unset] [(.ref a1)])) rfl rfl (hb hby d4_3)
    refine own_go st215 ?_
    show own_Run p e below _ T215 (mkF m 6 #[.val (.ref a1), .val (.long q2), .second, .val (.int (0 : Int32)), .unset, .unset] [(.int (4 : Int32))])
    refine own_go (fun _ k => XS.istore X215.here hx rfl (hb hby d4_6) rfl (l' := #[.val (.ref a1), .val (.long q2), .second, .val (.int (0 : Int32)), .val (.int (4 : Int32)), .unset]) rfl k) ?_
    refine own_go (fun _ k => XS.iloadN X215.here hx rfl (hb hby d4_8) rfl k) ?_
    refine own_go (fun _ k => XS.iload X215.here hx rfl (hb hby d4_9) rfl k) ?_
    show own_Run p e below _ T215 (mkF m 11 #[.val (.ref a1), .val (.long q2), .second, .val (.int (0 : Int32)), .val (.int (4 : Int32)), .unset] [(.int (4 : Int32)), (.int (0 : Int32))])
    refine own_go (fun _ k => XS.icmpNo X215.here hx rfl (hb hby d4_11) rfl (tlt (by decide : (0 : Int32) < (4 : Int32))).2.1 k) ?_
    show own_Run p e below _ T215 (mkF m 14 #[.val (.ref a1), .val (.long q2), .second, .val (.int (0 : Int32)), .val (.int (4 : Int32)), .unset] [])
    refine own_go (fun _ k => XS.iloadN X215.here hx rfl (hb hby d4_14) rfl k) ?_
    refine own_go (fun _ k => XS.iload X215.here hx rfl (hb hby d4_15) rfl k) ?_
    refine own_go (fun _ k => XS.iadd X215.here hx rfl (hb hby d4_17) rfl k) ?_
    show own_Run p e below _ T215 (mkF m 18 #[.val (.ref a1), .val (.long q2), .second, .val (.int (0 : Int32)), .val (.int (4 : Int32)), .unset] [(.int ((0 : Int32) + (4 : Int32)))])
    rw [show ((0 : Int32) + (4 : Int32)) = (4 : Int32) by decide]
    show own_Run p e below _ T215 (mkF m 18 #[.val (.ref a1), .val (.long q2), .second, .val (.int (0 : Int32)), .val (.int (4 : Int32)), .unset] [(.int (4 : Int32))])
    refine own_go (fun _ k => XS.iconst X215.here hx rfl (hb hby d4_18) k) ?_
    refine own_go (fun _ k => XS.iushr X215.here hx rfl (hb hby d4_19) rfl k) ?_
    show own_Run p e below _ T215 (mkF m 20 #[.val (.ref a1), .val (.long q2), .second, .val (.int (0 : Int32)), .val (.int (4 : Int32)), .unset] [(.int (((4 : Int32).toUInt32 >>> ((1 : Int32) &&& 31).toUInt32).toInt32))])
    rw [show (((4 : Int32).toUInt32 >>> ((1 : Int32) &&& 31).toUInt32).toInt32) = (2 : Int32) by decide]
    show own_Run p e below _ T215 (mkF m 20 #[.val (.ref a1), .val (.long q2), .second, .val (.int (0 : Int32)), .val (.int (4 : Int32)), .unset] [(.int (2 : Int32))])
    refine own_go (fun _ k => XS.istore X215.here hx rfl (hb hby d4_20) rfl (l' := #[.val (.ref a1), .val (.long q2), .second, .val (.int (0 : Int32)), .val (.int (4 : Int32)), .val (.int (2 : Int32))]) rfl k) ?_
    refine own_go (fun _ k => XS.aloadN X215.here hx rfl (hb hby d4_22) rfl rfl k) ?_
    show own_Run p e below _ T215 (mkF m 23 #[.val (.ref a1), .val (.long q2), .second, .val (.int (0 : Int32)), .val (.int (4 : Int32)), .val (.int (2 : Int32))] [(.ref a1)])
    obtain ⟨T216, X216, e216, st216⟩ := getF X215 hx hZ hown (host := "") (Or.inl (W 15 rfl)) Via.refl e215 F_mTimestamps_a1 (g := (mkF m 23 #[.val (.ref a1), .val (.long q2), .second, .val (.int (0 : Int32)), .val (.int (4 : Int32)), .val (.int (2 : Int32))] [(.ref a1)])) rfl rfl (hb hby d4_23)
    refine own_go st216 ?_
    show own_Run p e below _ T216 (mkF m 26 #[.val (.ref a1), .val (.long q2), .second, .val (.int (0 : Int32)), .val (.int (4 : Int32)), .val (.int (2 : Int32))] [(.ref b3)])
    refine own_go (fun _ k => XS.iload X216.here hx rfl (hb hby d4_26) rfl k) ?_
    show own_Run p e below _ T216 (mkF m 28 #[.val (.ref a1), .val (.long q2), .second, .val (.int (0 : Int32)), .val (.int (4 : Int32)), .val (.int (2 : Int32))] [(.int (2 : Int32)), (.ref b3)])
    obtain ⟨cl217, Ar217, q217, S217, N217, H217, G217⟩ := id V_b3
    have hin217 : ¬ ((2 : Int32) < 0 ∨ cl217.slots.size ≤ ((2 : Int32)).toNatClampNeg) := inb_of S217 ⟨by decide, by decide⟩
    refine own_go (X216.laload hx (j := (2 : Int32)) (v := (.long z2)) (by rw [e216]; exact Ar217.1) (State.isArrayOf_alike hZ.alike Ar217.2.1) Ar217.2.2 hin217 (H217.at hin217 rfl) (g := (mkF m 28 #[.val (.ref a1), .val (.long q2), .second, .val (.int (0 : Int32)), .val (.int (4 : Int32)), .val (.int (2 : Int32))] [(.int (2 : Int32)), (.ref b3)])) rfl rfl (hb hby d4_28)) ?_
    show own_Run p e below _ T216 (mkF m 29 #[.val (.ref a1), .val (.long q2), .second, .val (.int (0 : Int32)), .val (.int (4 : Int32)), .val (.int (2 : Int32))] [(.long z2)])
    refine own_go (fun _ k => XS.lloadN X216.here hx rfl (hb hby d4_29) rfl k) ?_
    refine own_go (fun _ k => XS.lcmp X216.here hx rfl (hb hby d4_30) rfl k) ?_
    show own_Run p e below _ T216 (mkF m 31 #[.val (.ref a1), .val (.long q2), .second, .val (.int (0 : Int32)), .val (.int (4 : Int32)), .val (.int (2 : Int32))] [(.int (lcmpW z2 q2))])
    refine own_go (fun _ k => XS.ifYes X216.here hx rfl (pc0 := 31) (pc' := 42) rfl (hb hby d4_31) rfl (own_lcF hz2).2.1 (by decide) (by decide) k) ?_
    show own_Run p e below _ T216 (mkF m 42 #[.val (.ref a1), .val (.long q2), .second, .val (.int (0 : Int32)), .val (.int (4 : Int32)), .val (.int (2 : Int32))] [])
    refine own_go (fun _ k => XS.iload X216.here hx rfl (hb hby d4_42) rfl k) ?_
    refine own_go (fun _ k => XS.istore X216.here hx rfl (hb hby d4_44) rfl (l' := #[.val (.ref a1), .val (.long q2), .second, .val (.int (0 : Int32)), .val (.int (2 : Int32)), .val (.int (2 : Int32))]) rfl k) ?_
    refine own_go (fun _ k => XS.goto X216.here hx rfl (pc0 := 46) (pc' := 8) rfl (hb hby d4_46) (by decide) (by decide) k) ?_
    refine own_go (fun _ k => XS.iloadN X216.here hx rfl (hb hby d4_8) rfl k) ?_
    show own_Run p e below _ T216 (mkF m 9 #[.val (.ref a1), .val (.long q2), .second, .val (.int (0 : Int32)), .val (.int (2 : Int32)), .val (.int (2 : Int32))] [(.int (0 : Int32))])
    refine own_go (fun _ k => XS.iload X216.here hx rfl (hb hby d4_9) rfl k) ?_
    show own_Run p e below _ T216 (mkF m 11 #[.val (.ref a1), .val (.long q2), .second, .val (.int (0 : Int32)), .val (.int (2 : Int32)), .val (.int (2 : Int32))] [(.int (2 : Int32)), (.int (0 : Int32))])
    refine own_go (fun _ k => XS.icmpNo X216.here hx rfl (hb hby d4_11) rfl (tlt (by decide : (0 : Int32) < (2 : Int32))).2.1 k) ?_
    show own_Run p e below _ T216 (mkF m 14 #[.val (.ref a1), .val (.long q2), .second, .val (.int (0 : Int32)), .val (.int (2 : Int32)), .val (.int (2 : Int32))] [])
    refine own_go (fun _ k => XS.iloadN X216.here hx rfl (hb hby d4_14) rfl k) ?_
    refine own_go (fun _ k => XS.iload X216.here hx rfl (hb hby d4_15) rfl k) ?_
    refine own_go (fun _ k => XS.iadd X216.here hx rfl (hb hby d4_17) rfl k) ?_
    show own_Run p e below _ T216 (mkF m 18 #[.val (.ref a1), .val (.long q2), .second, .val (.int (0 : Int32)), .val (.int (2 : Int32)), .val (.int (2 : Int32))] [(.int ((0 : Int32) + (2 : Int32)))])
    rw [show ((0 : Int32) + (2 : Int32)) = (2 : Int32) by decide]
    show own_Run p e below _ T216 (mkF m 18 #[.val (.ref a1), .val (.long q2), .second, .val (.int (0 : Int32)), .val (.int (2 : Int32)), .val (.int (2 : Int32))] [(.int (2 : Int32))])
    refine own_go (fun _ k => XS.iconst X216.here hx rfl (hb hby d4_18) k) ?_
    refine own_go (fun _ k => XS.iushr X216.here hx rfl (hb hby d4_19) rfl k) ?_
    show own_Run p e below _ T216 (mkF m 20 #[.val (.ref a1), .val (.long q2), .second, .val (.int (0 : Int32)), .val (.int (2 : Int32)), .val (.int (2 : Int32))] [(.int (((2 : Int32).toUInt32 >>> ((1 : Int32) &&& 31).toUInt32).toInt32))])
    rw [show (((2 : Int32).toUInt32 >>> ((1 : Int32) &&& 31).toUInt32).toInt32) = (1 : Int32) by decide]
    show own_Run p e below _ T216 (mkF m 20 #[.val (.ref a1), .val (.long q2), .second, .val (.int (0 : Int32)), .val (.int (2 : Int32)), .val (.int (2 : Int32))] [(.int (1 : Int32))])
    refine own_go (fun _ k => XS.istore X216.here hx rfl (hb hby d4_20) rfl (l' := #[.val (.ref a1), .val (.long q2), .second, .val (.int (0 : Int32)), .val (.int (2 : Int32)), .val (.int (1 : Int32))]) rfl k) ?_
    refine own_go (fun _ k => XS.aloadN X216.here hx rfl (hb hby d4_22) rfl rfl k) ?_
    show own_Run p e below _ T216 (mkF m 23 #[.val (.ref a1), .val (.long q2), .second, .val (.int (0 : Int32)), .val (.int (2 : Int32)), .val (.int (1 : Int32))] [(.ref a1)])
    obtain ⟨T218, X218, e218, st218⟩ := getF X216 hx hZ hown (host := "") (Or.inl (W 15 rfl)) Via.refl e216 F_mTimestamps_a1 (g := (mkF m 23 #[.val (.ref a1), .val (.long q2), .second, .val (.int (0 : Int32)), .val (.int (2 : Int32)), .val (.int (1 : Int32))] [(.ref a1)])) rfl rfl (hb hby d4_23)
    refine own_go st218 ?_
    show own_Run p e below _ T218 (mkF m 26 #[.val (.ref a1), .val (.long q2), .second, .val (.int (0 : Int32)), .val (.int (2 : Int32)), .val (.int (1 : Int32))] [(.ref b3)])
    refine own_go (fun _ k => XS.iload X218.here hx rfl (hb hby d4_26) rfl k) ?_
    show own_Run p e below _ T218 (mkF m 28 #[.val (.ref a1), .val (.long q2), .second, .val (.int (0 : Int32)), .val (.int (2 : Int32)), .val (.int (1 : Int32))] [(.int (1 : Int32)), (.ref b3)])
    obtain ⟨cl219, Ar219, q219, S219, N219, H219, G219⟩ := id V_b3
    have hin219 : ¬ ((1 : Int32) < 0 ∨ cl219.slots.size ≤ ((1 : Int32)).toNatClampNeg) := inb_of S219 ⟨by decide, by decide⟩
    refine own_go (X218.laload hx (j := (1 : Int32)) (v := (.long z1)) (by rw [e218]; exact Ar219.1) (State.isArrayOf_alike hZ.alike Ar219.2.1) Ar219.2.2 hin219 (H219.at hin219 rfl) (g := (mkF m 28 #[.val (.ref a1), .val (.long q2), .second, .val (.int (0 : Int32)), .val (.int (2 : Int32)), .val (.int (1 : Int32))] [(.int (1 : Int32)), (.ref b3)])) rfl rfl (hb hby d4_28)) ?_
    show own_Run p e below _ T218 (mkF m 29 #[.val (.ref a1), .val (.long q2), .second, .val (.int (0 : Int32)), .val (.int (2 : Int32)), .val (.int (1 : Int32))] [(.long z1)])
    refine own_go (fun _ k => XS.lloadN X218.here hx rfl (hb hby d4_29) rfl k) ?_
    refine own_go (fun _ k => XS.lcmp X218.here hx rfl (hb hby d4_30) rfl k) ?_
    show own_Run p e below _ T218 (mkF m 31 #[.val (.ref a1), .val (.long q2), .second, .val (.int (0 : Int32)), .val (.int (2 : Int32)), .val (.int (1 : Int32))] [(.int (lcmpW z1 q2))])
    refine own_go (fun _ k => XS.ifNo X218.here hx rfl (hb hby d4_31) rfl (own_lcT hz1).2.1 k) ?_
    show own_Run p e below _ T218 (mkF m 34 #[.val (.ref a1), .val (.long q2), .second, .val (.int (0 : Int32)), .val (.int (2 : Int32)), .val (.int (1 : Int32))] [])
    refine own_go (fun _ k => XS.iload X218.here hx rfl (hb hby d4_34) rfl k) ?_
    refine own_go (fun _ k => XS.iconst X218.here hx rfl (hb hby d4_36) k) ?_
    refine own_go (fun _ k => XS.iadd X218.here hx rfl (hb hby d4_37) rfl k) ?_
    show own_Run p e below _ T218 (mkF m 38 #[.val (.ref a1), .val (.long q2), .second, .val (.int (0 : Int32)), .val (.int (2 : Int32)), .val (.int (1 : Int32))] [(.int ((1 : Int32) + (1 : Int32)))])
    rw [show ((1 : Int32) + (1 : Int32)) = (2 : Int32) by decide]
    show own_Run p e below _ T218 (mkF m 38 #[.val (.ref a1), .val (.long q2), .second, .val (.int (0 : Int32)), .val (.int (2 : Int32)), .val (.int (1 : Int32))] [(.int (2 : Int32))])
    refine own_go (fun _ k => XS.istoreN X218.here hx rfl (hb hby d4_38) rfl (l' := #[.val (.ref a1), .val (.long q2), .second, .val (.int (2 : Int32)), .val (.int (2 : Int32)), .val (.int (1 : Int32))]) rfl k) ?_
    refine own_go (fun _ k => XS.goto X218.here hx rfl (pc0 := 39) (pc' := 46) rfl (hb hby d4_39) (by decide) (by decide) k) ?_
    refine own_go (fun _ k => XS.goto X218.here hx rfl (pc0 := 46) (pc' := 8) rfl (hb hby d4_46) (by decide) (by decide) k) ?_
    refine own_go (fun _ k => XS.iloadN X218.here hx rfl (hb hby d4_8) rfl k) ?_
    show own_Run p e below _ T218 (mkF m 9 #[.val (.ref a1), .val (.long q2), .second, .val (.int (2 : Int32)), .val (.int (2 : Int32)), .val (.int (1 : Int32))] [(.int (2 : Int32))])
    refine own_go (fun _ k => XS.iload X218.here hx rfl (hb hby d4_9) rfl k) ?_
    show own_Run p e below _ T218 (mkF m 11 #[.val (.ref a1), .val (.long q2), .second, .val (.int (2 : Int32)), .val (.int (2 : Int32)), .val (.int (1 : Int32))] [(.int (2 : Int32)), (.int (2 : Int32))])
    refine own_go (fun _ k => XS.icmpYes X218.here hx rfl (pc0 := 11) (pc' := 49) rfl (hb hby d4_11) rfl (flt (by decide : ¬ ((2 : Int32) < (2 : Int32)))).2.1 (by decide) (by decide) k) ?_
    show own_Run p e below _ T218 (mkF m 49 #[.val (.ref a1), .val (.long q2), .second, .val (.int (2 : Int32)), .val (.int (2 : Int32)), .val (.int (1 : Int32))] [])
    refine own_go (fun _ k => XS.iloadN X218.here hx rfl (hb hby d4_49) rfl k) ?_
    refine own_go (fun _ k => XS.iconst X218.here hx rfl (hb hby d4_50) k) ?_
    refine own_go (fun _ k => XS.isub X218.here hx rfl (hb hby d4_51) rfl k) ?_
    show own_Run p e below _ T218 (mkF m 52 #[.val (.ref a1), .val (.long q2), .second, .val (.int (2 : Int32)), .val (.int (2 : Int32)), .val (.int (1 : Int32))] [(.int ((2 : Int32) - (1 : Int32)))])
    rw [show ((2 : Int32) - (1 : Int32)) = (1 : Int32) by decide]
    show own_Run p e below _ T218 (mkF m 52 #[.val (.ref a1), .val (.long q2), .second, .val (.int (2 : Int32)), .val (.int (2 : Int32)), .val (.int (1 : Int32))] [(.int (1 : Int32))])
    refine own_done (Q := fun v h L => Q4n4 Z a1 q2 b3 k3 z0 z1 z2 z3 (1 : Int32) h0 n0 v h L) (v := (some (.int (1 : Int32)))) X218 (fun h => by rw [hret] at h; cases h) hlk (fun fs hr => own_retI X218 hx hret (hb hby d4_52) hr) ?_ (by decide) (by decide)
    show Q4n4 Z a1 q2 b3 k3 z0 z1 z2 z3 (1 : Int32) h0 n0 _ T218.heap _
    rw [e218]
    exact ⟨rfl, N0, rfl⟩
  · show own_Run p e below _ s₁ (mkF m 0 #[.val (.ref a1), .val (.long q2), .second, .unset, .unset, .unset] [])
    refine own_go (fun _ k => XS.iconst X0.here hx rfl (hb hby d4_0) k) ?_
    refine own_go (fun _ k => XS.istoreN X0.here hx rfl (hb hby d4_1) rfl (l' := #[.val (.ref a1), .val (.long q2), .second, .val (.int (0 : Int32)), .unset, .unset]) rfl k) ?_
    refine own_go (fun _ k => XS.aloadN X0.here hx rfl (hb hby d4_2) rfl rfl k) ?_
    show own_Run p e below _ s₁ (mkF m 3 #[.val (.ref a1), .val (.long q2), .second, .val (.int (0 : Int32)), .unset, .unset] [(.ref a1)])
    obtain ⟨T220, X220, e220, st220⟩ := getF X0 hx hZ hown (host := "") (Or.inl (W 34 rfl)) Via.refl e0 F_mCount_a1 (g := (mkF m 3 #[.val (.ref a1), .val (.long q2), .second, .val (.int (0 : Int32)), .unset, .unset] [(.ref a1)])) rfl rfl (hb hby d4_3)
    refine own_go st220 ?_
    show own_Run p e below _ T220 (mkF m 6 #[.val (.ref a1), .val (.long q2), .second, .val (.int (0 : Int32)), .unset, .unset] [(.int (4 : Int32))])
    refine own_go (fun _ k => XS.istore X220.here hx rfl (hb hby d4_6) rfl (l' := #[.val (.ref a1), .val (.long q2), .second, .val (.int (0 : Int32)), .val (.int (4 : Int32)), .unset]) rfl k) ?_
    refine own_go (fun _ k => XS.iloadN X220.here hx rfl (hb hby d4_8) rfl k) ?_
    refine own_go (fun _ k => XS.iload X220.here hx rfl (hb hby d4_9) rfl k) ?_
    show own_Run p e below _ T220 (mkF m 11 #[.val (.ref a1), .val (.long q2), .second, .val (.int (0 : Int32)), .val (.int (4 : Int32)), .unset] [(.int (4 : Int32)), (.int (0 : Int32))])
    refine own_go (fun _ k => XS.icmpNo X220.here hx rfl (hb hby d4_11) rfl (tlt (by decide : (0 : Int32) < (4 : Int32))).2.1 k) ?_
    show own_Run p e below _ T220 (mkF m 14 #[.val (.ref a1), .val (.long q2), .second, .val (.int (0 : Int32)), .val (.int (4 : Int32)), .unset] [])
    refine own_go (fun _ k => XS.iloadN X220.here hx rfl (hb hby d4_14) rfl k) ?_
    refine own_go (fun _ k => XS.iload X220.here hx rfl (hb hby d4_15) rfl k) ?_
    refine own_go (fun _ k => XS.iadd X220.here hx rfl (hb hby d4_17) rfl k) ?_
    show own_Run p e below _ T220 (mkF m 18 #[.val (.ref a1), .val (.long q2), .second, .val (.int (0 : Int32)), .val (.int (4 : Int32)), .unset] [(.int ((0 : Int32) + (4 : Int32)))])
    rw [show ((0 : Int32) + (4 : Int32)) = (4 : Int32) by decide]
    show own_Run p e below _ T220 (mkF m 18 #[.val (.ref a1), .val (.long q2), .second, .val (.int (0 : Int32)), .val (.int (4 : Int32)), .unset] [(.int (4 : Int32))])
    refine own_go (fun _ k => XS.iconst X220.here hx rfl (hb hby d4_18) k) ?_
    refine own_go (fun _ k => XS.iushr X220.here hx rfl (hb hby d4_19) rfl k) ?_
    show own_Run p e below _ T220 (mkF m 20 #[.val (.ref a1), .val (.long q2), .second, .val (.int (0 : Int32)), .val (.int (4 : Int32)), .unset] [(.int (((4 : Int32).toUInt32 >>> ((1 : Int32) &&& 31).toUInt32).toInt32))])
    rw [show (((4 : Int32).toUInt32 >>> ((1 : Int32) &&& 31).toUInt32).toInt32) = (2 : Int32) by decide]
    show own_Run p e below _ T220 (mkF m 20 #[.val (.ref a1), .val (.long q2), .second, .val (.int (0 : Int32)), .val (.int (4 : Int32)), .unset] [(.int (2 : Int32))])
    refine own_go (fun _ k => XS.istore X220.here hx rfl (hb hby d4_20) rfl (l' := #[.val (.ref a1), .val (.long q2), .second, .val (.int (0 : Int32)), .val (.int (4 : Int32)), .val (.int (2 : Int32))]) rfl k) ?_
    refine own_go (fun _ k => XS.aloadN X220.here hx rfl (hb hby d4_22) rfl rfl k) ?_
    show own_Run p e below _ T220 (mkF m 23 #[.val (.ref a1), .val (.long q2), .second, .val (.int (0 : Int32)), .val (.int (4 : Int32)), .val (.int (2 : Int32))] [(.ref a1)])
    obtain ⟨T221, X221, e221, st221⟩ := getF X220 hx hZ hown (host := "") (Or.inl (W 15 rfl)) Via.refl e220 F_mTimestamps_a1 (g := (mkF m 23 #[.val (.ref a1), .val (.long q2), .second, .val (.int (0 : Int32)), .val (.int (4 : Int32)), .val (.int (2 : Int32))] [(.ref a1)])) rfl rfl (hb hby d4_23)
    refine own_go st221 ?_
    show own_Run p e below _ T221 (mkF m 26 #[.val (.ref a1), .val (.long q2), .second, .val (.int (0 : Int32)), .val (.int (4 : Int32)), .val (.int (2 : Int32))] [(.ref b3)])
    refine own_go (fun _ k => XS.iload X221.here hx rfl (hb hby d4_26) rfl k) ?_
    show own_Run p e below _ T221 (mkF m 28 #[.val (.ref a1), .val (.long q2), .second, .val (.int (0 : Int32)), .val (.int (4 : Int32)), .val (.int (2 : Int32))] [(.int (2 : Int32)), (.ref b3)])
    obtain ⟨cl222, Ar222, q222, S222, N222, H222, G222⟩ := id V_b3
    have hin222 : ¬ ((2 : Int32) < 0 ∨ cl222.slots.size ≤ ((2 : Int32)).toNatClampNeg) := inb_of S222 ⟨by decide, by decide⟩
    refine own_go (X221.laload hx (j := (2 : Int32)) (v := (.long z2)) (by rw [e221]; exact Ar222.1) (State.isArrayOf_alike hZ.alike Ar222.2.1) Ar222.2.2 hin222 (H222.at hin222 rfl) (g := (mkF m 28 #[.val (.ref a1), .val (.long q2), .second, .val (.int (0 : Int32)), .val (.int (4 : Int32)), .val (.int (2 : Int32))] [(.int (2 : Int32)), (.ref b3)])) rfl rfl (hb hby d4_28)) ?_
    show own_Run p e below _ T221 (mkF m 29 #[.val (.ref a1), .val (.long q2), .second, .val (.int (0 : Int32)), .val (.int (4 : Int32)), .val (.int (2 : Int32))] [(.long z2)])
    refine own_go (fun _ k => XS.lloadN X221.here hx rfl (hb hby d4_29) rfl k) ?_
    refine own_go (fun _ k => XS.lcmp X221.here hx rfl (hb hby d4_30) rfl k) ?_
    show own_Run p e below _ T221 (mkF m 31 #[.val (.ref a1), .val (.long q2), .second, .val (.int (0 : Int32)), .val (.int (4 : Int32)), .val (.int (2 : Int32))] [(.int (lcmpW z2 q2))])
    refine own_go (fun _ k => XS.ifNo X221.here hx rfl (hb hby d4_31) rfl (own_lcT hz2).2.1 k) ?_
    show own_Run p e below _ T221 (mkF m 34 #[.val (.ref a1), .val (.long q2), .second, .val (.int (0 : Int32)), .val (.int (4 : Int32)), .val (.int (2 : Int32))] [])
    refine own_go (fun _ k => XS.iload X221.here hx rfl (hb hby d4_34) rfl k) ?_
    refine own_go (fun _ k => XS.iconst X221.here hx rfl (hb hby d4_36) k) ?_
    refine own_go (fun _ k => XS.iadd X221.here hx rfl (hb hby d4_37) rfl k) ?_
    show own_Run p e below _ T221 (mkF m 38 #[.val (.ref a1), .val (.long q2), .second, .val (.int (0 : Int32)), .val (.int (4 : Int32)), .val (.int (2 : Int32))] [(.int ((2 : Int32) + (1 : Int32)))])
    rw [show ((2 : Int32) + (1 : Int32)) = (3 : Int32) by decide]
    show own_Run p e below _ T221 (mkF m 38 #[.val (.ref a1), .val (.long q2), .second, .val (.int (0 : Int32)), .val (.int (4 : Int32)), .val (.int (2 : Int32))] [(.int (3 : Int32))])
    refine own_go (fun _ k => XS.istoreN X221.here hx rfl (hb hby d4_38) rfl (l' := #[.val (.ref a1), .val (.long q2), .second, .val (.int (3 : Int32)), .val (.int (4 : Int32)), .val (.int (2 : Int32))]) rfl k) ?_
    refine own_go (fun _ k => XS.goto X221.here hx rfl (pc0 := 39) (pc' := 46) rfl (hb hby d4_39) (by decide) (by decide) k) ?_
    refine own_go (fun _ k => XS.goto X221.here hx rfl (pc0 := 46) (pc' := 8) rfl (hb hby d4_46) (by decide) (by decide) k) ?_
    refine own_go (fun _ k => XS.iloadN X221.here hx rfl (hb hby d4_8) rfl k) ?_
    show own_Run p e below _ T221 (mkF m 9 #[.val (.ref a1), .val (.long q2), .second, .val (.int (3 : Int32)), .val (.int (4 : Int32)), .val (.int (2 : Int32))] [(.int (3 : Int32))])
    refine own_go (fun _ k => XS.iload X221.here hx rfl (hb hby d4_9) rfl k) ?_
    show own_Run p e below _ T221 (mkF m 11 #[.val (.ref a1), .val (.long q2), .second, .val (.int (3 : Int32)), .val (.int (4 : Int32)), .val (.int (2 : Int32))] [(.int (4 : Int32)), (.int (3 : Int32))])
    refine own_go (fun _ k => XS.icmpNo X221.here hx rfl (hb hby d4_11) rfl (tlt (by decide : (3 : Int32) < (4 : Int32))).2.1 k) ?_
    show own_Run p e below _ T221 (mkF m 14 #[.val (.ref a1), .val (.long q2), .second, .val (.int (3 : Int32)), .val (.int (4 : Int32)), .val (.int (2 : Int32))] [])
    refine own_go (fun _ k => XS.iloadN X221.here hx rfl (hb hby d4_14) rfl k) ?_
    refine own_go (fun _ k => XS.iload X221.here hx rfl (hb hby d4_15) rfl k) ?_
    refine own_go (fun _ k => XS.iadd X221.here hx rfl (hb hby d4_17) rfl k) ?_
    show own_Run p e below _ T221 (mkF m 18 #[.val (.ref a1), .val (.long q2), .second, .val (.int (3 : Int32)), .val (.int (4 : Int32)), .val (.int (2 : Int32))] [(.int ((3 : Int32) + (4 : Int32)))])
    rw [show ((3 : Int32) + (4 : Int32)) = (7 : Int32) by decide]
    show own_Run p e below _ T221 (mkF m 18 #[.val (.ref a1), .val (.long q2), .second, .val (.int (3 : Int32)), .val (.int (4 : Int32)), .val (.int (2 : Int32))] [(.int (7 : Int32))])
    refine own_go (fun _ k => XS.iconst X221.here hx rfl (hb hby d4_18) k) ?_
    refine own_go (fun _ k => XS.iushr X221.here hx rfl (hb hby d4_19) rfl k) ?_
    show own_Run p e below _ T221 (mkF m 20 #[.val (.ref a1), .val (.long q2), .second, .val (.int (3 : Int32)), .val (.int (4 : Int32)), .val (.int (2 : Int32))] [(.int (((7 : Int32).toUInt32 >>> ((1 : Int32) &&& 31).toUInt32).toInt32))])
    rw [show (((7 : Int32).toUInt32 >>> ((1 : Int32) &&& 31).toUInt32).toInt32) = (3 : Int32) by decide]
    show own_Run p e below _ T221 (mkF m 20 #[.val (.ref a1), .val (.long q2), .second, .val (.int (3 : Int32)), .val (.int (4 : Int32)), .val (.int (2 : Int32))] [(.int (3 : Int32))])
    refine own_go (fun _ k => XS.istore X221.here hx rfl (hb hby d4_20) rfl (l' := #[.val (.ref a1), .val (.long q2), .second, .val (.int (3 : Int32)), .val (.int (4 : Int32)), .val (.int (3 : Int32))]) rfl k) ?_
    refine own_go (fun _ k => XS.aloadN X221.here hx rfl (hb hby d4_22) rfl rfl k) ?_
    show own_Run p e below _ T221 (mkF m 23 #[.val (.ref a1), .val (.long q2), .second, .val (.int (3 : Int32)), .val (.int (4 : Int32)), .val (.int (3 : Int32))] [(.ref a1)])
    obtain ⟨T223, X223, e223, st223⟩ := getF X221 hx hZ hown (host := "") (Or.inl (W 15 rfl)) Via.refl e221 F_mTimestamps_a1 (g := (mkF m 23 #[.val (.ref a1), .val (.long q2), .second, .val (.int (3 : Int32)), .val (.int (4 : Int32)), .val (.int (3 : Int32))] [(.ref a1)])) rfl rfl (hb hby d4_23)
    refine own_go st223 ?_
    show own_Run p e below _ T223 (mkF m 26 #[.val (.ref a1), .val (.long q2), .second, .val (.int (3 : Int32)), .val (.int (4 : Int32)), .val (.int (3 : Int32))] [(.ref b3)])
    refine own_go (fun _ k => XS.iload X223.here hx rfl (hb hby d4_26) rfl k) ?_
    show own_Run p e below _ T223 (mkF m 28 #[.val (.ref a1), .val (.long q2), .second, .val (.int (3 : Int32)), .val (.int (4 : Int32)), .val (.int (3 : Int32))] [(.int (3 : Int32)), (.ref b3)])
    obtain ⟨cl224, Ar224, q224, S224, N224, H224, G224⟩ := id V_b3
    have hin224 : ¬ ((3 : Int32) < 0 ∨ cl224.slots.size ≤ ((3 : Int32)).toNatClampNeg) := inb_of S224 ⟨by decide, by decide⟩
    refine own_go (X223.laload hx (j := (3 : Int32)) (v := (.long z3)) (by rw [e223]; exact Ar224.1) (State.isArrayOf_alike hZ.alike Ar224.2.1) Ar224.2.2 hin224 (H224.at hin224 rfl) (g := (mkF m 28 #[.val (.ref a1), .val (.long q2), .second, .val (.int (3 : Int32)), .val (.int (4 : Int32)), .val (.int (3 : Int32))] [(.int (3 : Int32)), (.ref b3)])) rfl rfl (hb hby d4_28)) ?_
    show own_Run p e below _ T223 (mkF m 29 #[.val (.ref a1), .val (.long q2), .second, .val (.int (3 : Int32)), .val (.int (4 : Int32)), .val (.int (3 : Int32))] [(.long z3)])
    refine own_go (fun _ k => XS.lloadN X223.here hx rfl (hb hby d4_29) rfl k) ?_
    refine own_go (fun _ k => XS.lcmp X223.here hx rfl (hb hby d4_30) rfl k) ?_
    show own_Run p e below _ T223 (mkF m 31 #[.val (.ref a1), .val (.long q2), .second, .val (.int (3 : Int32)), .val (.int (4 : Int32)), .val (.int (3 : Int32))] [(.int (lcmpW z3 q2))])
    refine own_go (fun _ k => XS.ifYes X223.here hx rfl (pc0 := 31) (pc' := 42) rfl (hb hby d4_31) rfl (own_lcF hz3).2.1 (by decide) (by decide) k) ?_
    show own_Run p e below _ T223 (mkF m 42 #[.val (.ref a1), .val (.long q2), .second, .val (.int (3 : Int32)), .val (.int (4 : Int32)), .val (.int (3 : Int32))] [])
    refine own_go (fun _ k => XS.iload X223.here hx rfl (hb hby d4_42) rfl k) ?_
    refine own_go (fun _ k => XS.istore X223.here hx rfl (hb hby d4_44) rfl (l' := #[.val (.ref a1), .val (.long q2), .second, .val (.int (3 : Int32)), .val (.int (3 : Int32)), .val (.int (3 : Int32))]) rfl k) ?_
    refine own_go (fun _ k => XS.goto X223.here hx rfl (pc0 := 46) (pc' := 8) rfl (hb hby d4_46) (by decide) (by decide) k) ?_
    refine own_go (fun _ k => XS.iloadN X223.here hx rfl (hb hby d4_8) rfl k) ?_
    show own_Run p e below _ T223 (mkF m 9 #[.val (.ref a1), .val (.long q2), .second, .val (.int (3 : Int32)), .val (.int (3 : Int32)), .val (.int (3 : Int32))] [(.int (3 : Int32))])
    refine own_go (fun _ k => XS.iload X223.here hx rfl (hb hby d4_9) rfl k) ?_
    show own_Run p e below _ T223 (mkF m 11 #[.val (.ref a1), .val (.long q2), .second, .val (.int (3 : Int32)), .val (.int (3 : Int32)), .val (.int (3 : Int32))] [(.int (3 : Int32)), (.int (3 : Int32))])
    refine own_go (fun _ k => XS.icmpYes X223.here hx rfl (pc0 := 11) (pc' := 49) rfl (hb hby d4_11) rfl (flt (by decide : ¬ ((3 : Int32) < (3 : Int32)))).2.1 (by decide) (by decide) k) ?_
    show own_Run p e below _ T223 (mkF m 49 #[.val (.ref a1), .val (.long q2), .second, .val (.int (3 : Int32)), .val (.int (3 : Int32)), .val (.int (3 : Int32))] [])
    refine own_go (fun _ k => XS.iloadN X223.here hx rfl (hb hby d4_49) rfl k) ?_
    refine own_go (fun _ k => XS.iconst X223.here hx rfl (hb hby d4_50) k) ?_
    refine own_go (fun _ k => XS.isub X223.here hx rfl (hb hby d4_51) rfl k) ?_
    show own_Run p e below _ T223 (mkF m 52 #[.val (.ref a1), .val (.long q2), .second, .val (.int (3 : Int32)), .val (.int (3 : Int32)), .val (.int (3 : Int32))] [(.int ((3 : Int32) - (1 : Int32)))])
    rw [show ((3 : Int32) - (1 : Int32)) = (2 : Int32) by decide]
    show own_Run p e below _ T223 (mkF m 52 #[.val (.ref a1), .val (.long q2), .second, .val (.int (3 : Int32)), .val (.int (3 : Int32)), .val (.int (3 : Int32))] [(.int (2 : Int32))])
    refine own_done (Q := fun v h L => Q4n4 Z a1 q2 b3 k3 z0 z1 z2 z3 (2 : Int32) h0 n0 v h L) (v := (some (.int (2 : Int32)))) X223 (fun h => by rw [hret] at h; cases h) hlk (fun fs hr => own_retI X223 hx hret (hb hby d4_52) hr) ?_ (by decide) (by decide)
    show Q4n4 Z a1 q2 b3 k3 z0 z1 z2 z3 (2 : Int32) h0 n0 _ T223.heap _
    rw [e223]
    exact ⟨rfl, N0, rfl⟩
  · show own_Run p e below _ s₁ (mkF m 0 #[.val (.ref a1), .val (.long q2), .second, .unset, .unset, .unset] [])
    refine own_go (fun _ k => XS.iconst X0.here hx rfl (hb hby d4_0) k) ?_
    refine own_go (fun _ k => XS.istoreN X0.here hx rfl (hb hby d4_1) rfl (l' := #[.val (.ref a1), .val (.long q2), .second, .val (.int (0 : Int32)), .unset, .unset]) rfl k) ?_
    refine own_go (fun _ k => XS.aloadN X0.here hx rfl (hb hby d4_2) rfl rfl k) ?_
    show own_Run p e below _ s₁ (mkF m 3 #[.val (.ref a1), .val (.long q2), .second, .val (.int (0 : Int32)), .unset, .unset] [(.ref a1)])
    obtain ⟨T225, X225, e225, st225⟩ := getF X0 hx hZ hown (host := "") (Or.inl (W 34 rfl)) Via.refl e0 F_mCount_a1 (g := (mkF m 3 #[.val (.ref a1), .val (.long q2), .second, .val (.int (0 : Int32)), .unset, .unset] [(.ref a1)])) rfl rfl (hb hby d4_3)
    refine own_go st225 ?_
    show own_Run p e below _ T225 (mkF m 6 #[.val (.ref a1), .val (.long q2), .second, .val (.int (0 : Int32)), .unset, .unset] [(.int (4 : Int32))])
    refine own_go (fun _ k => XS.istore X225.here hx rfl (hb hby d4_6) rfl (l' := #[.val (.ref a1), .val (.long q2), .second, .val (.int (0 : Int32)), .val (.int (4 : Int32)), .unset]) rfl k) ?_
    refine own_go (fun _ k => XS.iloadN X225.here hx rfl (hb hby d4_8) rfl k) ?_
    refine own_go (fun _ k => XS.iload X225.here hx rfl (hb hby d4_9) rfl k) ?_
    show own_Run p e below _ T225 (mkF m 11 #[.val (.ref a1), .val (.long q2), .second, .val (.int (0 : Int32)), .val (.int (4 : Int32)), .unset] [(.int (4 : Int32)), (.int (0 : Int32))])
    refine own_go (fun _ k => XS.icmpNo X225.here hx rfl (hb hby d4_11) rfl (tlt (by decide : (0 : Int32) < (4 : Int32))).2.1 k) ?_
    show own_Run p e below _ T225 (mkF m 14 #[.val (.ref a1), .val (.long q2), .second, .val (.int (0 : Int32)), .val (.int (4 : Int32)), .unset] [])
    refine own_go (fun _ k => XS.iloadN X225.here hx rfl (hb hby d4_14) rfl k) ?_
    refine own_go (fun _ k => XS.iload X225.here hx rfl (hb hby d4_15) rfl k) ?_
    refine own_go (fun _ k => XS.iadd X225.here hx rfl (hb hby d4_17) rfl k) ?_
    show own_Run p e below _ T225 (mkF m 18 #[.val (.ref a1), .val (.long q2), .second, .val (.int (0 : Int32)), .val (.int (4 : Int32)), .unset] [(.int ((0 : Int32) + (4 : Int32)))])
    rw [show ((0 : Int32) + (4 : Int32)) = (4 : Int32) by decide]
    show own_Run p e below _ T225 (mkF m 18 #[.val (.ref a1), .val (.long q2), .second, .val (.int (0 : Int32)), .val (.int (4 : Int32)), .unset] [(.int (4 : Int32))])
    refine own_go (fun _ k => XS.iconst X225.here hx rfl (hb hby d4_18) k) ?_
    refine own_go (fun _ k => XS.iushr X225.here hx rfl (hb hby d4_19) rfl k) ?_
    show own_Run p e below _ T225 (mkF m 20 #[.val (.ref a1), .val (.long q2), .second, .val (.int (0 : Int32)), .val (.int (4 : Int32)), .unset] [(.int (((4 : Int32).toUInt32 >>> ((1 : Int32) &&& 31).toUInt32).toInt32))])
    rw [show (((4 : Int32).toUInt32 >>> ((1 : Int32) &&& 31).toUInt32).toInt32) = (2 : Int32) by decide]
    show own_Run p e below _ T225 (mkF m 20 #[.val (.ref a1), .val (.long q2), .second, .val (.int (0 : Int32)), .val (.int (4 : Int32)), .unset] [(.int (2 : Int32))])
    refine own_go (fun _ k => XS.istore X225.here hx rfl (hb hby d4_20) rfl (l' := #[.val (.ref a1), .val (.long q2), .second, .val (.int (0 : Int32)), .val (.int (4 : Int32)), .val (.int (2 : Int32))]) rfl k) ?_
    refine own_go (fun _ k => XS.aloadN X225.here hx rfl (hb hby d4_22) rfl rfl k) ?_
    show own_Run p e below _ T225 (mkF m 23 #[.val (.ref a1), .val (.long q2), .second, .val (.int (0 : Int32)), .val (.int (4 : Int32)), .val (.int (2 : Int32))] [(.ref a1)])
    obtain ⟨T226, X226, e226, st226⟩ := getF X225 hx hZ hown (host := "") (Or.inl (W 15 rfl)) Via.refl e225 F_mTimestamps_a1 (g := (mkF m 23 #[.val (.ref a1), .val (.long q2), .second, .val (.int (0 : Int32)), .val (.int (4 : Int32)), .val (.int (2 : Int32))] [(.ref a1)])) rfl rfl (hb hby d4_23)
    refine own_go st226 ?_
    show own_Run p e below _ T226 (mkF m 26 #[.val (.ref a1), .val (.long q2), .second, .val (.int (0 : Int32)), .val (.int (4 : Int32)), .val (.int (2 : Int32))] [(.ref b3)])
    refine own_go (fun _ k => XS.iload X226.here hx rfl (hb hby d4_26) rfl k) ?_
    show own_Run p e below _ T226 (mkF m 28 #[.val (.ref a1), .val (.long q2), .second, .val (.int (0 : Int32)), .val (.int (4 : Int32)), .val (.int (2 : Int32))] [(.int (2 : Int32)), (.ref b3)])
    obtain ⟨cl227, Ar227, q227, S227, N227, H227, G227⟩ := id V_b3
    have hin227 : ¬ ((2 : Int32) < 0 ∨ cl227.slots.size ≤ ((2 : Int32)).toNatClampNeg) := inb_of S227 ⟨by decide, by decide⟩
    refine own_go (X226.laload hx (j := (2 : Int32)) (v := (.long z2)) (by rw [e226]; exact Ar227.1) (State.isArrayOf_alike hZ.alike Ar227.2.1) Ar227.2.2 hin227 (H227.at hin227 rfl) (g := (mkF m 28 #[.val (.ref a1), .val (.long q2), .second, .val (.int (0 : Int32)), .val (.int (4 : Int32)), .val (.int (2 : Int32))] [(.int (2 : Int32)), (.ref b3)])) rfl rfl (hb hby d4_28)) ?_
    show own_Run p e below _ T226 (mkF m 29 #[.val (.ref a1), .val (.long q2), .second, .val (.int (0 : Int32)), .val (.int (4 : Int32)), .val (.int (2 : Int32))] [(.long z2)])
    refine own_go (fun _ k => XS.lloadN X226.here hx rfl (hb hby d4_29) rfl k) ?_
    refine own_go (fun _ k => XS.lcmp X226.here hx rfl (hb hby d4_30) rfl k) ?_
    show own_Run p e below _ T226 (mkF m 31 #[.val (.ref a1), .val (.long q2), .second, .val (.int (0 : Int32)), .val (.int (4 : Int32)), .val (.int (2 : Int32))] [(.int (lcmpW z2 q2))])
    refine own_go (fun _ k => XS.ifNo X226.here hx rfl (hb hby d4_31) rfl (own_lcT hz2).2.1 k) ?_
    show own_Run p e below _ T226 (mkF m 34 #[.val (.ref a1), .val (.long q2), .second, .val (.int (0 : Int32)), .val (.int (4 : Int32)), .val (.int (2 : Int32))] [])
    refine own_go (fun _ k => XS.iload X226.here hx rfl (hb hby d4_34) rfl k) ?_
    refine own_go (fun _ k => XS.iconst X226.here hx rfl (hb hby d4_36) k) ?_
    refine own_go (fun _ k => XS.iadd X226.here hx rfl (hb hby d4_37) rfl k) ?_
    show own_Run p e below _ T226 (mkF m 38 #[.val (.ref a1), .val (.long q2), .second, .val (.int (0 : Int32)), .val (.int (4 : Int32)), .val (.int (2 : Int32))] [(.int ((2 : Int32) + (1 : Int32)))])
    rw [show ((2 : Int32) + (1 : Int32)) = (3 : Int32) by decide]
    show own_Run p e below _ T226 (mkF m 38 #[.val (.ref a1), .val (.long q2), .second, .val (.int (0 : Int32)), .val (.int (4 : Int32)), .val (.int (2 : Int32))] [(.int (3 : Int32))])
    refine own_go (fun _ k => XS.istoreN X226.here hx rfl (hb hby d4_38) rfl (l' := #[.val (.ref a1), .val (.long q2), .second, .val (.int (3 : Int32)), .val (.int (4 : Int32)), .val (.int (2 : Int32))]) rfl k) ?_
    refine own_go (fun _ k => XS.goto X226.here hx rfl (pc0 := 39) (pc' := 46) rfl (hb hby d4_39) (by decide) (by decide) k) ?_
    refine own_go (fun _ k => XS.goto X226.here hx rfl (pc0 := 46) (pc' := 8) rfl (hb hby d4_46) (by decide) (by decide) k) ?_
    refine own_go (fun _ k => XS.iloadN X226.here hx rfl (hb hby d4_8) rfl k) ?_
    show own_Run p e below _ T226 (mkF m 9 #[.val (.ref a1), .val (.long q2), .second, .val (.int (3 : Int32)), .val (.int (4 : Int32)), .val (.int (2 : Int32))] [(.int (3 : Int32))])
    refine own_go (fun _ k => XS.iload X226.here hx rfl (hb hby d4_9) rfl k) ?_
    show own_Run p e below _ T226 (mkF m 11 #[.val (.ref a1), .val (.long q2), .second, .val (.int (3 : Int32)), .val (.int (4 : Int32)), .val (.int (2 : Int32))] [(.int (4 : Int32)), (.int (3 : Int32))])
    refine own_go (fun _ k => XS.icmpNo X226.here hx rfl (hb hby d4_11) rfl (tlt (by decide : (3 : Int32) < (4 : Int32))).2.1 k) ?_
    show own_Run p e below _ T226 (mkF m 14 #[.val (.ref a1), .val (.long q2), .second, .val (.int (3 : Int32)), .val (.int (4 : Int32)), .val (.int (2 : Int32))] [])
    refine own_go (fun _ k => XS.iloadN X226.here hx rfl (hb hby d4_14) rfl k) ?_
    refine own_go (fun _ k => XS.iload X226.here hx rfl (hb hby d4_15) rfl k) ?_
    refine own_go (fun _ k => XS.iadd X226.here hx rfl (hb hby d4_17) rfl k) ?_
    show own_Run p e below _ T226 (mkF m 18 #[.val (.ref a1), .val (.long q2), .second, .val (.int (3 : Int32)), .val (.int (4 : Int32)), .val (.int (2 : Int32))] [(.int ((3 : Int32) + (4 : Int32)))])
    rw [show ((3 : Int32) + (4 : Int32)) = (7 : Int32) by decide]
    show own_Run p e below _ T226 (mkF m 18 #[.val (.ref a1), .val (.long q2), .second, .val (.int (3 : Int32)), .val (.int (4 : Int32)), .val (.int (2 : Int32))] [(.int (7 : Int32))])
    refine own_go (fun _ k => XS.iconst X226.here hx rfl (hb hby d4_18) k) ?_
    refine own_go (fun _ k => XS.iushr X226.here hx rfl (hb hby d4_19) rfl k) ?_
    show own_Run p e below _ T226 (mkF m 20 #[.val (.ref a1), .val (.long q2), .second, .val (.int (3 : Int32)), .val (.int (4 : Int32)), .val (.int (2 : Int32))] [(.int (((7 : Int32).toUInt32 >>> ((1 : Int32) &&& 31).toUInt32).toInt32))])
    rw [show (((7 : Int32).toUInt32 >>> ((1 : Int32) &&& 31).toUInt32).toInt32) = (3 : Int32) by decide]
    show own_Run p e below _ T226 (mkF m 20 #[.val (.ref a1), .val (.long q2), .second, .val (.int (3 : Int32)), .val (.int (4 : Int32)), .val (.int (2 : Int32))] [(.int (3 : Int32))])
    refine own_go (fun _ k => XS.istore X226.here hx rfl (hb hby d4_20) rfl (l' := #[.val (.ref a1), .val (.long q2), .second, .val (.int (3 : Int32)), .val (.int (4 : Int32)), .val (.int (3 : Int32))]) rfl k) ?_
    refine own_go (fun _ k => XS.aloadN X226.here hx rfl (hb hby d4_22) rfl rfl k) ?_
    show own_Run p e below _ T226 (mkF m 23 #[.val (.ref a1), .val (.long q2), .second, .val (.int (3 : Int32)), .val (.int (4 : Int32)), .val (.int (3 : Int32))] [(.ref a1)])
    obtain ⟨T228, X228, e228, st228⟩ := getF X226 hx hZ hown (host := "") (Or.inl (W 15 rfl)) Via.refl e226 F_mTimestamps_a1 (g := (mkF m 23 #[.val (.ref a1), .val (.long q2), .second, .val (.int (3 : Int32)), .val (.int (4 : Int32)), .val (.int (3 : Int32))] [(.ref a1)])) rfl rfl (hb hby d4_23)
    refine own_go st228 ?_
    show own_Run p e below _ T228 (mkF m 26 #[.val (.ref a1), .val (.long q2), .second, .val (.int (3 : Int32)), .val (.int (4 : Int32)), .val (.int (3 : Int32))] [(.ref b3)])
    refine own_go (fun _ k => XS.iload X228.here hx rfl (hb hby d4_26) rfl k) ?_
    show own_Run p e below _ T228 (mkF m 28 #[.val (.ref a1), .val (.long q2), .second, .val (.int (3 : Int32)), .val (.int (4 : Int32)), .val (.int (3 : Int32))] [(.int (3 : Int32)), (.ref b3)])
    obtain ⟨cl229, Ar229, q229, S229, N229, H229, G229⟩ := id V_b3
    have hin229 : ¬ ((3 : Int32) < 0 ∨ cl229.slots.size ≤ ((3 : Int32)).toNatClampNeg) := inb_of S229 ⟨by decide, by decide⟩
    refine own_go (X228.laload hx (j := (3 : Int32)) (v := (.long z3)) (by rw [e228]; exact Ar229.1) (State.isArrayOf_alike hZ.alike Ar229.2.1) Ar229.2.2 hin229 (H229.at hin229 rfl) (g := (mkF m 28 #[.val (.ref a1), .val (.long q2), .second, .val (.int (3 : Int32)), .val (.int (4 : Int32)), .val (.int (3 : Int32))] [(.int (3 : Int32)), (.ref b3)])) rfl rfl (hb hby d4_28)) ?_
    show own_Run p e below _ T228 (mkF m 29 #[.val (.ref a1), .val (.long q2), .second, .val (.int (3 : Int32)), .val (.int (4 : Int32)), .val (.int (3 : Int32))] [(.long z3)])
    refine own_go (fun _ k => XS.lloadN X228.here hx rfl (hb hby d4_29) rfl k) ?_
    refine own_go (fun _ k => XS.lcmp X228.here hx rfl (hb hby d4_30) rfl k) ?_
    show own_Run p e below _ T228 (mkF m 31 #[.val (.ref a1), .val (.long q2), .second, .val (.int (3 : Int32)), .val (.int (4 : Int32)), .val (.int (3 : Int32))] [(.int (lcmpW z3 q2))])
    refine own_go (fun _ k => XS.ifNo X228.here hx rfl (hb hby d4_31) rfl (own_lcT hz3).2.1 k) ?_
    show own_Run p e below _ T228 (mkF m 34 #[.val (.ref a1), .val (.long q2), .second, .val (.int (3 : Int32)), .val (.int (4 : Int32)), .val (.int (3 : Int32))] [])
    refine own_go (fun _ k => XS.iload X228.here hx rfl (hb hby d4_34) rfl k) ?_
    refine own_go (fun _ k => XS.iconst X228.here hx rfl (hb hby d4_36) k) ?_
    refine own_go (fun _ k => XS.iadd X228.here hx rfl (hb hby d4_37) rfl k) ?_
    show own_Run p e below _ T228 (mkF m 38 #[.val (.ref a1), .val (.long q2), .second, .val (.int (3 : Int32)), .val (.int (4 : Int32)), .val (.int (3 : Int32))] [(.int ((3 : Int32) + (1 : Int32)))])
    rw [show ((3 : Int32) + (1 : Int32)) = (4 : Int32) by decide]
    show own_Run p e below _ T228 (mkF m 38 #[.val (.ref a1), .val (.long q2), .second, .val (.int (3 : Int32)), .val (.int (4 : Int32)), .val (.int (3 : Int32))] [(.int (4 : Int32))])
    refine own_go (fun _ k => XS.istoreN X228.here hx rfl (hb hby d4_38) rfl (l' := #[.val (.ref a1), .val (.long q2), .second, .val (.int (4 : Int32)), .val (.int (4 : Int32)), .val (.int (3 : Int32))]) rfl k) ?_
    refine own_go (fun _ k => XS.goto X228.here hx rfl (pc0 := 39) (pc' := 46) rfl (hb hby d4_39) (by decide) (by decide) k) ?_
    refine own_go (fun _ k => XS.goto X228.here hx rfl (pc0 := 46) (pc' := 8) rfl (hb hby d4_46) (by decide) (by decide) k) ?_
    refine own_go (fun _ k => XS.iloadN X228.here hx rfl (hb hby d4_8) rfl k) ?_
    show own_Run p e below _ T228 (mkF m 9 #[.val (.ref a1), .val (.long q2), .second, .val (.int (4 : Int32)), .val (.int (4 : Int32)), .val (.int (3 : Int32))] [(.int (4 : Int32))])
    refine own_go (fun _ k => XS.iload X228.here hx rfl (hb hby d4_9) rfl k) ?_
    show own_Run p e below _ T228 (mkF m 11 #[.val (.ref a1), .val (.long q2), .second, .val (.int (4 : Int32)), .val (.int (4 : Int32)), .val (.int (3 : Int32))] [(.int (4 : Int32)), (.int (4 : Int32))])
    refine own_go (fun _ k => XS.icmpYes X228.here hx rfl (pc0 := 11) (pc' := 49) rfl (hb hby d4_11) rfl (flt (by decide : ¬ ((4 : Int32) < (4 : Int32)))).2.1 (by decide) (by decide) k) ?_
    show own_Run p e below _ T228 (mkF m 49 #[.val (.ref a1), .val (.long q2), .second, .val (.int (4 : Int32)), .val (.int (4 : Int32)), .val (.int (3 : Int32))] [])
    refine own_go (fun _ k => XS.iloadN X228.here hx rfl (hb hby d4_49) rfl k) ?_
    refine own_go (fun _ k => XS.iconst X228.here hx rfl (hb hby d4_50) k) ?_
    refine own_go (fun _ k => XS.isub X228.here hx rfl (hb hby d4_51) rfl k) ?_
    show own_Run p e below _ T228 (mkF m 52 #[.val (.ref a1), .val (.long q2), .second, .val (.int (4 : Int32)), .val (.int (4 : Int32)), .val (.int (3 : Int32))] [(.int ((4 : Int32) - (1 : Int32)))])
    rw [show ((4 : Int32) - (1 : Int32)) = (3 : Int32) by decide]
    show own_Run p e below _ T228 (mkF m 52 #[.val (.ref a1), .val (.long q2), .second, .val (.int (4 : Int32)), .val (.int (4 : Int32)), .val (.int (3 : Int32))] [(.int (3 : Int32))])
    refine own_done (Q := fun v h L => Q4n4 Z a1 q2 b3 k3 z0 z1 z2 z3 (3 : Int32) h0 n0 v h L) (v := (some (.int (3 : Int32)))) X228 (fun h => by rw [hret] at h; cases h) hlk (fun fs hr => own_retI X228 hx hret (hb hby d4_52) hr) ?_ (by decide) (by decide)
    show Q4n4 Z a1 q2 b3 k3 z0 z1 z2 z3 (3 : Int32) h0 n0 _ T228.heap _
    rw [e228]
    exact ⟨rfl, N0, rfl⟩
def Q0 (Z : State) (q1 : Int64) (q2 : Int64) (q3 : Int64) (q4 : Int64) (p5 : Int32) (h0 : Heap) (n0 : Nat) (v : Option Value) (h : Heap) (L : List Loc) : Prop := v = some (.int (1 : Int32)) ∧ Fr n0 L
theorem pn_0 : plainName "com/example/tote/tote/storage/OffsetIndexFloorTimePinLaw" = true := by first | (simp [plainName, overriddenIn]; done) | decide +kernel
theorem pd_4 : parseMethodDescriptor "(JJ)V" = some ⟨[.long, .long], none⟩ := by decide +kernel
theorem pd_5 : parseMethodDescriptor "(JJJ)V" = some ⟨[.long, .long, .long], none⟩ := by decide +kernel
set_option maxRecDepth 65536 in
set_option maxHeartbeats 40000000 in
theorem tail0 {p : Program} {l : Launch} {e : Env} {s : State} {m : MethodId} {args : Array Value} {below : List Frame} {meth : Method} {c : Code} {Z : State} {a0 : Array Value} (q1 : Int64) (q2 : Int64) (q3 : Int64) (q4 : Int64) (p5 : Int32) (h0 : Heap) (n0 : Nat) (hx : p.tables.exec = Jvm.exec) (hZ : Z.Warmed39 s.vm) (hw : ∀ d ∈ tables_1, d.before a0 Z = true) (hby : c.code = code) (hml : c.maxLocals = 23) (hown : s.vm.findClass "com/example/tote/tote/storage/OffsetIndexFloorTimePinLaw" = some m.cls) (hnm : meth.name = "law") (hret : meth.sig.returnType = some .boolean) (hlk : meth.locks = false)
    (x9 : Int32) (x10 : Int32) (tm : Int64) (T0 : State) (hh : Heap) (locs : List Loc) (X0 : Stand p l e room_1 s m args below meth c T0 locs 0 0) (e0 : T0.heap = hh) (N0 : Fr n0 locs) (Z0 : n0 ≤ hh.size) (K0 : Keep h0 hh []) (hx9 : x9 = ((((p5.toUInt32 >>> ((2 : Int32) &&& 31).toUInt32).toInt32) &&& (7 : Int32)) % (5 : Int32))) :
    own_Run p e below (fun o U' => ∃ v L, o = .returned v ∧ Q0 Z q1 q2 q3 q4 p5 h0 n0 v U'.heap L ∧ FrameEnd s o U' L room_1.cells room_1.slots) T0 (mkF m 49 #[.val (.long q1), .second, .val (.long q2), .second, .val (.long q3), .second, .val (.long q4), .second, .val (.int p5), .val (.int x9), .val (.int x10), .unset, .unset, .unset, .unset, .unset, .unset, .unset, .unset, .unset, .unset, .unset, .unset] [(.long tm)]) := by
  have W := fun (k : Nat) {d : Jvm.Cond} (h : tables_1[k]? = some d) => hw d (List.mem_of_getElem? h)
  show own_Run p e below _ T0 (mkF m 49 #[.val (.long q1), .second, .val (.long q2), .second, .val (.long q3), .second, .val (.long q4), .second, .val (.int p5), .val (.int x9), .val (.int x10), .unset, .unset, .unset, .unset, .unset, .unset, .unset, .unset, .unset, .unset, .unset, .unset] [(.long tm)])
  refine own_go (fun _ k => XS.lstore X0.here hx rfl (hb hby at_49) rfl (l' := #[.val (.long q1), .second, .val (.long q2), .second, .val (.long q3), .second, .val (.long q4), .second, .val (.int p5), .val (.int x9), .val (.int x10), .val (.long tm), .second, .unset, .unset, .unset, .unset, .unset, .unset, .unset, .unset, .unset, .unset]) rfl k) ?_
  show own_Run p e below _ T0 (mkF m 51 #[.val (.long q1), .second, .val (.long q2), .second, .val (.long q3), .second, .val (.long q4), .second, .val (.int p5), .val (.int x9), .val (.int x10), .val (.long tm), .second, .unset, .unset, .unset, .unset, .unset, .unset, .unset, .unset, .unset, .unset] [])
  obtain ⟨T230, h230, X230, e230, E230, A230, D230, -, st230⟩ := newO X0 hx hZ hown (W 0 rfl) (W 1 rfl) (W 2 rfl) e0 (g := (mkF m 51 #[.val (.long q1), .second, .val (.long q2), .second, .val (.long q3), .second, .val (.long q4), .second, .val (.int p5), .val (.int x9), .val (.int x10), .val (.long tm), .second, .unset, .unset, .unset, .unset, .unset, .unset, .unset, .unset, .unset, .unset] [])) rfl (hb hby at_51) (by decide) (by decide)
  refine own_go st230 ?_
  obtain ⟨b230, g230⟩ : ∃ z, z = hh.size := ⟨_, rfl⟩
  rw [← g230] at A230 D230
  rw [← g230]
  show own_Run p e below _ T230 (mkF m 54 #[.val (.long q1), .second, .val (.long q2), .second, .val (.long q3), .second, .val (.long q4), .second, .val (.int p5), .val (.int x9), .val (.int x10), .val (.long tm), .second, .unset, .unset, .unset, .unset, .unset, .unset, .unset, .unset, .unset, .unset] [(.ref b230)])
  have g_b230 : n0 ≤ b230 := Nat.le_trans Z0 (Nat.le_of_eq g230.symm)
  have sz_b230 : h0.size ≤ b230 := Nat.le_trans K0.1 (Nat.le_of_eq g230.symm)
  have Z0_c231 := Nat.le_trans Z0 E230.1
  have K0_c231 := K0.ext E230
  have F_mOffsets_b230 : Fld Z h230 b230 "com/example/tote/tote/storage/OffsetIndex" "mOffsets" "[I" .null := D230 (Or.inl (W 11 rfl)) (ty := (.array .int)) (by decide)
  have F_mPositions_b230 : Fld Z h230 b230 "com/example/tote/tote/storage/OffsetIndex" "mPositions" "[I" .null := D230 (Or.inl (W 13 rfl)) (ty := (.array .int)) (by decide)
  have F_mTimestamps_b230 : Fld Z h230 b230 "com/example/tote/tote/storage/OffsetIndex" "mTimestamps" "[J" .null := D230 (Or.inl (W 16 rfl)) (ty := (.array .long)) (by decide)
  have F_mMaxTimestamp_b230 : Fld Z h230 b230 "com/example/tote/tote/storage/OffsetIndex" "mMaxTimestamp" "J" (.long (0 : Int64)) := D230 (Or.inl (W 19 rfl)) (ty := .long) (by decide)
  have F_mBaseOffset_b230 : Fld Z h230 b230 "com/example/tote/tote/storage/OffsetIndex" "mBaseOffset" "J" (.long (0 : Int64)) := D230 (Or.inr (W 21 rfl)) (ty := .long) (by decide)
  have F_mIntervalBytes_b230 : Fld Z h230 b230 "com/example/tote/tote/storage/OffsetIndex" "mIntervalBytes" "J" (.long (0 : Int64)) := D230 (Or.inr (W 23 rfl)) (ty := .long) (by decide)
  have F_mCount_b230 : Fld Z h230 b230 "com/example/tote/tote/storage/OffsetIndex" "mCount" "I" (.int (0 : Int32)) := D230 (Or.inl (W 35 rfl)) (ty := .int) (by decide)
  refine own_go (fun _ k => XS.dup X230.here hx rfl (hb hby at_54) rfl rfl k) ?_
  refine own_go (fun _ k => XS.lconst X230.here hx rfl (hb hby at_55) k) ?_
  refine own_go (fun _ k => XS.lconst X230.here hx rfl (hb hby at_56) k) ?_
  show own_Run p e below _ T230 (mkF m 57 #[.val (.long q1), .second, .val (.long q2), .second, .val (.long q3), .second, .val (.long q4), .second, .val (.int p5), .val (.int x9), .val (.int x10), .val (.long tm), .second, .unset, .unset, .unset, .unset, .unset, .unset, .unset, .unset, .unset, .unset] [(.long (0 : Int64)), (.long (0 : Int64)), (.ref b230), (.ref b230)])
  obtain ⟨_, _, ⟨T232, L232, k232, n232⟩, -, X232, ⟨Lc232, hQ232, l232, y232, z232⟩, st232⟩ := X230.specialBack hx (y := (⟨"com/example/tote/tote/storage/OffsetIndex", "<init>", "(JJ)V"⟩ : MethodName)) rfl hown (mvT hZ (W 3 rfl)) (mvT hZ (W 4 rfl)) (mvT hZ (W 5 rfl)) (by decide) (backOf (W := 1) (rm1 l Z a0 hw [] b230 (0 : Int64) (0 : Int64) .null .null .null (.long (0 : Int64)) (.long (0 : Int64)) (.long (0 : Int64)) h230 n0 Z0_c231 A230 F_mOffsets_b230 F_mPositions_b230 F_mTimestamps_b230 F_mMaxTimestamp_b230 F_mBaseOffset_b230 F_mIntervalBytes_b230 F_mCount_b230 g_b230) hZ (W 5 rfl) (W 2 rfl) (by decide) (by decide)) (g := (mkF m 57 #[.val (.long q1), .second, .val (.long q2), .second, .val (.long q3), .second, .val (.long q4), .second, .val (.int p5), .val (.int x9), .val (.int x10), .val (.long tm), .second, .unset, .unset, .unset, .unset, .unset, .unset, .unset, .unset, .unset, .unset] [(.long (0 : Int64)), (.long (0 : Int64)), (.ref b230), (.ref b230)])) rfl (by rw [hml]; rfl) (Steps.refl _) (a := b230) (argsL := [(.long (0 : Int64)), (.long (0 : Int64))]) (rest := [(.ref b230)]) (lenOf pd_4 rfl) rfl (by show 2 * 0 + _ ≤ _; exact Nat.le_of_eq rfl) (hb hby at_57) (fun _ _ => ⟨rfl, e230, (by decide : 1 + 3 ≤ _), (by decide : 7 + 48 ≤ _)⟩)
  dsimp only [Pt.U, Pt.locs, Pt.cells, Pt.slots] at X232 l232 y232 z232 st232 hQ232
  subst l232 y232 z232
  obtain ⟨b1_232, b2_232, b3_232, k1_232, k2_232, k3_232, rfl, N232q, K232, P232_0, P232_1, P232_2, P232_3, P232_4, P232_5, P232_6, P232_7, P232_8, P232_9, P232_10, P232_11, P232_12, P232_13, P232_14, P232_15, P232_16, P232_17, P232_18, P232_19⟩ := hQ232
  have ne_b230_b1_232 : b230 ≠ b1_232 := Nat.ne_of_lt (Nat.lt_of_lt_of_le A230.lt P232_11)
  have g_b1_232 : n0 ≤ b1_232 := Nat.le_trans Z0_c231 P232_11
  have sz_b1_232 : h0.size ≤ b1_232 := Nat.le_trans K0_c231.1 P232_11
  have ne_b230_b2_232 : b230 ≠ b2_232 := Nat.ne_of_lt (Nat.lt_of_lt_of_le A230.lt P232_12)
  have g_b2_232 : n0 ≤ b2_232 := Nat.le_trans Z0_c231 P232_12
  have sz_b2_232 : h0.size ≤ b2_232 := Nat.le_trans K0_c231.1 P232_12
  have ne_b230_b3_232 : b230 ≠ b3_232 := Nat.ne_of_lt (Nat.lt_of_lt_of_le A230.lt P232_13)
  have g_b3_232 : n0 ≤ b3_232 := Nat.le_trans Z0_c231 P232_13
  have sz_b3_232 : h0.size ≤ b3_232 := Nat.le_trans K0_c231.1 P232_13
  have N232 := Fr.app N0 N232q
  refine own_goT st232 ?_
  show own_Run p e below _ T232 (mkF m 60 #[.val (.long q1), .second, .val (.long q2), .second, .val (.long q3), .second, .val (.long q4), .second, .val (.int p5), .val (.int x9), .val (.int x10), .val (.long tm), .second, .unset, .unset, .unset, .unset, .unset, .unset, .unset, .unset, .unset, .unset] [(.ref b230)])
  have Z0_c233 := Nat.le_trans Z0_c231 K232.1
  have K0_c233 := K0_c231.trans K232 (allS (Or.inr sz_b230) all0)
  have A230_c233 := A230.keep K232
  refine own_go (fun _ k => XS.astore X232.here hx rfl (hb hby at_60) rfl rfl (l' := #[.val (.long q1), .second, .val (.long q2), .second, .val (.long q3), .second, .val (.long q4), .second, .val (.int p5), .val (.int x9), .val (.int x10), .val (.long tm), .second, .val (.ref b230), .unset, .unset, .unset, .unset, .unset, .unset, .unset, .unset, .unset]) rfl k) ?_
  show own_Run p e below _ T232 (mkF m 62 #[.val (.long q1), .second, .val (.long q2), .second, .val (.long q3), .second, .val (.long q4), .second, .val (.int p5), .val (.int x9), .val (.int x10), .val (.long tm), .second, .val (.ref b230), .unset, .unset, .unset, .unset, .unset, .unset, .unset, .unset, .unset] [])
  rcases own_n9 p5 x9 hx9 with rfl | rfl | rfl | rfl | rfl
  · show own_Run p e below _ T232 (mkF m 62 #[.val (.long q1), .second, .val (.long q2), .second, .val (.long q3), .second, .val (.long q4), .second, .val (.int p5), .val (.int (0 : Int32)), .val (.int x10), .val (.long tm), .second, .val (.ref b230), .unset, .unset, .unset, .unset, .unset, .unset, .unset, .unset, .unset] [])
    refine own_go (fun _ k => XS.iload X232.here hx rfl (hb hby at_62) rfl k) ?_
    show own_Run p e below _ T232 (mkF m 64 #[.val (.long q1), .second, .val (.long q2), .second, .val (.long q3), .second, .val (.long q4), .second, .val (.int p5), .val (.int (0 : Int32)), .val (.int x10), .val (.long tm), .second, .val (.ref b230), .unset, .unset, .unset, .unset, .unset, .unset, .unset, .unset, .unset] [(.int (0 : Int32))])
    refine own_go (fun _ k => XS.ifYes X232.here hx rfl (pc0 := 64) (pc' := 75) rfl (hb hby at_64) rfl ((if0 _ _).trans (flt (by decide : ¬ ((0 : Int32) < (0 : Int32)))).2.2.2) (by decide) (by decide) k) ?_
    show own_Run p e below _ T232 (mkF m 75 #[.val (.long q1), .second, .val (.long q2), .second, .val (.long q3), .second, .val (.long q4), .second, .val (.int p5), .val (.int (0 : Int32)), .val (.int x10), .val (.long tm), .second, .val (.ref b230), .unset, .unset, .unset, .unset, .unset, .unset, .unset, .unset, .unset] [])
    refine own_go (fun _ k => XS.iload X232.here hx rfl (hb hby at_75) rfl k) ?_
    refine own_go (fun _ k => XS.iconst X232.here hx rfl (hb hby at_77) k) ?_
    show own_Run p e below _ T232 (mkF m 78 #[.val (.long q1), .second, .val (.long q2), .second, .val (.long q3), .second, .val (.long q4), .second, .val (.int p5), .val (.int (0 : Int32)), .val (.int x10), .val (.long tm), .second, .val (.ref b230), .unset, .unset, .unset, .unset, .unset, .unset, .unset, .unset, .unset] [(.int (1 : Int32)), (.int (0 : Int32))])
    refine own_go (fun _ k => XS.icmpYes X232.here hx rfl (pc0 := 78) (pc' := 90) rfl (hb hby at_78) rfl (flt (by decide : ¬ ((1 : Int32) < (0 : Int32)))).2.2.2 (by decide) (by decide) k) ?_
    show own_Run p e below _ T232 (mkF m 90 #[.val (.long q1), .second, .val (.long q2), .second, .val (.long q3), .second, .val (.long q4), .second, .val (.int p5), .val (.int (0 : Int32)), .val (.int x10), .val (.long tm), .second, .val (.ref b230), .unset, .unset, .unset, .unset, .unset, .unset, .unset, .unset, .unset] [])
    refine own_go (fun _ k => XS.iload X232.here hx rfl (hb hby at_90) rfl k) ?_
    refine own_go (fun _ k => XS.iconst X232.here hx rfl (hb hby at_92) k) ?_
    show own_Run p e below _ T232 (mkF m 93 #[.val (.long q1), .second, .val (.long q2), .second, .val (.long q3), .second, .val (.long q4), .second, .val (.int p5), .val (.int (0 : Int32)), .val (.int x10), .val (.long tm), .second, .val (.ref b230), .unset, .unset, .unset, .unset, .unset, .unset, .unset, .unset, .unset] [(.int (2 : Int32)), (.int (0 : Int32))])
    refine own_go (fun _ k => XS.icmpYes X232.here hx rfl (pc0 := 93) (pc' := 109) rfl (hb hby at_93) rfl (flt (by decide : ¬ ((2 : Int32) < (0 : Int32)))).2.2.2 (by decide) (by decide) k) ?_
    show own_Run p e below _ T232 (mkF m 109 #[.val (.long q1), .second, .val (.long q2), .second, .val (.long q3), .second, .val (.long q4), .second, .val (.int p5), .val (.int (0 : Int32)), .val (.int x10), .val (.long tm), .second, .val (.ref b230), .unset, .unset, .unset, .unset, .unset, .unset, .unset, .unset, .unset] [])
    refine own_go (fun _ k => XS.iload X232.here hx rfl (hb hby at_109) rfl k) ?_
    refine own_go (fun _ k => XS.iconst X232.here hx rfl (hb hby at_111) k) ?_
    show own_Run p e below _ T232 (mkF m 112 #[.val (.long q1), .second, .val (.long q2), .second, .val (.long q3), .second, .val (.long q4), .second, .val (.int p5), .val (.int (0 : Int32)), .val (.int x10), .val (.long tm), .second, .val (.ref b230), .unset, .unset, .unset, .unset, .unset, .unset, .unset, .unset, .unset] [(.int (3 : Int32)), (.int (0 : Int32))])
    refine own_go (fun _ k => XS.icmpYes X232.here hx rfl (pc0 := 112) (pc' := 127) rfl (hb hby at_112) rfl (flt (by decide : ¬ ((3 : Int32) < (0 : Int32)))).2.2.2 (by decide) (by decide) k) ?_
    show own_Run p e below _ T232 (mkF m 127 #[.val (.long q1), .second, .val (.long q2), .second, .val (.long q3), .second, .val (.long q4), .second, .val (.int p5), .val (.int (0 : Int32)), .val (.int x10), .val (.long tm), .second, .val (.ref b230), .unset, .unset, .unset, .unset, .unset, .unset, .unset, .unset, .unset] [])
    refine own_go (X232.ldc2Long hx hown (mvT hZ (W 24 rfl)) (g := (mkF m 127 #[.val (.long q1), .second, .val (.long q2), .second, .val (.long q3), .second, .val (.long q4), .second, .val (.int p5), .val (.int (0 : Int32)), .val (.int x10), .val (.long tm), .second, .val (.ref b230), .unset, .unset, .unset, .unset, .unset, .unset, .unset, .unset, .unset] [])) rfl (hb hby at_127)) ?_
    show own_Run p e below _ T232 (mkF m 130 #[.val (.long q1), .second, .val (.long q2), .second, .val (.long q3), .second, .val (.long q4), .second, .val (.int p5), .val (.int (0 : Int32)), .val (.int x10), .val (.long tm), .second, .val (.ref b230), .unset, .unset, .unset, .unset, .unset, .unset, .unset, .unset, .unset] [(.long (-9223372036854775808 : Int64))])
    refine own_go (fun _ k => XS.lstore X232.here hx rfl (hb hby at_130) rfl (l' := #[.val (.long q1), .second, .val (.long q2), .second, .val (.long q3), .second, .val (.long q4), .second, .val (.int p5), .val (.int (0 : Int32)), .val (.int x10), .val (.long tm), .second, .val (.ref b230), .val (.long (-9223372036854775808 : Int64)), .second, .unset, .unset, .unset, .unset, .unset, .unset, .unset]) rfl k) ?_
    refine own_go (fun _ k => XS.lloadN X232.here hx rfl (hb hby at_132) rfl k) ?_
    refine own_go (fun _ k => XS.lstore X232.here hx rfl (hb hby at_133) rfl (l' := #[.val (.long q1), .second, .val (.long q2), .second, .val (.long q3), .second, .val (.long q4), .second, .val (.int p5), .val (.int (0 : Int32)), .val (.int x10), .val (.long tm), .second, .val (.ref b230), .val (.long (-9223372036854775808 : Int64)), .second, .val (.long q2), .second, .unset, .unset, .unset, .unset, .unset]) rfl k) ?_
    refine own_go (fun _ k => XS.lloadN X232.here hx rfl (hb hby at_135) rfl k) ?_
    show own_Run p e below _ T232 (mkF m 136 #[.val (.long q1), .second, .val (.long q2), .second, .val (.long q3), .second, .val (.long q4), .second, .val (.int p5), .val (.int (0 : Int32)), .val (.int x10), .val (.long tm), .second, .val (.ref b230), .val (.long (-9223372036854775808 : Int64)), .second, .val (.long q2), .second, .unset, .unset, .unset, .unset, .unset] [(.long q2)])
    refine own_go (fun _ k => XS.lload X232.here hx rfl (hb hby at_136) rfl k) ?_
    show own_Run p e below _ T232 (mkF m 138 #[.val (.long q1), .second, .val (.long q2), .second, .val (.long q3), .second, .val (.long q4), .second, .val (.int p5), .val (.int (0 : Int32)), .val (.int x10), .val (.long tm), .second, .val (.ref b230), .val (.long (-9223372036854775808 : Int64)), .second, .val (.long q2), .second, .unset, .unset, .unset, .unset, .unset] [(.long q3), (.long q2)])
    obtain ⟨_, _, ⟨T234, L234, k234, n234⟩, -, X234, ⟨Lc234, hQ234, l234, y234, z234⟩, st234⟩ := Jvm.LawKit.callS X232 hx (y := (⟨"java/lang/Math", "max", "(JJ)J"⟩ : MethodName)) hown (mvT hZ (W 25 rfl)) (mvT hZ (W 26 rfl)) (mvT hZ (W 27 rfl)) (mvT hZ (W 28 rfl)) (by decide) (backOf (W := 0) (rm3 l Z a0 hw [] q2 q3 T232.heap n0 Z0_c233 ) hZ (W 28 rfl) (W 27 rfl) (by decide) (by decide)) (g := (mkF m 138 #[.val (.long q1), .second, .val (.long q2), .second, .val (.long q3), .second, .val (.long q4), .second, .val (.int p5), .val (.int (0 : Int32)), .val (.int x10), .val (.long tm), .second, .val (.ref b230), .val (.long (-9223372036854775808 : Int64)), .second, .val (.long q2), .second, .unset, .unset, .unset, .unset, .unset] [(.long q3), (.long q2)])) rfl (by rw [hml]; rfl) (argsL := [(.long q2), (.long q3)]) (rest := []) (lenOf pd_3 rfl) rfl (by show 2 * 0 + _ ≤ _; exact Nat.le_of_eq rfl) (hb hby at_138) (fun _ _ => ⟨rfl, rfl, (by decide : 4 + 0 ≤ _), (by decide : 55 + 0 ≤ _)⟩)
    dsimp only [Pt.U, Pt.locs, Pt.cells, Pt.slots] at X234 l234 y234 z234 st234 hQ234
    subst l234 y234 z234
    obtain ⟨rfl, N234q, e234⟩ := hQ234
    have N234 := Fr.app N232 N234q
    refine own_go st234 ?_
    show own_Run p e below _ T234 (mkF m 141 #[.val (.long q1), .second, .val (.long q2), .second, .val (.long q3), .second, .val (.long q4), .second, .val (.int p5), .val (.int (0 : Int32)), .val (.int x10), .val (.long tm), .second, .val (.ref b230), .val (.long (-9223372036854775808 : Int64)), .second, .val (.long q2), .second, .unset, .unset, .unset, .unset, .unset] [(.long (own_max q2 q3))])
    refine own_go (fun _ k => XS.lstore X234.here hx rfl (hb hby at_141) rfl (l' := #[.val (.long q1), .second, .val (.long q2), .second, .val (.long q3), .second, .val (.long q4), .second, .val (.int p5), .val (.int (0 : Int32)), .val (.int x10), .val (.long tm), .second, .val (.ref b230), .val (.long (-9223372036854775808 : Int64)), .second, .val (.long q2), .second, .val (.long (own_max q2 q3)), .second, .unset, .unset, .unset]) rfl k) ?_
    refine own_go (fun _ k => XS.lload X234.here hx rfl (hb hby at_143) rfl k) ?_
    refine own_go (fun _ k => XS.lload X234.here hx rfl (hb hby at_145) rfl k) ?_
    show own_Run p e below _ T234 (mkF m 147 #[.val (.long q1), .second, .val (.long q2), .second, .val (.long q3), .second, .val (.long q4), .second, .val (.int p5), .val (.int (0 : Int32)), .val (.int x10), .val (.long tm), .second, .val (.ref b230), .val (.long (-9223372036854775808 : Int64)), .second, .val (.long q2), .second, .val (.long (own_max q2 q3)), .second, .unset, .unset, .unset] [(.long q4), (.long (own_max q2 q3))])
    obtain ⟨_, _, ⟨T235, L235, k235, n235⟩, -, X235, ⟨Lc235, hQ235, l235, y235, z235⟩, st235⟩ := Jvm.LawKit.callS X234 hx (y := (⟨"java/lang/Math", "max", "(JJ)J"⟩ : MethodName)) hown (mvT hZ (W 25 rfl)) (mvT hZ (W 26 rfl)) (mvT hZ (W 27 rfl)) (mvT hZ (W 28 rfl)) (by decide) (backOf (W := 0) (rm3 l Z a0 hw [] (own_max q2 q3) q4 T232.heap n0 Z0_c233 ) hZ (W 28 rfl) (W 27 rfl) (by decide) (by decide)) (g := (mkF m 147 #[.val (.long q1), .second, .val (.long q2), .second, .val (.long q3), .second, .val (.long q4), .second, .val (.int p5), .val (.int (0 : Int32)), .val (.int x10), .val (.long tm), .second, .val (.ref b230), .val (.long (-9223372036854775808 : Int64)), .second, .val (.long q2), .second, .val (.long (own_max q2 q3)), .second, .unset, .unset, .unset] [(.long q4), (.long (own_max q2 q3))])) rfl (by rw [hml]; rfl) (argsL := [(.long (own_max q2 q3)), (.long q4)]) (rest := []) (lenOf pd_3 rfl) rfl (by show 2 * 0 + _ ≤ _; exact Nat.le_of_eq rfl) (hb hby at_147) (fun _ _ => ⟨rfl, e234, (by decide : 4 + 0 ≤ _), (by decide : 55 + 0 ≤ _)⟩)
    dsimp only [Pt.U, Pt.locs, Pt.cells, Pt.slots] at X235 l235 y235 z235 st235 hQ235
    subst l235 y235 z235
    obtain ⟨rfl, N235q, e235⟩ := hQ235
    have N235 := Fr.app N234 N235q
    refine own_go st235 ?_
    show own_Run p e below _ T235 (mkF m 150 #[.val (.long q1), .second, .val (.long q2), .second, .val (.long q3), .second, .val (.long q4), .second, .val (.int p5), .val (.int (0 : Int32)), .val (.int x10), .val (.long tm), .second, .val (.ref b230), .val (.long (-9223372036854775808 : Int64)), .second, .val (.long q2), .second, .val (.long (own_max q2 q3)), .second, .unset, .unset, .unset] [(.long (own_max (own_max q2 q3) q4))])
    refine own_go (fun _ k => XS.lstore X235.here hx rfl (hb hby at_150) rfl (l' := #[.val (.long q1), .second, .val (.long q2), .second, .val (.long q3), .second, .val (.long q4), .second, .val (.int p5), .val (.int (0 : Int32)), .val (.int x10), .val (.long tm), .second, .val (.ref b230), .val (.long (-9223372036854775808 : Int64)), .second, .val (.long q2), .second, .val (.long (own_max q2 q3)), .second, .val (.long (own_max (own_max q2 q3) q4)), .second, .unset]) rfl k) ?_
    refine own_go (fun _ k => XS.iconst X235.here hx rfl (hb hby at_152) k) ?_
    refine own_go (fun _ k => XS.istore X235.here hx rfl (hb hby at_153) rfl (l' := #[.val (.long q1), .second, .val (.long q2), .second, .val (.long q3), .second, .val (.long q4), .second, .val (.int p5), .val (.int (0 : Int32)), .val (.int x10), .val (.long tm), .second, .val (.ref b230), .val (.long (-9223372036854775808 : Int64)), .second, .val (.long q2), .second, .val (.long (own_max q2 q3)), .second, .val (.long (own_max (own_max q2 q3) q4)), .second, .val (.int (0 : Int32))]) rfl k) ?_
    refine own_go (fun _ k => XS.iload X235.here hx rfl (hb hby at_155) rfl k) ?_
    show own_Run p e below _ T235 (mkF m 157 #[.val (.long q1), .second, .val (.long q2), .second, .val (.long q3), .second, .val (.long q4), .second, .val (.int p5), .val (.int (0 : Int32)), .val (.int x10), .val (.long tm), .second, .val (.ref b230), .val (.long (-9223372036854775808 : Int64)), .second, .val (.long q2), .second, .val (.long (own_max q2 q3)), .second, .val (.long (own_max (own_max q2 q3) q4)), .second, .val (.int (0 : Int32))] [(.int (0 : Int32))])
    refine own_go (fun _ k => XS.ifYes X235.here hx rfl (pc0 := 157) (pc' := 171) rfl (hb hby at_157) rfl ((if0 _ _).trans (flt (by decide : ¬ ((0 : Int32) < (0 : Int32)))).2.2.2) (by decide) (by decide) k) ?_
    show own_Run p e below _ T235 (mkF m 171 #[.val (.long q1), .second, .val (.long q2), .second, .val (.long q3), .second, .val (.long q4), .second, .val (.int p5), .val (.int (0 : Int32)), .val (.int x10), .val (.long tm), .second, .val (.ref b230), .val (.long (-9223372036854775808 : Int64)), .second, .val (.long q2), .second, .val (.long (own_max q2 q3)), .second, .val (.long (own_max (own_max q2 q3) q4)), .second, .val (.int (0 : Int32))] [])
    refine own_go (fun _ k => XS.iload X235.here hx rfl (hb hby at_171) rfl k) ?_
    refine own_go (fun _ k => XS.iconst X235.here hx rfl (hb hby at_173) k) ?_
    show own_Run p e below _ T235 (mkF m 174 #[.val (.long q1), .second, .val (.long q2), .second, .val (.long q3), .second, .val (.long q4), .second, .val (.int p5), .val (.int (0 : Int32)), .val (.int x10), .val (.long tm), .second, .val (.ref b230), .val (.long (-9223372036854775808 : Int64)), .second, .val (.long q2), .second, .val (.long (own_max q2 q3)), .second, .val (.long (own_max (own_max q2 q3) q4)), .second, .val (.int (0 : Int32))] [(.int (1 : Int32)), (.int (0 : Int32))])
    refine own_go (fun _ k => XS.icmpYes X235.here hx rfl (pc0 := 174) (pc' := 188) rfl (hb hby at_174) rfl (flt (by decide : ¬ ((1 : Int32) < (0 : Int32)))).2.2.2 (by decide) (by decide) k) ?_
    show own_Run p e below _ T235 (mkF m 188 #[.val (.long q1), .second, .val (.long q2), .second, .val (.long q3), .second, .val (.long q4), .second, .val (.int p5), .val (.int (0 : Int32)), .val (.int x10), .val (.long tm), .second, .val (.ref b230), .val (.long (-9223372036854775808 : Int64)), .second, .val (.long q2), .second, .val (.long (own_max q2 q3)), .second, .val (.long (own_max (own_max q2 q3) q4)), .second, .val (.int (0 : Int32))] [])
    refine own_go (fun _ k => XS.iload X235.here hx rfl (hb hby at_188) rfl k) ?_
    refine own_go (fun _ k => XS.iconst X235.here hx rfl (hb hby at_190) k) ?_
    show own_Run p e below _ T235 (mkF m 191 #[.val (.long q1), .second, .val (.long q2), .second, .val (.long q3), .second, .val (.long q4), .second, .val (.int p5), .val (.int (0 : Int32)), .val (.int x10), .val (.long tm), .second, .val (.ref b230), .val (.long (-9223372036854775808 : Int64)), .second, .val (.long q2), .second, .val (.long (own_max q2 q3)), .second, .val (.long (own_max (own_max q2 q3) q4)), .second, .val (.int (0 : Int32))] [(.int (2 : Int32)), (.int (0 : Int32))])
    refine own_go (fun _ k => XS.icmpYes X235.here hx rfl (pc0 := 191) (pc' := 205) rfl (hb hby at_191) rfl (flt (by decide : ¬ ((2 : Int32) < (0 : Int32)))).2.2.2 (by decide) (by decide) k) ?_
    show own_Run p e below _ T235 (mkF m 205 #[.val (.long q1), .second, .val (.long q2), .second, .val (.long q3), .second, .val (.long q4), .second, .val (.int p5), .val (.int (0 : Int32)), .val (.int x10), .val (.long tm), .second, .val (.ref b230), .val (.long (-9223372036854775808 : Int64)), .second, .val (.long q2), .second, .val (.long (own_max q2 q3)), .second, .val (.long (own_max (own_max q2 q3) q4)), .second, .val (.int (0 : Int32))] [])
    refine own_go (fun _ k => XS.iload X235.here hx rfl (hb hby at_205) rfl k) ?_
    refine own_go (fun _ k => XS.iconst X235.here hx rfl (hb hby at_207) k) ?_
    show own_Run p e below _ T235 (mkF m 208 #[.val (.long q1), .second, .val (.long q2), .second, .val (.long q3), .second, .val (.long q4), .second, .val (.int p5), .val (.int (0 : Int32)), .val (.int x10), .val (.long tm), .second, .val (.ref b230), .val (.long (-9223372036854775808 : Int64)), .second, .val (.long q2), .second, .val (.long (own_max q2 q3)), .second, .val (.long (own_max (own_max q2 q3) q4)), .second, .val (.int (0 : Int32))] [(.int (3 : Int32)), (.int (0 : Int32))])
    refine own_go (fun _ k => XS.icmpYes X235.here hx rfl (pc0 := 208) (pc' := 222) rfl (hb hby at_208) rfl (flt (by decide : ¬ ((3 : Int32) < (0 : Int32)))).2.2.2 (by decide) (by decide) k) ?_
    show own_Run p e below _ T235 (mkF m 222 #[.val (.long q1), .second, .val (.long q2), .second, .val (.long q3), .second, .val (.long q4), .second, .val (.int p5), .val (.int (0 : Int32)), .val (.int x10), .val (.long tm), .second, .val (.ref b230), .val (.long (-9223372036854775808 : Int64)), .second, .val (.long q2), .second, .val (.long (own_max q2 q3)), .second, .val (.long (own_max (own_max q2 q3) q4)), .second, .val (.int (0 : Int32))] [])
    refine own_go (fun _ k => XS.aload X235.here hx rfl (hb hby at_222) rfl rfl k) ?_
    refine own_go (fun _ k => XS.lload X235.here hx rfl (hb hby at_224) rfl k) ?_
    show own_Run p e below _ T235 (mkF m 226 #[.val (.long q1), .second, .val (.long q2), .second, .val (.long q3), .second, .val (.long q4), .second, .val (.int p5), .val (.int (0 : Int32)), .val (.int x10), .val (.long tm), .second, .val (.ref b230), .val (.long (-9223372036854775808 : Int64)), .second, .val (.long q2), .second, .val (.long (own_max q2 q3)), .second, .val (.long (own_max (own_max q2 q3) q4)), .second, .val (.int (0 : Int32))] [(.long tm), (.ref b230)])
    obtain ⟨cq236, kq236, q236a, q236b, q236c⟩ := isOf hZ e235 P232_0
    obtain ⟨_, _, ⟨T236, L236, k236, n236⟩, -, X236, ⟨Lc236, hQ236, l236, y236, z236⟩, st236⟩ := X235.virtualBack hx (y := (⟨"com/example/tote/tote/storage/OffsetIndex", "floorTime", "(J)I"⟩ : MethodName)) (z := (⟨"com/example/tote/tote/storage/OffsetIndex", "floorTime", "(J)I"⟩ : MethodName)) hown (mvT hZ (W 29 rfl)) (mvT hZ (W 30 rfl)) (notFace_of_selects (args := #[]) (mvT hZ (W 32 rfl))) (mvT hZ (W 32 rfl)) (mvT hZ (W 31 rfl)) (by decide) (backOf (W := 0) (rm4n0 l Z a0 hw [] b230 tm b3_232 k3_232 (-1 : Int32) T232.heap n0 Z0_c233 P232_3 P232_7 P232_10 (rfl)) hZ (W 33 rfl) (W 2 rfl) (by decide) (by decide)) q236a q236c (g := (mkF m 226 #[.val (.long q1), .second, .val (.long q2), .second, .val (.long q3), .second, .val (.long q4), .second, .val (.int p5), .val (.int (0 : Int32)), .val (.int x10), .val (.long tm), .second, .val (.ref b230), .val (.long (-9223372036854775808 : Int64)), .second, .val (.long q2), .second, .val (.long (own_max q2 q3)), .second, .val (.long (own_max (own_max q2 q3) q4)), .second, .val (.int (0 : Int32))] [(.long tm), (.ref b230)])) rfl (by rw [hml]; rfl) (Steps.refl _) (argsL := [(.long tm)]) (rest := []) (lenOf pd_1 rfl) rfl (by show 2 * 0 + _ ≤ _; exact Nat.le_of_eq rfl) (hb hby at_226) (fun _ _ => ⟨rfl, e235, (by decide : 4 + 0 ≤ _), (by decide : 55 + 0 ≤ _)⟩)
    dsimp only [Pt.U, Pt.locs, Pt.cells, Pt.slots] at X236 l236 y236 z236 st236 hQ236
    subst l236 y236 z236
    obtain ⟨rfl, N236q, e236⟩ := hQ236
    have N236 := Fr.app N235 N236q
    refine own_goT st236 ?_
    show own_Run p e below _ T236 (mkF m 229 #[.val (.long q1), .second, .val (.long q2), .second, .val (.long q3), .second, .val (.long q4), .second, .val (.int p5), .val (.int (0 : Int32)), .val (.int x10), .val (.long tm), .second, .val (.ref b230), .val (.long (-9223372036854775808 : Int64)), .second, .val (.long q2), .second, .val (.long (own_max q2 q3)), .second, .val (.long (own_max (own_max q2 q3) q4)), .second, .val (.int (0 : Int32))] [(.int (-1 : Int32))])
    refine own_go (fun _ k => XS.iload X236.here hx rfl (hb hby at_229) rfl k) ?_
    refine own_go (fun _ k => XS.iconst X236.here hx rfl (hb hby at_231) k) ?_
    refine own_go (fun _ k => XS.isub X236.here hx rfl (hb hby at_232) rfl k) ?_
    show own_Run p e below _ T236 (mkF m 233 #[.val (.long q1), .second, .val (.long q2), .second, .val (.long q3), .second, .val (.long q4), .second, .val (.int p5), .val (.int (0 : Int32)), .val (.int x10), .val (.long tm), .second, .val (.ref b230), .val (.long (-9223372036854775808 : Int64)), .second, .val (.long q2), .second, .val (.long (own_max q2 q3)), .second, .val (.long (own_max (own_max q2 q3) q4)), .second, .val (.int (0 : Int32))] [(.int ((0 : Int32) - (1 : Int32))), (.int (-1 : Int32))])
    rw [show ((0 : Int32) - (1 : Int32)) = (-1 : Int32) by decide]
    show own_Run p e below _ T236 (mkF m 233 #[.val (.long q1), .second, .val (.long q2), .second, .val (.long q3), .second, .val (.long q4), .second, .val (.int p5), .val (.int (0 : Int32)), .val (.int x10), .val (.long tm), .second, .val (.ref b230), .val (.long (-9223372036854775808 : Int64)), .second, .val (.long q2), .second, .val (.long (own_max q2 q3)), .second, .val (.long (own_max (own_max q2 q3) q4)), .second, .val (.int (0 : Int32))] [(.int (-1 : Int32)), (.int (-1 : Int32))])
    refine own_go (fun _ k => XS.icmpNo X236.here hx rfl (hb hby at_233) rfl (teq (by decide : (-1 : Int32) = (-1 : Int32))).2 k) ?_
    show own_Run p e below _ T236 (mkF m 236 #[.val (.long q1), .second, .val (.long q2), .second, .val (.long q3), .second, .val (.long q4), .second, .val (.int p5), .val (.int (0 : Int32)), .val (.int x10), .val (.long tm), .second, .val (.ref b230), .val (.long (-9223372036854775808 : Int64)), .second, .val (.long q2), .second, .val (.long (own_max q2 q3)), .second, .val (.long (own_max (own_max q2 q3) q4)), .second, .val (.int (0 : Int32))] [])
    refine own_go (fun _ k => XS.iconst X236.here hx rfl (hb hby at_236) k) ?_
    refine own_go (fun _ k => XS.goto X236.here hx rfl (pc0 := 237) (pc' := 241) rfl (hb hby at_237) (by decide) (by decide) k) ?_
    show own_Run p e below _ T236 (mkF m 241 #[.val (.long q1), .second, .val (.long q2), .second, .val (.long q3), .second, .val (.long q4), .second, .val (.int p5), .val (.int (0 : Int32)), .val (.int x10), .val (.long tm), .second, .val (.ref b230), .val (.long (-9223372036854775808 : Int64)), .second, .val (.long q2), .second, .val (.long (own_max q2 q3)), .second, .val (.long (own_max (own_max q2 q3) q4)), .second, .val (.int (0 : Int32))] [(.int (1 : Int32))])
    refine own_done (Q := fun v h L => Q0 Z q1 q2 q3 q4 p5 h0 n0 v h L) (v := (some (.int (1 : Int32)))) X236 (fun h => by rw [hret] at h; cases h) hlk (fun fs hr => retN X236 hx (t := .boolean) hret (by simp) (hb hby at_241) hr) ?_ (by decide) (by decide)
    show Q0 Z q1 q2 q3 q4 p5 h0 n0 _ T236.heap _
    rw [e236]
    exact ⟨rfl, N236⟩
  · show own_Run p e below _ T232 (mkF m 62 #[.val (.long q1), .second, .val (.long q2), .second, .val (.long q3), .second, .val (.long q4), .second, .val (.int p5), .val (.int (1 : Int32)), .val (.int x10), .val (.long tm), .second, .val (.ref b230), .unset, .unset, .unset, .unset, .unset, .unset, .unset, .unset, .unset] [])
    refine own_go (fun _ k => XS.iload X232.here hx rfl (hb hby at_62) rfl k) ?_
    show own_Run p e below _ T232 (mkF m 64 #[.val (.long q1), .second, .val (.long q2), .second, .val (.long q3), .second, .val (.long q4), .second, .val (.int p5), .val (.int (1 : Int32)), .val (.int x10), .val (.long tm), .second, .val (.ref b230), .unset, .unset, .unset, .unset, .unset, .unset, .unset, .unset, .unset] [(.int (1 : Int32))])
    refine own_go (fun _ k => XS.ifNo X232.here hx rfl (hb hby at_64) rfl ((if0 _ _).trans (tlt (by decide : (0 : Int32) < (1 : Int32))).2.2.2) k) ?_
    show own_Run p e below _ T232 (mkF m 67 #[.val (.long q1), .second, .val (.long q2), .second, .val (.long q3), .second, .val (.long q4), .second, .val (.int p5), .val (.int (1 : Int32)), .val (.int x10), .val (.long tm), .second, .val (.ref b230), .unset, .unset, .unset, .unset, .unset, .unset, .unset, .unset, .unset] [])
    refine own_go (fun _ k => XS.aload X232.here hx rfl (hb hby at_67) rfl rfl k) ?_
    refine own_go (fun _ k => XS.lconst X232.here hx rfl (hb hby at_69) k) ?_
    refine own_go (fun _ k => XS.lconst X232.here hx rfl (hb hby at_70) k) ?_
    refine own_go (fun _ k => XS.lloadN X232.here hx rfl (hb hby at_71) rfl k) ?_
    show own_Run p e below _ T232 (mkF m 72 #[.val (.long q1), .second, .val (.long q2), .second, .val (.long q3), .second, .val (.long q4), .second, .val (.int p5), .val (.int (1 : Int32)), .val (.int x10), .val (.long tm), .second, .val (.ref b230), .unset, .unset, .unset, .unset, .unset, .unset, .unset, .unset, .unset] [(.long q2), (.long (0 : Int64)), (.long (0 : Int64)), (.ref b230)])
    obtain ⟨cq237, kq237, q237a, q237b, q237c⟩ := isOf hZ rfl P232_0
    obtain ⟨_, _, ⟨T237, L237, k237, n237⟩, -, X237, ⟨Lc237, hQ237, l237, y237, z237⟩, st237⟩ := X232.virtualBack hx (y := (⟨"com/example/tote/tote/storage/OffsetIndex", "add", "(JJJ)V"⟩ : MethodName)) (z := (⟨"com/example/tote/tote/storage/OffsetIndex", "add", "(JJJ)V"⟩ : MethodName)) hown (mvT hZ (W 36 rfl)) (mvT hZ (W 37 rfl)) (notFace_of_selects (args := #[]) (mvT hZ (W 39 rfl))) (mvT hZ (W 39 rfl)) (mvT hZ (W 38 rfl)) (by decide) (backOf (W := 0) (rm5c0 l Z a0 hw [] b230 (0 : Int64) (0 : Int64) q2 b1_232 b2_232 b3_232 k1_232 k2_232 k3_232 (-9223372036854775808 : Int64) (0 : Int64) (0 : Int64) T232.heap n0 Z0_c233 P232_0 P232_1 P232_2 P232_3 P232_4 P232_5 P232_6 P232_7 P232_8 P232_9 P232_10 g_b230 g_b1_232 g_b2_232 g_b3_232 P232_14 P232_15 P232_16 P232_17 P232_18 P232_19 (by decide) (by decide)) hZ (W 40 rfl) (W 2 rfl) (by decide) (by decide)) q237a q237c (g := (mkF m 72 #[.val (.long q1), .second, .val (.long q2), .second, .val (.long q3), .second, .val (.long q4), .second, .val (.int p5), .val (.int (1 : Int32)), .val (.int x10), .val (.long tm), .second, .val (.ref b230), .unset, .unset, .unset, .unset, .unset, .unset, .unset, .unset, .unset] [(.long q2), (.long (0 : Int64)), (.long (0 : Int64)), (.ref b230)])) rfl (by rw [hml]; rfl) (Steps.refl _) (argsL := [(.long (0 : Int64)), (.long (0 : Int64)), (.long q2)]) (rest := []) (lenOf pd_5 rfl) rfl (by show 2 * 0 + _ ≤ _; exact Nat.le_of_eq rfl) (hb hby at_72) (fun _ _ => ⟨rfl, rfl, (by decide : 4 + 0 ≤ _), (by decide : 55 + 0 ≤ _)⟩)
    dsimp only [Pt.U, Pt.locs, Pt.cells, Pt.slots] at X237 l237 y237 z237 st237 hQ237
    subst l237 y237 z237
    obtain ⟨rfl, N237q, K237, P237_0, P237_1, P237_2, P237_3, P237_4, P237_5, P237_6, P237_7, P237_8, P237_9, P237_10⟩ := hQ237
    have N237 := Fr.app N232 N237q
    refine own_goT st237 ?_
    show own_Run p e below _ T237 (mkF m 75 #[.val (.long q1), .second, .val (.long q2), .second, .val (.long q3), .second, .val (.long q4), .second, .val (.int p5), .val (.int (1 : Int32)), .val (.int x10), .val (.long tm), .second, .val (.ref b230), .unset, .unset, .unset, .unset, .unset, .unset, .unset, .unset, .unset] [])
    have Z0_c238 := Nat.le_trans Z0_c233 K237.1
    have K0_c238 := K0_c233.trans K237 (allS (Or.inr sz_b230) (allS (Or.inr sz_b1_232) (allS (Or.inr sz_b2_232) (allS (Or.inr sz_b3_232) all0))))
    have P232_0_c238 := P232_0.keep K237
    rw [own_maxMin] at P237_4
    refine own_go (fun _ k => XS.iload X237.here hx rfl (hb hby at_75) rfl k) ?_
    refine own_go (fun _ k => XS.iconst X237.here hx rfl (hb hby at_77) k) ?_
    show own_Run p e below _ T237 (mkF m 78 #[.val (.long q1), .second, .val (.long q2), .second, .val (.long q3), .second, .val (.long q4), .second, .val (.int p5), .val (.int (1 : Int32)), .val (.int x10), .val (.long tm), .second, .val (.ref b230), .unset, .unset, .unset, .unset, .unset, .unset, .unset, .unset, .unset] [(.int (1 : Int32)), (.int (1 : Int32))])
    refine own_go (fun _ k => XS.icmpYes X237.here hx rfl (pc0 := 78) (pc' := 90) rfl (hb hby at_78) rfl (flt (by decide : ¬ ((1 : Int32) < (1 : Int32)))).2.2.2 (by decide) (by decide) k) ?_
    show own_Run p e below _ T237 (mkF m 90 #[.val (.long q1), .second, .val (.long q2), .second, .val (.long q3), .second, .val (.long q4), .second, .val (.int p5), .val (.int (1 : Int32)), .val (.int x10), .val (.long tm), .second, .val (.ref b230), .unset, .unset, .unset, .unset, .unset, .unset, .unset, .unset, .unset] [])
    refine own_go (fun _ k => XS.iload X237.here hx rfl (hb hby at_90) rfl k) ?_
    refine own_go (fun _ k => XS.iconst X237.here hx rfl (hb hby at_92) k) ?_
    show own_Run p e below _ T237 (mkF m 93 #[.val (.long q1), .second, .val (.long q2), .second, .val (.long q3), .second, .val (.long q4), .second, .val (.int p5), .val (.int (1 : Int32)), .val (.int x10), .val (.long tm), .second, .val (.ref b230), .unset, .unset, .unset, .unset, .unset, .unset, .unset, .unset, .unset] [(.int (2 : Int32)), (.int (1 : Int32))])
    refine own_go (fun _ k => XS.icmpYes X237.here hx rfl (pc0 := 93) (pc' := 109) rfl (hb hby at_93) rfl (flt (by decide : ¬ ((2 : Int32) < (1 : Int32)))).2.2.2 (by decide) (by decide) k) ?_
    show own_Run p e below _ T237 (mkF m 109 #[.val (.long q1), .second, .val (.long q2), .second, .val (.long q3), .second, .val (.long q4), .second, .val (.int p5), .val (.int (1 : Int32)), .val (.int x10), .val (.long tm), .second, .val (.ref b230), .unset, .unset, .unset, .unset, .unset, .unset, .unset, .unset, .unset] [])
    refine own_go (fun _ k => XS.iload X237.here hx rfl (hb hby at_109) rfl k) ?_
    refine own_go (fun _ k => XS.iconst X237.here hx rfl (hb hby at_111) k) ?_
    show own_Run p e below _ T237 (mkF m 112 #[.val (.long q1), .second, .val (.long q2), .second, .val (.long q3), .second, .val (.long q4), .second, .val (.int p5), .val (.int (1 : Int32)), .val (.int x10), .val (.long tm), .second, .val (.ref b230), .unset, .unset, .unset, .unset, .unset, .unset, .unset, .unset, .unset] [(.int (3 : Int32)), (.int (1 : Int32))])
    refine own_go (fun _ k => XS.icmpYes X237.here hx rfl (pc0 := 112) (pc' := 127) rfl (hb hby at_112) rfl (flt (by decide : ¬ ((3 : Int32) < (1 : Int32)))).2.2.2 (by decide) (by decide) k) ?_
    show own_Run p e below _ T237 (mkF m 127 #[.val (.long q1), .second, .val (.long q2), .second, .val (.long q3), .second, .val (.long q4), .second, .val (.int p5), .val (.int (1 : Int32)), .val (.int x10), .val (.long tm), .second, .val (.ref b230), .unset, .unset, .unset, .unset, .unset, .unset, .unset, .unset, .unset] [])
    refine own_go (X237.ldc2Long hx hown (mvT hZ (W 24 rfl)) (g := (mkF m 127 #[.val (.long q1), .second, .val (.long q2), .second, .val (.long q3), .second, .val (.long q4), .second, .val (.int p5), .val (.int (1 : Int32)), .val (.int x10), .val (.long tm), .second, .val (.ref b230), .unset, .unset, .unset, .unset, .unset, .unset, .unset, .unset, .unset] [])) rfl (hb hby at_127)) ?_
    show own_Run p e below _ T237 (mkF m 130 #[.val (.long q1), .second, .val (.long q2), .second, .val (.long q3), .second, .val (.long q4), .second, .val (.int p5), .val (.int (1 : Int32)), .val (.int x10), .val (.long tm), .second, .val (.ref b230), .unset, .unset, .unset, .unset, .unset, .unset, .unset, .unset, .unset] [(.long (-9223372036854775808 : Int64))])
    refine own_go (fun _ k => XS.lstore X237.here hx rfl (hb hby at_130) rfl (l' := #[.val (.long q1), .second, .val (.long q2), .second, .val (.long q3), .second, .val (.long q4), .second, .val (.int p5), .val (.int (1 : Int32)), .val (.int x10), .val (.long tm), .second, .val (.ref b230), .val (.long (-9223372036854775808 : Int64)), .second, .unset, .unset, .unset, .unset, .unset, .unset, .unset]) rfl k) ?_
    refine own_go (fun _ k => XS.lloadN X237.here hx rfl (hb hby at_132) rfl k) ?_
    refine own_go (fun _ k => XS.lstore X237.here hx rfl (hb hby at_133) rfl (l' := #[.val (.long q1), .second, .val (.long q2), .second, .val (.long q3), .second, .val (.long q4), .second, .val (.int p5), .val (.int (1 : Int32)), .val (.int x10), .val (.long tm), .second, .val (.ref b230), .val (.long (-9223372036854775808 : Int64)), .second, .val (.long q2), .second, .unset, .unset, .unset, .unset, .unset]) rfl k) ?_
    refine own_go (fun _ k => XS.lloadN X237.here hx rfl (hb hby at_135) rfl k) ?_
    show own_Run p e below _ T237 (mkF m 136 #[.val (.long q1), .second, .val (.long q2), .second, .val (.long q3), .second, .val (.long q4), .second, .val (.int p5), .val (.int (1 : Int32)), .val (.int x10), .val (.long tm), .second, .val (.ref b230), .val (.long (-9223372036854775808 : Int64)), .second, .val (.long q2), .second, .unset, .unset, .unset, .unset, .unset] [(.long q2)])
    refine own_go (fun _ k => XS.lload X237.here hx rfl (hb hby at_136) rfl k) ?_
    show own_Run p e below _ T237 (mkF m 138 #[.val (.long q1), .second, .val (.long q2), .second, .val (.long q3), .second, .val (.long q4), .second, .val (.int p5), .val (.int (1 : Int32)), .val (.int x10), .val (.long tm), .second, .val (.ref b230), .val (.long (-9223372036854775808 : Int64)), .second, .val (.long q2), .second, .unset, .unset, .unset, .unset, .unset] [(.long q3), (.long q2)])
    obtain ⟨_, _, ⟨T239, L239, k239, n239⟩, -, X239, ⟨Lc239, hQ239, l239, y239, z239⟩, st239⟩ := Jvm.LawKit.callS X237 hx (y := (⟨"java/lang/Math", "max", "(JJ)J"⟩ : MethodName)) hown (mvT hZ (W 25 rfl)) (mvT hZ (W 26 rfl)) (mvT hZ (W 27 rfl)) (mvT hZ (W 28 rfl)) (by decide) (backOf (W := 0) (rm3 l Z a0 hw [] q2 q3 T237.heap n0 Z0_c238 ) hZ (W 28 rfl) (W 27 rfl) (by decide) (by decide)) (g := (mkF m 138 #[.val (.long q1), .second, .val (.long q2), .second, .val (.long q3), .second, .val (.long q4), .second, .val (.int p5), .val (.int (1 : Int32)), .val (.int x10), .val (.long tm), .second, .val (.ref b230), .val (.long (-9223372036854775808 : Int64)), .second, .val (.long q2), .second, .unset, .unset, .unset, .unset, .unset] [(.long q3), (.long q2)])) rfl (by rw [hml]; rfl) (argsL := [(.long q2), (.long q3)]) (rest := []) (lenOf pd_3 rfl) rfl (by show 2 * 0 + _ ≤ _; exact Nat.le_of_eq rfl) (hb hby at_138) (fun _ _ => ⟨rfl, rfl, (by decide : 4 + 0 ≤ _), (by decide : 55 + 0 ≤ _)⟩)
    dsimp only [Pt.U, Pt.locs, Pt.cells, Pt.slots] at X239 l239 y239 z239 st239 hQ239
    subst l239 y239 z239
    obtain ⟨rfl, N239q, e239⟩ := hQ239
    have N239 := Fr.app N237 N239q
    refine own_go st239 ?_
    show own_Run p e below _ T239 (mkF m 141 #[.val (.long q1), .second, .val (.long q2), .second, .val (.long q3), .second, .val (.long q4), .second, .val (.int p5), .val (.int (1 : Int32)), .val (.int x10), .val (.long tm), .second, .val (.ref b230), .val (.long (-9223372036854775808 : Int64)), .second, .val (.long q2), .second, .unset, .unset, .unset, .unset, .unset] [(.long (own_max q2 q3))])
    refine own_go (fun _ k => XS.lstore X239.here hx rfl (hb hby at_141) rfl (l' := #[.val (.long q1), .second, .val (.long q2), .second, .val (.long q3), .second, .val (.long q4), .second, .val (.int p5), .val (.int (1 : Int32)), .val (.int x10), .val (.long tm), .second, .val (.ref b230), .val (.long (-9223372036854775808 : Int64)), .second, .val (.long q2), .second, .val (.long (own_max q2 q3)), .second, .unset, .unset, .unset]) rfl k) ?_
    refine own_go (fun _ k => XS.lload X239.here hx rfl (hb hby at_143) rfl k) ?_
    refine own_go (fun _ k => XS.lload X239.here hx rfl (hb hby at_145) rfl k) ?_
    show own_Run p e below _ T239 (mkF m 147 #[.val (.long q1), .second, .val (.long q2), .second, .val (.long q3), .second, .val (.long q4), .second, .val (.int p5), .val (.int (1 : Int32)), .val (.int x10), .val (.long tm), .second, .val (.ref b230), .val (.long (-9223372036854775808 : Int64)), .second, .val (.long q2), .second, .val (.long (own_max q2 q3)), .second, .unset, .unset, .unset] [(.long q4), (.long (own_max q2 q3))])
    obtain ⟨_, _, ⟨T240, L240, k240, n240⟩, -, X240, ⟨Lc240, hQ240, l240, y240, z240⟩, st240⟩ := Jvm.LawKit.callS X239 hx (y := (⟨"java/lang/Math", "max", "(JJ)J"⟩ : MethodName)) hown (mvT hZ (W 25 rfl)) (mvT hZ (W 26 rfl)) (mvT hZ (W 27 rfl)) (mvT hZ (W 28 rfl)) (by decide) (backOf (W := 0) (rm3 l Z a0 hw [] (own_max q2 q3) q4 T237.heap n0 Z0_c238 ) hZ (W 28 rfl) (W 27 rfl) (by decide) (by decide)) (g := (mkF m 147 #[.val (.long q1), .second, .val (.long q2), .second, .val (.long q3), .second, .val (.long q4), .second, .val (.int p5), .val (.int (1 : Int32)), .val (.int x10), .val (.long tm), .second, .val (.ref b230), .val (.long (-9223372036854775808 : Int64)), .second, .val (.long q2), .second, .val (.long (own_max q2 q3)), .second, .unset, .unset, .unset] [(.long q4), (.long (own_max q2 q3))])) rfl (by rw [hml]; rfl) (argsL := [(.long (own_max q2 q3)), (.long q4)]) (rest := []) (lenOf pd_3 rfl) rfl (by show 2 * 0 + _ ≤ _; exact Nat.le_of_eq rfl) (hb hby at_147) (fun _ _ => ⟨rfl, e239, (by decide : 4 + 0 ≤ _), (by decide : 55 + 0 ≤ _)⟩)
    dsimp only [Pt.U, Pt.locs, Pt.cells, Pt.slots] at X240 l240 y240 z240 st240 hQ240
    subst l240 y240 z240
    obtain ⟨rfl, N240q, e240⟩ := hQ240
    have N240 := Fr.app N239 N240q
    refine own_go st240 ?_
    show own_Run p e below _ T240 (mkF m 150 #[.val (.long q1), .second, .val (.long q2), .second, .val (.long q3), .second, .val (.long q4), .second, .val (.int p5), .val (.int (1 : Int32)), .val (.int x10), .val (.long tm), .second, .val (.ref b230), .val (.long (-9223372036854775808 : Int64)), .second, .val (.long q2), .second, .val (.long (own_max q2 q3)), .second, .unset, .unset, .unset] [(.long (own_max (own_max q2 q3) q4))])
    refine own_go (fun _ k => XS.lstore X240.here hx rfl (hb hby at_150) rfl (l' := #[.val (.long q1), .second, .val (.long q2), .second, .val (.long q3), .second, .val (.long q4), .second, .val (.int p5), .val (.int (1 : Int32)), .val (.int x10), .val (.long tm), .second, .val (.ref b230), .val (.long (-9223372036854775808 : Int64)), .second, .val (.long q2), .second, .val (.long (own_max q2 q3)), .second, .val (.long (own_max (own_max q2 q3) q4)), .second, .unset]) rfl k) ?_
    refine own_go (fun _ k => XS.iconst X240.here hx rfl (hb hby at_152) k) ?_
    refine own_go (fun _ k => XS.istore X240.here hx rfl (hb hby at_153) rfl (l' := #[.val (.long q1), .second, .val (.long q2), .second, .val (.long q3), .second, .val (.long q4), .second, .val (.int p5), .val (.int (1 : Int32)), .val (.int x10), .val (.long tm), .second, .val (.ref b230), .val (.long (-9223372036854775808 : Int64)), .second, .val (.long q2), .second, .val (.long (own_max q2 q3)), .second, .val (.long (own_max (own_max q2 q3) q4)), .second, .val (.int (0 : Int32))]) rfl k) ?_
    refine own_go (fun _ k => XS.iload X240.here hx rfl (hb hby at_155) rfl k) ?_
    show own_Run p e below _ T240 (mkF m 157 #[.val (.long q1), .second, .val (.long q2), .second, .val (.long q3), .second, .val (.long q4), .second, .val (.int p5), .val (.int (1 : Int32)), .val (.int x10), .val (.long tm), .second, .val (.ref b230), .val (.long (-9223372036854775808 : Int64)), .second, .val (.long q2), .second, .val (.long (own_max q2 q3)), .second, .val (.long (own_max (own_max q2 q3) q4)), .second, .val (.int (0 : Int32))] [(.int (1 : Int32))])
    refine own_go (fun _ k => XS.ifNo X240.here hx rfl (hb hby at_157) rfl ((if0 _ _).trans (tlt (by decide : (0 : Int32) < (1 : Int32))).2.2.2) k) ?_
    show own_Run p e below _ T240 (mkF m 160 #[.val (.long q1), .second, .val (.long q2), .second, .val (.long q3), .second, .val (.long q4), .second, .val (.int p5), .val (.int (1 : Int32)), .val (.int x10), .val (.long tm), .second, .val (.ref b230), .val (.long (-9223372036854775808 : Int64)), .second, .val (.long q2), .second, .val (.long (own_max q2 q3)), .second, .val (.long (own_max (own_max q2 q3) q4)), .second, .val (.int (0 : Int32))] [])
    refine own_go (fun _ k => XS.lload X240.here hx rfl (hb hby at_160) rfl k) ?_
    refine own_go (fun _ k => XS.lload X240.here hx rfl (hb hby at_162) rfl k) ?_
    refine own_go (fun _ k => XS.lcmp X240.here hx rfl (hb hby at_164) rfl k) ?_
    show own_Run p e below _ T240 (mkF m 165 #[.val (.long q1), .second, .val (.long q2), .second, .val (.long q3), .second, .val (.long q4), .second, .val (.int p5), .val (.int (1 : Int32)), .val (.int x10), .val (.long tm), .second, .val (.ref b230), .val (.long (-9223372036854775808 : Int64)), .second, .val (.long q2), .second, .val (.long (own_max q2 q3)), .second, .val (.long (own_max (own_max q2 q3) q4)), .second, .val (.int (0 : Int32))] [(.int (lcmpW (-9223372036854775808 : Int64) tm))])
    by_cases hc165_241 : (-9223372036854775808 : Int64) < tm
    · refine own_go (fun _ k => XS.ifNo X240.here hx rfl (hb hby at_165) rfl (own_lcT hc165_241).2.1 k) ?_
      show own_Run p e below _ T240 (mkF m 168 #[.val (.long q1), .second, .val (.long q2), .second, .val (.long q3), .second, .val (.long q4), .second, .val (.int p5), .val (.int (1 : Int32)), .val (.int x10), .val (.long tm), .second, .val (.ref b230), .val (.long (-9223372036854775808 : Int64)), .second, .val (.long q2), .second, .val (.long (own_max q2 q3)), .second, .val (.long (own_max (own_max q2 q3) q4)), .second, .val (.int (0 : Int32))] [])
      refine own_go (fun _ k => XS.iinc X240.here hx rfl (hb hby at_168) rfl (l' := #[.val (.long q1), .second, .val (.long q2), .second, .val (.long q3), .second, .val (.long q4), .second, .val (.int p5), .val (.int (1 : Int32)), .val (.int x10), .val (.long tm), .second, .val (.ref b230), .val (.long (-9223372036854775808 : Int64)), .second, .val (.long q2), .second, .val (.long (own_max q2 q3)), .second, .val (.long (own_max (own_max q2 q3) q4)), .second, .val (.int ((0 : Int32) + (1 : Int32)))]) rfl k) ?_
      show own_Run p e below _ T240 (mkF m 171 #[.val (.long q1), .second, .val (.long q2), .second, .val (.long q3), .second, .val (.long q4), .second, .val (.int p5), .val (.int (1 : Int32)), .val (.int x10), .val (.long tm), .second, .val (.ref b230), .val (.long (-9223372036854775808 : Int64)), .second, .val (.long q2), .second, .val (.long (own_max q2 q3)), .second, .val (.long (own_max (own_max q2 q3) q4)), .second, .val (.int ((0 : Int32) + (1 : Int32)))] [])
      rw [show ((0 : Int32) + (1 : Int32)) = (1 : Int32) by decide]
      show own_Run p e below _ T240 (mkF m 171 #[.val (.long q1), .second, .val (.long q2), .second, .val (.long q3), .second, .val (.long q4), .second, .val (.int p5), .val (.int (1 : Int32)), .val (.int x10), .val (.long tm), .second, .val (.ref b230), .val (.long (-9223372036854775808 : Int64)), .second, .val (.long q2), .second, .val (.long (own_max q2 q3)), .second, .val (.long (own_max (own_max q2 q3) q4)), .second, .val (.int (1 : Int32))] [])
      refine own_go (fun _ k => XS.iload X240.here hx rfl (hb hby at_171) rfl k) ?_
      refine own_go (fun _ k => XS.iconst X240.here hx rfl (hb hby at_173) k) ?_
      show own_Run p e below _ T240 (mkF m 174 #[.val (.long q1), .second, .val (.long q2), .second, .val (.long q3), .second, .val (.long q4), .second, .val (.int p5), .val (.int (1 : Int32)), .val (.int x10), .val (.long tm), .second, .val (.ref b230), .val (.long (-9223372036854775808 : Int64)), .second, .val (.long q2), .second, .val (.long (own_max q2 q3)), .second, .val (.long (own_max (own_max q2 q3) q4)), .second, .val (.int (1 : Int32))] [(.int (1 : Int32)), (.int (1 : Int32))])
      refine own_go (fun _ k => XS.icmpYes X240.here hx rfl (pc0 := 174) (pc' := 188) rfl (hb hby at_174) rfl (flt (by decide : ¬ ((1 : Int32) < (1 : Int32)))).2.2.2 (by decide) (by decide) k) ?_
      show own_Run p e below _ T240 (mkF m 188 #[.val (.long q1), .second, .val (.long q2), .second, .val (.long q3), .second, .val (.long q4), .second, .val (.int p5), .val (.int (1 : Int32)), .val (.int x10), .val (.long tm), .second, .val (.ref b230), .val (.long (-9223372036854775808 : Int64)), .second, .val (.long q2), .second, .val (.long (own_max q2 q3)), .second, .val (.long (own_max (own_max q2 q3) q4)), .second, .val (.int (1 : Int32))] [])
      refine own_go (fun _ k => XS.iload X240.here hx rfl (hb hby at_188) rfl k) ?_
      refine own_go (fun _ k => XS.iconst X240.here hx rfl (hb hby at_190) k) ?_
      show own_Run p e below _ T240 (mkF m 191 #[.val (.long q1), .second, .val (.long q2), .second, .val (.long q3), .second, .val (.long q4), .second, .val (.int p5), .val (.int (1 : Int32)), .val (.int x10), .val (.long tm), .second, .val (.ref b230), .val (.long (-9223372036854775808 : Int64)), .second, .val (.long q2), .second, .val (.long (own_max q2 q3)), .second, .val (.long (own_max (own_max q2 q3) q4)), .second, .val (.int (1 : Int32))] [(.int (2 : Int32)), (.int (1 : Int32))])
      refine own_go (fun _ k => XS.icmpYes X240.here hx rfl (pc0 := 191) (pc' := 205) rfl (hb hby at_191) rfl (flt (by decide : ¬ ((2 : Int32) < (1 : Int32)))).2.2.2 (by decide) (by decide) k) ?_
      show own_Run p e below _ T240 (mkF m 205 #[.val (.long q1), .second, .val (.long q2), .second, .val (.long q3), .second, .val (.long q4), .second, .val (.int p5), .val (.int (1 : Int32)), .val (.int x10), .val (.long tm), .second, .val (.ref b230), .val (.long (-9223372036854775808 : Int64)), .second, .val (.long q2), .second, .val (.long (own_max q2 q3)), .second, .val (.long (own_max (own_max q2 q3) q4)), .second, .val (.int (1 : Int32))] [])
      refine own_go (fun _ k => XS.iload X240.here hx rfl (hb hby at_205) rfl k) ?_
      refine own_go (fun _ k => XS.iconst X240.here hx rfl (hb hby at_207) k) ?_
      show own_Run p e below _ T240 (mkF m 208 #[.val (.long q1), .second, .val (.long q2), .second, .val (.long q3), .second, .val (.long q4), .second, .val (.int p5), .val (.int (1 : Int32)), .val (.int x10), .val (.long tm), .second, .val (.ref b230), .val (.long (-9223372036854775808 : Int64)), .second, .val (.long q2), .second, .val (.long (own_max q2 q3)), .second, .val (.long (own_max (own_max q2 q3) q4)), .second, .val (.int (1 : Int32))] [(.int (3 : Int32)), (.int (1 : Int32))])
      refine own_go (fun _ k => XS.icmpYes X240.here hx rfl (pc0 := 208) (pc' := 222) rfl (hb hby at_208) rfl (flt (by decide : ¬ ((3 : Int32) < (1 : Int32)))).2.2.2 (by decide) (by decide) k) ?_
      show own_Run p e below _ T240 (mkF m 222 #[.val (.long q1), .second, .val (.long q2), .second, .val (.long q3), .second, .val (.long q4), .second, .val (.int p5), .val (.int (1 : Int32)), .val (.int x10), .val (.long tm), .second, .val (.ref b230), .val (.long (-9223372036854775808 : Int64)), .second, .val (.long q2), .second, .val (.long (own_max q2 q3)), .second, .val (.long (own_max (own_max q2 q3) q4)), .second, .val (.int (1 : Int32))] [])
      refine own_go (fun _ k => XS.aload X240.here hx rfl (hb hby at_222) rfl rfl k) ?_
      refine own_go (fun _ k => XS.lload X240.here hx rfl (hb hby at_224) rfl k) ?_
      show own_Run p e below _ T240 (mkF m 226 #[.val (.long q1), .second, .val (.long q2), .second, .val (.long q3), .second, .val (.long q4), .second, .val (.int p5), .val (.int (1 : Int32)), .val (.int x10), .val (.long tm), .second, .val (.ref b230), .val (.long (-9223372036854775808 : Int64)), .second, .val (.long q2), .second, .val (.long (own_max q2 q3)), .second, .val (.long (own_max (own_max q2 q3) q4)), .second, .val (.int (1 : Int32))] [(.long tm), (.ref b230)])
      obtain ⟨cq242, kq242, q242a, q242b, q242c⟩ := isOf hZ e240 P237_0
      obtain ⟨_, _, ⟨T242, L242, k242, n242⟩, -, X242, ⟨Lc242, hQ242, l242, y242, z242⟩, st242⟩ := X240.virtualBack hx (y := (⟨"com/example/tote/tote/storage/OffsetIndex", "floorTime", "(J)I"⟩ : MethodName)) (z := (⟨"com/example/tote/tote/storage/OffsetIndex", "floorTime", "(J)I"⟩ : MethodName)) hown (mvT hZ (W 29 rfl)) (mvT hZ (W 30 rfl)) (notFace_of_selects (args := #[]) (mvT hZ (W 32 rfl))) (mvT hZ (W 32 rfl)) (mvT hZ (W 31 rfl)) (by decide) (backOf (W := 0) (rm4n1 l Z a0 hw [] b230 tm b3_232 k3_232 (-9223372036854775808 : Int64) (0 : Int32) T237.heap n0 Z0_c238 P237_3 P237_7 P237_10 (Or.inr (⟨hc165_241, rfl⟩))) hZ (W 33 rfl) (W 2 rfl) (by decide) (by decide)) q242a q242c (g := (mkF m 226 #[.val (.long q1), .second, .val (.long q2), .second, .val (.long q3), .second, .val (.long q4), .second, .val (.int p5), .val (.int (1 : Int32)), .val (.int x10), .val (.long tm), .second, .val (.ref b230), .val (.long (-9223372036854775808 : Int64)), .second, .val (.long q2), .second, .val (.long (own_max q2 q3)), .second, .val (.long (own_max (own_max q2 q3) q4)), .second, .val (.int (1 : Int32))] [(.long tm), (.ref b230)])) rfl (by rw [hml]; rfl) (Steps.refl _) (argsL := [(.long tm)]) (rest := []) (lenOf pd_1 rfl) rfl (by show 2 * 0 + _ ≤ _; exact Nat.le_of_eq rfl) (hb hby at_226) (fun _ _ => ⟨rfl, e240, (by decide : 4 + 0 ≤ _), (by decide : 55 + 0 ≤ _)⟩)
      dsimp only [Pt.U, Pt.locs, Pt.cells, Pt.slots] at X242 l242 y242 z242 st242 hQ242
      subst l242 y242 z242
      obtain ⟨rfl, N242q, e242⟩ := hQ242
      have N242 := Fr.app N240 N242q
      refine own_goT st242 ?_
      show own_Run p e below _ T242 (mkF m 229 #[.val (.long q1), .second, .val (.long q2), .second, .val (.long q3), .second, .val (.long q4), .second, .val (.int p5), .val (.int (1 : Int32)), .val (.int x10), .val (.long tm), .second, .val (.ref b230), .val (.long (-9223372036854775808 : Int64)), .second, .val (.long q2), .second, .val (.long (own_max q2 q3)), .second, .val (.long (own_max (own_max q2 q3) q4)), .second, .val (.int (1 : Int32))] [(.int (0 : Int32))])
      refine own_go (fun _ k => XS.iload X242.here hx rfl (hb hby at_229) rfl k) ?_
      refine own_go (fun _ k => XS.iconst X242.here hx rfl (hb hby at_231) k) ?_
      refine own_go (fun _ k => XS.isub X242.here hx rfl (hb hby at_232) rfl k) ?_
      show own_Run p e below _ T242 (mkF m 233 #[.val (.long q1), .second, .val (.long q2), .second, .val (.long q3), .second, .val (.long q4), .second, .val (.int p5), .val (.int (1 : Int32)), .val (.int x10), .val (.long tm), .second, .val (.ref b230), .val (.long (-9223372036854775808 : Int64)), .second, .val (.long q2), .second, .val (.long (own_max q2 q3)), .second, .val (.long (own_max (own_max q2 q3) q4)), .second, .val (.int (1 : Int32))] [(.int ((1 : Int32) - (1 : Int32))), (.int (0 : Int32))])
      rw [show ((1 : Int32) - (1 : Int32)) = (0 : Int32) by decide]
      show own_Run p e below _ T242 (mkF m 233 #[.val (.long q1), .second, .val (.long q2), .second, .val (.long q3), .second, .val (.long q4), .second, .val (.int p5), .val (.int (1 : Int32)), .val (.int x10), .val (.long tm), .second, .val (.ref b230), .val (.long (-9223372036854775808 : Int64)), .second, .val (.long q2), .second, .val (.long (own_max q2 q3)), .second, .val (.long (own_max (own_max q2 q3) q4)), .second, .val (.int (1 : Int32))] [(.int (0 : Int32)), (.int (0 : Int32))])
      refine own_go (fun _ k => XS.icmpNo X242.here hx rfl (hb hby at_233) rfl (teq (by decide : (0 : Int32) = (0 : Int32))).2 k) ?_
      show own_Run p e below _ T242 (mkF m 236 #[.val (.long q1), .second, .val (.long q2), .second, .val (.long q3), .second, .val (.long q4), .second, .val (.int p5), .val (.int (1 : Int32)), .val (.int x10), .val (.long tm), .second, .val (.ref b230), .val (.long (-9223372036854775808 : Int64)), .second, .val (.long q2), .second, .val (.long (own_max q2 q3)), .second, .val (.long (own_max (own_max q2 q3) q4)), .second, .val (.int (1 : Int32))] [])
      refine own_go (fun _ k => XS.iconst X242.here hx rfl (hb hby at_236) k) ?_
      refine own_go (fun _ k => XS.goto X242.here hx rfl (pc0 := 237) (pc' := 241) rfl (hb hby at_237) (by decide) (by decide) k) ?_
      show own_Run p e below _ T242 (mkF m 241 #[.val (.long q1), .second, .val (.long q2), .second, .val (.long q3), .second, .val (.long q4), .second, .val (.int p5), .val (.int (1 : Int32)), .val (.int x10), .val (.long tm), .second, .val (.ref b230), .val (.long (-9223372036854775808 : Int64)), .second, .val (.long q2), .second, .val (.long (own_max q2 q3)), .second, .val (.long (own_max (own_max q2 q3) q4)), .second, .val (.int (1 : Int32))] [(.int (1 : Int32))])
      refine own_done (Q := fun v h L => Q0 Z q1 q2 q3 q4 p5 h0 n0 v h L) (v := (some (.int (1 : Int32)))) X242 (fun h => by rw [hret] at h; cases h) hlk (fun fs hr => retN X242 hx (t := .boolean) hret (by simp) (hb hby at_241) hr) ?_ (by decide) (by decide)
      show Q0 Z q1 q2 q3 q4 p5 h0 n0 _ T242.heap _
      rw [e242]
      exact ⟨rfl, N242⟩
    · refine own_go (fun _ k => XS.ifYes X240.here hx rfl (pc0 := 165) (pc' := 171) rfl (hb hby at_165) rfl (own_lcF hc165_241).2.1 (by decide) (by decide) k) ?_
      show own_Run p e below _ T240 (mkF m 171 #[.val (.long q1), .second, .val (.long q2), .second, .val (.long q3), .second, .val (.long q4), .second, .val (.int p5), .val (.int (1 : Int32)), .val (.int x10), .val (.long tm), .second, .val (.ref b230), .val (.long (-9223372036854775808 : Int64)), .second, .val (.long q2), .second, .val (.long (own_max q2 q3)), .second, .val (.long (own_max (own_max q2 q3) q4)), .second, .val (.int (0 : Int32))] [])
      refine own_go (fun _ k => XS.iload X240.here hx rfl (hb hby at_171) rfl k) ?_
      refine own_go (fun _ k => XS.iconst X240.here hx rfl (hb hby at_173) k) ?_
      show own_Run p e below _ T240 (mkF m 174 #[.val (.long q1), .second, .val (.long q2), .second, .val (.long q3), .second, .val (.long q4), .second, .val (.int p5), .val (.int (1 : Int32)), .val (.int x10), .val (.long tm), .second, .val (.ref b230), .val (.long (-9223372036854775808 : Int64)), .second, .val (.long q2), .second, .val (.long (own_max q2 q3)), .second, .val (.long (own_max (own_max q2 q3) q4)), .second, .val (.int (0 : Int32))] [(.int (1 : Int32)), (.int (1 : Int32))])
      refine own_go (fun _ k => XS.icmpYes X240.here hx rfl (pc0 := 174) (pc' := 188) rfl (hb hby at_174) rfl (flt (by decide : ¬ ((1 : Int32) < (1 : Int32)))).2.2.2 (by decide) (by decide) k) ?_
      show own_Run p e below _ T240 (mkF m 188 #[.val (.long q1), .second, .val (.long q2), .second, .val (.long q3), .second, .val (.long q4), .second, .val (.int p5), .val (.int (1 : Int32)), .val (.int x10), .val (.long tm), .second, .val (.ref b230), .val (.long (-9223372036854775808 : Int64)), .second, .val (.long q2), .second, .val (.long (own_max q2 q3)), .second, .val (.long (own_max (own_max q2 q3) q4)), .second, .val (.int (0 : Int32))] [])
      refine own_go (fun _ k => XS.iload X240.here hx rfl (hb hby at_188) rfl k) ?_
      refine own_go (fun _ k => XS.iconst X240.here hx rfl (hb hby at_190) k) ?_
      show own_Run p e below _ T240 (mkF m 191 #[.val (.long q1), .second, .val (.long q2), .second, .val (.long q3), .second, .val (.long q4), .second, .val (.int p5), .val (.int (1 : Int32)), .val (.int x10), .val (.long tm), .second, .val (.ref b230), .val (.long (-9223372036854775808 : Int64)), .second, .val (.long q2), .second, .val (.long (own_max q2 q3)), .second, .val (.long (own_max (own_max q2 q3) q4)), .second, .val (.int (0 : Int32))] [(.int (2 : Int32)), (.int (1 : Int32))])
      refine own_go (fun _ k => XS.icmpYes X240.here hx rfl (pc0 := 191) (pc' := 205) rfl (hb hby at_191) rfl (flt (by decide : ¬ ((2 : Int32) < (1 : Int32)))).2.2.2 (by decide) (by decide) k) ?_
      show own_Run p e below _ T240 (mkF m 205 #[.val (.long q1), .second, .val (.long q2), .second, .val (.long q3), .second, .val (.long q4), .second, .val (.int p5), .val (.int (1 : Int32)), .val (.int x10), .val (.long tm), .second, .val (.ref b230), .val (.long (-9223372036854775808 : Int64)), .second, .val (.long q2), .second, .val (.long (own_max q2 q3)), .second, .val (.long (own_max (own_max q2 q3) q4)), .second, .val (.int (0 : Int32))] [])
      refine own_go (fun _ k => XS.iload X240.here hx rfl (hb hby at_205) rfl k) ?_
      refine own_go (fun _ k => XS.iconst X240.here hx rfl (hb hby at_207) k) ?_
      show own_Run p e below _ T240 (mkF m 208 #[.val (.long q1), .second, .val (.long q2), .second, .val (.long q3), .second, .val (.long q4), .second, .val (.int p5), .val (.int (1 : Int32)), .val (.int x10), .val (.long tm), .second, .val (.ref b230), .val (.long (-9223372036854775808 : Int64)), .second, .val (.long q2), .second, .val (.long (own_max q2 q3)), .second, .val (.long (own_max (own_max q2 q3) q4)), .second, .val (.int (0 : Int32))] [(.int (3 : Int32)), (.int (1 : Int32))])
      refine own_go (fun _ k => XS.icmpYes X240.here hx rfl (pc0 := 208) (pc' := 222) rfl (hb hby at_208) rfl (flt (by decide : ¬ ((3 : Int32) < (1 : Int32)))).2.2.2 (by decide) (by decide) k) ?_
      show own_Run p e below _ T240 (mkF m 222 #[.val (.long q1), .second, .val (.long q2), .second, .val (.long q3), .second, .val (.long q4), .second, .val (.int p5), .val (.int (1 : Int32)), .val (.int x10), .val (.long tm), .second, .val (.ref b230), .val (.long (-9223372036854775808 : Int64)), .second, .val (.long q2), .second, .val (.long (own_max q2 q3)), .second, .val (.long (own_max (own_max q2 q3) q4)), .second, .val (.int (0 : Int32))] [])
      refine own_go (fun _ k => XS.aload X240.here hx rfl (hb hby at_222) rfl rfl k) ?_
      refine own_go (fun _ k => XS.lload X240.here hx rfl (hb hby at_224) rfl k) ?_
      show own_Run p e below _ T240 (mkF m 226 #[.val (.long q1), .second, .val (.long q2), .second, .val (.long q3), .second, .val (.long q4), .second, .val (.int p5), .val (.int (1 : Int32)), .val (.int x10), .val (.long tm), .second, .val (.ref b230), .val (.long (-9223372036854775808 : Int64)), .second, .val (.long q2), .second, .val (.long (own_max q2 q3)), .second, .val (.long (own_max (own_max q2 q3) q4)), .second, .val (.int (0 : Int32))] [(.long tm), (.ref b230)])
      obtain ⟨cq243, kq243, q243a, q243b, q243c⟩ := isOf hZ e240 P237_0
      obtain ⟨_, _, ⟨T243, L243, k243, n243⟩, -, X243, ⟨Lc243, hQ243, l243, y243, z243⟩, st243⟩ := X240.virtualBack hx (y := (⟨"com/example/tote/tote/storage/OffsetIndex", "floorTime", "(J)I"⟩ : MethodName)) (z := (⟨"com/example/tote/tote/storage/OffsetIndex", "floorTime", "(J)I"⟩ : MethodName)) hown (mvT hZ (W 29 rfl)) (mvT hZ (W 30 rfl)) (notFace_of_selects (args := #[]) (mvT hZ (W 32 rfl))) (mvT hZ (W 32 rfl)) (mvT hZ (W 31 rfl)) (by decide) (backOf (W := 0) (rm4n1 l Z a0 hw [] b230 tm b3_232 k3_232 (-9223372036854775808 : Int64) (-1 : Int32) T237.heap n0 Z0_c238 P237_3 P237_7 P237_10 (Or.inl ⟨hc165_241, rfl⟩)) hZ (W 33 rfl) (W 2 rfl) (by decide) (by decide)) q243a q243c (g := (mkF m 226 #[.val (.long q1), .second, .val (.long q2), .second, .val (.long q3), .second, .val (.long q4), .second, .val (.int p5), .val (.int (1 : Int32)), .val (.int x10), .val (.long tm), .second, .val (.ref b230), .val (.long (-9223372036854775808 : Int64)), .second, .val (.long q2), .second, .val (.long (own_max q2 q3)), .second, .val (.long (own_max (own_max q2 q3) q4)), .second, .val (.int (0 : Int32))] [(.long tm), (.ref b230)])) rfl (by rw [hml]; rfl) (Steps.refl _) (argsL := [(.long tm)]) (rest := []) (lenOf pd_1 rfl) rfl (by show 2 * 0 + _ ≤ _; exact Nat.le_of_eq rfl) (hb hby at_226) (fun _ _ => ⟨rfl, e240, (by decide : 4 + 0 ≤ _), (by decide : 55 + 0 ≤ _)⟩)
      dsimp only [Pt.U, Pt.locs, Pt.cells, Pt.slots] at X243 l243 y243 z243 st243 hQ243
      subst l243 y243 z243
      obtain ⟨rfl, N243q, e243⟩ := hQ243
      have N243 := Fr.app N240 N243q
      refine own_goT st243 ?_
      show own_Run p e below _ T243 (mkF m 229 #[.val (.long q1), .second, .val (.long q2), .second, .val (.long q3), .second, .val (.long q4), .second, .val (.int p5), .val (.int (1 : Int32)), .val (.int x10), .val (.long tm), .second, .val (.ref b230), .val (.long (-9223372036854775808 : Int64)), .second, .val (.long q2), .second, .val (.long (own_max q2 q3)), .second, .val (.long (own_max (own_max q2 q3) q4)), .second, .val (.int (0 : Int32))] [(.int (-1 : Int32))])
      refine own_go (fun _ k => XS.iload X243.here hx rfl (hb hby at_229) rfl k) ?_
      refine own_go (fun _ k => XS.iconst X243.here hx rfl (hb hby at_231) k) ?_
      refine own_go (fun _ k => XS.isub X243.here hx rfl (hb hby at_232) rfl k) ?_
      show own_Run p e below _ T243 (mkF m 233 #[.val (.long q1), .second, .val (.long q2), .second, .val (.long q3), .second, .val (.long q4), .second, .val (.int p5), .val (.int (1 : Int32)), .val (.int x10), .val (.long tm), .second, .val (.ref b230), .val (.long (-9223372036854775808 : Int64)), .second, .val (.long q2), .second, .val (.long (own_max q2 q3)), .second, .val (.long (own_max (own_max q2 q3) q4)), .second, .val (.int (0 : Int32))] [(.int ((0 : Int32) - (1 : Int32))), (.int (-1 : Int32))])
      rw [show ((0 : Int32) - (1 : Int32)) = (-1 : Int32) by decide]
      show own_Run p e below _ T243 (mkF m 233 #[.val (.long q1), .second, .val (.long q2), .second, .val (.long q3), .second, .val (.long q4), .second, .val (.int p5), .val (.int (1 : Int32)), .val (.int x10), .val (.long tm), .second, .val (.ref b230), .val (.long (-9223372036854775808 : Int64)), .second, .val (.long q2), .second, .val (.long (own_max q2 q3)), .second, .val (.long (own_max (own_max q2 q3) q4)), .second, .val (.int (0 : Int32))] [(.int (-1 : Int32)), (.int (-1 : Int32))])
      refine own_go (fun _ k => XS.icmpNo X243.here hx rfl (hb hby at_233) rfl (teq (by decide : (-1 : Int32) = (-1 : Int32))).2 k) ?_
      show own_Run p e below _ T243 (mkF m 236 #[.val (.long q1), .second, .val (.long q2), .second, .val (.long q3), .second, .val (.long q4), .second, .val (.int p5), .val (.int (1 : Int32)), .val (.int x10), .val (.long tm), .second, .val (.ref b230), .val (.long (-9223372036854775808 : Int64)), .second, .val (.long q2), .second, .val (.long (own_max q2 q3)), .second, .val (.long (own_max (own_max q2 q3) q4)), .second, .val (.int (0 : Int32))] [])
      refine own_go (fun _ k => XS.iconst X243.here hx rfl (hb hby at_236) k) ?_
      refine own_go (fun _ k => XS.goto X243.here hx rfl (pc0 := 237) (pc' := 241) rfl (hb hby at_237) (by decide) (by decide) k) ?_
      show own_Run p e below _ T243 (mkF m 241 #[.val (.long q1), .second, .val (.long q2), .second, .val (.long q3), .second, .val (.long q4), .second, .val (.int p5), .val (.int (1 : Int32)), .val (.int x10), .val (.long tm), .second, .val (.ref b230), .val (.long (-9223372036854775808 : Int64)), .second, .val (.long q2), .second, .val (.long (own_max q2 q3)), .second, .val (.long (own_max (own_max q2 q3) q4)), .second, .val (.int (0 : Int32))] [(.int (1 : Int32))])
      refine own_done (Q := fun v h L => Q0 Z q1 q2 q3 q4 p5 h0 n0 v h L) (v := (some (.int (1 : Int32)))) X243 (fun h => by rw [hret] at h; cases h) hlk (fun fs hr => retN X243 hx (t := .boolean) hret (by simp) (hb hby at_241) hr) ?_ (by decide) (by decide)
      show Q0 Z q1 q2 q3 q4 p5 h0 n0 _ T243.heap _
      rw [e243]
      exact ⟨rfl, N243⟩
  · show own_Run p e below _ T232 (mkF m 62 #[.val (.long q1), .second, .val (.long q2), .second, .val (.long q3), .second, .val (.long q4), .second, .val (.int p5), .val (.int (2 : Int32)), .val (.int x10), .val (.long tm), .second, .val (.ref b230), .unset, .unset, .unset, .unset, .unset, .unset, .unset, .unset, .unset] [])
    refine own_go (fun _ k => XS.iload X232.here hx rfl (hb hby at_62) rfl k) ?_
    show own_Run p e below _ T232 (mkF m 64 #[.val (.long q1), .second, .val (.long q2), .second, .val (.long q3), .second, .val (.long q4), .second, .val (.int p5), .val (.int (2 : Int32)), .val (.int x10), .val (.long tm), .second, .val (.ref b230), .unset, .unset, .unset, .unset, .unset, .unset, .unset, .unset, .unset] [(.int (2 : Int32))])
    refine own_go (fun _ k => XS.ifNo X232.here hx rfl (hb hby at_64) rfl ((if0 _ _).trans (tlt (by decide : (0 : Int32) < (2 : Int32))).2.2.2) k) ?_
    show own_Run p e below _ T232 (mkF m 67 #[.val (.long q1), .second, .val (.long q2), .second, .val (.long q3), .second, .val (.long q4), .second, .val (.int p5), .val (.int (2 : Int32)), .val (.int x10), .val (.long tm), .second, .val (.ref b230), .unset, .unset, .unset, .unset, .unset, .unset, .unset, .unset, .unset] [])
    refine own_go (fun _ k => XS.aload X232.here hx rfl (hb hby at_67) rfl rfl k) ?_
    refine own_go (fun _ k => XS.lconst X232.here hx rfl (hb hby at_69) k) ?_
    refine own_go (fun _ k => XS.lconst X232.here hx rfl (hb hby at_70) k) ?_
    refine own_go (fun _ k => XS.lloadN X232.here hx rfl (hb hby at_71) rfl k) ?_
    show own_Run p e below _ T232 (mkF m 72 #[.val (.long q1), .second, .val (.long q2), .second, .val (.long q3), .second, .val (.long q4), .second, .val (.int p5), .val (.int (2 : Int32)), .val (.int x10), .val (.long tm), .second, .val (.ref b230), .unset, .unset, .unset, .unset, .unset, .unset, .unset, .unset, .unset] [(.long q2), (.long (0 : Int64)), (.long (0 : Int64)), (.ref b230)])
    obtain ⟨cq244, kq244, q244a, q244b, q244c⟩ := isOf hZ rfl P232_0
    obtain ⟨_, _, ⟨T244, L244, k244, n244⟩, -, X244, ⟨Lc244, hQ244, l244, y244, z244⟩, st244⟩ := X232.virtualBack hx (y := (⟨"com/example/tote/tote/storage/OffsetIndex", "add", "(JJJ)V"⟩ : MethodName)) (z := (⟨"com/example/tote/tote/storage/OffsetIndex", "add", "(JJJ)V"⟩ : MethodName)) hown (mvT hZ (W 36 rfl)) (mvT hZ (W 37 rfl)) (notFace_of_selects (args := #[]) (mvT hZ (W 39 rfl))) (mvT hZ (W 39 rfl)) (mvT hZ (W 38 rfl)) (by decide) (backOf (W := 0) (rm5c0 l Z a0 hw [] b230 (0 : Int64) (0 : Int64) q2 b1_232 b2_232 b3_232 k1_232 k2_232 k3_232 (-9223372036854775808 : Int64) (0 : Int64) (0 : Int64) T232.heap n0 Z0_c233 P232_0 P232_1 P232_2 P232_3 P232_4 P232_5 P232_6 P232_7 P232_8 P232_9 P232_10 g_b230 g_b1_232 g_b2_232 g_b3_232 P232_14 P232_15 P232_16 P232_17 P232_18 P232_19 (by decide) (by decide)) hZ (W 40 rfl) (W 2 rfl) (by decide) (by decide)) q244a q244c (g := (mkF m 72 #[.val (.long q1), .second, .val (.long q2), .second, .val (.long q3), .second, .val (.long q4), .second, .val (.int p5), .val (.int (2 : Int32)), .val (.int x10), .val (.long tm), .second, .val (.ref b230), .unset, .unset, .unset, .unset, .unset, .unset, .unset, .unset, .unset] [(.long q2), (.long (0 : Int64)), (.long (0 : Int64)), (.ref b230)])) rfl (by rw [hml]; rfl) (Steps.refl _) (argsL := [(.long (0 : Int64)), (.long (0 : Int64)), (.long q2)]) (rest := []) (lenOf pd_5 rfl) rfl (by show 2 * 0 + _ ≤ _; exact Nat.le_of_eq rfl) (hb hby at_72) (fun _ _ => ⟨rfl, rfl, (by decide : 4 + 0 ≤ _), (by decide : 55 + 0 ≤ _)⟩)
    dsimp only [Pt.U, Pt.locs, Pt.cells, Pt.slots] at X244 l244 y244 z244 st244 hQ244
    subst l244 y244 z244
    obtain ⟨rfl, N244q, K244, P244_0, P244_1, P244_2, P244_3, P244_4, P244_5, P244_6, P244_7, P244_8, P244_9, P244_10⟩ := hQ244
    have N244 := Fr.app N232 N244q
    refine own_goT st244 ?_
    show own_Run p e below _ T244 (mkF m 75 #[.val (.long q1), .second, .val (.long q2), .second, .val (.long q3), .second, .val (.long q4), .second, .val (.int p5), .val (.int (2 : Int32)), .val (.int x10), .val (.long tm), .second, .val (.ref b230), .unset, .unset, .unset, .unset, .unset, .unset, .unset, .unset, .unset] [])
    have Z0_c245 := Nat.le_trans Z0_c233 K244.1
    have K0_c245 := K0_c233.trans K244 (allS (Or.inr sz_b230) (allS (Or.inr sz_b1_232) (allS (Or.inr sz_b2_232) (allS (Or.inr sz_b3_232) all0))))
    have P232_0_c245 := P232_0.keep K244
    rw [own_maxMin] at P244_4
    refine own_go (fun _ k => XS.iload X244.here hx rfl (hb hby at_75) rfl k) ?_
    refine own_go (fun _ k => XS.iconst X244.here hx rfl (hb hby at_77) k) ?_
    show own_Run p e below _ T244 (mkF m 78 #[.val (.long q1), .second, .val (.long q2), .second, .val (.long q3), .second, .val (.long q4), .second, .val (.int p5), .val (.int (2 : Int32)), .val (.int x10), .val (.long tm), .second, .val (.ref b230), .unset, .unset, .unset, .unset, .unset, .unset, .unset, .unset, .unset] [(.int (1 : Int32)), (.int (2 : Int32))])
    refine own_go (fun _ k => XS.icmpNo X244.here hx rfl (hb hby at_78) rfl (tlt (by decide : (1 : Int32) < (2 : Int32))).2.2.2 k) ?_
    show own_Run p e below _ T244 (mkF m 81 #[.val (.long q1), .second, .val (.long q2), .second, .val (.long q3), .second, .val (.long q4), .second, .val (.int p5), .val (.int (2 : Int32)), .val (.int x10), .val (.long tm), .second, .val (.ref b230), .unset, .unset, .unset, .unset, .unset, .unset, .unset, .unset, .unset] [])
    refine own_go (fun _ k => XS.aload X244.here hx rfl (hb hby at_81) rfl rfl k) ?_
    refine own_go (fun _ k => XS.lconst X244.here hx rfl (hb hby at_83) k) ?_
    refine own_go (fun _ k => XS.lconst X244.here hx rfl (hb hby at_84) k) ?_
    refine own_go (fun _ k => XS.lload X244.here hx rfl (hb hby at_85) rfl k) ?_
    show own_Run p e below _ T244 (mkF m 87 #[.val (.long q1), .second, .val (.long q2), .second, .val (.long q3), .second, .val (.long q4), .second, .val (.int p5), .val (.int (2 : Int32)), .val (.int x10), .val (.long tm), .second, .val (.ref b230), .unset, .unset, .unset, .unset, .unset, .unset, .unset, .unset, .unset] [(.long q3), (.long (1 : Int64)), (.long (1 : Int64)), (.ref b230)])
    obtain ⟨cq246, kq246, q246a, q246b, q246c⟩ := isOf hZ rfl P244_0
    obtain ⟨_, _, ⟨T246, L246, k246, n246⟩, -, X246, ⟨Lc246, hQ246, l246, y246, z246⟩, st246⟩ := X244.virtualBack hx (y := (⟨"com/example/tote/tote/storage/OffsetIndex", "add", "(JJJ)V"⟩ : MethodName)) (z := (⟨"com/example/tote/tote/storage/OffsetIndex", "add", "(JJJ)V"⟩ : MethodName)) hown (mvT hZ (W 36 rfl)) (mvT hZ (W 37 rfl)) (notFace_of_selects (args := #[]) (mvT hZ (W 39 rfl))) (mvT hZ (W 39 rfl)) (mvT hZ (W 38 rfl)) (by decide) (backOf (W := 0) (rm5c1 l Z a0 hw [] b230 (1 : Int64) (1 : Int64) q3 b1_232 b2_232 b3_232 k1_232 k2_232 k3_232 q2 (0 : Int64) (0 : Int64) (((0 : Int64) - (0 : Int64)).toInt32) ((0 : Int64).toInt32) (-9223372036854775808 : Int64) T244.heap n0 Z0_c245 P244_0 P244_1 P244_2 P244_3 P244_4 P244_5 P244_6 P244_7 P244_8 P244_9 P244_10 g_b230 g_b1_232 g_b2_232 g_b3_232 P232_14 P232_15 P232_16 P232_17 P232_18 P232_19 (by decide) (by decide) (by decide)) hZ (W 40 rfl) (W 2 rfl) (by decide) (by decide)) q246a q246c (g := (mkF m 87 #[.val (.long q1), .second, .val (.long q2), .second, .val (.long q3), .second, .val (.long q4), .second, .val (.int p5), .val (.int (2 : Int32)), .val (.int x10), .val (.long tm), .second, .val (.ref b230), .unset, .unset, .unset, .unset, .unset, .unset, .unset, .unset, .unset] [(.long q3), (.long (1 : Int64)), (.long (1 : Int64)), (.ref b230)])) rfl (by rw [hml]; rfl) (Steps.refl _) (argsL := [(.long (1 : Int64)), (.long (1 : Int64)), (.long q3)]) (rest := []) (lenOf pd_5 rfl) rfl (by show 2 * 0 + _ ≤ _; exact Nat.le_of_eq rfl) (hb hby at_87) (fun _ _ => ⟨rfl, rfl, (by decide : 4 + 0 ≤ _), (by decide : 55 + 0 ≤ _)⟩)
    dsimp only [Pt.U, Pt.locs, Pt.cells, Pt.slots] at X246 l246 y246 z246 st246 hQ246
    subst l246 y246 z246
    obtain ⟨rfl, N246q, K246, P246_0, P246_1, P246_2, P246_3, P246_4, P246_5, P246_6, P246_7, P246_8, P246_9, P246_10⟩ := hQ246
    have N246 := Fr.app N244 N246q
    refine own_goT st246 ?_
    show own_Run p e below _ T246 (mkF m 90 #[.val (.long q1), .second, .val (.long q2), .second, .val (.long q3), .second, .val (.long q4), .second, .val (.int p5), .val (.int (2 : Int32)), .val (.int x10), .val (.long tm), .second, .val (.ref b230), .unset, .unset, .unset, .unset, .unset, .unset, .unset, .unset, .unset] [])
    have Z0_c247 := Nat.le_trans Z0_c245 K246.1
    have K0_c247 := K0_c245.trans K246 (allS (Or.inr sz_b230) (allS (Or.inr sz_b1_232) (allS (Or.inr sz_b2_232) (allS (Or.inr sz_b3_232) all0))))
    have P244_0_c247 := P244_0.keep K246
    refine own_go (fun _ k => XS.iload X246.here hx rfl (hb hby at_90) rfl k) ?_
    refine own_go (fun _ k => XS.iconst X246.here hx rfl (hb hby at_92) k) ?_
    show own_Run p e below _ T246 (mkF m 93 #[.val (.long q1), .second, .val (.long q2), .second, .val (.long q3), .second, .val (.long q4), .second, .val (.int p5), .val (.int (2 : Int32)), .val (.int x10), .val (.long tm), .second, .val (.ref b230), .unset, .unset, .unset, .unset, .unset, .unset, .unset, .unset, .unset] [(.int (2 : Int32)), (.int (2 : Int32))])
    refine own_go (fun _ k => XS.icmpYes X246.here hx rfl (pc0 := 93) (pc' := 109) rfl (hb hby at_93) rfl (flt (by decide : ¬ ((2 : Int32) < (2 : Int32)))).2.2.2 (by decide) (by decide) k) ?_
    show own_Run p e below _ T246 (mkF m 109 #[.val (.long q1), .second, .val (.long q2), .second, .val (.long q3), .second, .val (.long q4), .second, .val (.int p5), .val (.int (2 : Int32)), .val (.int x10), .val (.long tm), .second, .val (.ref b230), .unset, .unset, .unset, .unset, .unset, .unset, .unset, .unset, .unset] [])
    refine own_go (fun _ k => XS.iload X246.here hx rfl (hb hby at_109) rfl k) ?_
    refine own_go (fun _ k => XS.iconst X246.here hx rfl (hb hby at_111) k) ?_
    show own_Run p e below _ T246 (mkF m 112 #[.val (.long q1), .second, .val (.long q2), .second, .val (.long q3), .second, .val (.long q4), .second, .val (.int p5), .val (.int (2 : Int32)), .val (.int x10), .val (.long tm), .second, .val (.ref b230), .unset, .unset, .unset, .unset, .unset, .unset, .unset, .unset, .unset] [(.int (3 : Int32)), (.int (2 : Int32))])
    refine own_go (fun _ k => XS.icmpYes X246.here hx rfl (pc0 := 112) (pc' := 127) rfl (hb hby at_112) rfl (flt (by decide : ¬ ((3 : Int32) < (2 : Int32)))).2.2.2 (by decide) (by decide) k) ?_
    show own_Run p e below _ T246 (mkF m 127 #[.val (.long q1), .second, .val (.long q2), .second, .val (.long q3), .second, .val (.long q4), .second, .val (.int p5), .val (.int (2 : Int32)), .val (.int x10), .val (.long tm), .second, .val (.ref b230), .unset, .unset, .unset, .unset, .unset, .unset, .unset, .unset, .unset] [])
    refine own_go (X246.ldc2Long hx hown (mvT hZ (W 24 rfl)) (g := (mkF m 127 #[.val (.long q1), .second, .val (.long q2), .second, .val (.long q3), .second, .val (.long q4), .second, .val (.int p5), .val (.int (2 : Int32)), .val (.int x10), .val (.long tm), .second, .val (.ref b230), .unset, .unset, .unset, .unset, .unset, .unset, .unset, .unset, .unset] [])) rfl (hb hby at_127)) ?_
    show own_Run p e below _ T246 (mkF m 130 #[.val (.long q1), .second, .val (.long q2), .second, .val (.long q3), .second, .val (.long q4), .second, .val (.int p5), .val (.int (2 : Int32)), .val (.int x10), .val (.long tm), .second, .val (.ref b230), .unset, .unset, .unset, .unset, .unset, .unset, .unset, .unset, .unset] [(.long (-9223372036854775808 : Int64))])
    refine own_go (fun _ k => XS.lstore X246.here hx rfl (hb hby at_130) rfl (l' := #[.val (.long q1), .second, .val (.long q2), .second, .val (.long q3), .second, .val (.long q4), .second, .val (.int p5), .val (.int (2 : Int32)), .val (.int x10), .val (.long tm), .second, .val (.ref b230), .val (.long (-9223372036854775808 : Int64)), .second, .unset, .unset, .unset, .unset, .unset, .unset, .unset]) rfl k) ?_
    refine own_go (fun _ k => XS.lloadN X246.here hx rfl (hb hby at_132) rfl k) ?_
    refine own_go (fun _ k => XS.lstore X246.here hx rfl (hb hby at_133) rfl (l' := #[.val (.long q1), .second, .val (.long q2), .second, .val (.long q3), .second, .val (.long q4), .second, .val (.int p5), .val (.int (2 : Int32)), .val (.int x10), .val (.long tm), .second, .val (.ref b230), .val (.long (-9223372036854775808 : Int64)), .second, .val (.long q2), .second, .unset, .unset, .unset, .unset, .unset]) rfl k) ?_
    refine own_go (fun _ k => XS.lloadN X246.here hx rfl (hb hby at_135) rfl k) ?_
    show own_Run p e below _ T246 (mkF m 136 #[.val (.long q1), .second, .val (.long q2), .second, .val (.long q3), .second, .val (.long q4), .second, .val (.int p5), .val (.int (2 : Int32)), .val (.int x10), .val (.long tm), .second, .val (.ref b230), .val (.long (-9223372036854775808 : Int64)), .second, .val (.long q2), .second, .unset, .unset, .unset, .unset, .unset] [(.long q2)])
    refine own_go (fun _ k => XS.lload X246.here hx rfl (hb hby at_136) rfl k) ?_
    show own_Run p e below _ T246 (mkF m 138 #[.val (.long q1), .second, .val (.long q2), .second, .val (.long q3), .second, .val (.long q4), .second, .val (.int p5), .val (.int (2 : Int32)), .val (.int x10), .val (.long tm), .second, .val (.ref b230), .val (.long (-9223372036854775808 : Int64)), .second, .val (.long q2), .second, .unset, .unset, .unset, .unset, .unset] [(.long q3), (.long q2)])
    obtain ⟨_, _, ⟨T248, L248, k248, n248⟩, -, X248, ⟨Lc248, hQ248, l248, y248, z248⟩, st248⟩ := Jvm.LawKit.callS X246 hx (y := (⟨"java/lang/Math", "max", "(JJ)J"⟩ : MethodName)) hown (mvT hZ (W 25 rfl)) (mvT hZ (W 26 rfl)) (mvT hZ (W 27 rfl)) (mvT hZ (W 28 rfl)) (by decide) (backOf (W := 0) (rm3 l Z a0 hw [] q2 q3 T246.heap n0 Z0_c247 ) hZ (W 28 rfl) (W 27 rfl) (by decide) (by decide)) (g := (mkF m 138 #[.val (.long q1), .second, .val (.long q2), .second, .val (.long q3), .second, .val (.long q4), .second, .val (.int p5), .val (.int (2 : Int32)), .val (.int x10), .val (.long tm), .second, .val (.ref b230), .val (.long (-9223372036854775808 : Int64)), .second, .val (.long q2), .second, .unset, .unset, .unset, .unset, .unset] [(.long q3), (.long q2)])) rfl (by rw [hml]; rfl) (argsL := [(.long q2), (.long q3)]) (rest := []) (lenOf pd_3 rfl) rfl (by show 2 * 0 + _ ≤ _; exact Nat.le_of_eq rfl) (hb hby at_138) (fun _ _ => ⟨rfl, rfl, (by decide : 4 + 0 ≤ _), (by decide : 55 + 0 ≤ _)⟩)
    dsimp only [Pt.U, Pt.locs, Pt.cells, Pt.slots] at X248 l248 y248 z248 st248 hQ248
    subst l248 y248 z248
    obtain ⟨rfl, N248q, e248⟩ := hQ248
    have N248 := Fr.app N246 N248q
    refine own_go st248 ?_
    show own_Run p e below _ T248 (mkF m 141 #[.val (.long q1), .second, .val (.long q2), .second, .val (.long q3), .second, .val (.long q4), .second, .val (.int p5), .val (.int (2 : Int32)), .val (.int x10), .val (.long tm), .second, .val (.ref b230), .val (.long (-9223372036854775808 : Int64)), .second, .val (.long q2), .second, .unset, .unset, .unset, .unset, .unset] [(.long (own_max q2 q3))])
    refine own_go (fun _ k => XS.lstore X248.here hx rfl (hb hby at_141) rfl (l' := #[.val (.long q1), .second, .val (.long q2), .second, .val (.long q3), .second, .val (.long q4), .second, .val (.int p5), .val (.int (2 : Int32)), .val (.int x10), .val (.long tm), .second, .val (.ref b230), .val (.long (-9223372036854775808 : Int64)), .second, .val (.long q2), .second, .val (.long (own_max q2 q3)), .second, .unset, .unset, .unset]) rfl k) ?_
    refine own_go (fun _ k => XS.lload X248.here hx rfl (hb hby at_143) rfl k) ?_
    refine own_go (fun _ k => XS.lload X248.here hx rfl (hb hby at_145) rfl k) ?_
    show own_Run p e below _ T248 (mkF m 147 #[.val (.long q1), .second, .val (.long q2), .second, .val (.long q3), .second, .val (.long q4), .second, .val (.int p5), .val (.int (2 : Int32)), .val (.int x10), .val (.long tm), .second, .val (.ref b230), .val (.long (-9223372036854775808 : Int64)), .second, .val (.long q2), .second, .val (.long (own_max q2 q3)), .second, .unset, .unset, .unset] [(.long q4), (.long (own_max q2 q3))])
    obtain ⟨_, _, ⟨T249, L249, k249, n249⟩, -, X249, ⟨Lc249, hQ249, l249, y249, z249⟩, st249⟩ := Jvm.LawKit.callS X248 hx (y := (⟨"java/lang/Math", "max", "(JJ)J"⟩ : MethodName)) hown (mvT hZ (W 25 rfl)) (mvT hZ (W 26 rfl)) (mvT hZ (W 27 rfl)) (mvT hZ (W 28 rfl)) (by decide) (backOf (W := 0) (rm3 l Z a0 hw [] (own_max q2 q3) q4 T246.heap n0 Z0_c247 ) hZ (W 28 rfl) (W 27 rfl) (by decide) (by decide)) (g := (mkF m 147 #[.val (.long q1), .second, .val (.long q2), .second, .val (.long q3), .second, .val (.long q4), .second, .val (.int p5), .val (.int (2 : Int32)), .val (.int x10), .val (.long tm), .second, .val (.ref b230), .val (.long (-9223372036854775808 : Int64)), .second, .val (.long q2), .second, .val (.long (own_max q2 q3)), .second, .unset, .unset, .unset] [(.long q4), (.long (own_max q2 q3))])) rfl (by rw [hml]; rfl) (argsL := [(.long (own_max q2 q3)), (.long q4)]) (rest := []) (lenOf pd_3 rfl) rfl (by show 2 * 0 + _ ≤ _; exact Nat.le_of_eq rfl) (hb hby at_147) (fun _ _ => ⟨rfl, e248, (by decide : 4 + 0 ≤ _), (by decide : 55 + 0 ≤ _)⟩)
    dsimp only [Pt.U, Pt.locs, Pt.cells, Pt.slots] at X249 l249 y249 z249 st249 hQ249
    subst l249 y249 z249
    obtain ⟨rfl, N249q, e249⟩ := hQ249
    have N249 := Fr.app N248 N249q
    refine own_go st249 ?_
    show own_Run p e below _ T249 (mkF m 150 #[.val (.long q1), .second, .val (.long q2), .second, .val (.long q3), .second, .val (.long q4), .second, .val (.int p5), .val (.int (2 : Int32)), .val (.int x10), .val (.long tm), .second, .val (.ref b230), .val (.long (-9223372036854775808 : Int64)), .second, .val (.long q2), .second, .val (.long (own_max q2 q3)), .second, .unset, .unset, .unset] [(.long (own_max (own_max q2 q3) q4))])
    refine own_go (fun _ k => XS.lstore X249.here hx rfl (hb hby at_150) rfl (l' := #[.val (.long q1), .second, .val (.long q2), .second, .val (.long q3), .second, .val (.long q4), .second, .val (.int p5), .val (.int (2 : Int32)), .val (.int x10), .val (.long tm), .second, .val (.ref b230), .val (.long (-9223372036854775808 : Int64)), .second, .val (.long q2), .second, .val (.long (own_max q2 q3)), .second, .val (.long (own_max (own_max q2 q3) q4)), .second, .unset]) rfl k) ?_
    refine own_go (fun _ k => XS.iconst X249.here hx rfl (hb hby at_152) k) ?_
    refine own_go (fun _ k => XS.istore X249.here hx rfl (hb hby at_153) rfl (l' := #[.val (.long q1), .second, .val (.long q2), .second, .val (.long q3), .second, .val (.long q4), .second, .val (.int p5), .val (.int (2 : Int32)), .val (.int x10), .val (.long tm), .second, .val (.ref b230), .val (.long (-9223372036854775808 : Int64)), .second, .val (.long q2), .second, .val (.long (own_max q2 q3)), .second, .val (.long (own_max (own_max q2 q3) q4)), .second, .val (.int (0 : Int32))]) rfl k) ?_
    refine own_go (fun _ k => XS.iload X249.here hx rfl (hb hby at_155) rfl k) ?_
    show own_Run p e below _ T249 (mkF m 157 #[.val (.long q1), .second, .val (.long q2), .second, .val (.long q3), .second, .val (.long q4), .second, .val (.int p5), .val (.int (2 : Int32)), .val (.int x10), .val (.long tm), .second, .val (.ref b230), .val (.long (-9223372036854775808 : Int64)), .second, .val (.long q2), .second, .val (.long (own_max q2 q3)), .second, .val (.long (own_max (own_max q2 q3) q4)), .second, .val (.int (0 : Int32))] [(.int (2 : Int32))])
    refine own_go (fun _ k => XS.ifNo X249.here hx rfl (hb hby at_157) rfl ((if0 _ _).trans (tlt (by decide : (0 : Int32) < (2 : Int32))).2.2.2) k) ?_
    show own_Run p e below _ T249 (mkF m 160 #[.val (.long q1), .second, .val (.long q2), .second, .val (.long q3), .second, .val (.long q4), .second, .val (.int p5), .val (.int (2 : Int32)), .val (.int x10), .val (.long tm), .second, .val (.ref b230), .val (.long (-9223372036854775808 : Int64)), .second, .val (.long q2), .second, .val (.long (own_max q2 q3)), .second, .val (.long (own_max (own_max q2 q3) q4)), .second, .val (.int (0 : Int32))] [])
    refine own_go (fun _ k => XS.lload X249.here hx rfl (hb hby at_160) rfl k) ?_
    refine own_go (fun _ k => XS.lload X249.here hx rfl (hb hby at_162) rfl k) ?_
    refine own_go (fun _ k => XS.lcmp X249.here hx rfl (hb hby at_164) rfl k) ?_
    show own_Run p e below _ T249 (mkF m 165 #[.val (.long q1), .second, .val (.long q2), .second, .val (.long q3), .second, .val (.long q4), .second, .val (.int p5), .val (.int (2 : Int32)), .val (.int x10), .val (.long tm), .second, .val (.ref b230), .val (.long (-9223372036854775808 : Int64)), .second, .val (.long q2), .second, .val (.long (own_max q2 q3)), .second, .val (.long (own_max (own_max q2 q3) q4)), .second, .val (.int (0 : Int32))] [(.int (lcmpW (-9223372036854775808 : Int64) tm))])
    by_cases hc165_250 : (-9223372036854775808 : Int64) < tm
    · refine own_go (fun _ k => XS.ifNo X249.here hx rfl (hb hby at_165) rfl (own_lcT hc165_250).2.1 k) ?_
      show own_Run p e below _ T249 (mkF m 168 #[.val (.long q1), .second, .val (.long q2), .second, .val (.long q3), .second, .val (.long q4), .second, .val (.int p5), .val (.int (2 : Int32)), .val (.int x10), .val (.long tm), .second, .val (.ref b230), .val (.long (-9223372036854775808 : Int64)), .second, .val (.long q2), .second, .val (.long (own_max q2 q3)), .second, .val (.long (own_max (own_max q2 q3) q4)), .second, .val (.int (0 : Int32))] [])
      refine own_go (fun _ k => XS.iinc X249.here hx rfl (hb hby at_168) rfl (l' := #[.val (.long q1), .second, .val (.long q2), .second, .val (.long q3), .second, .val (.long q4), .second, .val (.int p5), .val (.int (2 : Int32)), .val (.int x10), .val (.long tm), .second, .val (.ref b230), .val (.long (-9223372036854775808 : Int64)), .second, .val (.long q2), .second, .val (.long (own_max q2 q3)), .second, .val (.long (own_max (own_max q2 q3) q4)), .second, .val (.int ((0 : Int32) + (1 : Int32)))]) rfl k) ?_
      show own_Run p e below _ T249 (mkF m 171 #[.val (.long q1), .second, .val (.long q2), .second, .val (.long q3), .second, .val (.long q4), .second, .val (.int p5), .val (.int (2 : Int32)), .val (.int x10), .val (.long tm), .second, .val (.ref b230), .val (.long (-9223372036854775808 : Int64)), .second, .val (.long q2), .second, .val (.long (own_max q2 q3)), .second, .val (.long (own_max (own_max q2 q3) q4)), .second, .val (.int ((0 : Int32) + (1 : Int32)))] [])
      rw [show ((0 : Int32) + (1 : Int32)) = (1 : Int32) by decide]
      show own_Run p e below _ T249 (mkF m 171 #[.val (.long q1), .second, .val (.long q2), .second, .val (.long q3), .second, .val (.long q4), .second, .val (.int p5), .val (.int (2 : Int32)), .val (.int x10), .val (.long tm), .second, .val (.ref b230), .val (.long (-9223372036854775808 : Int64)), .second, .val (.long q2), .second, .val (.long (own_max q2 q3)), .second, .val (.long (own_max (own_max q2 q3) q4)), .second, .val (.int (1 : Int32))] [])
      refine own_go (fun _ k => XS.iload X249.here hx rfl (hb hby at_171) rfl k) ?_
      refine own_go (fun _ k => XS.iconst X249.here hx rfl (hb hby at_173) k) ?_
      show own_Run p e below _ T249 (mkF m 174 #[.val (.long q1), .second, .val (.long q2), .second, .val (.long q3), .second, .val (.long q4), .second, .val (.int p5), .val (.int (2 : Int32)), .val (.int x10), .val (.long tm), .second, .val (.ref b230), .val (.long (-9223372036854775808 : Int64)), .second, .val (.long q2), .second, .val (.long (own_max q2 q3)), .second, .val (.long (own_max (own_max q2 q3) q4)), .second, .val (.int (1 : Int32))] [(.int (1 : Int32)), (.int (2 : Int32))])
      refine own_go (fun _ k => XS.icmpNo X249.here hx rfl (hb hby at_174) rfl (tlt (by decide : (1 : Int32) < (2 : Int32))).2.2.2 k) ?_
      show own_Run p e below _ T249 (mkF m 177 #[.val (.long q1), .second, .val (.long q2), .second, .val (.long q3), .second, .val (.long q4), .second, .val (.int p5), .val (.int (2 : Int32)), .val (.int x10), .val (.long tm), .second, .val (.ref b230), .val (.long (-9223372036854775808 : Int64)), .second, .val (.long q2), .second, .val (.long (own_max q2 q3)), .second, .val (.long (own_max (own_max q2 q3) q4)), .second, .val (.int (1 : Int32))] [])
      refine own_go (fun _ k => XS.lload X249.here hx rfl (hb hby at_177) rfl k) ?_
      refine own_go (fun _ k => XS.lload X249.here hx rfl (hb hby at_179) rfl k) ?_
      refine own_go (fun _ k => XS.lcmp X249.here hx rfl (hb hby at_181) rfl k) ?_
      show own_Run p e below _ T249 (mkF m 182 #[.val (.long q1), .second, .val (.long q2), .second, .val (.long q3), .second, .val (.long q4), .second, .val (.int p5), .val (.int (2 : Int32)), .val (.int x10), .val (.long tm), .second, .val (.ref b230), .val (.long (-9223372036854775808 : Int64)), .second, .val (.long q2), .second, .val (.long (own_max q2 q3)), .second, .val (.long (own_max (own_max q2 q3) q4)), .second, .val (.int (1 : Int32))] [(.int (lcmpW q2 tm))])
      by_cases hc182_251 : q2 < tm
      · refine own_go (fun _ k => XS.ifNo X249.here hx rfl (hb hby at_182) rfl (own_lcT hc182_251).2.1 k) ?_
        show own_Run p e below _ T249 (mkF m 185 #[.val (.long q1), .second, .val (.long q2), .second, .val (.long q3), .second, .val (.long q4), .second, .val (.int p5), .val (.int (2 : Int32)), .val (.int x10), .val (.long tm), .second, .val (.ref b230), .val (.long (-9223372036854775808 : Int64)), .second, .val (.long q2), .second, .val (.long (own_max q2 q3)), .second, .val (.long (own_max (own_max q2 q3) q4)), .second, .val (.int (1 : Int32))] [])
        refine own_go (fun _ k => XS.iinc X249.here hx rfl (hb hby at_185) rfl (l' := #[.val (.long q1), .second, .val (.long q2), .second, .val (.long q3), .second, .val (.long q4), .second, .val (.int p5), .val (.int (2 : Int32)), .val (.int x10), .val (.long tm), .second, .val (.ref b230), .val (.long (-9223372036854775808 : Int64)), .second, .val (.long q2), .second, .val (.long (own_max q2 q3)), .second, .val (.long (own_max (own_max q2 q3) q4)), .second, .val (.int ((1 : Int32) + (1 : Int32)))]) rfl k) ?_
        show own_Run p e below _ T249 (mkF m 188 #[.val (.long q1), .second, .val (.long q2), .second, .val (.long q3), .second, .val (.long q4), .second, .val (.int p5), .val (.int (2 : Int32)), .val (.int x10), .val (.long tm), .second, .val (.ref b230), .val (.long (-9223372036854775808 : Int64)), .second, .val (.long q2), .second, .val (.long (own_max q2 q3)), .second, .val (.long (own_max (own_max q2 q3) q4)), .second, .val (.int ((1 : Int32) + (1 : Int32)))] [])
        rw [show ((1 : Int32) + (1 : Int32)) = (2 : Int32) by decide]
        show own_Run p e below _ T249 (mkF m 188 #[.val (.long q1), .second, .val (.long q2), .second, .val (.long q3), .second, .val (.long q4), .second, .val (.int p5), .val (.int (2 : Int32)), .val (.int x10), .val (.long tm), .second, .val (.ref b230), .val (.long (-9223372036854775808 : Int64)), .second, .val (.long q2), .second, .val (.long (own_max q2 q3)), .second, .val (.long (own_max (own_max q2 q3) q4)), .second, .val (.int (2 : Int32))] [])
        refine own_go (fun _ k => XS.iload X249.here hx rfl (hb hby at_188) rfl k) ?_
        refine own_go (fun _ k => XS.iconst X249.here hx rfl (hb hby at_190) k) ?_
        show own_Run p e below _ T249 (mkF m 191 #[.val (.long q1), .second, .val (.long q2), .second, .val (.long q3), .second, .val (.long q4), .second, .val (.int p5), .val (.int (2 : Int32)), .val (.int x10), .val (.long tm), .second, .val (.ref b230), .val (.long (-9223372036854775808 : Int64)), .second, .val (.long q2), .second, .val (.long (own_max q2 q3)), .second, .val (.long (own_max (own_max q2 q3) q4)), .second, .val (.int (2 : Int32))] [(.int (2 : Int32)), (.int (2 : Int32))])
        refine own_go (fun _ k => XS.icmpYes X249.here hx rfl (pc0 := 191) (pc' := 205) rfl (hb hby at_191) rfl (flt (by decide : ¬ ((2 : Int32) < (2 : Int32)))).2.2.2 (by decide) (by decide) k) ?_
        show own_Run p e below _ T249 (mkF m 205 #[.val (.long q1), .second, .val (.long q2), .second, .val (.long q3), .second, .val (.long q4), .second, .val (.int p5), .val (.int (2 : Int32)), .val (.int x10), .val (.long tm), .second, .val (.ref b230), .val (.long (-9223372036854775808 : Int64)), .second, .val (.long q2), .second, .val (.long (own_max q2 q3)), .second, .val (.long (own_max (own_max q2 q3) q4)), .second, .val (.int (2 : Int32))] [])
        refine own_go (fun _ k => XS.iload X249.here hx rfl (hb hby at_205) rfl k) ?_
        refine own_go (fun _ k => XS.iconst X249.here hx rfl (hb hby at_207) k) ?_
        show own_Run p e below _ T249 (mkF m 208 #[.val (.long q1), .second, .val (.long q2), .second, .val (.long q3), .second, .val (.long q4), .second, .val (.int p5), .val (.int (2 : Int32)), .val (.int x10), .val (.long tm), .second, .val (.ref b230), .val (.long (-9223372036854775808 : Int64)), .second, .val (.long q2), .second, .val (.long (own_max q2 q3)), .second, .val (.long (own_max (own_max q2 q3) q4)), .second, .val (.int (2 : Int32))] [(.int (3 : Int32)), (.int (2 : Int32))])
        refine own_go (fun _ k => XS.icmpYes X249.here hx rfl (pc0 := 208) (pc' := 222) rfl (hb hby at_208) rfl (flt (by decide : ¬ ((3 : Int32) < (2 : Int32)))).2.2.2 (by decide) (by decide) k) ?_
        show own_Run p e below _ T249 (mkF m 222 #[.val (.long q1), .second, .val (.long q2), .second, .val (.long q3), .second, .val (.long q4), .second, .val (.int p5), .val (.int (2 : Int32)), .val (.int x10), .val (.long tm), .second, .val (.ref b230), .val (.long (-9223372036854775808 : Int64)), .second, .val (.long q2), .second, .val (.long (own_max q2 q3)), .second, .val (.long (own_max (own_max q2 q3) q4)), .second, .val (.int (2 : Int32))] [])
        refine own_go (fun _ k => XS.aload X249.here hx rfl (hb hby at_222) rfl rfl k) ?_
        refine own_go (fun _ k => XS.lload X249.here hx rfl (hb hby at_224) rfl k) ?_
        show own_Run p e below _ T249 (mkF m 226 #[.val (.long q1), .second, .val (.long q2), .second, .val (.long q3), .second, .val (.long q4), .second, .val (.int p5), .val (.int (2 : Int32)), .val (.int x10), .val (.long tm), .second, .val (.ref b230), .val (.long (-9223372036854775808 : Int64)), .second, .val (.long q2), .second, .val (.long (own_max q2 q3)), .second, .val (.long (own_max (own_max q2 q3) q4)), .second, .val (.int (2 : Int32))] [(.long tm), (.ref b230)])
        obtain ⟨cq252, kq252, q252a, q252b, q252c⟩ := isOf hZ e249 P246_0
        obtain ⟨_, _, ⟨T252, L252, k252, n252⟩, -, X252, ⟨Lc252, hQ252, l252, y252, z252⟩, st252⟩ := X249.virtualBack hx (y := (⟨"com/example/tote/tote/storage/OffsetIndex", "floorTime", "(J)I"⟩ : MethodName)) (z := (⟨"com/example/tote/tote/storage/OffsetIndex", "floorTime", "(J)I"⟩ : MethodName)) hown (mvT hZ (W 29 rfl)) (mvT hZ (W 30 rfl)) (notFace_of_selects (args := #[]) (mvT hZ (W 32 rfl))) (mvT hZ (W 32 rfl)) (mvT hZ (W 31 rfl)) (by decide) (backOf (W := 0) (rm4n2 l Z a0 hw [] b230 tm b3_232 k3_232 (-9223372036854775808 : Int64) q2 (1 : Int32) T246.heap n0 Z0_c247 P246_3 P246_7 P246_10 (Or.inr (Or.inr (⟨hc165_250, hc182_251, rfl⟩)))) hZ (W 33 rfl) (W 2 rfl) (by decide) (by decide)) q252a q252c (g := (mkF m 226 #[.val (.long q1), .second, .val (.long q2), .second, .val (.long q3), .second, .val (.long q4), .second, .val (.int p5), .val (.int (2 : Int32)), .val (.int x10), .val (.long tm), .second, .val (.ref b230), .val (.long (-9223372036854775808 : Int64)), .second, .val (.long q2), .second, .val (.long (own_max q2 q3)), .second, .val (.long (own_max (own_max q2 q3) q4)), .second, .val (.int (2 : Int32))] [(.long tm), (.ref b230)])) rfl (by rw [hml]; rfl) (Steps.refl _) (argsL := [(.long tm)]) (rest := []) (lenOf pd_1 rfl) rfl (by show 2 * 0 + _ ≤ _; exact Nat.le_of_eq rfl) (hb hby at_226) (fun _ _ => ⟨rfl, e249, (by decide : 4 + 0 ≤ _), (by decide : 55 + 0 ≤ _)⟩)
        dsimp only [Pt.U, Pt.locs, Pt.cells, Pt.slots] at X252 l252 y252 z252 st252 hQ252
        subst l252 y252 z252
        obtain ⟨rfl, N252q, e252⟩ := hQ252
        have N252 := Fr.app N249 N252q
        refine own_goT st252 ?_
        show own_Run p e below _ T252 (mkF m 229 #[.val (.long q1), .second, .val (.long q2), .second, .val (.long q3), .second, .val (.long q4), .second, .val (.int p5), .val (.int (2 : Int32)), .val (.int x10), .val (.long tm), .second, .val (.ref b230), .val (.long (-9223372036854775808 : Int64)), .second, .val (.long q2), .second, .val (.long (own_max q2 q3)), .second, .val (.long (own_max (own_max q2 q3) q4)), .second, .val (.int (2 : Int32))] [(.int (1 : Int32))])
        refine own_go (fun _ k => XS.iload X252.here hx rfl (hb hby at_229) rfl k) ?_
        refine own_go (fun _ k => XS.iconst X252.here hx rfl (hb hby at_231) k) ?_
        refine own_go (fun _ k => XS.isub X252.here hx rfl (hb hby at_232) rfl k) ?_
        show own_Run p e below _ T252 (mkF m 233 #[.val (.long q1), .second, .val (.long q2), .second, .val (.long q3), .second, .val (.long q4), .second, .val (.int p5), .val (.int (2 : Int32)), .val (.int x10), .val (.long tm), .second, .val (.ref b230), .val (.long (-9223372036854775808 : Int64)), .second, .val (.long q2), .second, .val (.long (own_max q2 q3)), .second, .val (.long (own_max (own_max q2 q3) q4)), .second, .val (.int (2 : Int32))] [(.int ((2 : Int32) - (1 : Int32))), (.int (1 : Int32))])
        rw [show ((2 : Int32) - (1 : Int32)) = (1 : Int32) by decide]
        show own_Run p e below _ T252 (mkF m 233 #[.val (.long q1), .second, .val (.long q2), .second, .val (.long q3), .second, .val (.long q4), .second, .val (.int p5), .val (.int (2 : Int32)), .val (.int x10), .val (.long tm), .second, .val (.ref b230), .val (.long (-9223372036854775808 : Int64)), .second, .val (.long q2), .second, .val (.long (own_max q2 q3)), .second, .val (.long (own_max (own_max q2 q3) q4)), .second, .val (.int (2 : Int32))] [(.int (1 : Int32)), (.int (1 : Int32))])
        refine own_go (fun _ k => XS.icmpNo X252.here hx rfl (hb hby at_233) rfl (teq (by decide : (1 : Int32) = (1 : Int32))).2 k) ?_
        show own_Run p e below _ T252 (mkF m 236 #[.val (.long q1), .second, .val (.long q2), .second, .val (.long q3), .second, .val (.long q4), .second, .val (.int p5), .val (.int (2 : Int32)), .val (.int x10), .val (.long tm), .second, .val (.ref b230), .val (.long (-9223372036854775808 : Int64)), .second, .val (.long q2), .second, .val (.long (own_max q2 q3)), .second, .val (.long (own_max (own_max q2 q3) q4)), .second, .val (.int (2 : Int32))] [])
        refine own_go (fun _ k => XS.iconst X252.here hx rfl (hb hby at_236) k) ?_
        refine own_go (fun _ k => XS.goto X252.here hx rfl (pc0 := 237) (pc' := 241) rfl (hb hby at_237) (by decide) (by decide) k) ?_
        show own_Run p e below _ T252 (mkF m 241 #[.val (.long q1), .second, .val (.long q2), .second, .val (.long q3), .second, .val (.long q4), .second, .val (.int p5), .val (.int (2 : Int32)), .val (.int x10), .val (.long tm), .second, .val (.ref b230), .val (.long (-9223372036854775808 : Int64)), .second, .val (.long q2), .second, .val (.long (own_max q2 q3)), .second, .val (.long (own_max (own_max q2 q3) q4)), .second, .val (.int (2 : Int32))] [(.int (1 : Int32))])
        refine own_done (Q := fun v h L => Q0 Z q1 q2 q3 q4 p5 h0 n0 v h L) (v := (some (.int (1 : Int32)))) X252 (fun h => by rw [hret] at h; cases h) hlk (fun fs hr => retN X252 hx (t := .boolean) hret (by simp) (hb hby at_241) hr) ?_ (by decide) (by decide)
        show Q0 Z q1 q2 q3 q4 p5 h0 n0 _ T252.heap _
        rw [e252]
        exact ⟨rfl, N252⟩
      · refine own_go (fun _ k => XS.ifYes X249.here hx rfl (pc0 := 182) (pc' := 188) rfl (hb hby at_182) rfl (own_lcF hc182_251).2.1 (by decide) (by decide) k) ?_
        show own_Run p e below _ T249 (mkF m 188 #[.val (.long q1), .second, .val (.long q2), .second, .val (.long q3), .second, .val (.long q4), .second, .val (.int p5), .val (.int (2 : Int32)), .val (.int x10), .val (.long tm), .second, .val (.ref b230), .val (.long (-9223372036854775808 : Int64)), .second, .val (.long q2), .second, .val (.long (own_max q2 q3)), .second, .val (.long (own_max (own_max q2 q3) q4)), .second, .val (.int (1 : Int32))] [])
        refine own_go (fun _ k => XS.iload X249.here hx rfl (hb hby at_188) rfl k) ?_
        refine own_go (fun _ k => XS.iconst X249.here hx rfl (hb hby at_190) k) ?_
        show own_Run p e below _ T249 (mkF m 191 #[.val (.long q1), .second, .val (.long q2), .second, .val (.long q3), .second, .val (.long q4), .second, .val (.int p5), .val (.int (2 : Int32)), .val (.int x10), .val (.long tm), .second, .val (.ref b230), .val (.long (-9223372036854775808 : Int64)), .second, .val (.long q2), .second, .val (.long (own_max q2 q3)), .second, .val (.long (own_max (own_max q2 q3) q4)), .second, .val (.int (1 : Int32))] [(.int (2 : Int32)), (.int (2 : Int32))])
        refine own_go (fun _ k => XS.icmpYes X249.here hx rfl (pc0 := 191) (pc' := 205) rfl (hb hby at_191) rfl (flt (by decide : ¬ ((2 : Int32) < (2 : Int32)))).2.2.2 (by decide) (by decide) k) ?_
        show own_Run p e below _ T249 (mkF m 205 #[.val (.long q1), .second, .val (.long q2), .second, .val (.long q3), .second, .val (.long q4), .second, .val (.int p5), .val (.int (2 : Int32)), .val (.int x10), .val (.long tm), .second, .val (.ref b230), .val (.long (-9223372036854775808 : Int64)), .second, .val (.long q2), .second, .val (.long (own_max q2 q3)), .second, .val (.long (own_max (own_max q2 q3) q4)), .second, .val (.int (1 : Int32))] [])
        refine own_go (fun _ k => XS.iload X249.here hx rfl (hb hby at_205) rfl k) ?_
        refine own_go (fun _ k => XS.iconst X249.here hx rfl (hb hby at_207) k) ?_
        show own_Run p e below _ T249 (mkF m 208 #[.val (.long q1), .second, .val (.long q2), .second, .val (.long q3), .second, .val (.long q4), .second, .val (.int p5), .val (.int (2 : Int32)), .val (.int x10), .val (.long tm), .second, .val (.ref b230), .val (.long (-9223372036854775808 : Int64)), .second, .val (.long q2), .second, .val (.long (own_max q2 q3)), .second, .val (.long (own_max (own_max q2 q3) q4)), .second, .val (.int (1 : Int32))] [(.int (3 : Int32)), (.int (2 : Int32))])
        refine own_go (fun _ k => XS.icmpYes X249.here hx rfl (pc0 := 208) (pc' := 222) rfl (hb hby at_208) rfl (flt (by decide : ¬ ((3 : Int32) < (2 : Int32)))).2.2.2 (by decide) (by decide) k) ?_
        show own_Run p e below _ T249 (mkF m 222 #[.val (.long q1), .second, .val (.long q2), .second, .val (.long q3), .second, .val (.long q4), .second, .val (.int p5), .val (.int (2 : Int32)), .val (.int x10), .val (.long tm), .second, .val (.ref b230), .val (.long (-9223372036854775808 : Int64)), .second, .val (.long q2), .second, .val (.long (own_max q2 q3)), .second, .val (.long (own_max (own_max q2 q3) q4)), .second, .val (.int (1 : Int32))] [])
        refine own_go (fun _ k => XS.aload X249.here hx rfl (hb hby at_222) rfl rfl k) ?_
        refine own_go (fun _ k => XS.lload X249.here hx rfl (hb hby at_224) rfl k) ?_
        show own_Run p e below _ T249 (mkF m 226 #[.val (.long q1), .second, .val (.long q2), .second, .val (.long q3), .second, .val (.long q4), .second, .val (.int p5), .val (.int (2 : Int32)), .val (.int x10), .val (.long tm), .second, .val (.ref b230), .val (.long (-9223372036854775808 : Int64)), .second, .val (.long q2), .second, .val (.long (own_max q2 q3)), .second, .val (.long (own_max (own_max q2 q3) q4)), .second, .val (.int (1 : Int32))] [(.long tm), (.ref b230)])
        obtain ⟨cq253, kq253, q253a, q253b, q253c⟩ := isOf hZ e249 P246_0
        obtain ⟨_, _, ⟨T253, L253, k253, n253⟩, -, X253, ⟨Lc253, hQ253, l253, y253, z253⟩, st253⟩ := X249.virtualBack hx (y := (⟨"com/example/tote/tote/storage/OffsetIndex", "floorTime", "(J)I"⟩ : MethodName)) (z := (⟨"com/example/tote/tote/storage/OffsetIndex", "floorTime", "(J)I"⟩ : MethodName)) hown (mvT hZ (W 29 rfl)) (mvT hZ (W 30 rfl)) (notFace_of_selects (args := #[]) (mvT hZ (W 32 rfl))) (mvT hZ (W 32 rfl)) (mvT hZ (W 31 rfl)) (by decide) (backOf (W := 0) (rm4n2 l Z a0 hw [] b230 tm b3_232 k3_232 (-9223372036854775808 : Int64) q2 (0 : Int32) T246.heap n0 Z0_c247 P246_3 P246_7 P246_10 (Or.inr (Or.inl ⟨hc165_250, hc182_251, rfl⟩))) hZ (W 33 rfl) (W 2 rfl) (by decide) (by decide)) q253a q253c (g := (mkF m 226 #[.val (.long q1), .second, .val (.long q2), .second, .val (.long q3), .second, .val (.long q4), .second, .val (.int p5), .val (.int (2 : Int32)), .val (.int x10), .val (.long tm), .second, .val (.ref b230), .val (.long (-9223372036854775808 : Int64)), .second, .val (.long q2), .second, .val (.long (own_max q2 q3)), .second, .val (.long (own_max (own_max q2 q3) q4)), .second, .val (.int (1 : Int32))] [(.long tm), (.ref b230)])) rfl (by rw [hml]; rfl) (Steps.refl _) (argsL := [(.long tm)]) (rest := []) (lenOf pd_1 rfl) rfl (by show 2 * 0 + _ ≤ _; exact Nat.le_of_eq rfl) (hb hby at_226) (fun _ _ => ⟨rfl, e249, (by decide : 4 + 0 ≤ _), (by decide : 55 + 0 ≤ _)⟩)
        dsimp only [Pt.U, Pt.locs, Pt.cells, Pt.slots] at X253 l253 y253 z253 st253 hQ253
        subst l253 y253 z253
        obtain ⟨rfl, N253q, e253⟩ := hQ253
        have N253 := Fr.app N249 N253q
        refine own_goT st253 ?_
        show own_Run p e below _ T253 (mkF m 229 #[.val (.long q1), .second, .val (.long q2), .second, .val (.long q3), .second, .val (.long q4), .second, .val (.int p5), .val (.int (2 : Int32)), .val (.int x10), .val (.long tm), .second, .val (.ref b230), .val (.long (-9223372036854775808 : Int64)), .second, .val (.long q2), .second, .val (.long (own_max q2 q3)), .second, .val (.long (own_max (own_max q2 q3) q4)), .second, .val (.int (1 : Int32))] [(.int (0 : Int32))])
        refine own_go (fun _ k => XS.iload X253.here hx rfl (hb hby at_229) rfl k) ?_
        refine own_go (fun _ k => XS.iconst X253.here hx rfl (hb hby at_231) k) ?_
        refine own_go (fun _ k => XS.isub X253.here hx rfl (hb hby at_232) rfl k) ?_
        show own_Run p e below _ T253 (mkF m 233 #[.val (.long q1), .second, .val (.long q2), .second, .val (.long q3), .second, .val (.long q4), .second, .val (.int p5), .val (.int (2 : Int32)), .val (.int x10), .val (.long tm), .second, .val (.ref b230), .val (.long (-9223372036854775808 : Int64)), .second, .val (.long q2), .second, .val (.long (own_max q2 q3)), .second, .val (.long (own_max (own_max q2 q3) q4)), .second, .val (.int (1 : Int32))] [(.int ((1 : Int32) - (1 : Int32))), (.int (0 : Int32))])
        rw [show ((1 : Int32) - (1 : Int32)) = (0 : Int32) by decide]
        show own_Run p e below _ T253 (mkF m 233 #[.val (.long q1), .second, .val (.long q2), .second, .val (.long q3), .second, .val (.long q4), .second, .val (.int p5), .val (.int (2 : Int32)), .val (.int x10), .val (.long tm), .second, .val (.ref b230), .val (.long (-9223372036854775808 : Int64)), .second, .val (.long q2), .second, .val (.long (own_max q2 q3)), .second, .val (.long (own_max (own_max q2 q3) q4)), .second, .val (.int (1 : Int32))] [(.int (0 : Int32)), (.int (0 : Int32))])
        refine own_go (fun _ k => XS.icmpNo X253.here hx rfl (hb hby at_233) rfl (teq (by decide : (0 : Int32) = (0 : Int32))).2 k) ?_
        show own_Run p e below _ T253 (mkF m 236 #[.val (.long q1), .second, .val (.long q2), .second, .val (.long q3), .second, .val (.long q4), .second, .val (.int p5), .val (.int (2 : Int32)), .val (.int x10), .val (.long tm), .second, .val (.ref b230), .val (.long (-9223372036854775808 : Int64)), .second, .val (.long q2), .second, .val (.long (own_max q2 q3)), .second, .val (.long (own_max (own_max q2 q3) q4)), .second, .val (.int (1 : Int32))] [])
        refine own_go (fun _ k => XS.iconst X253.here hx rfl (hb hby at_236) k) ?_
        refine own_go (fun _ k => XS.goto X253.here hx rfl (pc0 := 237) (pc' := 241) rfl (hb hby at_237) (by decide) (by decide) k) ?_
        show own_Run p e below _ T253 (mkF m 241 #[.val (.long q1), .second, .val (.long q2), .second, .val (.long q3), .second, .val (.long q4), .second, .val (.int p5), .val (.int (2 : Int32)), .val (.int x10), .val (.long tm), .second, .val (.ref b230), .val (.long (-9223372036854775808 : Int64)), .second, .val (.long q2), .second, .val (.long (own_max q2 q3)), .second, .val (.long (own_max (own_max q2 q3) q4)), .second, .val (.int (1 : Int32))] [(.int (1 : Int32))])
        refine own_done (Q := fun v h L => Q0 Z q1 q2 q3 q4 p5 h0 n0 v h L) (v := (some (.int (1 : Int32)))) X253 (fun h => by rw [hret] at h; cases h) hlk (fun fs hr => retN X253 hx (t := .boolean) hret (by simp) (hb hby at_241) hr) ?_ (by decide) (by decide)
        show Q0 Z q1 q2 q3 q4 p5 h0 n0 _ T253.heap _
        rw [e253]
        exact ⟨rfl, N253⟩
    · refine own_go (fun _ k => XS.ifYes X249.here hx rfl (pc0 := 165) (pc' := 171) rfl (hb hby at_165) rfl (own_lcF hc165_250).2.1 (by decide) (by decide) k) ?_
      show own_Run p e below _ T249 (mkF m 171 #[.val (.long q1), .second, .val (.long q2), .second, .val (.long q3), .second, .val (.long q4), .second, .val (.int p5), .val (.int (2 : Int32)), .val (.int x10), .val (.long tm), .second, .val (.ref b230), .val (.long (-9223372036854775808 : Int64)), .second, .val (.long q2), .second, .val (.long (own_max q2 q3)), .second, .val (.long (own_max (own_max q2 q3) q4)), .second, .val (.int (0 : Int32))] [])
      refine own_go (fun _ k => XS.iload X249.here hx rfl (hb hby at_171) rfl k) ?_
      refine own_go (fun _ k => XS.iconst X249.here hx rfl (hb hby at_173) k) ?_
      show own_Run p e below _ T249 (mkF m 174 #[.val (.long q1), .second, .val (.long q2), .second, .val (.long q3), .second, .val (.long q4), .second, .val (.int p5), .val (.int (2 : Int32)), .val (.int x10), .val (.long tm), .second, .val (.ref b230), .val (.long (-9223372036854775808 : Int64)), .second, .val (.long q2), .second, .val (.long (own_max q2 q3)), .second, .val (.long (own_max (own_max q2 q3) q4)), .second, .val (.int (0 : Int32))] [(.int (1 : Int32)), (.int (2 : Int32))])
      refine own_go (fun _ k => XS.icmpNo X249.here hx rfl (hb hby at_174) rfl (tlt (by decide : (1 : Int32) < (2 : Int32))).2.2.2 k) ?_
      show own_Run p e below _ T249 (mkF m 177 #[.val (.long q1), .second, .val (.long q2), .second, .val (.long q3), .second, .val (.long q4), .second, .val (.int p5), .val (.int (2 : Int32)), .val (.int x10), .val (.long tm), .second, .val (.ref b230), .val (.long (-9223372036854775808 : Int64)), .second, .val (.long q2), .second, .val (.long (own_max q2 q3)), .second, .val (.long (own_max (own_max q2 q3) q4)), .second, .val (.int (0 : Int32))] [])
      refine own_go (fun _ k => XS.lload X249.here hx rfl (hb hby at_177) rfl k) ?_
      refine own_go (fun _ k => XS.lload X249.here hx rfl (hb hby at_179) rfl k) ?_
      refine own_go (fun _ k => XS.lcmp X249.here hx rfl (hb hby at_181) rfl k) ?_
      show own_Run p e below _ T249 (mkF m 182 #[.val (.long q1), .second, .val (.long q2), .second, .val (.long q3), .second, .val (.long q4), .second, .val (.int p5), .val (.int (2 : Int32)), .val (.int x10), .val (.long tm), .second, .val (.ref b230), .val (.long (-9223372036854775808 : Int64)), .second, .val (.long q2), .second, .val (.long (own_max q2 q3)), .second, .val (.long (own_max (own_max q2 q3) q4)), .second, .val (.int (0 : Int32))] [(.int (lcmpW q2 tm))])
      have hm254 : ¬ (q2 < tm) := (own_up0 q2 tm hc165_250)
      refine own_go (fun _ k => XS.ifYes X249.here hx rfl (pc0 := 182) (pc' := 188) rfl (hb hby at_182) rfl (own_lcF hm254).2.1 (by decide) (by decide) k) ?_
      show own_Run p e below _ T249 (mkF m 188 #[.val (.long q1), .second, .val (.long q2), .second, .val (.long q3), .second, .val (.long q4), .second, .val (.int p5), .val (.int (2 : Int32)), .val (.int x10), .val (.long tm), .second, .val (.ref b230), .val (.long (-9223372036854775808 : Int64)), .second, .val (.long q2), .second, .val (.long (own_max q2 q3)), .second, .val (.long (own_max (own_max q2 q3) q4)), .second, .val (.int (0 : Int32))] [])
      refine own_go (fun _ k => XS.iload X249.here hx rfl (hb hby at_188) rfl k) ?_
      refine own_go (fun _ k => XS.iconst X249.here hx rfl (hb hby at_190) k) ?_
      show own_Run p e below _ T249 (mkF m 191 #[.val (.long q1), .second, .val (.long q2), .second, .val (.long q3), .second, .val (.long q4), .second, .val (.int p5), .val (.int (2 : Int32)), .val (.int x10), .val (.long tm), .second, .val (.ref b230), .val (.long (-9223372036854775808 : Int64)), .second, .val (.long q2), .second, .val (.long (own_max q2 q3)), .second, .val (.long (own_max (own_max q2 q3) q4)), .second, .val (.int (0 : Int32))] [(.int (2 : Int32)), (.int (2 : Int32))])
      refine own_go (fun _ k => XS.icmpYes X249.here hx rfl (pc0 := 191) (pc' := 205) rfl (hb hby at_191) rfl (flt (by decide : ¬ ((2 : Int32) < (2 : Int32)))).2.2.2 (by decide) (by decide) k) ?_
      show own_Run p e below _ T249 (mkF m 205 #[.val (.long q1), .second, .val (.long q2), .second, .val (.long q3), .second, .val (.long q4), .second, .val (.int p5), .val (.int (2 : Int32)), .val (.int x10), .val (.long tm), .second, .val (.ref b230), .val (.long (-9223372036854775808 : Int64)), .second, .val (.long q2), .second, .val (.long (own_max q2 q3)), .second, .val (.long (own_max (own_max q2 q3) q4)), .second, .val (.int (0 : Int32))] [])
      refine own_go (fun _ k => XS.iload X249.here hx rfl (hb hby at_205) rfl k) ?_
      refine own_go (fun _ k => XS.iconst X249.here hx rfl (hb hby at_207) k) ?_
      show own_Run p e below _ T249 (mkF m 208 #[.val (.long q1), .second, .val (.long q2), .second, .val (.long q3), .second, .val (.long q4), .second, .val (.int p5), .val (.int (2 : Int32)), .val (.int x10), .val (.long tm), .second, .val (.ref b230), .val (.long (-9223372036854775808 : Int64)), .second, .val (.long q2), .second, .val (.long (own_max q2 q3)), .second, .val (.long (own_max (own_max q2 q3) q4)), .second, .val (.int (0 : Int32))] [(.int (3 : Int32)), (.int (2 : Int32))])
      refine own_go (fun _ k => XS.icmpYes X249.here hx rfl (pc0 := 208) (pc' := 222) rfl (hb hby at_208) rfl (flt (by decide : ¬ ((3 : Int32) < (2 : Int32)))).2.2.2 (by decide) (by decide) k) ?_
      show own_Run p e below _ T249 (mkF m 222 #[.val (.long q1), .second, .val (.long q2), .second, .val (.long q3), .second, .val (.long q4), .second, .val (.int p5), .val (.int (2 : Int32)), .val (.int x10), .val (.long tm), .second, .val (.ref b230), .val (.long (-9223372036854775808 : Int64)), .second, .val (.long q2), .second, .val (.long (own_max q2 q3)), .second, .val (.long (own_max (own_max q2 q3) q4)), .second, .val (.int (0 : Int32))] [])
      refine own_go (fun _ k => XS.aload X249.here hx rfl (hb hby at_222) rfl rfl k) ?_
      refine own_go (fun _ k => XS.lload X249.here hx rfl (hb hby at_224) rfl k) ?_
      show own_Run p e below _ T249 (mkF m 226 #[.val (.long q1), .second, .val (.long q2), .second, .val (.long q3), .second, .val (.long q4), .second, .val (.int p5), .val (.int (2 : Int32)), .val (.int x10), .val (.long tm), .second, .val (.ref b230), .val (.long (-9223372036854775808 : Int64)), .second, .val (.long q2), .second, .val (.long (own_max q2 q3)), .second, .val (.long (own_max (own_max q2 q3) q4)), .second, .val (.int (0 : Int32))] [(.long tm), (.ref b230)])
      obtain ⟨cq255, kq255, q255a, q255b, q255c⟩ := isOf hZ e249 P246_0
      obtain ⟨_, _, ⟨T255, L255, k255, n255⟩, -, X255, ⟨Lc255, hQ255, l255, y255, z255⟩, st255⟩ := X249.virtualBack hx (y := (⟨"com/example/tote/tote/storage/OffsetIndex", "floorTime", "(J)I"⟩ : MethodName)) (z := (⟨"com/example/tote/tote/storage/OffsetIndex", "floorTime", "(J)I"⟩ : MethodName)) hown (mvT hZ (W 29 rfl)) (mvT hZ (W 30 rfl)) (notFace_of_selects (args := #[]) (mvT hZ (W 32 rfl))) (mvT hZ (W 32 rfl)) (mvT hZ (W 31 rfl)) (by decide) (backOf (W := 0) (rm4n2 l Z a0 hw [] b230 tm b3_232 k3_232 (-9223372036854775808 : Int64) q2 (-1 : Int32) T246.heap n0 Z0_c247 P246_3 P246_7 P246_10 (Or.inl ⟨hc165_250, hm254, rfl⟩)) hZ (W 33 rfl) (W 2 rfl) (by decide) (by decide)) q255a q255c (g := (mkF m 226 #[.val (.long q1), .second, .val (.long q2), .second, .val (.long q3), .second, .val (.long q4), .second, .val (.int p5), .val (.int (2 : Int32)), .val (.int x10), .val (.long tm), .second, .val (.ref b230), .val (.long (-9223372036854775808 : Int64)), .second, .val (.long q2), .second, .val (.long (own_max q2 q3)), .second, .val (.long (own_max (own_max q2 q3) q4)), .second, .val (.int (0 : Int32))] [(.long tm), (.ref b230)])) rfl (by rw [hml]; rfl) (Steps.refl _) (argsL := [(.long tm)]) (rest := []) (lenOf pd_1 rfl) rfl (by show 2 * 0 + _ ≤ _; exact Nat.le_of_eq rfl) (hb hby at_226) (fun _ _ => ⟨rfl, e249, (by decide : 4 + 0 ≤ _), (by decide : 55 + 0 ≤ _)⟩)
      dsimp only [Pt.U, Pt.locs, Pt.cells, Pt.slots] at X255 l255 y255 z255 st255 hQ255
      subst l255 y255 z255
      obtain ⟨rfl, N255q, e255⟩ := hQ255
      have N255 := Fr.app N249 N255q
      refine own_goT st255 ?_
      show own_Run p e below _ T255 (mkF m 229 #[.val (.long q1), .second, .val (.long q2), .second, .val (.long q3), .second, .val (.long q4), .second, .val (.int p5), .val (.int (2 : Int32)), .val (.int x10), .val (.long tm), .second, .val (.ref b230), .val (.long (-9223372036854775808 : Int64)), .second, .val (.long q2), .second, .val (.long (own_max q2 q3)), .second, .val (.long (own_max (own_max q2 q3) q4)), .second, .val (.int (0 : Int32))] [(.int (-1 : Int32))])
      refine own_go (fun _ k => XS.iload X255.here hx rfl (hb hby at_229) rfl k) ?_
      refine own_go (fun _ k => XS.iconst X255.here hx rfl (hb hby at_231) k) ?_
      refine own_go (fun _ k => XS.isub X255.here hx rfl (hb hby at_232) rfl k) ?_
      show own_Run p e below _ T255 (mkF m 233 #[.val (.long q1), .second, .val (.long q2), .second, .val (.long q3), .second, .val (.long q4), .second, .val (.int p5), .val (.int (2 : Int32)), .val (.int x10), .val (.long tm), .second, .val (.ref b230), .val (.long (-9223372036854775808 : Int64)), .second, .val (.long q2), .second, .val (.long (own_max q2 q3)), .second, .val (.long (own_max (own_max q2 q3) q4)), .second, .val (.int (0 : Int32))] [(.int ((0 : Int32) - (1 : Int32))), (.int (-1 : Int32))])
      rw [show ((0 : Int32) - (1 : Int32)) = (-1 : Int32) by decide]
      show own_Run p e below _ T255 (mkF m 233 #[.val (.long q1), .second, .val (.long q2), .second, .val (.long q3), .second, .val (.long q4), .second, .val (.int p5), .val (.int (2 : Int32)), .val (.int x10), .val (.long tm), .second, .val (.ref b230), .val (.long (-9223372036854775808 : Int64)), .second, .val (.long q2), .second, .val (.long (own_max q2 q3)), .second, .val (.long (own_max (own_max q2 q3) q4)), .second, .val (.int (0 : Int32))] [(.int (-1 : Int32)), (.int (-1 : Int32))])
      refine own_go (fun _ k => XS.icmpNo X255.here hx rfl (hb hby at_233) rfl (teq (by decide : (-1 : Int32) = (-1 : Int32))).2 k) ?_
      show own_Run p e below _ T255 (mkF m 236 #[.val (.long q1), .second, .val (.long q2), .second, .val (.long q3), .second, .val (.long q4), .second, .val (.int p5), .val (.int (2 : Int32)), .val (.int x10), .val (.long tm), .second, .val (.ref b230), .val (.long (-9223372036854775808 : Int64)), .second, .val (.long q2), .second, .val (.long (own_max q2 q3)), .second, .val (.long (own_max (own_max q2 q3) q4)), .second, .val (.int (0 : Int32))] [])
      refine own_go (fun _ k => XS.iconst X255.here hx rfl (hb hby at_236) k) ?_
      refine own_go (fun _ k => XS.goto X255.here hx rfl (pc0 := 237) (pc' := 241) rfl (hb hby at_237) (by decide) (by decide) k) ?_
      show own_Run p e below _ T255 (mkF m 241 #[.val (.long q1), .second, .val (.long q2), .second, .val (.long q3), .second, .val (.long q4), .second, .val (.int p5), .val (.int (2 : Int32)), .val (.int x10), .val (.long tm), .second, .val (.ref b230), .val (.long (-9223372036854775808 : Int64)), .second, .val (.long q2), .second, .val (.long (own_max q2 q3)), .second, .val (.long (own_max (own_max q2 q3) q4)), .second, .val (.int (0 : Int32))] [(.int (1 : Int32))])
      refine own_done (Q := fun v h L => Q0 Z q1 q2 q3 q4 p5 h0 n0 v h L) (v := (some (.int (1 : Int32)))) X255 (fun h => by rw [hret] at h; cases h) hlk (fun fs hr => retN X255 hx (t := .boolean) hret (by simp) (hb hby at_241) hr) ?_ (by decide) (by decide)
      show Q0 Z q1 q2 q3 q4 p5 h0 n0 _ T255.heap _
      rw [e255]
      exact ⟨rfl, N255⟩
  · show own_Run p e below _ T232 (mkF m 62 #[.val (.long q1), .second, .val (.long q2), .second, .val (.long q3), .second, .val (.long q4), .second, .val (.int p5), .val (.int (3 : Int32)), .val (.int x10), .val (.long tm), .second, .val (.ref b230), .unset, .unset, .unset, .unset, .unset, .unset, .unset, .unset, .unset] [])
    refine own_go (fun _ k => XS.iload X232.here hx rfl (hb hby at_62) rfl k) ?_
    show own_Run p e below _ T232 (mkF m 64 #[.val (.long q1), .second, .val (.long q2), .second, .val (.long q3), .second, .val (.long q4), .second, .val (.int p5), .val (.int (3 : Int32)), .val (.int x10), .val (.long tm), .second, .val (.ref b230), .unset, .unset, .unset, .unset, .unset, .unset, .unset, .unset, .unset] [(.int (3 : Int32))])
    refine own_go (fun _ k => XS.ifNo X232.here hx rfl (hb hby at_64) rfl ((if0 _ _).trans (tlt (by decide : (0 : Int32) < (3 : Int32))).2.2.2) k) ?_
    show own_Run p e below _ T232 (mkF m 67 #[.val (.long q1), .second, .val (.long q2), .second, .val (.long q3), .second, .val (.long q4), .second, .val (.int p5), .val (.int (3 : Int32)), .val (.int x10), .val (.long tm), .second, .val (.ref b230), .unset, .unset, .unset, .unset, .unset, .unset, .unset, .unset, .unset] [])
    refine own_go (fun _ k => XS.aload X232.here hx rfl (hb hby at_67) rfl rfl k) ?_
    refine own_go (fun _ k => XS.lconst X232.here hx rfl (hb hby at_69) k) ?_
    refine own_go (fun _ k => XS.lconst X232.here hx rfl (hb hby at_70) k) ?_
    refine own_go (fun _ k => XS.lloadN X232.here hx rfl (hb hby at_71) rfl k) ?_
    show own_Run p e below _ T232 (mkF m 72 #[.val (.long q1), .second, .val (.long q2), .second, .val (.long q3), .second, .val (.long q4), .second, .val (.int p5), .val (.int (3 : Int32)), .val (.int x10), .val (.long tm), .second, .val (.ref b230), .unset, .unset, .unset, .unset, .unset, .unset, .unset, .unset, .unset] [(.long q2), (.long (0 : Int64)), (.long (0 : Int64)), (.ref b230)])
    obtain ⟨cq256, kq256, q256a, q256b, q256c⟩ := isOf hZ rfl P232_0
    obtain ⟨_, _, ⟨T256, L256, k256, n256⟩, -, X256, ⟨Lc256, hQ256, l256, y256, z256⟩, st256⟩ := X232.virtualBack hx (y := (⟨"com/example/tote/tote/storage/OffsetIndex", "add", "(JJJ)V"⟩ : MethodName)) (z := (⟨"com/example/tote/tote/storage/OffsetIndex", "add", "(JJJ)V"⟩ : MethodName)) hown (mvT hZ (W 36 rfl)) (mvT hZ (W 37 rfl)) (notFace_of_selects (args := #[]) (mvT hZ (W 39 rfl))) (mvT hZ (W 39 rfl)) (mvT hZ (W 38 rfl)) (by decide) (backOf (W := 0) (rm5c0 l Z a0 hw [] b230 (0 : Int64) (0 : Int64) q2 b1_232 b2_232 b3_232 k1_232 k2_232 k3_232 (-9223372036854775808 : Int64) (0 : Int64) (0 : Int64) T232.heap n0 Z0_c233 P232_0 P232_1 P232_2 P232_3 P232_4 P232_5 P232_6 P232_7 P232_8 P232_9 P232_10 g_b230 g_b1_232 g_b2_232 g_b3_232 P232_14 P232_15 P232_16 P232_17 P232_18 P232_19 (by decide) (by decide)) hZ (W 40 rfl) (W 2 rfl) (by decide) (by decide)) q256a q256c (g := (mkF m 72 #[.val (.long q1), .second, .val (.long q2), .second, .val (.long q3), .second, .val (.long q4), .second, .val (.int p5), .val (.int (3 : Int32)), .val (.int x10), .val (.long tm), .second, .val (.ref b230), .unset, .unset, .unset, .unset, .unset, .unset, .unset, .unset, .unset] [(.long q2), (.long (0 : Int64)), (.long (0 : Int64)), (.ref b230)])) rfl (by rw [hml]; rfl) (Steps.refl _) (argsL := [(.long (0 : Int64)), (.long (0 : Int64)), (.long q2)]) (rest := []) (lenOf pd_5 rfl) rfl (by show 2 * 0 + _ ≤ _; exact Nat.le_of_eq rfl) (hb hby at_72) (fun _ _ => ⟨rfl, rfl, (by decide : 4 + 0 ≤ _), (by decide : 55 + 0 ≤ _)⟩)
    dsimp only [Pt.U, Pt.locs, Pt.cells, Pt.slots] at X256 l256 y256 z256 st256 hQ256
    subst l256 y256 z256
    obtain ⟨rfl, N256q, K256, P256_0, P256_1, P256_2, P256_3, P256_4, P256_5, P256_6, P256_7, P256_8, P256_9, P256_10⟩ := hQ256
    have N256 := Fr.app N232 N256q
    refine own_goT st256 ?_
    show own_Run p e below _ T256 (mkF m 75 #[.val (.long q1), .second, .val (.long q2), .second, .val (.long q3), .second, .val (.long q4), .second, .val (.int p5), .val (.int (3 : Int32)), .val (.int x10), .val (.long tm), .second, .val (.ref b230), .unset, .unset, .unset, .unset, .unset, .unset, .unset, .unset, .unset] [])
    have Z0_c257 := Nat.le_trans Z0_c233 K256.1
    have K0_c257 := K0_c233.trans K256 (allS (Or.inr sz_b230) (allS (Or.inr sz_b1_232) (allS (Or.inr sz_b2_232) (allS (Or.inr sz_b3_232) all0))))
    have P232_0_c257 := P232_0.keep K256
    rw [own_maxMin] at P256_4
    refine own_go (fun _ k => XS.iload X256.here hx rfl (hb hby at_75) rfl k) ?_
    refine own_go (fun _ k => XS.iconst X256.here hx rfl (hb hby at_77) k) ?_
    show own_Run p e below _ T256 (mkF m 78 #[.val (.long q1), .second, .val (.long q2), .second, .val (.long q3), .second, .val (.long q4), .second, .val (.int p5), .val (.int (3 : Int32)), .val (.int x10), .val (.long tm), .second, .val (.ref b230), .unset, .unset, .unset, .unset, .unset, .unset, .unset, .unset, .unset] [(.int (1 : Int32)), (.int (3 : Int32))])
    refine own_go (fun _ k => XS.icmpNo X256.here hx rfl (hb hby at_78) rfl (tlt (by decide : (1 : Int32) < (3 : Int32))).2.2.2 k) ?_
    show own_Run p e below _ T256 (mkF m 81 #[.val (.long q1), .second, .val (.long q2), .second, .val (.long q3), .second, .val (.long q4), .second, .val (.int p5), .val (.int (3 : Int32)), .val (.int x10), .val (.long tm), .second, .val (.ref b230), .unset, .unset, .unset, .unset, .unset, .unset, .unset, .unset, .unset] [])
    refine own_go (fun _ k => XS.aload X256.here hx rfl (hb hby at_81) rfl rfl k) ?_
    refine own_go (fun _ k => XS.lconst X256.here hx rfl (hb hby at_83) k) ?_
    refine own_go (fun _ k => XS.lconst X256.here hx rfl (hb hby at_84) k) ?_
    refine own_go (fun _ k => XS.lload X256.here hx rfl (hb hby at_85) rfl k) ?_
    show own_Run p e below _ T256 (mkF m 87 #[.val (.long q1), .second, .val (.long q2), .second, .val (.long q3), .second, .val (.long q4), .second, .val (.int p5), .val (.int (3 : Int32)), .val (.int x10), .val (.long tm), .second, .val (.ref b230), .unset, .unset, .unset, .unset, .unset, .unset, .unset, .unset, .unset] [(.long q3), (.long (1 : Int64)), (.long (1 : Int64)), (.ref b230)])
    obtain ⟨cq258, kq258, q258a, q258b, q258c⟩ := isOf hZ rfl P256_0
    obtain ⟨_, _, ⟨T258, L258, k258, n258⟩, -, X258, ⟨Lc258, hQ258, l258, y258, z258⟩, st258⟩ := X256.virtualBack hx (y := (⟨"com/example/tote/tote/storage/OffsetIndex", "add", "(JJJ)V"⟩ : MethodName)) (z := (⟨"com/example/tote/tote/storage/OffsetIndex", "add", "(JJJ)V"⟩ : MethodName)) hown (mvT hZ (W 36 rfl)) (mvT hZ (W 37 rfl)) (notFace_of_selects (args := #[]) (mvT hZ (W 39 rfl))) (mvT hZ (W 39 rfl)) (mvT hZ (W 38 rfl)) (by decide) (backOf (W := 0) (rm5c1 l Z a0 hw [] b230 (1 : Int64) (1 : Int64) q3 b1_232 b2_232 b3_232 k1_232 k2_232 k3_232 q2 (0 : Int64) (0 : Int64) (((0 : Int64) - (0 : Int64)).toInt32) ((0 : Int64).toInt32) (-9223372036854775808 : Int64) T256.heap n0 Z0_c257 P256_0 P256_1 P256_2 P256_3 P256_4 P256_5 P256_6 P256_7 P256_8 P256_9 P256_10 g_b230 g_b1_232 g_b2_232 g_b3_232 P232_14 P232_15 P232_16 P232_17 P232_18 P232_19 (by decide) (by decide) (by decide)) hZ (W 40 rfl) (W 2 rfl) (by decide) (by decide)) q258a q258c (g := (mkF m 87 #[.val (.long q1), .second, .val (.long q2), .second, .val (.long q3), .second, .val (.long q4), .second, .val (.int p5), .val (.int (3 : Int32)), .val (.int x10), .val (.long tm), .second, .val (.ref b230), .unset, .unset, .unset, .unset, .unset, .unset, .unset, .unset, .unset] [(.long q3), (.long (1 : Int64)), (.long (1 : Int64)), (.ref b230)])) rfl (by rw [hml]; rfl) (Steps.refl _) (argsL := [(.long (1 : Int64)), (.long (1 : Int64)), (.long q3)]) (rest := []) (lenOf pd_5 rfl) rfl (by show 2 * 0 + _ ≤ _; exact Nat.le_of_eq rfl) (hb hby at_87) (fun _ _ => ⟨rfl, rfl, (by decide : 4 + 0 ≤ _), (by decide : 55 + 0 ≤ _)⟩)
    dsimp only [Pt.U, Pt.locs, Pt.cells, Pt.slots] at X258 l258 y258 z258 st258 hQ258
    subst l258 y258 z258
    obtain ⟨rfl, N258q, K258, P258_0, P258_1, P258_2, P258_3, P258_4, P258_5, P258_6, P258_7, P258_8, P258_9, P258_10⟩ := hQ258
    have N258 := Fr.app N256 N258q
    refine own_goT st258 ?_
    show own_Run p e below _ T258 (mkF m 90 #[.val (.long q1), .second, .val (.long q2), .second, .val (.long q3), .second, .val (.long q4), .second, .val (.int p5), .val (.int (3 : Int32)), .val (.int x10), .val (.long tm), .second, .val (.ref b230), .unset, .unset, .unset, .unset, .unset, .unset, .unset, .unset, .unset] [])
    have Z0_c259 := Nat.le_trans Z0_c257 K258.1
    have K0_c259 := K0_c257.trans K258 (allS (Or.inr sz_b230) (allS (Or.inr sz_b1_232) (allS (Or.inr sz_b2_232) (allS (Or.inr sz_b3_232) all0))))
    have P256_0_c259 := P256_0.keep K258
    refine own_go (fun _ k => XS.iload X258.here hx rfl (hb hby at_90) rfl k) ?_
    refine own_go (fun _ k => XS.iconst X258.here hx rfl (hb hby at_92) k) ?_
    show own_Run p e below _ T258 (mkF m 93 #[.val (.long q1), .second, .val (.long q2), .second, .val (.long q3), .second, .val (.long q4), .second, .val (.int p5), .val (.int (3 : Int32)), .val (.int x10), .val (.long tm), .second, .val (.ref b230), .unset, .unset, .unset, .unset, .unset, .unset, .unset, .unset, .unset] [(.int (2 : Int32)), (.int (3 : Int32))])
    refine own_go (fun _ k => XS.icmpNo X258.here hx rfl (hb hby at_93) rfl (tlt (by decide : (2 : Int32) < (3 : Int32))).2.2.2 k) ?_
    show own_Run p e below _ T258 (mkF m 96 #[.val (.long q1), .second, .val (.long q2), .second, .val (.long q3), .second, .val (.long q4), .second, .val (.int p5), .val (.int (3 : Int32)), .val (.int x10), .val (.long tm), .second, .val (.ref b230), .unset, .unset, .unset, .unset, .unset, .unset, .unset, .unset, .unset] [])
    refine own_go (fun _ k => XS.aload X258.here hx rfl (hb hby at_96) rfl rfl k) ?_
    show own_Run p e below _ T258 (mkF m 98 #[.val (.long q1), .second, .val (.long q2), .second, .val (.long q3), .second, .val (.long q4), .second, .val (.int p5), .val (.int (3 : Int32)), .val (.int x10), .val (.long tm), .second, .val (.ref b230), .unset, .unset, .unset, .unset, .unset, .unset, .unset, .unset, .unset] [(.ref b230)])
    refine own_go (X258.ldc2Long hx hown (mvT hZ (W 49 rfl)) (g := (mkF m 98 #[.val (.long q1), .second, .val (.long q2), .second, .val (.long q3), .second, .val (.long q4), .second, .val (.int p5), .val (.int (3 : Int32)), .val (.int x10), .val (.long tm), .second, .val (.ref b230), .unset, .unset, .unset, .unset, .unset, .unset, .unset, .unset, .unset] [(.ref b230)])) rfl (hb hby at_98)) ?_
    show own_Run p e below _ T258 (mkF m 101 #[.val (.long q1), .second, .val (.long q2), .second, .val (.long q3), .second, .val (.long q4), .second, .val (.int p5), .val (.int (3 : Int32)), .val (.int x10), .val (.long tm), .second, .val (.ref b230), .unset, .unset, .unset, .unset, .unset, .unset, .unset, .unset, .unset] [(.long (2 : Int64)), (.ref b230)])
    refine own_go (X258.ldc2Long hx hown (mvT hZ (W 49 rfl)) (g := (mkF m 101 #[.val (.long q1), .second, .val (.long q2), .second, .val (.long q3), .second, .val (.long q4), .second, .val (.int p5), .val (.int (3 : Int32)), .val (.int x10), .val (.long tm), .second, .val (.ref b230), .unset, .unset, .unset, .unset, .unset, .unset, .unset, .unset, .unset] [(.long (2 : Int64)), (.ref b230)])) rfl (hb hby at_101)) ?_
    show own_Run p e below _ T258 (mkF m 104 #[.val (.long q1), .second, .val (.long q2), .second, .val (.long q3), .second, .val (.long q4), .second, .val (.int p5), .val (.int (3 : Int32)), .val (.int x10), .val (.long tm), .second, .val (.ref b230), .unset, .unset, .unset, .unset, .unset, .unset, .unset, .unset, .unset] [(.long (2 : Int64)), (.long (2 : Int64)), (.ref b230)])
    refine own_go (fun _ k => XS.lload X258.here hx rfl (hb hby at_104) rfl k) ?_
    show own_Run p e below _ T258 (mkF m 106 #[.val (.long q1), .second, .val (.long q2), .second, .val (.long q3), .second, .val (.long q4), .second, .val (.int p5), .val (.int (3 : Int32)), .val (.int x10), .val (.long tm), .second, .val (.ref b230), .unset, .unset, .unset, .unset, .unset, .unset, .unset, .unset, .unset] [(.long q4), (.long (2 : Int64)), (.long (2 : Int64)), (.ref b230)])
    obtain ⟨cq260, kq260, q260a, q260b, q260c⟩ := isOf hZ rfl P258_0
    obtain ⟨_, _, ⟨T260, L260, k260, n260⟩, -, X260, ⟨Lc260, hQ260, l260, y260, z260⟩, st260⟩ := X258.virtualBack hx (y := (⟨"com/example/tote/tote/storage/OffsetIndex", "add", "(JJJ)V"⟩ : MethodName)) (z := (⟨"com/example/tote/tote/storage/OffsetIndex", "add", "(JJJ)V"⟩ : MethodName)) hown (mvT hZ (W 36 rfl)) (mvT hZ (W 37 rfl)) (notFace_of_selects (args := #[]) (mvT hZ (W 39 rfl))) (mvT hZ (W 39 rfl)) (mvT hZ (W 38 rfl)) (by decide) (backOf (W := 0) (rm5c2 l Z a0 hw [] b230 (2 : Int64) (2 : Int64) q4 b1_232 b2_232 b3_232 k1_232 k2_232 k3_232 (own_max q2 q3) (0 : Int64) (0 : Int64) (((0 : Int64) - (0 : Int64)).toInt32) (((1 : Int64) - (0 : Int64)).toInt32) ((0 : Int64).toInt32) ((1 : Int64).toInt32) (-9223372036854775808 : Int64) q2 T258.heap n0 Z0_c259 P258_0 P258_1 P258_2 P258_3 P258_4 P258_5 P258_6 P258_7 P258_8 P258_9 P258_10 g_b230 g_b1_232 g_b2_232 g_b3_232 P232_14 P232_15 P232_16 P232_17 P232_18 P232_19 (by decide) (by decide) (by decide)) hZ (W 40 rfl) (W 2 rfl) (by decide) (by decide)) q260a q260c (g := (mkF m 106 #[.val (.long q1), .second, .val (.long q2), .second, .val (.long q3), .second, .val (.long q4), .second, .val (.int p5), .val (.int (3 : Int32)), .val (.int x10), .val (.long tm), .second, .val (.ref b230), .unset, .unset, .unset, .unset, .unset, .unset, .unset, .unset, .unset] [(.long q4), (.long (2 : Int64)), (.long (2 : Int64)), (.ref b230)])) rfl (by rw [hml]; rfl) (Steps.refl _) (argsL := [(.long (2 : Int64)), (.long (2 : Int64)), (.long q4)]) (rest := []) (lenOf pd_5 rfl) rfl (by show 2 * 0 + _ ≤ _; exact Nat.le_of_eq rfl) (hb hby at_106) (fun _ _ => ⟨rfl, rfl, (by decide : 4 + 0 ≤ _), (by decide : 55 + 0 ≤ _)⟩)
    dsimp only [Pt.U, Pt.locs, Pt.cells, Pt.slots] at X260 l260 y260 z260 st260 hQ260
    subst l260 y260 z260
    obtain ⟨rfl, N260q, K260, P260_0, P260_1, P260_2, P260_3, P260_4, P260_5, P260_6, P260_7, P260_8, P260_9, P260_10⟩ := hQ260
    have N260 := Fr.app N258 N260q
    refine own_goT st260 ?_
    show own_Run p e below _ T260 (mkF m 109 #[.val (.long q1), .second, .val (.long q2), .second, .val (.long q3), .second, .val (.long q4), .second, .val (.int p5), .val (.int (3 : Int32)), .val (.int x10), .val (.long tm), .second, .val (.ref b230), .unset, .unset, .unset, .unset, .unset, .unset, .unset, .unset, .unset] [])
    have Z0_c261 := Nat.le_trans Z0_c259 K260.1
    have K0_c261 := K0_c259.trans K260 (allS (Or.inr sz_b230) (allS (Or.inr sz_b1_232) (allS (Or.inr sz_b2_232) (allS (Or.inr sz_b3_232) all0))))
    have P258_0_c261 := P258_0.keep K260
    refine own_go (fun _ k => XS.iload X260.here hx rfl (hb hby at_109) rfl k) ?_
    refine own_go (fun _ k => XS.iconst X260.here hx rfl (hb hby at_111) k) ?_
    show own_Run p e below _ T260 (mkF m 112 #[.val (.long q1), .second, .val (.long q2), .second, .val (.long q3), .second, .val (.long q4), .second, .val (.int p5), .val (.int (3 : Int32)), .val (.int x10), .val (.long tm), .second, .val (.ref b230), .unset, .unset, .unset, .unset, .unset, .unset, .unset, .unset, .unset] [(.int (3 : Int32)), (.int (3 : Int32))])
    refine own_go (fun _ k => XS.icmpYes X260.here hx rfl (pc0 := 112) (pc' := 127) rfl (hb hby at_112) rfl (flt (by decide : ¬ ((3 : Int32) < (3 : Int32)))).2.2.2 (by decide) (by decide) k) ?_
    show own_Run p e below _ T260 (mkF m 127 #[.val (.long q1), .second, .val (.long q2), .second, .val (.long q3), .second, .val (.long q4), .second, .val (.int p5), .val (.int (3 : Int32)), .val (.int x10), .val (.long tm), .second, .val (.ref b230), .unset, .unset, .unset, .unset, .unset, .unset, .unset, .unset, .unset] [])
    refine own_go (X260.ldc2Long hx hown (mvT hZ (W 24 rfl)) (g := (mkF m 127 #[.val (.long q1), .second, .val (.long q2), .second, .val (.long q3), .second, .val (.long q4), .second, .val (.int p5), .val (.int (3 : Int32)), .val (.int x10), .val (.long tm), .second, .val (.ref b230), .unset, .unset, .unset, .unset, .unset, .unset, .unset, .unset, .unset] [])) rfl (hb hby at_127)) ?_
    show own_Run p e below _ T260 (mkF m 130 #[.val (.long q1), .second, .val (.long q2), .second, .val (.long q3), .second, .val (.long q4), .second, .val (.int p5), .val (.int (3 : Int32)), .val (.int x10), .val (.long tm), .second, .val (.ref b230), .unset, .unset, .unset, .unset, .unset, .unset, .unset, .unset, .unset] [(.long (-9223372036854775808 : Int64))])
    refine own_go (fun _ k => XS.lstore X260.here hx rfl (hb hby at_130) rfl (l' := #[.val (.long q1), .second, .val (.long q2), .second, .val (.long q3), .second, .val (.long q4), .second, .val (.int p5), .val (.int (3 : Int32)), .val (.int x10), .val (.long tm), .second, .val (.ref b230), .val (.long (-9223372036854775808 : Int64)), .second, .unset, .unset, .unset, .unset, .unset, .unset, .unset]) rfl k) ?_
    refine own_go (fun _ k => XS.lloadN X260.here hx rfl (hb hby at_132) rfl k) ?_
    refine own_go (fun _ k => XS.lstore X260.here hx rfl (hb hby at_133) rfl (l' := #[.val (.long q1), .second, .val (.long q2), .second, .val (.long q3), .second, .val (.long q4), .second, .val (.int p5), .val (.int (3 : Int32)), .val (.int x10), .val (.long tm), .second, .val (.ref b230), .val (.long (-9223372036854775808 : Int64)), .second, .val (.long q2), .second, .unset, .unset, .unset, .unset, .unset]) rfl k) ?_
    refine own_go (fun _ k => XS.lloadN X260.here hx rfl (hb hby at_135) rfl k) ?_
    show own_Run p e below _ T260 (mkF m 136 #[.val (.long q1), .second, .val (.long q2), .second, .val (.long q3), .second, .val (.long q4), .second, .val (.int p5), .val (.int (3 : Int32)), .val (.int x10), .val (.long tm), .second, .val (.ref b230), .val (.long (-9223372036854775808 : Int64)), .second, .val (.long q2), .second, .unset, .unset, .unset, .unset, .unset] [(.long q2)])
    refine own_go (fun _ k => XS.lload X260.here hx rfl (hb hby at_136) rfl k) ?_
    show own_Run p e below _ T260 (mkF m 138 #[.val (.long q1), .second, .val (.long q2), .second, .val (.long q3), .second, .val (.long q4), .second, .val (.int p5), .val (.int (3 : Int32)), .val (.int x10), .val (.long tm), .second, .val (.ref b230), .val (.long (-9223372036854775808 : Int64)), .second, .val (.long q2), .second, .unset, .unset, .unset, .unset, .unset] [(.long q3), (.long q2)])
    obtain ⟨_, _, ⟨T262, L262, k262, n262⟩, -, X262, ⟨Lc262, hQ262, l262, y262, z262⟩, st262⟩ := Jvm.LawKit.callS X260 hx (y := (⟨"java/lang/Math", "max", "(JJ)J"⟩ : MethodName)) hown (mvT hZ (W 25 rfl)) (mvT hZ (W 26 rfl)) (mvT hZ (W 27 rfl)) (mvT hZ (W 28 rfl)) (by decide) (backOf (W := 0) (rm3 l Z a0 hw [] q2 q3 T260.heap n0 Z0_c261 ) hZ (W 28 rfl) (W 27 rfl) (by decide) (by decide)) (g := (mkF m 138 #[.val (.long q1), .second, .val (.long q2), .second, .val (.long q3), .second, .val (.long q4), .second, .val (.int p5), .val (.int (3 : Int32)), .val (.int x10), .val (.long tm), .second, .val (.ref b230), .val (.long (-9223372036854775808 : Int64)), .second, .val (.long q2), .second, .unset, .unset, .unset, .unset, .unset] [(.long q3), (.long q2)])) rfl (by rw [hml]; rfl) (argsL := [(.long q2), (.long q3)]) (rest := []) (lenOf pd_3 rfl) rfl (by show 2 * 0 + _ ≤ _; exact Nat.le_of_eq rfl) (hb hby at_138) (fun _ _ => ⟨rfl, rfl, (by decide : 4 + 0 ≤ _), (by decide : 55 + 0 ≤ _)⟩)
    dsimp only [Pt.U, Pt.locs, Pt.cells, Pt.slots] at X262 l262 y262 z262 st262 hQ262
    subst l262 y262 z262
    obtain ⟨rfl, N262q, e262⟩ := hQ262
    have N262 := Fr.app N260 N262q
    refine own_go st262 ?_
    show own_Run p e below _ T262 (mkF m 141 #[.val (.long q1), .second, .val (.long q2), .second, .val (.long q3), .second, .val (.long q4), .second, .val (.int p5), .val (.int (3 : Int32)), .val (.int x10), .val (.long tm), .second, .val (.ref b230), .val (.long (-9223372036854775808 : Int64)), .second, .val (.long q2), .second, .unset, .unset, .unset, .unset, .unset] [(.long (own_max q2 q3))])
    refine own_go (fun _ k => XS.lstore X262.here hx rfl (hb hby at_141) rfl (l' := #[.val (.long q1), .second, .val (.long q2), .second, .val (.long q3), .second, .val (.long q4), .second, .val (.int p5), .val (.int (3 : Int32)), .val (.int x10), .val (.long tm), .second, .val (.ref b230), .val (.long (-9223372036854775808 : Int64)), .second, .val (.long q2), .second, .val (.long (own_max q2 q3)), .second, .unset, .unset, .unset]) rfl k) ?_
    refine own_go (fun _ k => XS.lload X262.here hx rfl (hb hby at_143) rfl k) ?_
    refine own_go (fun _ k => XS.lload X262.here hx rfl (hb hby at_145) rfl k) ?_
    show own_Run p e below _ T262 (mkF m 147 #[.val (.long q1), .second, .val (.long q2), .second, .val (.long q3), .second, .val (.long q4), .second, .val (.int p5), .val (.int (3 : Int32)), .val (.int x10), .val (.long tm), .second, .val (.ref b230), .val (.long (-9223372036854775808 : Int64)), .second, .val (.long q2), .second, .val (.long (own_max q2 q3)), .second, .unset, .unset, .unset] [(.long q4), (.long (own_max q2 q3))])
    obtain ⟨_, _, ⟨T263, L263, k263, n263⟩, -, X263, ⟨Lc263, hQ263, l263, y263, z263⟩, st263⟩ := Jvm.LawKit.callS X262 hx (y := (⟨"java/lang/Math", "max", "(JJ)J"⟩ : MethodName)) hown (mvT hZ (W 25 rfl)) (mvT hZ (W 26 rfl)) (mvT hZ (W 27 rfl)) (mvT hZ (W 28 rfl)) (by decide) (backOf (W := 0) (rm3 l Z a0 hw [] (own_max q2 q3) q4 T260.heap n0 Z0_c261 ) hZ (W 28 rfl) (W 27 rfl) (by decide) (by decide)) (g := (mkF m 147 #[.val (.long q1), .second, .val (.long q2), .second, .val (.long q3), .second, .val (.long q4), .second, .val (.int p5), .val (.int (3 : Int32)), .val (.int x10), .val (.long tm), .second, .val (.ref b230), .val (.long (-9223372036854775808 : Int64)), .second, .val (.long q2), .second, .val (.long (own_max q2 q3)), .second, .unset, .unset, .unset] [(.long q4), (.long (own_max q2 q3))])) rfl (by rw [hml]; rfl) (argsL := [(.long (own_max q2 q3)), (.long q4)]) (rest := []) (lenOf pd_3 rfl) rfl (by show 2 * 0 + _ ≤ _; exact Nat.le_of_eq rfl) (hb hby at_147) (fun _ _ => ⟨rfl, e262, (by decide : 4 + 0 ≤ _), (by decide : 55 + 0 ≤ _)⟩)
    dsimp only [Pt.U, Pt.locs, Pt.cells, Pt.slots] at X263 l263 y263 z263 st263 hQ263
    subst l263 y263 z263
    obtain ⟨rfl, N263q, e263⟩ := hQ263
    have N263 := Fr.app N262 N263q
    refine own_go st263 ?_
    show own_Run p e below _ T263 (mkF m 150 #[.val (.long q1), .second, .val (.long q2), .second, .val (.long q3), .second, .val (.long q4), .second, .val (.int p5), .val (.int (3 : Int32)), .val (.int x10), .val (.long tm), .second, .val (.ref b230), .val (.long (-9223372036854775808 : Int64)), .second, .val (.long q2), .second, .val (.long (own_max q2 q3)), .second, .unset, .unset, .unset] [(.long (own_max (own_max q2 q3) q4))])
    refine own_go (fun _ k => XS.lstore X263.here hx rfl (hb hby at_150) rfl (l' := #[.val (.long q1), .second, .val (.long q2), .second, .val (.long q3), .second, .val (.long q4), .second, .val (.int p5), .val (.int (3 : Int32)), .val (.int x10), .val (.long tm), .second, .val (.ref b230), .val (.long (-9223372036854775808 : Int64)), .second, .val (.long q2), .second, .val (.long (own_max q2 q3)), .second, .val (.long (own_max (own_max q2 q3) q4)), .second, .unset]) rfl k) ?_
    refine own_go (fun _ k => XS.iconst X263.here hx rfl (hb hby at_152) k) ?_
    refine own_go (fun _ k => XS.istore X263.here hx rfl (hb hby at_153) rfl (l' := #[.val (.long q1), .second, .val (.long q2), .second, .val (.long q3), .second, .val (.long q4), .second, .val (.int p5), .val (.int (3 : Int32)), .val (.int x10), .val (.long tm), .second, .val (.ref b230), .val (.long (-9223372036854775808 : Int64)), .second, .val (.long q2), .second, .val (.long (own_max q2 q3)), .second, .val (.long (own_max (own_max q2 q3) q4)), .second, .val (.int (0 : Int32))]) rfl k) ?_
    refine own_go (fun _ k => XS.iload X263.here hx rfl (hb hby at_155) rfl k) ?_
    show own_Run p e below _ T263 (mkF m 157 #[.val (.long q1), .second, .val (.long q2), .second, .val (.long q3), .second, .val (.long q4), .second, .val (.int p5), .val (.int (3 : Int32)), .val (.int x10), .val (.long tm), .second, .val (.ref b230), .val (.long (-9223372036854775808 : Int64)), .second, .val (.long q2), .second, .val (.long (own_max q2 q3)), .second, .val (.long (own_max (own_max q2 q3) q4)), .second, .val (.int (0 : Int32))] [(.int (3 : Int32))])
    refine own_go (fun _ k => XS.ifNo X263.here hx rfl (hb hby at_157) rfl ((if0 _ _).trans (tlt (by decide : (0 : Int32) < (3 : Int32))).2.2.2) k) ?_
    show own_Run p e below _ T263 (mkF m 160 #[.val (.long q1), .second, .val (.long q2), .second, .val (.long q3), .second, .val (.long q4), .second, .val (.int p5), .val (.int (3 : Int32)), .val (.int x10), .val (.long tm), .second, .val (.ref b230), .val (.long (-9223372036854775808 : Int64)), .second, .val (.long q2), .second, .val (.long (own_max q2 q3)), .second, .val (.long (own_max (own_max q2 q3) q4)), .second, .val (.int (0 : Int32))] [])
    refine own_go (fun _ k => XS.lload X263.here hx rfl (hb hby at_160) rfl k) ?_
    refine own_go (fun _ k => XS.lload X263.here hx rfl (hb hby at_162) rfl k) ?_
    refine own_go (fun _ k => XS.lcmp X263.here hx rfl (hb hby at_164) rfl k) ?_
    show own_Run p e below _ T263 (mkF m 165 #[.val (.long q1), .second, .val (.long q2), .second, .val (.long q3), .second, .val (.long q4), .second, .val (.int p5), .val (.int (3 : Int32)), .val (.int x10), .val (.long tm), .second, .val (.ref b230), .val (.long (-9223372036854775808 : Int64)), .second, .val (.long q2), .second, .val (.long (own_max q2 q3)), .second, .val (.long (own_max (own_max q2 q3) q4)), .second, .val (.int (0 : Int32))] [(.int (lcmpW (-9223372036854775808 : Int64) tm))])
    by_cases hc165_264 : (-9223372036854775808 : Int64) < tm
    · refine own_go (fun _ k => XS.ifNo X263.here hx rfl (hb hby at_165) rfl (own_lcT hc165_264).2.1 k) ?_
      show own_Run p e below _ T263 (mkF m 168 #[.val (.long q1), .second, .val (.long q2), .second, .val (.long q3), .second, .val (.long q4), .second, .val (.int p5), .val (.int (3 : Int32)), .val (.int x10), .val (.long tm), .second, .val (.ref b230), .val (.long (-9223372036854775808 : Int64)), .second, .val (.long q2), .second, .val (.long (own_max q2 q3)), .second, .val (.long (own_max (own_max q2 q3) q4)), .second, .val (.int (0 : Int32))] [])
      refine own_go (fun _ k => XS.iinc X263.here hx rfl (hb hby at_168) rfl (l' := #[.val (.long q1), .second, .val (.long q2), .second, .val (.long q3), .second, .val (.long q4), .second, .val (.int p5), .val (.int (3 : Int32)), .val (.int x10), .val (.long tm), .second, .val (.ref b230), .val (.long (-9223372036854775808 : Int64)), .second, .val (.long q2), .second, .val (.long (own_max q2 q3)), .second, .val (.long (own_max (own_max q2 q3) q4)), .second, .val (.int ((0 : Int32) + (1 : Int32)))]) rfl k) ?_
      show own_Run p e below _ T263 (mkF m 171 #[.val (.long q1), .second, .val (.long q2), .second, .val (.long q3), .second, .val (.long q4), .second, .val (.int p5), .val (.int (3 : Int32)), .val (.int x10), .val (.long tm), .second, .val (.ref b230), .val (.long (-9223372036854775808 : Int64)), .second, .val (.long q2), .second, .val (.long (own_max q2 q3)), .second, .val (.long (own_max (own_max q2 q3) q4)), .second, .val (.int ((0 : Int32) + (1 : Int32)))] [])
      rw [show ((0 : Int32) + (1 : Int32)) = (1 : Int32) by decide]
      show own_Run p e below _ T263 (mkF m 171 #[.val (.long q1), .second, .val (.long q2), .second, .val (.long q3), .second, .val (.long q4), .second, .val (.int p5), .val (.int (3 : Int32)), .val (.int x10), .val (.long tm), .second, .val (.ref b230), .val (.long (-9223372036854775808 : Int64)), .second, .val (.long q2), .second, .val (.long (own_max q2 q3)), .second, .val (.long (own_max (own_max q2 q3) q4)), .second, .val (.int (1 : Int32))] [])
      refine own_go (fun _ k => XS.iload X263.here hx rfl (hb hby at_171) rfl k) ?_
      refine own_go (fun _ k => XS.iconst X263.here hx rfl (hb hby at_173) k) ?_
      show own_Run p e below _ T263 (mkF m 174 #[.val (.long q1), .second, .val (.long q2), .second, .val (.long q3), .second, .val (.long q4), .second, .val (.int p5), .val (.int (3 : Int32)), .val (.int x10), .val (.long tm), .second, .val (.ref b230), .val (.long (-9223372036854775808 : Int64)), .second, .val (.long q2), .second, .val (.long (own_max q2 q3)), .second, .val (.long (own_max (own_max q2 q3) q4)), .second, .val (.int (1 : Int32))] [(.int (1 : Int32)), (.int (3 : Int32))])
      refine own_go (fun _ k => XS.icmpNo X263.here hx rfl (hb hby at_174) rfl (tlt (by decide : (1 : Int32) < (3 : Int32))).2.2.2 k) ?_
      show own_Run p e below _ T263 (mkF m 177 #[.val (.long q1), .second, .val (.long q2), .second, .val (.long q3), .second, .val (.long q4), .second, .val (.int p5), .val (.int (3 : Int32)), .val (.int x10), .val (.long tm), .second, .val (.ref b230), .val (.long (-9223372036854775808 : Int64)), .second, .val (.long q2), .second, .val (.long (own_max q2 q3)), .second, .val (.long (own_max (own_max q2 q3) q4)), .second, .val (.int (1 : Int32))] [])
      refine own_go (fun _ k => XS.lload X263.here hx rfl (hb hby at_177) rfl k) ?_
      refine own_go (fun _ k => XS.lload X263.here hx rfl (hb hby at_179) rfl k) ?_
      refine own_go (fun _ k => XS.lcmp X263.here hx rfl (hb hby at_181) rfl k) ?_
      show own_Run p e below _ T263 (mkF m 182 #[.val (.long q1), .second, .val (.long q2), .second, .val (.long q3), .second, .val (.long q4), .second, .val (.int p5), .val (.int (3 : Int32)), .val (.int x10), .val (.long tm), .second, .val (.ref b230), .val (.long (-9223372036854775808 : Int64)), .second, .val (.long q2), .second, .val (.long (own_max q2 q3)), .second, .val (.long (own_max (own_max q2 q3) q4)), .second, .val (.int (1 : Int32))] [(.int (lcmpW q2 tm))])
      by_cases hc182_265 : q2 < tm
      · refine own_go (fun _ k => XS.ifNo X263.here hx rfl (hb hby at_182) rfl (own_lcT hc182_265).2.1 k) ?_
        show own_Run p e below _ T263 (mkF m 185 #[.val (.long q1), .second, .val (.long q2), .second, .val (.long q3), .second, .val (.long q4), .second, .val (.int p5), .val (.int (3 : Int32)), .val (.int x10), .val (.long tm), .second, .val (.ref b230), .val (.long (-9223372036854775808 : Int64)), .second, .val (.long q2), .second, .val (.long (own_max q2 q3)), .second, .val (.long (own_max (own_max q2 q3) q4)), .second, .val (.int (1 : Int32))] [])
        refine own_go (fun _ k => XS.iinc X263.here hx rfl (hb hby at_185) rfl (l' := #[.val (.long q1), .second, .val (.long q2), .second, .val (.long q3), .second, .val (.long q4), .second, .val (.int p5), .val (.int (3 : Int32)), .val (.int x10), .val (.long tm), .second, .val (.ref b230), .val (.long (-9223372036854775808 : Int64)), .second, .val (.long q2), .second, .val (.long (own_max q2 q3)), .second, .val (.long (own_max (own_max q2 q3) q4)), .second, .val (.int ((1 : Int32) + (1 : Int32)))]) rfl k) ?_
        show own_Run p e below _ T263 (mkF m 188 #[.val (.long q1), .second, .val (.long q2), .second, .val (.long q3), .second, .val (.long q4), .second, .val (.int p5), .val (.int (3 : Int32)), .val (.int x10), .val (.long tm), .second, .val (.ref b230), .val (.long (-9223372036854775808 : Int64)), .second, .val (.long q2), .second, .val (.long (own_max q2 q3)), .second, .val (.long (own_max (own_max q2 q3) q4)), .second, .val (.int ((1 : Int32) + (1 : Int32)))] [])
        rw [show ((1 : Int32) + (1 : Int32)) = (2 : Int32) by decide]
        show own_Run p e below _ T263 (mkF m 188 #[.val (.long q1), .second, .val (.long q2), .second, .val (.long q3), .second, .val (.long q4), .second, .val (.int p5), .val (.int (3 : Int32)), .val (.int x10), .val (.long tm), .second, .val (.ref b230), .val (.long (-9223372036854775808 : Int64)), .second, .val (.long q2), .second, .val (.long (own_max q2 q3)), .second, .val (.long (own_max (own_max q2 q3) q4)), .second, .val (.int (2 : Int32))] [])
        refine own_go (fun _ k => XS.iload X263.here hx rfl (hb hby at_188) rfl k) ?_
        refine own_go (fun _ k => XS.iconst X263.here hx rfl (hb hby at_190) k) ?_
        show own_Run p e below _ T263 (mkF m 191 #[.val (.long q1), .second, .val (.long q2), .second, .val (.long q3), .second, .val (.long q4), .second, .val (.int p5), .val (.int (3 : Int32)), .val (.int x10), .val (.long tm), .second, .val (.ref b230), .val (.long (-9223372036854775808 : Int64)), .second, .val (.long q2), .second, .val (.long (own_max q2 q3)), .second, .val (.long (own_max (own_max q2 q3) q4)), .second, .val (.int (2 : Int32))] [(.int (2 : Int32)), (.int (3 : Int32))])
        refine own_go (fun _ k => XS.icmpNo X263.here hx rfl (hb hby at_191) rfl (tlt (by decide : (2 : Int32) < (3 : Int32))).2.2.2 k) ?_
        show own_Run p e below _ T263 (mkF m 194 #[.val (.long q1), .second, .val (.long q2), .second, .val (.long q3), .second, .val (.long q4), .second, .val (.int p5), .val (.int (3 : Int32)), .val (.int x10), .val (.long tm), .second, .val (.ref b230), .val (.long (-9223372036854775808 : Int64)), .second, .val (.long q2), .second, .val (.long (own_max q2 q3)), .second, .val (.long (own_max (own_max q2 q3) q4)), .second, .val (.int (2 : Int32))] [])
        refine own_go (fun _ k => XS.lload X263.here hx rfl (hb hby at_194) rfl k) ?_
        refine own_go (fun _ k => XS.lload X263.here hx rfl (hb hby at_196) rfl k) ?_
        refine own_go (fun _ k => XS.lcmp X263.here hx rfl (hb hby at_198) rfl k) ?_
        show own_Run p e below _ T263 (mkF m 199 #[.val (.long q1), .second, .val (.long q2), .second, .val (.long q3), .second, .val (.long q4), .second, .val (.int p5), .val (.int (3 : Int32)), .val (.int x10), .val (.long tm), .second, .val (.ref b230), .val (.long (-9223372036854775808 : Int64)), .second, .val (.long q2), .second, .val (.long (own_max q2 q3)), .second, .val (.long (own_max (own_max q2 q3) q4)), .second, .val (.int (2 : Int32))] [(.int (lcmpW (own_max q2 q3) tm))])
        by_cases hc199_266 : (own_max q2 q3) < tm
        · refine own_go (fun _ k => XS.ifNo X263.here hx rfl (hb hby at_199) rfl (own_lcT hc199_266).2.1 k) ?_
          show own_Run p e below _ T263 (mkF m 202 #[.val (.long q1), .second, .val (.long q2), .second, .val (.long q3), .second, .val (.long q4), .second, .val (.int p5), .val (.int (3 : Int32)), .val (.int x10), .val (.long tm), .second, .val (.ref b230), .val (.long (-9223372036854775808 : Int64)), .second, .val (.long q2), .second, .val (.long (own_max q2 q3)), .second, .val (.long (own_max (own_max q2 q3) q4)), .second, .val (.int (2 : Int32))] [])
          refine own_go (fun _ k => XS.iinc X263.here hx rfl (hb hby at_202) rfl (l' := #[.val (.long q1), .second, .val (.long q2), .second, .val (.long q3), .second, .val (.long q4), .second, .val (.int p5), .val (.int (3 : Int32)), .val (.int x10), .val (.long tm), .second, .val (.ref b230), .val (.long (-9223372036854775808 : Int64)), .second, .val (.long q2), .second, .val (.long (own_max q2 q3)), .second, .val (.long (own_max (own_max q2 q3) q4)), .second, .val (.int ((2 : Int32) + (1 : Int32)))]) rfl k) ?_
          show own_Run p e below _ T263 (mkF m 205 #[.val (.long q1), .second, .val (.long q2), .second, .val (.long q3), .second, .val (.long q4), .second, .val (.int p5), .val (.int (3 : Int32)), .val (.int x10), .val (.long tm), .second, .val (.ref b230), .val (.long (-9223372036854775808 : Int64)), .second, .val (.long q2), .second, .val (.long (own_max q2 q3)), .second, .val (.long (own_max (own_max q2 q3) q4)), .second, .val (.int ((2 : Int32) + (1 : Int32)))] [])
          rw [show ((2 : Int32) + (1 : Int32)) = (3 : Int32) by decide]
          show own_Run p e below _ T263 (mkF m 205 #[.val (.long q1), .second, .val (.long q2), .second, .val (.long q3), .second, .val (.long q4), .second, .val (.int p5), .val (.int (3 : Int32)), .val (.int x10), .val (.long tm), .second, .val (.ref b230), .val (.long (-9223372036854775808 : Int64)), .second, .val (.long q2), .second, .val (.long (own_max q2 q3)), .second, .val (.long (own_max (own_max q2 q3) q4)), .second, .val (.int (3 : Int32))] [])
          refine own_go (fun _ k => XS.iload X263.here hx rfl (hb hby at_205) rfl k) ?_
          refine own_go (fun _ k => XS.iconst X263.here hx rfl (hb hby at_207) k) ?_
          show own_Run p e below _ T263 (mkF m 208 #[.val (.long q1), .second, .val (.long q2), .second, .val (.long q3), .second, .val (.long q4), .second, .val (.int p5), .val (.int (3 : Int32)), .val (.int x10), .val (.long tm), .second, .val (.ref b230), .val (.long (-9223372036854775808 : Int64)), .second, .val (.long q2), .second, .val (.long (own_max q2 q3)), .second, .val (.long (own_max (own_max q2 q3) q4)), .second, .val (.int (3 : Int32))] [(.int (3 : Int32)), (.int (3 : Int32))])
          refine own_go (fun _ k => XS.icmpYes X263.here hx rfl (pc0 := 208) (pc' := 222) rfl (hb hby at_208) rfl (flt (by decide : ¬ ((3 : Int32) < (3 : Int32)))).2.2.2 (by decide) (by decide) k) ?_
          show own_Run p e below _ T263 (mkF m 222 #[.val (.long q1), .second, .val (.long q2), .second, .val (.long q3), .second, .val (.long q4), .second, .val (.int p5), .val (.int (3 : Int32)), .val (.int x10), .val (.long tm), .second, .val (.ref b230), .val (.long (-9223372036854775808 : Int64)), .second, .val (.long q2), .second, .val (.long (own_max q2 q3)), .second, .val (.long (own_max (own_max q2 q3) q4)), .second, .val (.int (3 : Int32))] [])
          refine own_go (fun _ k => XS.aload X263.here hx rfl (hb hby at_222) rfl rfl k) ?_
          refine own_go (fun _ k => XS.lload X263.here hx rfl (hb hby at_224) rfl k) ?_
          show own_Run p e below _ T263 (mkF m 226 #[.val (.long q1), .second, .val (.long q2), .second, .val (.long q3), .second, .val (.long q4), .second, .val (.int p5), .val (.int (3 : Int32)), .val (.int x10), .val (.long tm), .second, .val (.ref b230), .val (.long (-9223372036854775808 : Int64)), .second, .val (.long q2), .second, .val (.long (own_max q2 q3)), .second, .val (.long (own_max (own_max q2 q3) q4)), .second, .val (.int (3 : Int32))] [(.long tm), (.ref b230)])
          obtain ⟨cq267, kq267, q267a, q267b, q267c⟩ := isOf hZ e263 P260_0
          obtain ⟨_, _, ⟨T267, L267, k267, n267⟩, -, X267, ⟨Lc267, hQ267, l267, y267, z267⟩, st267⟩ := X263.virtualBack hx (y := (⟨"com/example/tote/tote/storage/OffsetIndex", "floorTime", "(J)I"⟩ : MethodName)) (z := (⟨"com/example/tote/tote/storage/OffsetIndex", "floorTime", "(J)I"⟩ : MethodName)) hown (mvT hZ (W 29 rfl)) (mvT hZ (W 30 rfl)) (notFace_of_selects (args := #[]) (mvT hZ (W 32 rfl))) (mvT hZ (W 32 rfl)) (mvT hZ (W 31 rfl)) (by decide) (backOf (W := 0) (rm4n3 l Z a0 hw [] b230 tm b3_232 k3_232 (-9223372036854775808 : Int64) q2 (own_max q2 q3) (2 : Int32) T260.heap n0 Z0_c261 P260_3 P260_7 P260_10 (Or.inr (Or.inr (Or.inr (⟨hc165_264, hc182_265, hc199_266, rfl⟩))))) hZ (W 33 rfl) (W 2 rfl) (by decide) (by decide)) q267a q267c (g := (mkF m 226 #[.val (.long q1), .second, .val (.long q2), .second, .val (.long q3), .second, .val (.long q4), .second, .val (.int p5), .val (.int (3 : Int32)), .val (.int x10), .val (.long tm), .second, .val (.ref b230), .val (.long (-9223372036854775808 : Int64)), .second, .val (.long q2), .second, .val (.long (own_max q2 q3)), .second, .val (.long (own_max (own_max q2 q3) q4)), .second, .val (.int (3 : Int32))] [(.long tm), (.ref b230)])) rfl (by rw [hml]; rfl) (Steps.refl _) (argsL := [(.long tm)]) (rest := []) (lenOf pd_1 rfl) rfl (by show 2 * 0 + _ ≤ _; exact Nat.le_of_eq rfl) (hb hby at_226) (fun _ _ => ⟨rfl, e263, (by decide : 4 + 0 ≤ _), (by decide : 55 + 0 ≤ _)⟩)
          dsimp only [Pt.U, Pt.locs, Pt.cells, Pt.slots] at X267 l267 y267 z267 st267 hQ267
          subst l267 y267 z267
          obtain ⟨rfl, N267q, e267⟩ := hQ267
          have N267 := Fr.app N263 N267q
          refine own_goT st267 ?_
          show own_Run p e below _ T267 (mkF m 229 #[.val (.long q1), .second, .val (.long q2), .second, .val (.long q3), .second, .val (.long q4), .second, .val (.int p5), .val (.int (3 : Int32)), .val (.int x10), .val (.long tm), .second, .val (.ref b230), .val (.long (-9223372036854775808 : Int64)), .second, .val (.long q2), .second, .val (.long (own_max q2 q3)), .second, .val (.long (own_max (own_max q2 q3) q4)), .second, .val (.int (3 : Int32))] [(.int (2 : Int32))])
          refine own_go (fun _ k => XS.iload X267.here hx rfl (hb hby at_229) rfl k) ?_
          refine own_go (fun _ k => XS.iconst X267.here hx rfl (hb hby at_231) k) ?_
          refine own_go (fun _ k => XS.isub X267.here hx rfl (hb hby at_232) rfl k) ?_
          show own_Run p e below _ T267 (mkF m 233 #[.val (.long q1), .second, .val (.long q2), .second, .val (.long q3), .second, .val (.long q4), .second, .val (.int p5), .val (.int (3 : Int32)), .val (.int x10), .val (.long tm), .second, .val (.ref b230), .val (.long (-9223372036854775808 : Int64)), .second, .val (.long q2), .second, .val (.long (own_max q2 q3)), .second, .val (.long (own_max (own_max q2 q3) q4)), .second, .val (.int (3 : Int32))] [(.int ((3 : Int32) - (1 : Int32))), (.int (2 : Int32))])
          rw [show ((3 : Int32) - (1 : Int32)) = (2 : Int32) by decide]
          show own_Run p e below _ T267 (mkF m 233 #[.val (.long q1), .second, .val (.long q2), .second, .val (.long q3), .second, .val (.long q4), .second, .val (.int p5), .val (.int (3 : Int32)), .val (.int x10), .val (.long tm), .second, .val (.ref b230), .val (.long (-9223372036854775808 : Int64)), .second, .val (.long q2), .second, .val (.long (own_max q2 q3)), .second, .val (.long (own_max (own_max q2 q3) q4)), .second, .val (.int (3 : Int32))] [(.int (2 : Int32)), (.int (2 : Int32))])
          refine own_go (fun _ k => XS.icmpNo X267.here hx rfl (hb hby at_233) rfl (teq (by decide : (2 : Int32) = (2 : Int32))).2 k) ?_
          show own_Run p e below _ T267 (mkF m 236 #[.val (.long q1), .second, .val (.long q2), .second, .val (.long q3), .second, .val (.long q4), .second, .val (.int p5), .val (.int (3 : Int32)), .val (.int x10), .val (.long tm), .second, .val (.ref b230), .val (.long (-9223372036854775808 : Int64)), .second, .val (.long q2), .second, .val (.long (own_max q2 q3)), .second, .val (.long (own_max (own_max q2 q3) q4)), .second, .val (.int (3 : Int32))] [])
          refine own_go (fun _ k => XS.iconst X267.here hx rfl (hb hby at_236) k) ?_
          refine own_go (fun _ k => XS.goto X267.here hx rfl (pc0 := 237) (pc' := 241) rfl (hb hby at_237) (by decide) (by decide) k) ?_
          show own_Run p e below _ T267 (mkF m 241 #[.val (.long q1), .second, .val (.long q2), .second, .val (.long q3), .second, .val (.long q4), .second, .val (.int p5), .val (.int (3 : Int32)), .val (.int x10), .val (.long tm), .second, .val (.ref b230), .val (.long (-9223372036854775808 : Int64)), .second, .val (.long q2), .second, .val (.long (own_max q2 q3)), .second, .val (.long (own_max (own_max q2 q3) q4)), .second, .val (.int (3 : Int32))] [(.int (1 : Int32))])
          refine own_done (Q := fun v h L => Q0 Z q1 q2 q3 q4 p5 h0 n0 v h L) (v := (some (.int (1 : Int32)))) X267 (fun h => by rw [hret] at h; cases h) hlk (fun fs hr => retN X267 hx (t := .boolean) hret (by simp) (hb hby at_241) hr) ?_ (by decide) (by decide)
          show Q0 Z q1 q2 q3 q4 p5 h0 n0 _ T267.heap _
          rw [e267]
          exact ⟨rfl, N267⟩
        · refine own_go (fun _ k => XS.ifYes X263.here hx rfl (pc0 := 199) (pc' := 205) rfl (hb hby at_199) rfl (own_lcF hc199_266).2.1 (by decide) (by decide) k) ?_
          show own_Run p e below _ T263 (mkF m 205 #[.val (.long q1), .second, .val (.long q2), .second, .val (.long q3), .second, .val (.long q4), .second, .val (.int p5), .val (.int (3 : Int32)), .val (.int x10), .val (.long tm), .second, .val (.ref b230), .val (.long (-9223372036854775808 : Int64)), .second, .val (.long q2), .second, .val (.long (own_max q2 q3)), .second, .val (.long (own_max (own_max q2 q3) q4)), .second, .val (.int (2 : Int32))] [])
          refine own_go (fun _ k => XS.iload X263.here hx rfl (hb hby at_205) rfl k) ?_
          refine own_go (fun _ k => XS.iconst X263.here hx rfl (hb hby at_207) k) ?_
          show own_Run p e below _ T263 (mkF m 208 #[.val (.long q1), .second, .val (.long q2), .second, .val (.long q3), .second, .val (.long q4), .second, .val (.int p5), .val (.int (3 : Int32)), .val (.int x10), .val (.long tm), .second, .val (.ref b230), .val (.long (-9223372036854775808 : Int64)), .second, .val (.long q2), .second, .val (.long (own_max q2 q3)), .second, .val (.long (own_max (own_max q2 q3) q4)), .second, .val (.int (2 : Int32))] [(.int (3 : Int32)), (.int (3 : Int32))])
          refine own_go (fun _ k => XS.icmpYes X263.here hx rfl (pc0 := 208) (pc' := 222) rfl (hb hby at_208) rfl (flt (by decide : ¬ ((3 : Int32) < (3 : Int32)))).2.2.2 (by decide) (by decide) k) ?_
          show own_Run p e below _ T263 (mkF m 222 #[.val (.long q1), .second, .val (.long q2), .second, .val (.long q3), .second, .val (.long q4), .second, .val (.int p5), .val (.int (3 : Int32)), .val (.int x10), .val (.long tm), .second, .val (.ref b230), .val (.long (-9223372036854775808 : Int64)), .second, .val (.long q2), .second, .val (.long (own_max q2 q3)), .second, .val (.long (own_max (own_max q2 q3) q4)), .second, .val (.int (2 : Int32))] [])
          refine own_go (fun _ k => XS.aload X263.here hx rfl (hb hby at_222) rfl rfl k) ?_
          refine own_go (fun _ k => XS.lload X263.here hx rfl (hb hby at_224) rfl k) ?_
          show own_Run p e below _ T263 (mkF m 226 #[.val (.long q1), .second, .val (.long q2), .second, .val (.long q3), .second, .val (.long q4), .second, .val (.int p5), .val (.int (3 : Int32)), .val (.int x10), .val (.long tm), .second, .val (.ref b230), .val (.long (-9223372036854775808 : Int64)), .second, .val (.long q2), .second, .val (.long (own_max q2 q3)), .second, .val (.long (own_max (own_max q2 q3) q4)), .second, .val (.int (2 : Int32))] [(.long tm), (.ref b230)])
          obtain ⟨cq268, kq268, q268a, q268b, q268c⟩ := isOf hZ e263 P260_0
          obtain ⟨_, _, ⟨T268, L268, k268, n268⟩, -, X268, ⟨Lc268, hQ268, l268, y268, z268⟩, st268⟩ := X263.virtualBack hx (y := (⟨"com/example/tote/tote/storage/OffsetIndex", "floorTime", "(J)I"⟩ : MethodName)) (z := (⟨"com/example/tote/tote/storage/OffsetIndex", "floorTime", "(J)I"⟩ : MethodName)) hown (mvT hZ (W 29 rfl)) (mvT hZ (W 30 rfl)) (notFace_of_selects (args := #[]) (mvT hZ (W 32 rfl))) (mvT hZ (W 32 rfl)) (mvT hZ (W 31 rfl)) (by decide) (backOf (W := 0) (rm4n3 l Z a0 hw [] b230 tm b3_232 k3_232 (-9223372036854775808 : Int64) q2 (own_max q2 q3) (1 : Int32) T260.heap n0 Z0_c261 P260_3 P260_7 P260_10 (Or.inr (Or.inr (Or.inl ⟨hc165_264, hc182_265, hc199_266, rfl⟩)))) hZ (W 33 rfl) (W 2 rfl) (by decide) (by decide)) q268a q268c (g := (mkF m 226 #[.val (.long q1), .second, .val (.long q2), .second, .val (.long q3), .second, .val (.long q4), .second, .val (.int p5), .val (.int (3 : Int32)), .val (.int x10), .val (.long tm), .second, .val (.ref b230), .val (.long (-9223372036854775808 : Int64)), .second, .val (.long q2), .second, .val (.long (own_max q2 q3)), .second, .val (.long (own_max (own_max q2 q3) q4)), .second, .val (.int (2 : Int32))] [(.long tm), (.ref b230)])) rfl (by rw [hml]; rfl) (Steps.refl _) (argsL := [(.long tm)]) (rest := []) (lenOf pd_1 rfl) rfl (by show 2 * 0 + _ ≤ _; exact Nat.le_of_eq rfl) (hb hby at_226) (fun _ _ => ⟨rfl, e263, (by decide : 4 + 0 ≤ _), (by decide : 55 + 0 ≤ _)⟩)
          dsimp only [Pt.U, Pt.locs, Pt.cells, Pt.slots] at X268 l268 y268 z268 st268 hQ268
          subst l268 y268 z268
          obtain ⟨rfl, N268q, e268⟩ := hQ268
          have N268 := Fr.app N263 N268q
          refine own_goT st268 ?_
          show own_Run p e below _ T268 (mkF m 229 #[.val (.long q1), .second, .val (.long q2), .second, .val (.long q3), .second, .val (.long q4), .second, .val (.int p5), .val (.int (3 : Int32)), .val (.int x10), .val (.long tm), .second, .val (.ref b230), .val (.long (-9223372036854775808 : Int64)), .second, .val (.long q2), .second, .val (.long (own_max q2 q3)), .second, .val (.long (own_max (own_max q2 q3) q4)), .second, .val (.int (2 : Int32))] [(.int (1 : Int32))])
          refine own_go (fun _ k => XS.iload X268.here hx rfl (hb hby at_229) rfl k) ?_
          refine own_go (fun _ k => XS.iconst X268.here hx rfl (hb hby at_231) k) ?_
          refine own_go (fun _ k => XS.isub X268.here hx rfl (hb hby at_232) rfl k) ?_
          show own_Run p e below _ T268 (mkF m 233 #[.val (.long q1), .second, .val (.long q2), .second, .val (.long q3), .second, .val (.long q4), .second, .val (.int p5), .val (.int (3 : Int32)), .val (.int x10), .val (.long tm), .second, .val (.ref b230), .val (.long (-9223372036854775808 : Int64)), .second, .val (.long q2), .second, .val (.long (own_max q2 q3)), .second, .val (.long (own_max (own_max q2 q3) q4)), .second, .val (.int (2 : Int32))] [(.int ((2 : Int32) - (1 : Int32))), (.int (1 : Int32))])
          rw [show ((2 : Int32) - (1 : Int32)) = (1 : Int32) by decide]
          show own_Run p e below _ T268 (mkF m 233 #[.val (.long q1), .second, .val (.long q2), .second, .val (.long q3), .second, .val (.long q4), .second, .val (.int p5), .val (.int (3 : Int32)), .val (.int x10), .val (.long tm), .second, .val (.ref b230), .val (.long (-9223372036854775808 : Int64)), .second, .val (.long q2), .second, .val (.long (own_max q2 q3)), .second, .val (.long (own_max (own_max q2 q3) q4)), .second, .val (.int (2 : Int32))] [(.int (1 : Int32)), (.int (1 : Int32))])
          refine own_go (fun _ k => XS.icmpNo X268.here hx rfl (hb hby at_233) rfl (teq (by decide : (1 : Int32) = (1 : Int32))).2 k) ?_
          show own_Run p e below _ T268 (mkF m 236 #[.val (.long q1), .second, .val (.long q2), .second, .val (.long q3), .second, .val (.long q4), .second, .val (.int p5), .val (.int (3 : Int32)), .val (.int x10), .val (.long tm), .second, .val (.ref b230), .val (.long (-9223372036854775808 : Int64)), .second, .val (.long q2), .second, .val (.long (own_max q2 q3)), .second, .val (.long (own_max (own_max q2 q3) q4)), .second, .val (.int (2 : Int32))] [])
          refine own_go (fun _ k => XS.iconst X268.here hx rfl (hb hby at_236) k) ?_
          refine own_go (fun _ k => XS.goto X268.here hx rfl (pc0 := 237) (pc' := 241) rfl (hb hby at_237) (by decide) (by decide) k) ?_
          show own_Run p e below _ T268 (mkF m 241 #[.val (.long q1), .second, .val (.long q2), .second, .val (.long q3), .second, .val (.long q4), .second, .val (.int p5), .val (.int (3 : Int32)), .val (.int x10), .val (.long tm), .second, .val (.ref b230), .val (.long (-9223372036854775808 : Int64)), .second, .val (.long q2), .second, .val (.long (own_max q2 q3)), .second, .val (.long (own_max (own_max q2 q3) q4)), .second, .val (.int (2 : Int32))] [(.int (1 : Int32))])
          refine own_done (Q := fun v h L => Q0 Z q1 q2 q3 q4 p5 h0 n0 v h L) (v := (some (.int (1 : Int32)))) X268 (fun h => by rw [hret] at h; cases h) hlk (fun fs hr => retN X268 hx (t := .boolean) hret (by simp) (hb hby at_241) hr) ?_ (by decide) (by decide)
          show Q0 Z q1 q2 q3 q4 p5 h0 n0 _ T268.heap _
          rw [e268]
          exact ⟨rfl, N268⟩
      · refine own_go (fun _ k => XS.ifYes X263.here hx rfl (pc0 := 182) (pc' := 188) rfl (hb hby at_182) rfl (own_lcF hc182_265).2.1 (by decide) (by decide) k) ?_
        show own_Run p e below _ T263 (mkF m 188 #[.val (.long q1), .second, .val (.long q2), .second, .val (.long q3), .second, .val (.long q4), .second, .val (.int p5), .val (.int (3 : Int32)), .val (.int x10), .val (.long tm), .second, .val (.ref b230), .val (.long (-9223372036854775808 : Int64)), .second, .val (.long q2), .second, .val (.long (own_max q2 q3)), .second, .val (.long (own_max (own_max q2 q3) q4)), .second, .val (.int (1 : Int32))] [])
        refine own_go (fun _ k => XS.iload X263.here hx rfl (hb hby at_188) rfl k) ?_
        refine own_go (fun _ k => XS.iconst X263.here hx rfl (hb hby at_190) k) ?_
        show own_Run p e below _ T263 (mkF m 191 #[.val (.long q1), .second, .val (.long q2), .second, .val (.long q3), .second, .val (.long q4), .second, .val (.int p5), .val (.int (3 : Int32)), .val (.int x10), .val (.long tm), .second, .val (.ref b230), .val (.long (-9223372036854775808 : Int64)), .second, .val (.long q2), .second, .val (.long (own_max q2 q3)), .second, .val (.long (own_max (own_max q2 q3) q4)), .second, .val (.int (1 : Int32))] [(.int (2 : Int32)), (.int (3 : Int32))])
        refine own_go (fun _ k => XS.icmpNo X263.here hx rfl (hb hby at_191) rfl (tlt (by decide : (2 : Int32) < (3 : Int32))).2.2.2 k) ?_
        show own_Run p e below _ T263 (mkF m 194 #[.val (.long q1), .second, .val (.long q2), .second, .val (.long q3), .second, .val (.long q4), .second, .val (.int p5), .val (.int (3 : Int32)), .val (.int x10), .val (.long tm), .second, .val (.ref b230), .val (.long (-9223372036854775808 : Int64)), .second, .val (.long q2), .second, .val (.long (own_max q2 q3)), .second, .val (.long (own_max (own_max q2 q3) q4)), .second, .val (.int (1 : Int32))] [])
        refine own_go (fun _ k => XS.lload X263.here hx rfl (hb hby at_194) rfl k) ?_
        refine own_go (fun _ k => XS.lload X263.here hx rfl (hb hby at_196) rfl k) ?_
        refine own_go (fun _ k => XS.lcmp X263.here hx rfl (hb hby at_198) rfl k) ?_
        show own_Run p e below _ T263 (mkF m 199 #[.val (.long q1), .second, .val (.long q2), .second, .val (.long q3), .second, .val (.long q4), .second, .val (.int p5), .val (.int (3 : Int32)), .val (.int x10), .val (.long tm), .second, .val (.ref b230), .val (.long (-9223372036854775808 : Int64)), .second, .val (.long q2), .second, .val (.long (own_max q2 q3)), .second, .val (.long (own_max (own_max q2 q3) q4)), .second, .val (.int (1 : Int32))] [(.int (lcmpW (own_max q2 q3) tm))])
        have hm269 : ¬ ((own_max q2 q3) < tm) := (own_up1 q2 q3 tm hc182_265)
        refine own_go (fun _ k => XS.ifYes X263.here hx rfl (pc0 := 199) (pc' := 205) rfl (hb hby at_199) rfl (own_lcF hm269).2.1 (by decide) (by decide) k) ?_
        show own_Run p e below _ T263 (mkF m 205 #[.val (.long q1), .second, .val (.long q2), .second, .val (.long q3), .second, .val (.long q4), .second, .val (.int p5), .val (.int (3 : Int32)), .val (.int x10), .val (.long tm), .second, .val (.ref b230), .val (.long (-9223372036854775808 : Int64)), .second, .val (.long q2), .second, .val (.long (own_max q2 q3)), .second, .val (.long (own_max (own_max q2 q3) q4)), .second, .val (.int (1 : Int32))] [])
        refine own_go (fun _ k => XS.iload X263.here hx rfl (hb hby at_205) rfl k) ?_
        refine own_go (fun _ k => XS.iconst X263.here hx rfl (hb hby at_207) k) ?_
        show own_Run p e below _ T263 (mkF m 208 #[.val (.long q1), .second, .val (.long q2), .second, .val (.long q3), .second, .val (.long q4), .second, .val (.int p5), .val (.int (3 : Int32)), .val (.int x10), .val (.long tm), .second, .val (.ref b230), .val (.long (-9223372036854775808 : Int64)), .second, .val (.long q2), .second, .val (.long (own_max q2 q3)), .second, .val (.long (own_max (own_max q2 q3) q4)), .second, .val (.int (1 : Int32))] [(.int (3 : Int32)), (.int (3 : Int32))])
        refine own_go (fun _ k => XS.icmpYes X263.here hx rfl (pc0 := 208) (pc' := 222) rfl (hb hby at_208) rfl (flt (by decide : ¬ ((3 : Int32) < (3 : Int32)))).2.2.2 (by decide) (by decide) k) ?_
        show own_Run p e below _ T263 (mkF m 222 #[.val (.long q1), .second, .val (.long q2), .second, .val (.long q3), .second, .val (.long q4), .second, .val (.int p5), .val (.int (3 : Int32)), .val (.int x10), .val (.long tm), .second, .val (.ref b230), .val (.long (-9223372036854775808 : Int64)), .second, .val (.long q2), .second, .val (.long (own_max q2 q3)), .second, .val (.long (own_max (own_max q2 q3) q4)), .second, .val (.int (1 : Int32))] [])
        refine own_go (fun _ k => XS.aload X263.here hx rfl (hb hby at_222) rfl rfl k) ?_
        refine own_go (fun _ k => XS.lload X263.here hx rfl (hb hby at_224) rfl k) ?_
        show own_Run p e below _ T263 (mkF m 226 #[.val (.long q1), .second, .val (.long q2), .second, .val (.long q3), .second, .val (.long q4), .second, .val (.int p5), .val (.int (3 : Int32)), .val (.int x10), .val (.long tm), .second, .val (.ref b230), .val (.long (-9223372036854775808 : Int64)), .second, .val (.long q2), .second, .val (.long (own_max q2 q3)), .second, .val (.long (own_max (own_max q2 q3) q4)), .second, .val (.int (1 : Int32))] [(.long tm), (.ref b230)])
        obtain ⟨cq270, kq270, q270a, q270b, q270c⟩ := isOf hZ e263 P260_0
        obtain ⟨_, _, ⟨T270, L270, k270, n270⟩, -, X270, ⟨Lc270, hQ270, l270, y270, z270⟩, st270⟩ := X263.virtualBack hx (y := (⟨"com/example/tote/tote/storage/OffsetIndex", "floorTime", "(J)I"⟩ : MethodName)) (z := (⟨"com/example/tote/tote/storage/OffsetIndex", "floorTime", "(J)I"⟩ : MethodName)) hown (mvT hZ (W 29 rfl)) (mvT hZ (W 30 rfl)) (notFace_of_selects (args := #[]) (mvT hZ (W 32 rfl))) (mvT hZ (W 32 rfl)) (mvT hZ (W 31 rfl)) (by decide) (backOf (W := 0) (rm4n3 l Z a0 hw [] b230 tm b3_232 k3_232 (-9223372036854775808 : Int64) q2 (own_max q2 q3) (0 : Int32) T260.heap n0 Z0_c261 P260_3 P260_7 P260_10 (Or.inr (Or.inl ⟨hc165_264, hc182_265, hm269, rfl⟩))) hZ (W 33 rfl) (W 2 rfl) (by decide) (by decide)) q270a q270c (g := (mkF m 226 #[.val (.long q1), .second, .val (.long q2), .second, .val (.long q3), .second, .val (.long q4), .second, .val (.int p5), .val (.int (3 : Int32)), .val (.int x10), .val (.long tm), .second, .val (.ref b230), .val (.long (-9223372036854775808 : Int64)), .second, .val (.long q2), .second, .val (.long (own_max q2 q3)), .second, .val (.long (own_max (own_max q2 q3) q4)), .second, .val (.int (1 : Int32))] [(.long tm), (.ref b230)])) rfl (by rw [hml]; rfl) (Steps.refl _) (argsL := [(.long tm)]) (rest := []) (lenOf pd_1 rfl) rfl (by show 2 * 0 + _ ≤ _; exact Nat.le_of_eq rfl) (hb hby at_226) (fun _ _ => ⟨rfl, e263, (by decide : 4 + 0 ≤ _), (by decide : 55 + 0 ≤ _)⟩)
        dsimp only [Pt.U, Pt.locs, Pt.cells, Pt.slots] at X270 l270 y270 z270 st270 hQ270
        subst l270 y270 z270
        obtain ⟨rfl, N270q, e270⟩ := hQ270
        have N270 := Fr.app N263 N270q
        refine own_goT st270 ?_
        show own_Run p e below _ T270 (mkF m 229 #[.val (.long q1), .second, .val (.long q2), .second, .val (.long q3), .second, .val (.long q4), .second, .val (.int p5), .val (.int (3 : Int32)), .val (.int x10), .val (.long tm), .second, .val (.ref b230), .val (.long (-9223372036854775808 : Int64)), .second, .val (.long q2), .second, .val (.long (own_max q2 q3)), .second, .val (.long (own_max (own_max q2 q3) q4)), .second, .val (.int (1 : Int32))] [(.int (0 : Int32))])
        refine own_go (fun _ k => XS.iload X270.here hx rfl (hb hby at_229) rfl k) ?_
        refine own_go (fun _ k => XS.iconst X270.here hx rfl (hb hby at_231) k) ?_
        refine own_go (fun _ k => XS.isub X270.here hx rfl (hb hby at_232) rfl k) ?_
        show own_Run p e below _ T270 (mkF m 233 #[.val (.long q1), .second, .val (.long q2), .second, .val (.long q3), .second, .val (.long q4), .second, .val (.int p5), .val (.int (3 : Int32)), .val (.int x10), .val (.long tm), .second, .val (.ref b230), .val (.long (-9223372036854775808 : Int64)), .second, .val (.long q2), .second, .val (.long (own_max q2 q3)), .second, .val (.long (own_max (own_max q2 q3) q4)), .second, .val (.int (1 : Int32))] [(.int ((1 : Int32) - (1 : Int32))), (.int (0 : Int32))])
        rw [show ((1 : Int32) - (1 : Int32)) = (0 : Int32) by decide]
        show own_Run p e below _ T270 (mkF m 233 #[.val (.long q1), .second, .val (.long q2), .second, .val (.long q3), .second, .val (.long q4), .second, .val (.int p5), .val (.int (3 : Int32)), .val (.int x10), .val (.long tm), .second, .val (.ref b230), .val (.long (-9223372036854775808 : Int64)), .second, .val (.long q2), .second, .val (.long (own_max q2 q3)), .second, .val (.long (own_max (own_max q2 q3) q4)), .second, .val (.int (1 : Int32))] [(.int (0 : Int32)), (.int (0 : Int32))])
        refine own_go (fun _ k => XS.icmpNo X270.here hx rfl (hb hby at_233) rfl (teq (by decide : (0 : Int32) = (0 : Int32))).2 k) ?_
        show own_Run p e below _ T270 (mkF m 236 #[.val (.long q1), .second, .val (.long q2), .second, .val (.long q3), .second, .val (.long q4), .second, .val (.int p5), .val (.int (3 : Int32)), .val (.int x10), .val (.long tm), .second, .val (.ref b230), .val (.long (-9223372036854775808 : Int64)), .second, .val (.long q2), .second, .val (.long (own_max q2 q3)), .second, .val (.long (own_max (own_max q2 q3) q4)), .second, .val (.int (1 : Int32))] [])
        refine own_go (fun _ k => XS.iconst X270.here hx rfl (hb hby at_236) k) ?_
        refine own_go (fun _ k => XS.goto X270.here hx rfl (pc0 := 237) (pc' := 241) rfl (hb hby at_237) (by decide) (by decide) k) ?_
        show own_Run p e below _ T270 (mkF m 241 #[.val (.long q1), .second, .val (.long q2), .second, .val (.long q3), .second, .val (.long q4), .second, .val (.int p5), .val (.int (3 : Int32)), .val (.int x10), .val (.long tm), .second, .val (.ref b230), .val (.long (-9223372036854775808 : Int64)), .second, .val (.long q2), .second, .val (.long (own_max q2 q3)), .second, .val (.long (own_max (own_max q2 q3) q4)), .second, .val (.int (1 : Int32))] [(.int (1 : Int32))])
        refine own_done (Q := fun v h L => Q0 Z q1 q2 q3 q4 p5 h0 n0 v h L) (v := (some (.int (1 : Int32)))) X270 (fun h => by rw [hret] at h; cases h) hlk (fun fs hr => retN X270 hx (t := .boolean) hret (by simp) (hb hby at_241) hr) ?_ (by decide) (by decide)
        show Q0 Z q1 q2 q3 q4 p5 h0 n0 _ T270.heap _
        rw [e270]
        exact ⟨rfl, N270⟩
    · refine own_go (fun _ k => XS.ifYes X263.here hx rfl (pc0 := 165) (pc' := 171) rfl (hb hby at_165) rfl (own_lcF hc165_264).2.1 (by decide) (by decide) k) ?_
      show own_Run p e below _ T263 (mkF m 171 #[.val (.long q1), .second, .val (.long q2), .second, .val (.long q3), .second, .val (.long q4), .second, .val (.int p5), .val (.int (3 : Int32)), .val (.int x10), .val (.long tm), .second, .val (.ref b230), .val (.long (-9223372036854775808 : Int64)), .second, .val (.long q2), .second, .val (.long (own_max q2 q3)), .second, .val (.long (own_max (own_max q2 q3) q4)), .second, .val (.int (0 : Int32))] [])
      refine own_go (fun _ k => XS.iload X263.here hx rfl (hb hby at_171) rfl k) ?_
      refine own_go (fun _ k => XS.iconst X263.here hx rfl (hb hby at_173) k) ?_
      show own_Run p e below _ T263 (mkF m 174 #[.val (.long q1), .second, .val (.long q2), .second, .val (.long q3), .second, .val (.long q4), .second, .val (.int p5), .val (.int (3 : Int32)), .val (.int x10), .val (.long tm), .second, .val (.ref b230), .val (.long (-9223372036854775808 : Int64)), .second, .val (.long q2), .second, .val (.long (own_max q2 q3)), .second, .val (.long (own_max (own_max q2 q3) q4)), .second, .val (.int (0 : Int32))] [(.int (1 : Int32)), (.int (3 : Int32))])
      refine own_go (fun _ k => XS.icmpNo X263.here hx rfl (hb hby at_174) rfl (tlt (by decide : (1 : Int32) < (3 : Int32))).2.2.2 k) ?_
      show own_Run p e below _ T263 (mkF m 177 #[.val (.long q1), .second, .val (.long q2), .second, .val (.long q3), .second, .val (.long q4), .second, .val (.int p5), .val (.int (3 : Int32)), .val (.int x10), .val (.long tm), .second, .val (.ref b230), .val (.long (-9223372036854775808 : Int64)), .second, .val (.long q2), .second, .val (.long (own_max q2 q3)), .second, .val (.long (own_max (own_max q2 q3) q4)), .second, .val (.int (0 : Int32))] [])
      refine own_go (fun _ k => XS.lload X263.here hx rfl (hb hby at_177) rfl k) ?_
      refine own_go (fun _ k => XS.lload X263.here hx rfl (hb hby at_179) rfl k) ?_
      refine own_go (fun _ k => XS.lcmp X263.here hx rfl (hb hby at_181) rfl k) ?_
      show own_Run p e below _ T263 (mkF m 182 #[.val (.long q1), .second, .val (.long q2), .second, .val (.long q3), .second, .val (.long q4), .second, .val (.int p5), .val (.int (3 : Int32)), .val (.int x10), .val (.long tm), .second, .val (.ref b230), .val (.long (-9223372036854775808 : Int64)), .second, .val (.long q2), .second, .val (.long (own_max q2 q3)), .second, .val (.long (own_max (own_max q2 q3) q4)), .second, .val (.int (0 : Int32))] [(.int (lcmpW q2 tm))])
      have hm271 : ¬ (q2 < tm) := (own_up0 q2 tm hc165_264)
      refine own_go (fun _ k => XS.ifYes X263.here hx rfl (pc0 := 182) (pc' := 188) rfl (hb hby at_182) rfl (own_lcF hm271).2.1 (by decide) (by decide) k) ?_
      show own_Run p e below _ T263 (mkF m 188 #[.val (.long q1), .second, .val (.long q2), .second, .val (.long q3), .second, .val (.long q4), .second, .val (.int p5), .val (.int (3 : Int32)), .val (.int x10), .val (.long tm), .second, .val (.ref b230), .val (.long (-9223372036854775808 : Int64)), .second, .val (.long q2), .second, .val (.long (own_max q2 q3)), .second, .val (.long (own_max (own_max q2 q3) q4)), .second, .val (.int (0 : Int32))] [])
      refine own_go (fun _ k => XS.iload X263.here hx rfl (hb hby at_188) rfl k) ?_
      refine own_go (fun _ k => XS.iconst X263.here hx rfl (hb hby at_190) k) ?_
      show own_Run p e below _ T263 (mkF m 191 #[.val (.long q1), .second, .val (.long q2), .second, .val (.long q3), .second, .val (.long q4), .second, .val (.int p5), .val (.int (3 : Int32)), .val (.int x10), .val (.long tm), .second, .val (.ref b230), .val (.long (-9223372036854775808 : Int64)), .second, .val (.long q2), .second, .val (.long (own_max q2 q3)), .second, .val (.long (own_max (own_max q2 q3) q4)), .second, .val (.int (0 : Int32))] [(.int (2 : Int32)), (.int (3 : Int32))])
      refine own_go (fun _ k => XS.icmpNo X263.here hx rfl (hb hby at_191) rfl (tlt (by decide : (2 : Int32) < (3 : Int32))).2.2.2 k) ?_
      show own_Run p e below _ T263 (mkF m 194 #[.val (.long q1), .second, .val (.long q2), .second, .val (.long q3), .second, .val (.long q4), .second, .val (.int p5), .val (.int (3 : Int32)), .val (.int x10), .val (.long tm), .second, .val (.ref b230), .val (.long (-9223372036854775808 : Int64)), .second, .val (.long q2), .second, .val (.long (own_max q2 q3)), .second, .val (.long (own_max (own_max q2 q3) q4)), .second, .val (.int (0 : Int32))] [])
      refine own_go (fun _ k => XS.lload X263.here hx rfl (hb hby at_194) rfl k) ?_
      refine own_go (fun _ k => XS.lload X263.here hx rfl (hb hby at_196) rfl k) ?_
      refine own_go (fun _ k => XS.lcmp X263.here hx rfl (hb hby at_198) rfl k) ?_
      show own_Run p e below _ T263 (mkF m 199 #[.val (.long q1), .second, .val (.long q2), .second, .val (.long q3), .second, .val (.long q4), .second, .val (.int p5), .val (.int (3 : Int32)), .val (.int x10), .val (.long tm), .second, .val (.ref b230), .val (.long (-9223372036854775808 : Int64)), .second, .val (.long q2), .second, .val (.long (own_max q2 q3)), .second, .val (.long (own_max (own_max q2 q3) q4)), .second, .val (.int (0 : Int32))] [(.int (lcmpW (own_max q2 q3) tm))])
      have hm272 : ¬ ((own_max q2 q3) < tm) := (own_up1 q2 q3 tm hm271)
      refine own_go (fun _ k => XS.ifYes X263.here hx rfl (pc0 := 199) (pc' := 205) rfl (hb hby at_199) rfl (own_lcF hm272).2.1 (by decide) (by decide) k) ?_
      show own_Run p e below _ T263 (mkF m 205 #[.val (.long q1), .second, .val (.long q2), .second, .val (.long q3), .second, .val (.long q4), .second, .val (.int p5), .val (.int (3 : Int32)), .val (.int x10), .val (.long tm), .second, .val (.ref b230), .val (.long (-9223372036854775808 : Int64)), .second, .val (.long q2), .second, .val (.long (own_max q2 q3)), .second, .val (.long (own_max (own_max q2 q3) q4)), .second, .val (.int (0 : Int32))] [])
      refine own_go (fun _ k => XS.iload X263.here hx rfl (hb hby at_205) rfl k) ?_
      refine own_go (fun _ k => XS.iconst X263.here hx rfl (hb hby at_207) k) ?_
      show own_Run p e below _ T263 (mkF m 208 #[.val (.long q1), .second, .val (.long q2), .second, .val (.long q3), .second, .val (.long q4), .second, .val (.int p5), .val (.int (3 : Int32)), .val (.int x10), .val (.long tm), .second, .val (.ref b230), .val (.long (-9223372036854775808 : Int64)), .second, .val (.long q2), .second, .val (.long (own_max q2 q3)), .second, .val (.long (own_max (own_max q2 q3) q4)), .second, .val (.int (0 : Int32))] [(.int (3 : Int32)), (.int (3 : Int32))])
      refine own_go (fun _ k => XS.icmpYes X263.here hx rfl (pc0 := 208) (pc' := 222) rfl (hb hby at_208) rfl (flt (by decide : ¬ ((3 : Int32) < (3 : Int32)))).2.2.2 (by decide) (by decide) k) ?_
      show own_Run p e below _ T263 (mkF m 222 #[.val (.long q1), .second, .val (.long q2), .second, .val (.long q3), .second, .val (.long q4), .second, .val (.int p5), .val (.int (3 : Int32)), .val (.int x10), .val (.long tm), .second, .val (.ref b230), .val (.long (-9223372036854775808 : Int64)), .second, .val (.long q2), .second, .val (.long (own_max q2 q3)), .second, .val (.long (own_max (own_max q2 q3) q4)), .second, .val (.int (0 : Int32))] [])
      refine own_go (fun _ k => XS.aload X263.here hx rfl (hb hby at_222) rfl rfl k) ?_
      refine own_go (fun _ k => XS.lload X263.here hx rfl (hb hby at_224) rfl k) ?_
      show own_Run p e below _ T263 (mkF m 226 #[.val (.long q1), .second, .val (.long q2), .second, .val (.long q3), .second, .val (.long q4), .second, .val (.int p5), .val (.int (3 : Int32)), .val (.int x10), .val (.long tm), .second, .val (.ref b230), .val (.long (-9223372036854775808 : Int64)), .second, .val (.long q2), .second, .val (.long (own_max q2 q3)), .second, .val (.long (own_max (own_max q2 q3) q4)), .second, .val (.int (0 : Int32))] [(.long tm), (.ref b230)])
      obtain ⟨cq273, kq273, q273a, q273b, q273c⟩ := isOf hZ e263 P260_0
      obtain ⟨_, _, ⟨T273, L273, k273, n273⟩, -, X273, ⟨Lc273, hQ273, l273, y273, z273⟩, st273⟩ := X263.virtualBack hx (y := (⟨"com/example/tote/tote/storage/OffsetIndex", "floorTime", "(J)I"⟩ : MethodName)) (z := (⟨"com/example/tote/tote/storage/OffsetIndex", "floorTime", "(J)I"⟩ : MethodName)) hown (mvT hZ (W 29 rfl)) (mvT hZ (W 30 rfl)) (notFace_of_selects (args := #[]) (mvT hZ (W 32 rfl))) (mvT hZ (W 32 rfl)) (mvT hZ (W 31 rfl)) (by decide) (backOf (W := 0) (rm4n3 l Z a0 hw [] b230 tm b3_232 k3_232 (-9223372036854775808 : Int64) q2 (own_max q2 q3) (-1 : Int32) T260.heap n0 Z0_c261 P260_3 P260_7 P260_10 (Or.inl ⟨hc165_264, hm271, hm272, rfl⟩)) hZ (W 33 rfl) (W 2 rfl) (by decide) (by decide)) q273a q273c (g := (mkF m 226 #[.val (.long q1), .second, .val (.long q2), .second, .val (.long q3), .second, .val (.long q4), .second, .val (.int p5), .val (.int (3 : Int32)), .val (.int x10), .val (.long tm), .second, .val (.ref b230), .val (.long (-9223372036854775808 : Int64)), .second, .val (.long q2), .second, .val (.long (own_max q2 q3)), .second, .val (.long (own_max (own_max q2 q3) q4)), .second, .val (.int (0 : Int32))] [(.long tm), (.ref b230)])) rfl (by rw [hml]; rfl) (Steps.refl _) (argsL := [(.long tm)]) (rest := []) (lenOf pd_1 rfl) rfl (by show 2 * 0 + _ ≤ _; exact Nat.le_of_eq rfl) (hb hby at_226) (fun _ _ => ⟨rfl, e263, (by decide : 4 + 0 ≤ _), (by decide : 55 + 0 ≤ _)⟩)
      dsimp only [Pt.U, Pt.locs, Pt.cells, Pt.slots] at X273 l273 y273 z273 st273 hQ273
      subst l273 y273 z273
      obtain ⟨rfl, N273q, e273⟩ := hQ273
      have N273 := Fr.app N263 N273q
      refine own_goT st273 ?_
      show own_Run p e below _ T273 (mkF m 229 #[.val (.long q1), .second, .val (.long q2), .second, .val (.long q3), .second, .val (.long q4), .second, .val (.int p5), .val (.int (3 : Int32)), .val (.int x10), .val (.long tm), .second, .val (.ref b230), .val (.long (-9223372036854775808 : Int64)), .second, .val (.long q2), .second, .val (.long (own_max q2 q3)), .second, .val (.long (own_max (own_max q2 q3) q4)), .second, .val (.int (0 : Int32))] [(.int (-1 : Int32))])
      refine own_go (fun _ k => XS.iload X273.here hx rfl (hb hby at_229) rfl k) ?_
      refine own_go (fun _ k => XS.iconst X273.here hx rfl (hb hby at_231) k) ?_
      refine own_go (fun _ k => XS.isub X273.here hx rfl (hb hby at_232) rfl k) ?_
      show own_Run p e below _ T273 (mkF m 233 #[.val (.long q1), .second, .val (.long q2), .second, .val (.long q3), .second, .val (.long q4), .second, .val (.int p5), .val (.int (3 : Int32)), .val (.int x10), .val (.long tm), .second, .val (.ref b230), .val (.long (-9223372036854775808 : Int64)), .second, .val (.long q2), .second, .val (.long (own_max q2 q3)), .second, .val (.long (own_max (own_max q2 q3) q4)), .second, .val (.int (0 : Int32))] [(.int ((0 : Int32) - (1 : Int32))), (.int (-1 : Int32))])
      rw [show ((0 : Int32) - (1 : Int32)) = (-1 : Int32) by decide]
      show own_Run p e below _ T273 (mkF m 233 #[.val (.long q1), .second, .val (.long q2), .second, .val (.long q3), .second, .val (.long q4), .second, .val (.int p5), .val (.int (3 : Int32)), .val (.int x10), .val (.long tm), .second, .val (.ref b230), .val (.long (-9223372036854775808 : Int64)), .second, .val (.long q2), .second, .val (.long (own_max q2 q3)), .second, .val (.long (own_max (own_max q2 q3) q4)), .second, .val (.int (0 : Int32))] [(.int (-1 : Int32)), (.int (-1 : Int32))])
      refine own_go (fun _ k => XS.icmpNo X273.here hx rfl (hb hby at_233) rfl (teq (by decide : (-1 : Int32) = (-1 : Int32))).2 k) ?_
      show own_Run p e below _ T273 (mkF m 236 #[.val (.long q1), .second, .val (.long q2), .second, .val (.long q3), .second, .val (.long q4), .second, .val (.int p5), .val (.int (3 : Int32)), .val (.int x10), .val (.long tm), .second, .val (.ref b230), .val (.long (-9223372036854775808 : Int64)), .second, .val (.long q2), .second, .val (.long (own_max q2 q3)), .second, .val (.long (own_max (own_max q2 q3) q4)), .second, .val (.int (0 : Int32))] [])
      refine own_go (fun _ k => XS.iconst X273.here hx rfl (hb hby at_236) k) ?_
      refine own_go (fun _ k => XS.goto X273.here hx rfl (pc0 := 237) (pc' := 241) rfl (hb hby at_237) (by decide) (by decide) k) ?_
      show own_Run p e below _ T273 (mkF m 241 #[.val (.long q1), .second, .val (.long q2), .second, .val (.long q3), .second, .val (.long q4), .second, .val (.int p5), .val (.int (3 : Int32)), .val (.int x10), .val (.long tm), .second, .val (.ref b230), .val (.long (-9223372036854775808 : Int64)), .second, .val (.long q2), .second, .val (.long (own_max q2 q3)), .second, .val (.long (own_max (own_max q2 q3) q4)), .second, .val (.int (0 : Int32))] [(.int (1 : Int32))])
      refine own_done (Q := fun v h L => Q0 Z q1 q2 q3 q4 p5 h0 n0 v h L) (v := (some (.int (1 : Int32)))) X273 (fun h => by rw [hret] at h; cases h) hlk (fun fs hr => retN X273 hx (t := .boolean) hret (by simp) (hb hby at_241) hr) ?_ (by decide) (by decide)
      show Q0 Z q1 q2 q3 q4 p5 h0 n0 _ T273.heap _
      rw [e273]
      exact ⟨rfl, N273⟩
  · show own_Run p e below _ T232 (mkF m 62 #[.val (.long q1), .second, .val (.long q2), .second, .val (.long q3), .second, .val (.long q4), .second, .val (.int p5), .val (.int (4 : Int32)), .val (.int x10), .val (.long tm), .second, .val (.ref b230), .unset, .unset, .unset, .unset, .unset, .unset, .unset, .unset, .unset] [])
    refine own_go (fun _ k => XS.iload X232.here hx rfl (hb hby at_62) rfl k) ?_
    show own_Run p e below _ T232 (mkF m 64 #[.val (.long q1), .second, .val (.long q2), .second, .val (.long q3), .second, .val (.long q4), .second, .val (.int p5), .val (.int (4 : Int32)), .val (.int x10), .val (.long tm), .second, .val (.ref b230), .unset, .unset, .unset, .unset, .unset, .unset, .unset, .unset, .unset] [(.int (4 : Int32))])
    refine own_go (fun _ k => XS.ifNo X232.here hx rfl (hb hby at_64) rfl ((if0 _ _).trans (tlt (by decide : (0 : Int32) < (4 : Int32))).2.2.2) k) ?_
    show own_Run p e below _ T232 (mkF m 67 #[.val (.long q1), .second, .val (.long q2), .second, .val (.long q3), .second, .val (.long q4), .second, .val (.int p5), .val (.int (4 : Int32)), .val (.int x10), .val (.long tm), .second, .val (.ref b230), .unset, .unset, .unset, .unset, .unset, .unset, .unset, .unset, .unset] [])
    refine own_go (fun _ k => XS.aload X232.here hx rfl (hb hby at_67) rfl rfl k) ?_
    refine own_go (fun _ k => XS.lconst X232.here hx rfl (hb hby at_69) k) ?_
    refine own_go (fun _ k => XS.lconst X232.here hx rfl (hb hby at_70) k) ?_
    refine own_go (fun _ k => XS.lloadN X232.here hx rfl (hb hby at_71) rfl k) ?_
    show own_Run p e below _ T232 (mkF m 72 #[.val (.long q1), .second, .val (.long q2), .second, .val (.long q3), .second, .val (.long q4), .second, .val (.int p5), .val (.int (4 : Int32)), .val (.int x10), .val (.long tm), .second, .val (.ref b230), .unset, .unset, .unset, .unset, .unset, .unset, .unset, .unset, .unset] [(.long q2), (.long (0 : Int64)), (.long (0 : Int64)), (.ref b230)])
    obtain ⟨cq274, kq274, q274a, q274b, q274c⟩ := isOf hZ rfl P232_0
    obtain ⟨_, _, ⟨T274, L274, k274, n274⟩, -, X274, ⟨Lc274, hQ274, l274, y274, z274⟩, st274⟩ := X232.virtualBack hx (y := (⟨"com/example/tote/tote/storage/OffsetIndex", "add", "(JJJ)V"⟩ : MethodName)) (z := (⟨"com/example/tote/tote/storage/OffsetIndex", "add", "(JJJ)V"⟩ : MethodName)) hown (mvT hZ (W 36 rfl)) (mvT hZ (W 37 rfl)) (notFace_of_selects (args := #[]) (mvT hZ (W 39 rfl))) (mvT hZ (W 39 rfl)) (mvT hZ (W 38 rfl)) (by decide) (backOf (W := 0) (rm5c0 l Z a0 hw [] b230 (0 : Int64) (0 : Int64) q2 b1_232 b2_232 b3_232 k1_232 k2_232 k3_232 (-9223372036854775808 : Int64) (0 : Int64) (0 : Int64) T232.heap n0 Z0_c233 P232_0 P232_1 P232_2 P232_3 P232_4 P232_5 P232_6 P232_7 P232_8 P232_9 P232_10 g_b230 g_b1_232 g_b2_232 g_b3_232 P232_14 P232_15 P232_16 P232_17 P232_18 P232_19 (by decide) (by decide)) hZ (W 40 rfl) (W 2 rfl) (by decide) (by decide)) q274a q274c (g := (mkF m 72 #[.val (.long q1), .second, .val (.long q2), .second, .val (.long q3), .second, .val (.long q4), .second, .val (.int p5), .val (.int (4 : Int32)), .val (.int x10), .val (.long tm), .second, .val (.ref b230), .unset, .unset, .unset, .unset, .unset, .unset, .unset, .unset, .unset] [(.long q2), (.long (0 : Int64)), (.long (0 : Int64)), (.ref b230)])) rfl (by rw [hml]; rfl) (Steps.refl _) (argsL := [(.long (0 : Int64)), (.long (0 : Int64)), (.long q2)]) (rest := []) (lenOf pd_5 rfl) rfl (by show 2 * 0 + _ ≤ _; exact Nat.le_of_eq rfl) (hb hby at_72) (fun _ _ => ⟨rfl, rfl, (by decide : 4 + 0 ≤ _), (by decide : 55 + 0 ≤ _)⟩)
    dsimp only [Pt.U, Pt.locs, Pt.cells, Pt.slots] at X274 l274 y274 z274 st274 hQ274
    subst l274 y274 z274
    obtain ⟨rfl, N274q, K274, P274_0, P274_1, P274_2, P274_3, P274_4, P274_5, P274_6, P274_7, P274_8, P274_9, P274_10⟩ := hQ274
    have N274 := Fr.app N232 N274q
    refine own_goT st274 ?_
    show own_Run p e below _ T274 (mkF m 75 #[.val (.long q1), .second, .val (.long q2), .second, .val (.long q3), .second, .val (.long q4), .second, .val (.int p5), .val (.int (4 : Int32)), .val (.int x10), .val (.long tm), .second, .val (.ref b230), .unset, .unset, .unset, .unset, .unset, .unset, .unset, .unset, .unset] [])
    have Z0_c275 := Nat.le_trans Z0_c233 K274.1
    have K0_c275 := K0_c233.trans K274 (allS (Or.inr sz_b230) (allS (Or.inr sz_b1_232) (allS (Or.inr sz_b2_232) (allS (Or.inr sz_b3_232) all0))))
    have P232_0_c275 := P232_0.keep K274
    rw [own_maxMin] at P274_4
    refine own_go (fun _ k => XS.iload X274.here hx rfl (hb hby at_75) rfl k) ?_
    refine own_go (fun _ k => XS.iconst X274.here hx rfl (hb hby at_77) k) ?_
    show own_Run p e below _ T274 (mkF m 78 #[.val (.long q1), .second, .val (.long q2), .second, .val (.long q3), .second, .val (.long q4), .second, .val (.int p5), .val (.int (4 : Int32)), .val (.int x10), .val (.long tm), .second, .val (.ref b230), .unset, .unset, .unset, .unset, .unset, .unset, .unset, .unset, .unset] [(.int (1 : Int32)), (.int (4 : Int32))])
    refine own_go (fun _ k => XS.icmpNo X274.here hx rfl (hb hby at_78) rfl (tlt (by decide : (1 : Int32) < (4 : Int32))).2.2.2 k) ?_
    show own_Run p e below _ T274 (mkF m 81 #[.val (.long q1), .second, .val (.long q2), .second, .val (.long q3), .second, .val (.long q4), .second, .val (.int p5), .val (.int (4 : Int32)), .val (.int x10), .val (.long tm), .second, .val (.ref b230), .unset, .unset, .unset, .unset, .unset, .unset, .unset, .unset, .unset] [])
    refine own_go (fun _ k => XS.aload X274.here hx rfl (hb hby at_81) rfl rfl k) ?_
    refine own_go (fun _ k => XS.lconst X274.here hx rfl (hb hby at_83) k) ?_
    refine own_go (fun _ k => XS.lconst X274.here hx rfl (hb hby at_84) k) ?_
    refine own_go (fun _ k => XS.lload X274.here hx rfl (hb hby at_85) rfl k) ?_
    show own_Run p e below _ T274 (mkF m 87 #[.val (.long q1), .second, .val (.long q2), .second, .val (.long q3), .second, .val (.long q4), .second, .val (.int p5), .val (.int (4 : Int32)), .val (.int x10), .val (.long tm), .second, .val (.ref b230), .unset, .unset, .unset, .unset, .unset, .unset, .unset, .unset, .unset] [(.long q3), (.long (1 : Int64)), (.long (1 : Int64)), (.ref b230)])
    obtain ⟨cq276, kq276, q276a, q276b, q276c⟩ := isOf hZ rfl P274_0
    obtain ⟨_, _, ⟨T276, L276, k276, n276⟩, -, X276, ⟨Lc276, hQ276, l276, y276, z276⟩, st276⟩ := X274.virtualBack hx (y := (⟨"com/example/tote/tote/storage/OffsetIndex", "add", "(JJJ)V"⟩ : MethodName)) (z := (⟨"com/example/tote/tote/storage/OffsetIndex", "add", "(JJJ)V"⟩ : MethodName)) hown (mvT hZ (W 36 rfl)) (mvT hZ (W 37 rfl)) (notFace_of_selects (args := #[]) (mvT hZ (W 39 rfl))) (mvT hZ (W 39 rfl)) (mvT hZ (W 38 rfl)) (by decide) (backOf (W := 0) (rm5c1 l Z a0 hw [] b230 (1 : Int64) (1 : Int64) q3 b1_232 b2_232 b3_232 k1_232 k2_232 k3_232 q2 (0 : Int64) (0 : Int64) (((0 : Int64) - (0 : Int64)).toInt32) ((0 : Int64).toInt32) (-9223372036854775808 : Int64) T274.heap n0 Z0_c275 P274_0 P274_1 P274_2 P274_3 P274_4 P274_5 P274_6 P274_7 P274_8 P274_9 P274_10 g_b230 g_b1_232 g_b2_232 g_b3_232 P232_14 P232_15 P232_16 P232_17 P232_18 P232_19 (by decide) (by decide) (by decide)) hZ (W 40 rfl) (W 2 rfl) (by decide) (by decide)) q276a q276c (g := (mkF m 87 #[.val (.long q1), .second, .val (.long q2), .second, .val (.long q3), .second, .val (.long q4), .second, .val (.int p5), .val (.int (4 : Int32)), .val (.int x10), .val (.long tm), .second, .val (.ref b230), .unset, .unset, .unset, .unset, .unset, .unset, .unset, .unset, .unset] [(.long q3), (.long (1 : Int64)), (.long (1 : Int64)), (.ref b230)])) rfl (by rw [hml]; rfl) (Steps.refl _) (argsL := [(.long (1 : Int64)), (.long (1 : Int64)), (.long q3)]) (rest := []) (lenOf pd_5 rfl) rfl (by show 2 * 0 + _ ≤ _; exact Nat.le_of_eq rfl) (hb hby at_87) (fun _ _ => ⟨rfl, rfl, (by decide : 4 + 0 ≤ _), (by decide : 55 + 0 ≤ _)⟩)
    dsimp only [Pt.U, Pt.locs, Pt.cells, Pt.slots] at X276 l276 y276 z276 st276 hQ276
    subst l276 y276 z276
    obtain ⟨rfl, N276q, K276, P276_0, P276_1, P276_2, P276_3, P276_4, P276_5, P276_6, P276_7, P276_8, P276_9, P276_10⟩ := hQ276
    have N276 := Fr.app N274 N276q
    refine own_goT st276 ?_
    show own_Run p e below _ T276 (mkF m 90 #[.val (.long q1), .second, .val (.long q2), .second, .val (.long q3), .second, .val (.long q4), .second, .val (.int p5), .val (.int (4 : Int32)), .val (.int x10), .val (.long tm), .second, .val (.ref b230), .unset, .unset, .unset, .unset, .unset, .unset, .unset, .unset, .unset] [])
    have Z0_c277 := Nat.le_trans Z0_c275 K276.1
    have K0_c277 := K0_c275.trans K276 (allS (Or.inr sz_b230) (allS (Or.inr sz_b1_232) (allS (Or.inr sz_b2_232) (allS (Or.inr sz_b3_232) all0))))
    have P274_0_c277 := P274_0.keep K276
    refine own_go (fun _ k => XS.iload X276.here hx rfl (hb hby at_90) rfl k) ?_
    refine own_go (fun _ k => XS.iconst X276.here hx rfl (hb hby at_92) k) ?_
    show own_Run p e below _ T276 (mkF m 93 #[.val (.long q1), .second, .val (.long q2), .second, .val (.long q3), .second, .val (.long q4), .second, .val (.int p5), .val (.int (4 : Int32)), .val (.int x10), .val (.long tm), .second, .val (.ref b230), .unset, .unset, .unset, .unset, .unset, .unset, .unset, .unset, .unset] [(.int (2 : Int32)), (.int (4 : Int32))])
    refine own_go (fun _ k => XS.icmpNo X276.here hx rfl (hb hby at_93) rfl (tlt (by decide : (2 : Int32) < (4 : Int32))).2.2.2 k) ?_
    show own_Run p e below _ T276 (mkF m 96 #[.val (.long q1), .second, .val (.long q2), .second, .val (.long q3), .second, .val (.long q4), .second, .val (.int p5), .val (.int (4 : Int32)), .val (.int x10), .val (.long tm), .second, .val (.ref b230), .unset, .unset, .unset, .unset, .unset, .unset, .unset, .unset, .unset] [])
    refine own_go (fun _ k => XS.aload X276.here hx rfl (hb hby at_96) rfl rfl k) ?_
    show own_Run p e below _ T276 (mkF m 98 #[.val (.long q1), .second, .val (.long q2), .second, .val (.long q3), .second, .val (.long q4), .second, .val (.int p5), .val (.int (4 : Int32)), .val (.int x10), .val (.long tm), .second, .val (.ref b230), .unset, .unset, .unset, .unset, .unset, .unset, .unset, .unset, .unset] [(.ref b230)])
    refine own_go (X276.ldc2Long hx hown (mvT hZ (W 49 rfl)) (g := (mkF m 98 #[.val (.long q1), .second, .val (.long q2), .second, .val (.long q3), .second, .val (.long q4), .second, .val (.int p5), .val (.int (4 : Int32)), .val (.int x10), .val (.long tm), .second, .val (.ref b230), .unset, .unset, .unset, .unset, .unset, .unset, .unset, .unset, .unset] [(.ref b230)])) rfl (hb hby at_98)) ?_
    show own_Run p e below _ T276 (mkF m 101 #[.val (.long q1), .second, .val (.long q2), .second, .val (.long q3), .second, .val (.long q4), .second, .val (.int p5), .val (.int (4 : Int32)), .val (.int x10), .val (.long tm), .second, .val (.ref b230), .unset, .unset, .unset, .unset, .unset, .unset, .unset, .unset, .unset] [(.long (2 : Int64)), (.ref b230)])
    refine own_go (X276.ldc2Long hx hown (mvT hZ (W 49 rfl)) (g := (mkF m 101 #[.val (.long q1), .second, .val (.long q2), .second, .val (.long q3), .second, .val (.long q4), .second, .val (.int p5), .val (.int (4 : Int32)), .val (.int x10), .val (.long tm), .second, .val (.ref b230), .unset, .unset, .unset, .unset, .unset, .unset, .unset, .unset, .unset] [(.long (2 : Int64)), (.ref b230)])) rfl (hb hby at_101)) ?_
    show own_Run p e below _ T276 (mkF m 104 #[.val (.long q1), .second, .val (.long q2), .second, .val (.long q3), .second, .val (.long q4), .second, .val (.int p5), .val (.int (4 : Int32)), .val (.int x10), .val (.long tm), .second, .val (.ref b230), .unset, .unset, .unset, .unset, .unset, .unset, .unset, .unset, .unset] [(.long (2 : Int64)), (.long (2 : Int64)), (.ref b230)])
    refine own_go (fun _ k => XS.lload X276.here hx rfl (hb hby at_104) rfl k) ?_
    show own_Run p e below _ T276 (mkF m 106 #[.val (.long q1), .second, .val (.long q2), .second, .val (.long q3), .second, .val (.long q4), .second, .val (.int p5), .val (.int (4 : Int32)), .val (.int x10), .val (.long tm), .second, .val (.ref b230), .unset, .unset, .unset, .unset, .unset, .unset, .unset, .unset, .unset] [(.long q4), (.long (2 : Int64)), (.long (2 : Int64)), (.ref b230)])
    obtain ⟨cq278, kq278, q278a, q278b, q278c⟩ := isOf hZ rfl P276_0
    obtain ⟨_, _, ⟨T278, L278, k278, n278⟩, -, X278, ⟨Lc278, hQ278, l278, y278, z278⟩, st278⟩ := X276.virtualBack hx (y := (⟨"com/example/tote/tote/storage/OffsetIndex", "add", "(JJJ)V"⟩ : MethodName)) (z := (⟨"com/example/tote/tote/storage/OffsetIndex", "add", "(JJJ)V"⟩ : MethodName)) hown (mvT hZ (W 36 rfl)) (mvT hZ (W 37 rfl)) (notFace_of_selects (args := #[]) (mvT hZ (W 39 rfl))) (mvT hZ (W 39 rfl)) (mvT hZ (W 38 rfl)) (by decide) (backOf (W := 0) (rm5c2 l Z a0 hw [] b230 (2 : Int64) (2 : Int64) q4 b1_232 b2_232 b3_232 k1_232 k2_232 k3_232 (own_max q2 q3) (0 : Int64) (0 : Int64) (((0 : Int64) - (0 : Int64)).toInt32) (((1 : Int64) - (0 : Int64)).toInt32) ((0 : Int64).toInt32) ((1 : Int64).toInt32) (-9223372036854775808 : Int64) q2 T276.heap n0 Z0_c277 P276_0 P276_1 P276_2 P276_3 P276_4 P276_5 P276_6 P276_7 P276_8 P276_9 P276_10 g_b230 g_b1_232 g_b2_232 g_b3_232 P232_14 P232_15 P232_16 P232_17 P232_18 P232_19 (by decide) (by decide) (by decide)) hZ (W 40 rfl) (W 2 rfl) (by decide) (by decide)) q278a q278c (g := (mkF m 106 #[.val (.long q1), .second, .val (.long q2), .second, .val (.long q3), .second, .val (.long q4), .second, .val (.int p5), .val (.int (4 : Int32)), .val (.int x10), .val (.long tm), .second, .val (.ref b230), .unset, .unset, .unset, .unset, .unset, .unset, .unset, .unset, .unset] [(.long q4), (.long (2 : Int64)), (.long (2 : Int64)), (.ref b230)])) rfl (by rw [hml]; rfl) (Steps.refl _) (argsL := [(.long (2 : Int64)), (.long (2 : Int64)), (.long q4)]) (rest := []) (lenOf pd_5 rfl) rfl (by show 2 * 0 + _ ≤ _; exact Nat.le_of_eq rfl) (hb hby at_106) (fun _ _ => ⟨rfl, rfl, (by decide : 4 + 0 ≤ _), (by decide : 55 + 0 ≤ _)⟩)
    dsimp only [Pt.U, Pt.locs, Pt.cells, Pt.slots] at X278 l278 y278 z278 st278 hQ278
    subst l278 y278 z278
    obtain ⟨rfl, N278q, K278, P278_0, P278_1, P278_2, P278_3, P278_4, P278_5, P278_6, P278_7, P278_8, P278_9, P278_10⟩ := hQ278
    have N278 := Fr.app N276 N278q
    refine own_goT st278 ?_
    show own_Run p e below _ T278 (mkF m 109 #[.val (.long q1), .second, .val (.long q2), .second, .val (.long q3), .second, .val (.long q4), .second, .val (.int p5), .val (.int (4 : Int32)), .val (.int x10), .val (.long tm), .second, .val (.ref b230), .unset, .unset, .unset, .unset, .unset, .unset, .unset, .unset, .unset] [])
    have Z0_c279 := Nat.le_trans Z0_c277 K278.1
    have K0_c279 := K0_c277.trans K278 (allS (Or.inr sz_b230) (allS (Or.inr sz_b1_232) (allS (Or.inr sz_b2_232) (allS (Or.inr sz_b3_232) all0))))
    have P276_0_c279 := P276_0.keep K278
    refine own_go (fun _ k => XS.iload X278.here hx rfl (hb hby at_109) rfl k) ?_
    refine own_go (fun _ k => XS.iconst X278.here hx rfl (hb hby at_111) k) ?_
    show own_Run p e below _ T278 (mkF m 112 #[.val (.long q1), .second, .val (.long q2), .second, .val (.long q3), .second, .val (.long q4), .second, .val (.int p5), .val (.int (4 : Int32)), .val (.int x10), .val (.long tm), .second, .val (.ref b230), .unset, .unset, .unset, .unset, .unset, .unset, .unset, .unset, .unset] [(.int (3 : Int32)), (.int (4 : Int32))])
    refine own_go (fun _ k => XS.icmpNo X278.here hx rfl (hb hby at_112) rfl (tlt (by decide : (3 : Int32) < (4 : Int32))).2.2.2 k) ?_
    show own_Run p e below _ T278 (mkF m 115 #[.val (.long q1), .second, .val (.long q2), .second, .val (.long q3), .second, .val (.long q4), .second, .val (.int p5), .val (.int (4 : Int32)), .val (.int x10), .val (.long tm), .second, .val (.ref b230), .unset, .unset, .unset, .unset, .unset, .unset, .unset, .unset, .unset] [])
    refine own_go (fun _ k => XS.aload X278.here hx rfl (hb hby at_115) rfl rfl k) ?_
    show own_Run p e below _ T278 (mkF m 117 #[.val (.long q1), .second, .val (.long q2), .second, .val (.long q3), .second, .val (.long q4), .second, .val (.int p5), .val (.int (4 : Int32)), .val (.int x10), .val (.long tm), .second, .val (.ref b230), .unset, .unset, .unset, .unset, .unset, .unset, .unset, .unset, .unset] [(.ref b230)])
    refine own_go (X278.ldc2Long hx hown (mvT hZ (W 50 rfl)) (g := (mkF m 117 #[.val (.long q1), .second, .val (.long q2), .second, .val (.long q3), .second, .val (.long q4), .second, .val (.int p5), .val (.int (4 : Int32)), .val (.int x10), .val (.long tm), .second, .val (.ref b230), .unset, .unset, .unset, .unset, .unset, .unset, .unset, .unset, .unset] [(.ref b230)])) rfl (hb hby at_117)) ?_
    show own_Run p e below _ T278 (mkF m 120 #[.val (.long q1), .second, .val (.long q2), .second, .val (.long q3), .second, .val (.long q4), .second, .val (.int p5), .val (.int (4 : Int32)), .val (.int x10), .val (.long tm), .second, .val (.ref b230), .unset, .unset, .unset, .unset, .unset, .unset, .unset, .unset, .unset] [(.long (3 : Int64)), (.ref b230)])
    refine own_go (X278.ldc2Long hx hown (mvT hZ (W 50 rfl)) (g := (mkF m 120 #[.val (.long q1), .second, .val (.long q2), .second, .val (.long q3), .second, .val (.long q4), .second, .val (.int p5), .val (.int (4 : Int32)), .val (.int x10), .val (.long tm), .second, .val (.ref b230), .unset, .unset, .unset, .unset, .unset, .unset, .unset, .unset, .unset] [(.long (3 : Int64)), (.ref b230)])) rfl (hb hby at_120)) ?_
    show own_Run p e below _ T278 (mkF m 123 #[.val (.long q1), .second, .val (.long q2), .second, .val (.long q3), .second, .val (.long q4), .second, .val (.int p5), .val (.int (4 : Int32)), .val (.int x10), .val (.long tm), .second, .val (.ref b230), .unset, .unset, .unset, .unset, .unset, .unset, .unset, .unset, .unset] [(.long (3 : Int64)), (.long (3 : Int64)), (.ref b230)])
    refine own_go (fun _ k => XS.lloadN X278.here hx rfl (hb hby at_123) rfl k) ?_
    show own_Run p e below _ T278 (mkF m 124 #[.val (.long q1), .second, .val (.long q2), .second, .val (.long q3), .second, .val (.long q4), .second, .val (.int p5), .val (.int (4 : Int32)), .val (.int x10), .val (.long tm), .second, .val (.ref b230), .unset, .unset, .unset, .unset, .unset, .unset, .unset, .unset, .unset] [(.long q1), (.long (3 : Int64)), (.long (3 : Int64)), (.ref b230)])
    obtain ⟨cq280, kq280, q280a, q280b, q280c⟩ := isOf hZ rfl P278_0
    obtain ⟨_, _, ⟨T280, L280, k280, n280⟩, -, X280, ⟨Lc280, hQ280, l280, y280, z280⟩, st280⟩ := X278.virtualBack hx (y := (⟨"com/example/tote/tote/storage/OffsetIndex", "add", "(JJJ)V"⟩ : MethodName)) (z := (⟨"com/example/tote/tote/storage/OffsetIndex", "add", "(JJJ)V"⟩ : MethodName)) hown (mvT hZ (W 36 rfl)) (mvT hZ (W 37 rfl)) (notFace_of_selects (args := #[]) (mvT hZ (W 39 rfl))) (mvT hZ (W 39 rfl)) (mvT hZ (W 38 rfl)) (by decide) (backOf (W := 0) (rm5c3 l Z a0 hw [] b230 (3 : Int64) (3 : Int64) q1 b1_232 b2_232 b3_232 k1_232 k2_232 k3_232 (own_max (own_max q2 q3) q4) (0 : Int64) (0 : Int64) (((0 : Int64) - (0 : Int64)).toInt32) (((1 : Int64) - (0 : Int64)).toInt32) (((2 : Int64) - (0 : Int64)).toInt32) ((0 : Int64).toInt32) ((1 : Int64).toInt32) ((2 : Int64).toInt32) (-9223372036854775808 : Int64) q2 (own_max q2 q3) T278.heap n0 Z0_c279 P278_0 P278_1 P278_2 P278_3 P278_4 P278_5 P278_6 P278_7 P278_8 P278_9 P278_10 g_b230 g_b1_232 g_b2_232 g_b3_232 P232_14 P232_15 P232_16 P232_17 P232_18 P232_19 (by decide) (by decide) (by decide)) hZ (W 40 rfl) (W 2 rfl) (by decide) (by decide)) q280a q280c (g := (mkF m 124 #[.val (.long q1), .second, .val (.long q2), .second, .val (.long q3), .second, .val (.long q4), .second, .val (.int p5), .val (.int (4 : Int32)), .val (.int x10), .val (.long tm), .second, .val (.ref b230), .unset, .unset, .unset, .unset, .unset, .unset, .unset, .unset, .unset] [(.long q1), (.long (3 : Int64)), (.long (3 : Int64)), (.ref b230)])) rfl (by rw [hml]; rfl) (Steps.refl _) (argsL := [(.long (3 : Int64)), (.long (3 : Int64)), (.long q1)]) (rest := []) (lenOf pd_5 rfl) rfl (by show 2 * 0 + _ ≤ _; exact Nat.le_of_eq rfl) (hb hby at_124) (fun _ _ => ⟨rfl, rfl, (by decide : 4 + 0 ≤ _), (by decide : 55 + 0 ≤ _)⟩)
    dsimp only [Pt.U, Pt.locs, Pt.cells, Pt.slots] at X280 l280 y280 z280 st280 hQ280
    subst l280 y280 z280
    obtain ⟨rfl, N280q, K280, P280_0, P280_1, P280_2, P280_3, P280_4, P280_5, P280_6, P280_7, P280_8, P280_9, P280_10⟩ := hQ280
    have N280 := Fr.app N278 N280q
    refine own_goT st280 ?_
    show own_Run p e below _ T280 (mkF m 127 #[.val (.long q1), .second, .val (.long q2), .second, .val (.long q3), .second, .val (.long q4), .second, .val (.int p5), .val (.int (4 : Int32)), .val (.int x10), .val (.long tm), .second, .val (.ref b230), .unset, .unset, .unset, .unset, .unset, .unset, .unset, .unset, .unset] [])
    have Z0_c281 := Nat.le_trans Z0_c279 K280.1
    have K0_c281 := K0_c279.trans K280 (allS (Or.inr sz_b230) (allS (Or.inr sz_b1_232) (allS (Or.inr sz_b2_232) (allS (Or.inr sz_b3_232) all0))))
    have P278_0_c281 := P278_0.keep K280
    refine own_go (X280.ldc2Long hx hown (mvT hZ (W 24 rfl)) (g := (mkF m 127 #[.val (.long q1), .second, .val (.long q2), .second, .val (.long q3), .second, .val (.long q4), .second, .val (.int p5), .val (.int (4 : Int32)), .val (.int x10), .val (.long tm), .second, .val (.ref b230), .unset, .unset, .unset, .unset, .unset, .unset, .unset, .unset, .unset] [])) rfl (hb hby at_127)) ?_
    show own_Run p e below _ T280 (mkF m 130 #[.val (.long q1), .second, .val (.long q2), .second, .val (.long q3), .second, .val (.long q4), .second, .val (.int p5), .val (.int (4 : Int32)), .val (.int x10), .val (.long tm), .second, .val (.ref b230), .unset, .unset, .unset, .unset, .unset, .unset, .unset, .unset, .unset] [(.long (-9223372036854775808 : Int64))])
    refine own_go (fun _ k => XS.lstore X280.here hx rfl (hb hby at_130) rfl (l' := #[.val (.long q1), .second, .val (.long q2), .second, .val (.long q3), .second, .val (.long q4), .second, .val (.int p5), .val (.int (4 : Int32)), .val (.int x10), .val (.long tm), .second, .val (.ref b230), .val (.long (-9223372036854775808 : Int64)), .second, .unset, .unset, .unset, .unset, .unset, .unset, .unset]) rfl k) ?_
    refine own_go (fun _ k => XS.lloadN X280.here hx rfl (hb hby at_132) rfl k) ?_
    refine own_go (fun _ k => XS.lstore X280.here hx rfl (hb hby at_133) rfl (l' := #[.val (.long q1), .second, .val (.long q2), .second, .val (.long q3), .second, .val (.long q4), .second, .val (.int p5), .val (.int (4 : Int32)), .val (.int x10), .val (.long tm), .second, .val (.ref b230), .val (.long (-9223372036854775808 : Int64)), .second, .val (.long q2), .second, .unset, .unset, .unset, .unset, .unset]) rfl k) ?_
    refine own_go (fun _ k => XS.lloadN X280.here hx rfl (hb hby at_135) rfl k) ?_
    show own_Run p e below _ T280 (mkF m 136 #[.val (.long q1), .second, .val (.long q2), .second, .val (.long q3), .second, .val (.long q4), .second, .val (.int p5), .val (.int (4 : Int32)), .val (.int x10), .val (.long tm), .second, .val (.ref b230), .val (.long (-9223372036854775808 : Int64)), .second, .val (.long q2), .second, .unset, .unset, .unset, .unset, .unset] [(.long q2)])
    refine own_go (fun _ k => XS.lload X280.here hx rfl (hb hby at_136) rfl k) ?_
    show own_Run p e below _ T280 (mkF m 138 #[.val (.long q1), .second, .val (.long q2), .second, .val (.long q3), .second, .val (.long q4), .second, .val (.int p5), .val (.int (4 : Int32)), .val (.int x10), .val (.long tm), .second, .val (.ref b230), .val (.long (-9223372036854775808 : Int64)), .second, .val (.long q2), .second, .unset, .unset, .unset, .unset, .unset] [(.long q3), (.long q2)])
    obtain ⟨_, _, ⟨T282, L282, k282, n282⟩, -, X282, ⟨Lc282, hQ282, l282, y282, z282⟩, st282⟩ := Jvm.LawKit.callS X280 hx (y := (⟨"java/lang/Math", "max", "(JJ)J"⟩ : MethodName)) hown (mvT hZ (W 25 rfl)) (mvT hZ (W 26 rfl)) (mvT hZ (W 27 rfl)) (mvT hZ (W 28 rfl)) (by decide) (backOf (W := 0) (rm3 l Z a0 hw [] q2 q3 T280.heap n0 Z0_c281 ) hZ (W 28 rfl) (W 27 rfl) (by decide) (by decide)) (g := (mkF m 138 #[.val (.long q1), .second, .val (.long q2), .second, .val (.long q3), .second, .val (.long q4), .second, .val (.int p5), .val (.int (4 : Int32)), .val (.int x10), .val (.long tm), .second, .val (.ref b230), .val (.long (-9223372036854775808 : Int64)), .second, .val (.long q2), .second, .unset, .unset, .unset, .unset, .unset] [(.long q3), (.long q2)])) rfl (by rw [hml]; rfl) (argsL := [(.long q2), (.long q3)]) (rest := []) (lenOf pd_3 rfl) rfl (by show 2 * 0 + _ ≤ _; exact Nat.le_of_eq rfl) (hb hby at_138) (fun _ _ => ⟨rfl, rfl, (by decide : 4 + 0 ≤ _), (by decide : 55 + 0 ≤ _)⟩)
    dsimp only [Pt.U, Pt.locs, Pt.cells, Pt.slots] at X282 l282 y282 z282 st282 hQ282
    subst l282 y282 z282
    obtain ⟨rfl, N282q, e282⟩ := hQ282
    have N282 := Fr.app N280 N282q
    refine own_go st282 ?_
    show own_Run p e below _ T282 (mkF m 141 #[.val (.long q1), .second, .val (.long q2), .second, .val (.long q3), .second, .val (.long q4), .second, .val (.int p5), .val (.int (4 : Int32)), .val (.int x10), .val (.long tm), .second, .val (.ref b230), .val (.long (-9223372036854775808 : Int64)), .second, .val (.long q2), .second, .unset, .unset, .unset, .unset, .unset] [(.long (own_max q2 q3))])
    refine own_go (fun _ k => XS.lstore X282.here hx rfl (hb hby at_141) rfl (l' := #[.val (.long q1), .second, .val (.long q2), .second, .val (.long q3), .second, .val (.long q4), .second, .val (.int p5), .val (.int (4 : Int32)), .val (.int x10), .val (.long tm), .second, .val (.ref b230), .val (.long (-9223372036854775808 : Int64)), .second, .val (.long q2), .second, .val (.long (own_max q2 q3)), .second, .unset, .unset, .unset]) rfl k) ?_
    refine own_go (fun _ k => XS.lload X282.here hx rfl (hb hby at_143) rfl k) ?_
    refine own_go (fun _ k => XS.lload X282.here hx rfl (hb hby at_145) rfl k) ?_
    show own_Run p e below _ T282 (mkF m 147 #[.val (.long q1), .second, .val (.long q2), .second, .val (.long q3), .second, .val (.long q4), .second, .val (.int p5), .val (.int (4 : Int32)), .val (.int x10), .val (.long tm), .second, .val (.ref b230), .val (.long (-9223372036854775808 : Int64)), .second, .val (.long q2), .second, .val (.long (own_max q2 q3)), .second, .unset, .unset, .unset] [(.long q4), (.long (own_max q2 q3))])
    obtain ⟨_, _, ⟨T283, L283, k283, n283⟩, -, X283, ⟨Lc283, hQ283, l283, y283, z283⟩, st283⟩ := Jvm.LawKit.callS X282 hx (y := (⟨"java/lang/Math", "max", "(JJ)J"⟩ : MethodName)) hown (mvT hZ (W 25 rfl)) (mvT hZ (W 26 rfl)) (mvT hZ (W 27 rfl)) (mvT hZ (W 28 rfl)) (by decide) (backOf (W := 0) (rm3 l Z a0 hw [] (own_max q2 q3) q4 T280.heap n0 Z0_c281 ) hZ (W 28 rfl) (W 27 rfl) (by decide) (by decide)) (g := (mkF m 147 #[.val (.long q1), .second, .val (.long q2), .second, .val (.long q3), .second, .val (.long q4), .second, .val (.int p5), .val (.int (4 : Int32)), .val (.int x10), .val (.long tm), .second, .val (.ref b230), .val (.long (-9223372036854775808 : Int64)), .second, .val (.long q2), .second, .val (.long (own_max q2 q3)), .second, .unset, .unset, .unset] [(.long q4), (.long (own_max q2 q3))])) rfl (by rw [hml]; rfl) (argsL := [(.long (own_max q2 q3)), (.long q4)]) (rest := []) (lenOf pd_3 rfl) rfl (by show 2 * 0 + _ ≤ _; exact Nat.le_of_eq rfl) (hb hby at_147) (fun _ _ => ⟨rfl, e282, (by decide : 4 + 0 ≤ _), (by decide : 55 + 0 ≤ _)⟩)
    dsimp only [Pt.U, Pt.locs, Pt.cells, Pt.slots] at X283 l283 y283 z283 st283 hQ283
    subst l283 y283 z283
    obtain ⟨rfl, N283q, e283⟩ := hQ283
    have N283 := Fr.app N282 N283q
    refine own_go st283 ?_
    show own_Run p e below _ T283 (mkF m 150 #[.val (.long q1), .second, .val (.long q2), .second, .val (.long q3), .second, .val (.long q4), .second, .val (.int p5), .val (.int (4 : Int32)), .val (.int x10), .val (.long tm), .second, .val (.ref b230), .val (.long (-9223372036854775808 : Int64)), .second, .val (.long q2), .second, .val (.long (own_max q2 q3)), .second, .unset, .unset, .unset] [(.long (own_max (own_max q2 q3) q4))])
    refine own_go (fun _ k => XS.lstore X283.here hx rfl (hb hby at_150) rfl (l' := #[.val (.long q1), .second, .val (.long q2), .second, .val (.long q3), .second, .val (.long q4), .second, .val (.int p5), .val (.int (4 : Int32)), .val (.int x10), .val (.long tm), .second, .val (.ref b230), .val (.long (-9223372036854775808 : Int64)), .second, .val (.long q2), .second, .val (.long (own_max q2 q3)), .second, .val (.long (own_max (own_max q2 q3) q4)), .second, .unset]) rfl k) ?_
    refine own_go (fun _ k => XS.iconst X283.here hx rfl (hb hby at_152) k) ?_
    refine own_go (fun _ k => XS.istore X283.here hx rfl (hb hby at_153) rfl (l' := #[.val (.long q1), .second, .val (.long q2), .second, .val (.long q3), .second, .val (.long q4), .second, .val (.int p5), .val (.int (4 : Int32)), .val (.int x10), .val (.long tm), .second, .val (.ref b230), .val (.long (-9223372036854775808 : Int64)), .second, .val (.long q2), .second, .val (.long (own_max q2 q3)), .second, .val (.long (own_max (own_max q2 q3) q4)), .second, .val (.int (0 : Int32))]) rfl k) ?_
    refine own_go (fun _ k => XS.iload X283.here hx rfl (hb hby at_155) rfl k) ?_
    show own_Run p e below _ T283 (mkF m 157 #[.val (.long q1), .second, .val (.long q2), .second, .val (.long q3), .second, .val (.long q4), .second, .val (.int p5), .val (.int (4 : Int32)), .val (.int x10), .val (.long tm), .second, .val (.ref b230), .val (.long (-9223372036854775808 : Int64)), .second, .val (.long q2), .second, .val (.long (own_max q2 q3)), .second, .val (.long (own_max (own_max q2 q3) q4)), .second, .val (.int (0 : Int32))] [(.int (4 : Int32))])
    refine own_go (fun _ k => XS.ifNo X283.here hx rfl (hb hby at_157) rfl ((if0 _ _).trans (tlt (by decide : (0 : Int32) < (4 : Int32))).2.2.2) k) ?_
    show own_Run p e below _ T283 (mkF m 160 #[.val (.long q1), .second, .val (.long q2), .second, .val (.long q3), .second, .val (.long q4), .second, .val (.int p5), .val (.int (4 : Int32)), .val (.int x10), .val (.long tm), .second, .val (.ref b230), .val (.long (-9223372036854775808 : Int64)), .second, .val (.long q2), .second, .val (.long (own_max q2 q3)), .second, .val (.long (own_max (own_max q2 q3) q4)), .second, .val (.int (0 : Int32))] [])
    refine own_go (fun _ k => XS.lload X283.here hx rfl (hb hby at_160) rfl k) ?_
    refine own_go (fun _ k => XS.lload X283.here hx rfl (hb hby at_162) rfl k) ?_
    refine own_go (fun _ k => XS.lcmp X283.here hx rfl (hb hby at_164) rfl k) ?_
    show own_Run p e below _ T283 (mkF m 165 #[.val (.long q1), .second, .val (.long q2), .second, .val (.long q3), .second, .val (.long q4), .second, .val (.int p5), .val (.int (4 : Int32)), .val (.int x10), .val (.long tm), .second, .val (.ref b230), .val (.long (-9223372036854775808 : Int64)), .second, .val (.long q2), .second, .val (.long (own_max q2 q3)), .second, .val (.long (own_max (own_max q2 q3) q4)), .second, .val (.int (0 : Int32))] [(.int (lcmpW (-9223372036854775808 : Int64) tm))])
    by_cases hc165_284 : (-9223372036854775808 : Int64) < tm
    · refine own_go (fun _ k => XS.ifNo X283.here hx rfl (hb hby at_165) rfl (own_lcT hc165_284).2.1 k) ?_
      show own_Run p e below _ T283 (mkF m 168 #[.val (.long q1), .second, .val (.long q2), .second, .val (.long q3), .second, .val (.long q4), .second, .val (.int p5), .val (.int (4 : Int32)), .val (.int x10), .val (.long tm), .second, .val (.ref b230), .val (.long (-9223372036854775808 : Int64)), .second, .val (.long q2), .second, .val (.long (own_max q2 q3)), .second, .val (.long (own_max (own_max q2 q3) q4)), .second, .val (.int (0 : Int32))] [])
      refine own_go (fun _ k => XS.iinc X283.here hx rfl (hb hby at_168) rfl (l' := #[.val (.long q1), .second, .val (.long q2), .second, .val (.long q3), .second, .val (.long q4), .second, .val (.int p5), .val (.int (4 : Int32)), .val (.int x10), .val (.long tm), .second, .val (.ref b230), .val (.long (-9223372036854775808 : Int64)), .second, .val (.long q2), .second, .val (.long (own_max q2 q3)), .second, .val (.long (own_max (own_max q2 q3) q4)), .second, .val (.int ((0 : Int32) + (1 : Int32)))]) rfl k) ?_
      show own_Run p e below _ T283 (mkF m 171 #[.val (.long q1), .second, .val (.long q2), .second, .val (.long q3), .second, .val (.long q4), .second, .val (.int p5), .val (.int (4 : Int32)), .val (.int x10), .val (.long tm), .second, .val (.ref b230), .val (.long (-9223372036854775808 : Int64)), .second, .val (.long q2), .second, .val (.long (own_max q2 q3)), .second, .val (.long (own_max (own_max q2 q3) q4)), .second, .val (.int ((0 : Int32) + (1 : Int32)))] [])
      rw [show ((0 : Int32) + (1 : Int32)) = (1 : Int32) by decide]
      show own_Run p e below _ T283 (mkF m 171 #[.val (.long q1), .second, .val (.long q2), .second, .val (.long q3), .second, .val (.long q4), .second, .val (.int p5), .val (.int (4 : Int32)), .val (.int x10), .val (.long tm), .second, .val (.ref b230), .val (.long (-9223372036854775808 : Int64)), .second, .val (.long q2), .second, .val (.long (own_max q2 q3)), .second, .val (.long (own_max (own_max q2 q3) q4)), .second, .val (.int (1 : Int32))] [])
      refine own_go (fun _ k => XS.iload X283.here hx rfl (hb hby at_171) rfl k) ?_
      refine own_go (fun _ k => XS.iconst X283.here hx rfl (hb hby at_173) k) ?_
      show own_Run p e below _ T283 (mkF m 174 #[.val (.long q1), .second, .val (.long q2), .second, .val (.long q3), .second, .val (.long q4), .second, .val (.int p5), .val (.int (4 : Int32)), .val (.int x10), .val (.long tm), .second, .val (.ref b230), .val (.long (-9223372036854775808 : Int64)), .second, .val (.long q2), .second, .val (.long (own_max q2 q3)), .second, .val (.long (own_max (own_max q2 q3) q4)), .second, .val (.int (1 : Int32))] [(.int (1 : Int32)), (.int (4 : Int32))])
      refine own_go (fun _ k => XS.icmpNo X283.here hx rfl (hb hby at_174) rfl (tlt (by decide : (1 : Int32) < (4 : Int32))).2.2.2 k) ?_
      show own_Run p e below _ T283 (mkF m 177 #[.val (.long q1), .second, .val (.long q2), .second, .val (.long q3), .second, .val (.long q4), .second, .val (.int p5), .val (.int (4 : Int32)), .val (.int x10), .val (.long tm), .second, .val (.ref b230), .val (.long (-9223372036854775808 : Int64)), .second, .val (.long q2), .second, .val (.long (own_max q2 q3)), .second, .val (.long (own_max (own_max q2 q3) q4)), .second, .val (.int (1 : Int32))] [])
      refine own_go (fun _ k => XS.lload X283.here hx rfl (hb hby at_177) rfl k) ?_
      refine own_go (fun _ k => XS.lload X283.here hx rfl (hb hby at_179) rfl k) ?_
      refine own_go (fun _ k => XS.lcmp X283.here hx rfl (hb hby at_181) rfl k) ?_
      show own_Run p e below _ T283 (mkF m 182 #[.val (.long q1), .second, .val (.long q2), .second, .val (.long q3), .second, .val (.long q4), .second, .val (.int p5), .val (.int (4 : Int32)), .val (.int x10), .val (.long tm), .second, .val (.ref b230), .val (.long (-9223372036854775808 : Int64)), .second, .val (.long q2), .second, .val (.long (own_max q2 q3)), .second, .val (.long (own_max (own_max q2 q3) q4)), .second, .val (.int (1 : Int32))] [(.int (lcmpW q2 tm))])
      by_cases hc182_285 : q2 < tm
      · refine own_go (fun _ k => XS.ifNo X283.here hx rfl (hb hby at_182) rfl (own_lcT hc182_285).2.1 k) ?_
        show own_Run p e below _ T283 (mkF m 185 #[.val (.long q1), .second, .val (.long q2), .second, .val (.long q3), .second, .val (.long q4), .second, .val (.int p5), .val (.int (4 : Int32)), .val (.int x10), .val (.long tm), .second, .val (.ref b230), .val (.long (-9223372036854775808 : Int64)), .second, .val (.long q2), .second, .val (.long (own_max q2 q3)), .second, .val (.long (own_max (own_max q2 q3) q4)), .second, .val (.int (1 : Int32))] [])
        refine own_go (fun _ k => XS.iinc X283.here hx rfl (hb hby at_185) rfl (l' := #[.val (.long q1), .second, .val (.long q2), .second, .val (.long q3), .second, .val (.long q4), .second, .val (.int p5), .val (.int (4 : Int32)), .val (.int x10), .val (.long tm), .second, .val (.ref b230), .val (.long (-9223372036854775808 : Int64)), .second, .val (.long q2), .second, .val (.long (own_max q2 q3)), .second, .val (.long (own_max (own_max q2 q3) q4)), .second, .val (.int ((1 : Int32) + (1 : Int32)))]) rfl k) ?_
        show own_Run p e below _ T283 (mkF m 188 #[.val (.long q1), .second, .val (.long q2), .second, .val (.long q3), .second, .val (.long q4), .second, .val (.int p5), .val (.int (4 : Int32)), .val (.int x10), .val (.long tm), .second, .val (.ref b230), .val (.long (-9223372036854775808 : Int64)), .second, .val (.long q2), .second, .val (.long (own_max q2 q3)), .second, .val (.long (own_max (own_max q2 q3) q4)), .second, .val (.int ((1 : Int32) + (1 : Int32)))] [])
        rw [show ((1 : Int32) + (1 : Int32)) = (2 : Int32) by decide]
        show own_Run p e below _ T283 (mkF m 188 #[.val (.long q1), .second, .val (.long q2), .second, .val (.long q3), .second, .val (.long q4), .second, .val (.int p5), .val (.int (4 : Int32)), .val (.int x10), .val (.long tm), .second, .val (.ref b230), .val (.long (-9223372036854775808 : Int64)), .second, .val (.long q2), .second, .val (.long (own_max q2 q3)), .second, .val (.long (own_max (own_max q2 q3) q4)), .second, .val (.int (2 : Int32))] [])
        refine own_go (fun _ k => XS.iload X283.here hx rfl (hb hby at_188) rfl k) ?_
        refine own_go (fun _ k => XS.iconst X283.here hx rfl (hb hby at_190) k) ?_
        show own_Run p e below _ T283 (mkF m 191 #[.val (.long q1), .second, .val (.long q2), .second, .val (.long q3), .second, .val (.long q4), .second, .val (.int p5), .val (.int (4 : Int32)), .val (.int x10), .val (.long tm), .second, .val (.ref b230), .val (.long (-9223372036854775808 : Int64)), .second, .val (.long q2), .second, .val (.long (own_max q2 q3)), .second, .val (.long (own_max (own_max q2 q3) q4)), .second, .val (.int (2 : Int32))] [(.int (2 : Int32)), (.int (4 : Int32))])
        refine own_go (fun _ k => XS.icmpNo X283.here hx rfl (hb hby at_191) rfl (tlt (by decide : (2 : Int32) < (4 : Int32))).2.2.2 k) ?_
        show own_Run p e below _ T283 (mkF m 194 #[.val (.long q1), .second, .val (.long q2), .second, .val (.long q3), .second, .val (.long q4), .second, .val (.int p5), .val (.int (4 : Int32)), .val (.int x10), .val (.long tm), .second, .val (.ref b230), .val (.long (-9223372036854775808 : Int64)), .second, .val (.long q2), .second, .val (.long (own_max q2 q3)), .second, .val (.long (own_max (own_max q2 q3) q4)), .second, .val (.int (2 : Int32))] [])
        refine own_go (fun _ k => XS.lload X283.here hx rfl (hb hby at_194) rfl k) ?_
        refine own_go (fun _ k => XS.lload X283.here hx rfl (hb hby at_196) rfl k) ?_
        refine own_go (fun _ k => XS.lcmp X283.here hx rfl (hb hby at_198) rfl k) ?_
        show own_Run p e below _ T283 (mkF m 199 #[.val (.long q1), .second, .val (.long q2), .second, .val (.long q3), .second, .val (.long q4), .second, .val (.int p5), .val (.int (4 : Int32)), .val (.int x10), .val (.long tm), .second, .val (.ref b230), .val (.long (-9223372036854775808 : Int64)), .second, .val (.long q2), .second, .val (.long (own_max q2 q3)), .second, .val (.long (own_max (own_max q2 q3) q4)), .second, .val (.int (2 : Int32))] [(.int (lcmpW (own_max q2 q3) tm))])
        by_cases hc199_286 : (own_max q2 q3) < tm
        · refine own_go (fun _ k => XS.ifNo X283.here hx rfl (hb hby at_199) rfl (own_lcT hc199_286).2.1 k) ?_
          show own_Run p e below _ T283 (mkF m 202 #[.val (.long q1), .second, .val (.long q2), .second, .val (.long q3), .second, .val (.long q4), .second, .val (.int p5), .val (.int (4 : Int32)), .val (.int x10), .val (.long tm), .second, .val (.ref b230), .val (.long (-9223372036854775808 : Int64)), .second, .val (.long q2), .second, .val (.long (own_max q2 q3)), .second, .val (.long (own_max (own_max q2 q3) q4)), .second, .val (.int (2 : Int32))] [])
          refine own_go (fun _ k => XS.iinc X283.here hx rfl (hb hby at_202) rfl (l' := #[.val (.long q1), .second, .val (.long q2), .second, .val (.long q3), .second, .val (.long q4), .second, .val (.int p5), .val (.int (4 : Int32)), .val (.int x10), .val (.long tm), .second, .val (.ref b230), .val (.long (-9223372036854775808 : Int64)), .second, .val (.long q2), .second, .val (.long (own_max q2 q3)), .second, .val (.long (own_max (own_max q2 q3) q4)), .second, .val (.int ((2 : Int32) + (1 : Int32)))]) rfl k) ?_
          show own_Run p e below _ T283 (mkF m 205 #[.val (.long q1), .second, .val (.long q2), .second, .val (.long q3), .second, .val (.long q4), .second, .val (.int p5), .val (.int (4 : Int32)), .val (.int x10), .val (.long tm), .second, .val (.ref b230), .val (.long (-9223372036854775808 : Int64)), .second, .val (.long q2), .second, .val (.long (own_max q2 q3)), .second, .val (.long (own_max (own_max q2 q3) q4)), .second, .val (.int ((2 : Int32) + (1 : Int32)))] [])
          rw [show ((2 : Int32) + (1 : Int32)) = (3 : Int32) by decide]
          show own_Run p e below _ T283 (mkF m 205 #[.val (.long q1), .second, .val (.long q2), .second, .val (.long q3), .second, .val (.long q4), .second, .val (.int p5), .val (.int (4 : Int32)), .val (.int x10), .val (.long tm), .second, .val (.ref b230), .val (.long (-9223372036854775808 : Int64)), .second, .val (.long q2), .second, .val (.long (own_max q2 q3)), .second, .val (.long (own_max (own_max q2 q3) q4)), .second, .val (.int (3 : Int32))] [])
          refine own_go (fun _ k => XS.iload X283.here hx rfl (hb hby at_205) rfl k) ?_
          refine own_go (fun _ k => XS.iconst X283.here hx rfl (hb hby at_207) k) ?_
          show own_Run p e below _ T283 (mkF m 208 #[.val (.long q1), .second, .val (.long q2), .second, .val (.long q3), .second, .val (.long q4), .second, .val (.int p5), .val (.int (4 : Int32)), .val (.int x10), .val (.long tm), .second, .val (.ref b230), .val (.long (-9223372036854775808 : Int64)), .second, .val (.long q2), .second, .val (.long (own_max q2 q3)), .second, .val (.long (own_max (own_max q2 q3) q4)), .second, .val (.int (3 : Int32))] [(.int (3 : Int32)), (.int (4 : Int32))])
          refine own_go (fun _ k => XS.icmpNo X283.here hx rfl (hb hby at_208) rfl (tlt (by decide : (3 : Int32) < (4 : Int32))).2.2.2 k) ?_
          show own_Run p e below _ T283 (mkF m 211 #[.val (.long q1), .second, .val (.long q2), .second, .val (.long q3), .second, .val (.long q4), .second, .val (.int p5), .val (.int (4 : Int32)), .val (.int x10), .val (.long tm), .second, .val (.ref b230), .val (.long (-9223372036854775808 : Int64)), .second, .val (.long q2), .second, .val (.long (own_max q2 q3)), .second, .val (.long (own_max (own_max q2 q3) q4)), .second, .val (.int (3 : Int32))] [])
          refine own_go (fun _ k => XS.lload X283.here hx rfl (hb hby at_211) rfl k) ?_
          refine own_go (fun _ k => XS.lload X283.here hx rfl (hb hby at_213) rfl k) ?_
          refine own_go (fun _ k => XS.lcmp X283.here hx rfl (hb hby at_215) rfl k) ?_
          show own_Run p e below _ T283 (mkF m 216 #[.val (.long q1), .second, .val (.long q2), .second, .val (.long q3), .second, .val (.long q4), .second, .val (.int p5), .val (.int (4 : Int32)), .val (.int x10), .val (.long tm), .second, .val (.ref b230), .val (.long (-9223372036854775808 : Int64)), .second, .val (.long q2), .second, .val (.long (own_max q2 q3)), .second, .val (.long (own_max (own_max q2 q3) q4)), .second, .val (.int (3 : Int32))] [(.int (lcmpW (own_max (own_max q2 q3) q4) tm))])
          by_cases hc216_287 : (own_max (own_max q2 q3) q4) < tm
          · refine own_go (fun _ k => XS.ifNo X283.here hx rfl (hb hby at_216) rfl (own_lcT hc216_287).2.1 k) ?_
            show own_Run p e below _ T283 (mkF m 219 #[.val (.long q1), .second, .val (.long q2), .second, .val (.long q3), .second, .val (.long q4), .second, .val (.int p5), .val (.int (4 : Int32)), .val (.int x10), .val (.long tm), .second, .val (.ref b230), .val (.long (-9223372036854775808 : Int64)), .second, .val (.long q2), .second, .val (.long (own_max q2 q3)), .second, .val (.long (own_max (own_max q2 q3) q4)), .second, .val (.int (3 : Int32))] [])
            refine own_go (fun _ k => XS.iinc X283.here hx rfl (hb hby at_219) rfl (l' := #[.val (.long q1), .second, .val (.long q2), .second, .val (.long q3), .second, .val (.long q4), .second, .val (.int p5), .val (.int (4 : Int32)), .val (.int x10), .val (.long tm), .second, .val (.ref b230), .val (.long (-9223372036854775808 : Int64)), .second, .val (.long q2), .second, .val (.long (own_max q2 q3)), .second, .val (.long (own_max (own_max q2 q3) q4)), .second, .val (.int ((3 : Int32) + (1 : Int32)))]) rfl k) ?_
            show own_Run p e below _ T283 (mkF m 222 #[.val (.long q1), .second, .val (.long q2), .second, .val (.long q3), .second, .val (.long q4), .second, .val (.int p5), .val (.int (4 : Int32)), .val (.int x10), .val (.long tm), .second, .val (.ref b230), .val (.long (-9223372036854775808 : Int64)), .second, .val (.long q2), .second, .val (.long (own_max q2 q3)), .second, .val (.long (own_max (own_max q2 q3) q4)), .second, .val (.int ((3 : Int32) + (1 : Int32)))] [])
            rw [show ((3 : Int32) + (1 : Int32)) = (4 : Int32) by decide]
            show own_Run p e below _ T283 (mkF m 222 #[.val (.long q1), .second, .val (.long q2), .second, .val (.long q3), .second, .val (.long q4), .second, .val (.int p5), .val (.int (4 : Int32)), .val (.int x10), .val (.long tm), .second, .val (.ref b230), .val (.long (-9223372036854775808 : Int64)), .second, .val (.long q2), .second, .val (.long (own_max q2 q3)), .second, .val (.long (own_max (own_max q2 q3) q4)), .second, .val (.int (4 : Int32))] [])
            refine own_go (fun _ k => XS.aload X283.here hx rfl (hb hby at_222) rfl rfl k) ?_
            refine own_go (fun _ k => XS.lload X283.here hx rfl (hb hby at_224) rfl k) ?_
            show own_Run p e below _ T283 (mkF m 226 #[.val (.long q1), .second, .val (.long q2), .second, .val (.long q3), .second, .val (.long q4), .second, .val (.int p5), .val (.int (4 : Int32)), .val (.int x10), .val (.long tm), .second, .val (.ref b230), .val (.long (-9223372036854775808 : Int64)), .second, .val (.long q2), .second, .val (.long (own_max q2 q3)), .second, .val (.long (own_max (own_max q2 q3) q4)), .second, .val (.int (4 : Int32))] [(.long tm), (.ref b230)])
            obtain ⟨cq288, kq288, q288a, q288b, q288c⟩ := isOf hZ e283 P280_0
            obtain ⟨_, _, ⟨T288, L288, k288, n288⟩, -, X288, ⟨Lc288, hQ288, l288, y288, z288⟩, st288⟩ := X283.virtualBack hx (y := (⟨"com/example/tote/tote/storage/OffsetIndex", "floorTime", "(J)I"⟩ : MethodName)) (z := (⟨"com/example/tote/tote/storage/OffsetIndex", "floorTime", "(J)I"⟩ : MethodName)) hown (mvT hZ (W 29 rfl)) (mvT hZ (W 30 rfl)) (notFace_of_selects (args := #[]) (mvT hZ (W 32 rfl))) (mvT hZ (W 32 rfl)) (mvT hZ (W 31 rfl)) (by decide) (backOf (W := 0) (rm4n4 l Z a0 hw [] b230 tm b3_232 k3_232 (-9223372036854775808 : Int64) q2 (own_max q2 q3) (own_max (own_max q2 q3) q4) (3 : Int32) T280.heap n0 Z0_c281 P280_3 P280_7 P280_10 (Or.inr (Or.inr (Or.inr (Or.inr (⟨hc165_284, hc182_285, hc199_286, hc216_287, rfl⟩)))))) hZ (W 33 rfl) (W 2 rfl) (by decide) (by decide)) q288a q288c (g := (mkF m 226 #[.val (.long q1), .second, .val (.long q2), .second, .val (.long q3), .second, .val (.long q4), .second, .val (.int p5), .val (.int (4 : Int32)), .val (.int x10), .val (.long tm), .second, .val (.ref b230), .val (.long (-9223372036854775808 : Int64)), .second, .val (.long q2), .second, .val (.long (own_max q2 q3)), .second, .val (.long (own_max (own_max q2 q3) q4)), .second, .val (.int (4 : Int32))] [(.long tm), (.ref b230)])) rfl (by rw [hml]; rfl) (Steps.refl _) (argsL := [(.long tm)]) (rest := []) (lenOf pd_1 rfl) rfl (by show 2 * 0 + _ ≤ _; exact Nat.le_of_eq rfl) (hb hby at_226) (fun _ _ => ⟨rfl, e283, (by decide : 4 + 0 ≤ _), (by decide : 55 + 0 ≤ _)⟩)
            dsimp only [Pt.U, Pt.locs, Pt.cells, Pt.slots] at X288 l288 y288 z288 st288 hQ288
            subst l288 y288 z288
            obtain ⟨rfl, N288q, e288⟩ := hQ288
            have N288 := Fr.app N283 N288q
            refine own_goT st288 ?_
            show own_Run p e below _ T288 (mkF m 229 #[.val (.long q1), .second, .val (.long q2), .second, .val (.long q3), .second, .val (.long q4), .second, .val (.int p5), .val (.int (4 : Int32)), .val (.int x10), .val (.long tm), .second, .val (.ref b230), .val (.long (-9223372036854775808 : Int64)), .second, .val (.long q2), .second, .val (.long (own_max q2 q3)), .second, .val (.long (own_max (own_max q2 q3) q4)), .second, .val (.int (4 : Int32))] [(.int (3 : Int32))])
            refine own_go (fun _ k => XS.iload X288.here hx rfl (hb hby at_229) rfl k) ?_
            refine own_go (fun _ k => XS.iconst X288.here hx rfl (hb hby at_231) k) ?_
            refine own_go (fun _ k => XS.isub X288.here hx rfl (hb hby at_232) rfl k) ?_
            show own_Run p e below _ T288 (mkF m 233 #[.val (.long q1), .second, .val (.long q2), .second, .val (.long q3), .second, .val (.long q4), .second, .val (.int p5), .val (.int (4 : Int32)), .val (.int x10), .val (.long tm), .second, .val (.ref b230), .val (.long (-9223372036854775808 : Int64)), .second, .val (.long q2), .second, .val (.long (own_max q2 q3)), .second, .val (.long (own_max (own_max q2 q3) q4)), .second, .val (.int (4 : Int32))] [(.int ((4 : Int32) - (1 : Int32))), (.int (3 : Int32))])
            rw [show ((4 : Int32) - (1 : Int32)) = (3 : Int32) by decide]
            show own_Run p e below _ T288 (mkF m 233 #[.val (.long q1), .second, .val (.long q2), .second, .val (.long q3), .second, .val (.long q4), .second, .val (.int p5), .val (.int (4 : Int32)), .val (.int x10), .val (.long tm), .second, .val (.ref b230), .val (.long (-9223372036854775808 : Int64)), .second, .val (.long q2), .second, .val (.long (own_max q2 q3)), .second, .val (.long (own_max (own_max q2 q3) q4)), .second, .val (.int (4 : Int32))] [(.int (3 : Int32)), (.int (3 : Int32))])
            refine own_go (fun _ k => XS.icmpNo X288.here hx rfl (hb hby at_233) rfl (teq (by decide : (3 : Int32) = (3 : Int32))).2 k) ?_
            show own_Run p e below _ T288 (mkF m 236 #[.val (.long q1), .second, .val (.long q2), .second, .val (.long q3), .second, .val (.long q4), .second, .val (.int p5), .val (.int (4 : Int32)), .val (.int x10), .val (.long tm), .second, .val (.ref b230), .val (.long (-9223372036854775808 : Int64)), .second, .val (.long q2), .second, .val (.long (own_max q2 q3)), .second, .val (.long (own_max (own_max q2 q3) q4)), .second, .val (.int (4 : Int32))] [])
            refine own_go (fun _ k => XS.iconst X288.here hx rfl (hb hby at_236) k) ?_
            refine own_go (fun _ k => XS.goto X288.here hx rfl (pc0 := 237) (pc' := 241) rfl (hb hby at_237) (by decide) (by decide) k) ?_
            show own_Run p e below _ T288 (mkF m 241 #[.val (.long q1), .second, .val (.long q2), .second, .val (.long q3), .second, .val (.long q4), .second, .val (.int p5), .val (.int (4 : Int32)), .val (.int x10), .val (.long tm), .second, .val (.ref b230), .val (.long (-9223372036854775808 : Int64)), .second, .val (.long q2), .second, .val (.long (own_max q2 q3)), .second, .val (.long (own_max (own_max q2 q3) q4)), .second, .val (.int (4 : Int32))] [(.int (1 : Int32))])
            refine own_done (Q := fun v h L => Q0 Z q1 q2 q3 q4 p5 h0 n0 v h L) (v := (some (.int (1 : Int32)))) X288 (fun h => by rw [hret] at h; cases h) hlk (fun fs hr => retN X288 hx (t := .boolean) hret (by simp) (hb hby at_241) hr) ?_ (by decide) (by decide)
            show Q0 Z q1 q2 q3 q4 p5 h0 n0 _ T288.heap _
            rw [e288]
            exact ⟨rfl, N288⟩
          · refine own_go (fun _ k => XS.ifYes X283.here hx rfl (pc0 := 216) (pc' := 222) rfl (hb hby at_216) rfl (own_lcF hc216_287).2.1 (by decide) (by decide) k) ?_
            show own_Run p e below _ T283 (mkF m 222 #[.val (.long q1), .second, .val (.long q2), .second, .val (.long q3), .second, .val (.long q4), .second, .val (.int p5), .val (.int (4 : Int32)), .val (.int x10), .val (.long tm), .second, .val (.ref b230), .val (.long (-9223372036854775808 : Int64)), .second, .val (.long q2), .second, .val (.long (own_max q2 q3)), .second, .val (.long (own_max (own_max q2 q3) q4)), .second, .val (.int (3 : Int32))] [])
            refine own_go (fun _ k => XS.aload X283.here hx rfl (hb hby at_222) rfl rfl k) ?_
            refine own_go (fun _ k => XS.lload X283.here hx rfl (hb hby at_224) rfl k) ?_
            show own_Run p e below _ T283 (mkF m 226 #[.val (.long q1), .second, .val (.long q2), .second, .val (.long q3), .second, .val (.long q4), .second, .val (.int p5), .val (.int (4 : Int32)), .val (.int x10), .val (.long tm), .second, .val (.ref b230), .val (.long (-9223372036854775808 : Int64)), .second, .val (.long q2), .second, .val (.long (own_max q2 q3)), .second, .val (.long (own_max (own_max q2 q3) q4)), .second, .val (.int (3 : Int32))] [(.long tm), (.ref b230)])
            obtain ⟨cq289, kq289, q289a, q289b, q289c⟩ := isOf hZ e283 P280_0
            obtain ⟨_, _, ⟨T289, L289, k289, n289⟩, -, X289, ⟨Lc289, hQ289, l289, y289, z289⟩, st289⟩ := X283.virtualBack hx (y := (⟨"com/example/tote/tote/storage/OffsetIndex", "floorTime", "(J)I"⟩ : MethodName)) (z := (⟨"com/example/tote/tote/storage/OffsetIndex", "floorTime", "(J)I"⟩ : MethodName)) hown (mvT hZ (W 29 rfl)) (mvT hZ (W 30 rfl)) (notFace_of_selects (args := #[]) (mvT hZ (W 32 rfl))) (mvT hZ (W 32 rfl)) (mvT hZ (W 31 rfl)) (by decide) (backOf (W := 0) (rm4n4 l Z a0 hw [] b230 tm b3_232 k3_232 (-9223372036854775808 : Int64) q2 (own_max q2 q3) (own_max (own_max q2 q3) q4) (2 : Int32) T280.heap n0 Z0_c281 P280_3 P280_7 P280_10 (Or.inr (Or.inr (Or.inr (Or.inl ⟨hc165_284, hc182_285, hc199_286, hc216_287, rfl⟩))))) hZ (W 33 rfl) (W 2 rfl) (by decide) (by decide)) q289a q289c (g := (mkF m 226 #[.val (.long q1), .second, .val (.long q2), .second, .val (.long q3), .second, .val (.long q4), .second, .val (.int p5), .val (.int (4 : Int32)), .val (.int x10), .val (.long tm), .second, .val (.ref b230), .val (.long (-9223372036854775808 : Int64)), .second, .val (.long q2), .second, .val (.long (own_max q2 q3)), .second, .val (.long (own_max (own_max q2 q3) q4)), .second, .val (.int (3 : Int32))] [(.long tm), (.ref b230)])) rfl (by rw [hml]; rfl) (Steps.refl _) (argsL := [(.long tm)]) (rest := []) (lenOf pd_1 rfl) rfl (by show 2 * 0 + _ ≤ _; exact Nat.le_of_eq rfl) (hb hby at_226) (fun _ _ => ⟨rfl, e283, (by decide : 4 + 0 ≤ _), (by decide : 55 + 0 ≤ _)⟩)
            dsimp only [Pt.U, Pt.locs, Pt.cells, Pt.slots] at X289 l289 y289 z289 st289 hQ289
            subst l289 y289 z289
            obtain ⟨rfl, N289q, e289⟩ := hQ289
            have N289 := Fr.app N283 N289q
            refine own_goT st289 ?_
            show own_Run p e below _ T289 (mkF m 229 #[.val (.long q1), .second, .val (.long q2), .second, .val (.long q3), .second, .val (.long q4), .second, .val (.int p5), .val (.int (4 : Int32)), .val (.int x10), .val (.long tm), .second, .val (.ref b230), .val (.long (-9223372036854775808 : Int64)), .second, .val (.long q2), .second, .val (.long (own_max q2 q3)), .second, .val (.long (own_max (own_max q2 q3) q4)), .second, .val (.int (3 : Int32))] [(.int (2 : Int32))])
            refine own_go (fun _ k => XS.iload X289.here hx rfl (hb hby at_229) rfl k) ?_
            refine own_go (fun _ k => XS.iconst X289.here hx rfl (hb hby at_231) k) ?_
            refine own_go (fun _ k => XS.isub X289.here hx rfl (hb hby at_232) rfl k) ?_
            show own_Run p e below _ T289 (mkF m 233 #[.val (.long q1), .second, .val (.long q2), .second, .val (.long q3), .second, .val (.long q4), .second, .val (.int p5), .val (.int (4 : Int32)), .val (.int x10), .val (.long tm), .second, .val (.ref b230), .val (.long (-9223372036854775808 : Int64)), .second, .val (.long q2), .second, .val (.long (own_max q2 q3)), .second, .val (.long (own_max (own_max q2 q3) q4)), .second, .val (.int (3 : Int32))] [(.int ((3 : Int32) - (1 : Int32))), (.int (2 : Int32))])
            rw [show ((3 : Int32) - (1 : Int32)) = (2 : Int32) by decide]
            show own_Run p e below _ T289 (mkF m 233 #[.val (.long q1), .second, .val (.long q2), .second, .val (.long q3), .second, .val (.long q4), .second, .val (.int p5), .val (.int (4 : Int32)), .val (.int x10), .val (.long tm), .second, .val (.ref b230), .val (.long (-9223372036854775808 : Int64)), .second, .val (.long q2), .second, .val (.long (own_max q2 q3)), .second, .val (.long (own_max (own_max q2 q3) q4)), .second, .val (.int (3 : Int32))] [(.int (2 : Int32)), (.int (2 : Int32))])
            refine own_go (fun _ k => XS.icmpNo X289.here hx rfl (hb hby at_233) rfl (teq (by decide : (2 : Int32) = (2 : Int32))).2 k) ?_
            show own_Run p e below _ T289 (mkF m 236 #[.val (.long q1), .second, .val (.long q2), .second, .val (.long q3), .second, .val (.long q4), .second, .val (.int p5), .val (.int (4 : Int32)), .val (.int x10), .val (.long tm), .second, .val (.ref b230), .val (.long (-9223372036854775808 : Int64)), .second, .val (.long q2), .second, .val (.long (own_max q2 q3)), .second, .val (.long (own_max (own_max q2 q3) q4)), .second, .val (.int (3 : Int32))] [])
            refine own_go (fun _ k => XS.iconst X289.here hx rfl (hb hby at_236) k) ?_
            refine own_go (fun _ k => XS.goto X289.here hx rfl (pc0 := 237) (pc' := 241) rfl (hb hby at_237) (by decide) (by decide) k) ?_
            show own_Run p e below _ T289 (mkF m 241 #[.val (.long q1), .second, .val (.long q2), .second, .val (.long q3), .second, .val (.long q4), .second, .val (.int p5), .val (.int (4 : Int32)), .val (.int x10), .val (.long tm), .second, .val (.ref b230), .val (.long (-9223372036854775808 : Int64)), .second, .val (.long q2), .second, .val (.long (own_max q2 q3)), .second, .val (.long (own_max (own_max q2 q3) q4)), .second, .val (.int (3 : Int32))] [(.int (1 : Int32))])
            refine own_done (Q := fun v h L => Q0 Z q1 q2 q3 q4 p5 h0 n0 v h L) (v := (some (.int (1 : Int32)))) X289 (fun h => by rw [hret] at h; cases h) hlk (fun fs hr => retN X289 hx (t := .boolean) hret (by simp) (hb hby at_241) hr) ?_ (by decide) (by decide)
            show Q0 Z q1 q2 q3 q4 p5 h0 n0 _ T289.heap _
            rw [e289]
            exact ⟨rfl, N289⟩
        · refine own_go (fun _ k => XS.ifYes X283.here hx rfl (pc0 := 199) (pc' := 205) rfl (hb hby at_199) rfl (own_lcF hc199_286).2.1 (by decide) (by decide) k) ?_
          show own_Run p e below _ T283 (mkF m 205 #[.val (.long q1), .second, .val (.long q2), .second, .val (.long q3), .second, .val (.long q4), .second, .val (.int p5), .val (.int (4 : Int32)), .val (.int x10), .val (.long tm), .second, .val (.ref b230), .val (.long (-9223372036854775808 : Int64)), .second, .val (.long q2), .second, .val (.long (own_max q2 q3)), .second, .val (.long (own_max (own_max q2 q3) q4)), .second, .val (.int (2 : Int32))] [])
          refine own_go (fun _ k => XS.iload X283.here hx rfl (hb hby at_205) rfl k) ?_
          refine own_go (fun _ k => XS.iconst X283.here hx rfl (hb hby at_207) k) ?_
          show own_Run p e below _ T283 (mkF m 208 #[.val (.long q1), .second, .val (.long q2), .second, .val (.long q3), .second, .val (.long q4), .second, .val (.int p5), .val (.int (4 : Int32)), .val (.int x10), .val (.long tm), .second, .val (.ref b230), .val (.long (-9223372036854775808 : Int64)), .second, .val (.long q2), .second, .val (.long (own_max q2 q3)), .second, .val (.long (own_max (own_max q2 q3) q4)), .second, .val (.int (2 : Int32))] [(.int (3 : Int32)), (.int (4 : Int32))])
          refine own_go (fun _ k => XS.icmpNo X283.here hx rfl (hb hby at_208) rfl (tlt (by decide : (3 : Int32) < (4 : Int32))).2.2.2 k) ?_
          show own_Run p e below _ T283 (mkF m 211 #[.val (.long q1), .second, .val (.long q2), .second, .val (.long q3), .second, .val (.long q4), .second, .val (.int p5), .val (.int (4 : Int32)), .val (.int x10), .val (.long tm), .second, .val (.ref b230), .val (.long (-9223372036854775808 : Int64)), .second, .val (.long q2), .second, .val (.long (own_max q2 q3)), .second, .val (.long (own_max (own_max q2 q3) q4)), .second, .val (.int (2 : Int32))] [])
          refine own_go (fun _ k => XS.lload X283.here hx rfl (hb hby at_211) rfl k) ?_
          refine own_go (fun _ k => XS.lload X283.here hx rfl (hb hby at_213) rfl k) ?_
          refine own_go (fun _ k => XS.lcmp X283.here hx rfl (hb hby at_215) rfl k) ?_
          show own_Run p e below _ T283 (mkF m 216 #[.val (.long q1), .second, .val (.long q2), .second, .val (.long q3), .second, .val (.long q4), .second, .val (.int p5), .val (.int (4 : Int32)), .val (.int x10), .val (.long tm), .second, .val (.ref b230), .val (.long (-9223372036854775808 : Int64)), .second, .val (.long q2), .second, .val (.long (own_max q2 q3)), .second, .val (.long (own_max (own_max q2 q3) q4)), .second, .val (.int (2 : Int32))] [(.int (lcmpW (own_max (own_max q2 q3) q4) tm))])
          have hm290 : ¬ ((own_max (own_max q2 q3) q4) < tm) := (own_up1 (own_max q2 q3) q4 tm hc199_286)
          refine own_go (fun _ k => XS.ifYes X283.here hx rfl (pc0 := 216) (pc' := 222) rfl (hb hby at_216) rfl (own_lcF hm290).2.1 (by decide) (by decide) k) ?_
          show own_Run p e below _ T283 (mkF m 222 #[.val (.long q1), .second, .val (.long q2), .second, .val (.long q3), .second, .val (.long q4), .second, .val (.int p5), .val (.int (4 : Int32)), .val (.int x10), .val (.long tm), .second, .val (.ref b230), .val (.long (-9223372036854775808 : Int64)), .second, .val (.long q2), .second, .val (.long (own_max q2 q3)), .second, .val (.long (own_max (own_max q2 q3) q4)), .second, .val (.int (2 : Int32))] [])
          refine own_go (fun _ k => XS.aload X283.here hx rfl (hb hby at_222) rfl rfl k) ?_
          refine own_go (fun _ k => XS.lload X283.here hx rfl (hb hby at_224) rfl k) ?_
          show own_Run p e below _ T283 (mkF m 226 #[.val (.long q1), .second, .val (.long q2), .second, .val (.long q3), .second, .val (.long q4), .second, .val (.int p5), .val (.int (4 : Int32)), .val (.int x10), .val (.long tm), .second, .val (.ref b230), .val (.long (-9223372036854775808 : Int64)), .second, .val (.long q2), .second, .val (.long (own_max q2 q3)), .second, .val (.long (own_max (own_max q2 q3) q4)), .second, .val (.int (2 : Int32))] [(.long tm), (.ref b230)])
          obtain ⟨cq291, kq291, q291a, q291b, q291c⟩ := isOf hZ e283 P280_0
          obtain ⟨_, _, ⟨T291, L291, k291, n291⟩, -, X291, ⟨Lc291, hQ291, l291, y291, z291⟩, st291⟩ := X283.virtualBack hx (y := (⟨"com/example/tote/tote/storage/OffsetIndex", "floorTime", "(J)I"⟩ : MethodName)) (z := (⟨"com/example/tote/tote/storage/OffsetIndex", "floorTime", "(J)I"⟩ : MethodName)) hown (mvT hZ (W 29 rfl)) (mvT hZ (W 30 rfl)) (notFace_of_selects (args := #[]) (mvT hZ (W 32 rfl))) (mvT hZ (W 32 rfl)) (mvT hZ (W 31 rfl)) (by decide) (backOf (W := 0) (rm4n4 l Z a0 hw [] b230 tm b3_232 k3_232 (-9223372036854775808 : Int64) q2 (own_max q2 q3) (own_max (own_max q2 q3) q4) (1 : Int32) T280.heap n0 Z0_c281 P280_3 P280_7 P280_10 (Or.inr (Or.inr (Or.inl ⟨hc165_284, hc182_285, hc199_286, hm290, rfl⟩)))) hZ (W 33 rfl) (W 2 rfl) (by decide) (by decide)) q291a q291c (g := (mkF m 226 #[.val (.long q1), .second, .val (.long q2), .second, .val (.long q3), .second, .val (.long q4), .second, .val (.int p5), .val (.int (4 : Int32)), .val (.int x10), .val (.long tm), .second, .val (.ref b230), .val (.long (-9223372036854775808 : Int64)), .second, .val (.long q2), .second, .val (.long (own_max q2 q3)), .second, .val (.long (own_max (own_max q2 q3) q4)), .second, .val (.int (2 : Int32))] [(.long tm), (.ref b230)])) rfl (by rw [hml]; rfl) (Steps.refl _) (argsL := [(.long tm)]) (rest := []) (lenOf pd_1 rfl) rfl (by show 2 * 0 + _ ≤ _; exact Nat.le_of_eq rfl) (hb hby at_226) (fun _ _ => ⟨rfl, e283, (by decide : 4 + 0 ≤ _), (by decide : 55 + 0 ≤ _)⟩)
          dsimp only [Pt.U, Pt.locs, Pt.cells, Pt.slots] at X291 l291 y291 z291 st291 hQ291
          subst l291 y291 z291
          obtain ⟨rfl, N291q, e291⟩ := hQ291
          have N291 := Fr.app N283 N291q
          refine own_goT st291 ?_
          show own_Run p e below _ T291 (mkF m 229 #[.val (.long q1), .second, .val (.long q2), .second, .val (.long q3), .second, .val (.long q4), .second, .val (.int p5), .val (.int (4 : Int32)), .val (.int x10), .val (.long tm), .second, .val (.ref b230), .val (.long (-9223372036854775808 : Int64)), .second, .val (.long q2), .second, .val (.long (own_max q2 q3)), .second, .val (.long (own_max (own_max q2 q3) q4)), .second, .val (.int (2 : Int32))] [(.int (1 : Int32))])
          refine own_go (fun _ k => XS.iload X291.here hx rfl (hb hby at_229) rfl k) ?_
          refine own_go (fun _ k => XS.iconst X291.here hx rfl (hb hby at_231) k) ?_
          refine own_go (fun _ k => XS.isub X291.here hx rfl (hb hby at_232) rfl k) ?_
          show own_Run p e below _ T291 (mkF m 233 #[.val (.long q1), .second, .val (.long q2), .second, .val (.long q3), .second, .val (.long q4), .second, .val (.int p5), .val (.int (4 : Int32)), .val (.int x10), .val (.long tm), .second, .val (.ref b230), .val (.long (-9223372036854775808 : Int64)), .second, .val (.long q2), .second, .val (.long (own_max q2 q3)), .second, .val (.long (own_max (own_max q2 q3) q4)), .second, .val (.int (2 : Int32))] [(.int ((2 : Int32) - (1 : Int32))), (.int (1 : Int32))])
          rw [show ((2 : Int32) - (1 : Int32)) = (1 : Int32) by decide]
          show own_Run p e below _ T291 (mkF m 233 #[.val (.long q1), .second, .val (.long q2), .second, .val (.long q3), .second, .val (.long q4), .second, .val (.int p5), .val (.int (4 : Int32)), .val (.int x10), .val (.long tm), .second, .val (.ref b230), .val (.long (-9223372036854775808 : Int64)), .second, .val (.long q2), .second, .val (.long (own_max q2 q3)), .second, .val (.long (own_max (own_max q2 q3) q4)), .second, .val (.int (2 : Int32))] [(.int (1 : Int32)), (.int (1 : Int32))])
          refine own_go (fun _ k => XS.icmpNo X291.here hx rfl (hb hby at_233) rfl (teq (by decide : (1 : Int32) = (1 : Int32))).2 k) ?_
          show own_Run p e below _ T291 (mkF m 236 #[.val (.long q1), .second, .val (.long q2), .second, .val (.long q3), .second, .val (.long q4), .second, .val (.int p5), .val (.int (4 : Int32)), .val (.int x10), .val (.long tm), .second, .val (.ref b230), .val (.long (-9223372036854775808 : Int64)), .second, .val (.long q2), .second, .val (.long (own_max q2 q3)), .second, .val (.long (own_max (own_max q2 q3) q4)), .second, .val (.int (2 : Int32))] [])
          refine own_go (fun _ k => XS.iconst X291.here hx rfl (hb hby at_236) k) ?_
          refine own_go (fun _ k => XS.goto X291.here hx rfl (pc0 := 237) (pc' := 241) rfl (hb hby at_237) (by decide) (by decide) k) ?_
          show own_Run p e below _ T291 (mkF m 241 #[.val (.long q1), .second, .val (.long q2), .second, .val (.long q3), .second, .val (.long q4), .second, .val (.int p5), .val (.int (4 : Int32)), .val (.int x10), .val (.long tm), .second, .val (.ref b230), .val (.long (-9223372036854775808 : Int64)), .second, .val (.long q2), .second, .val (.long (own_max q2 q3)), .second, .val (.long (own_max (own_max q2 q3) q4)), .second, .val (.int (2 : Int32))] [(.int (1 : Int32))])
          refine own_done (Q := fun v h L => Q0 Z q1 q2 q3 q4 p5 h0 n0 v h L) (v := (some (.int (1 : Int32)))) X291 (fun h => by rw [hret] at h; cases h) hlk (fun fs hr => retN X291 hx (t := .boolean) hret (by simp) (hb hby at_241) hr) ?_ (by decide) (by decide)
          show Q0 Z q1 q2 q3 q4 p5 h0 n0 _ T291.heap _
          rw [e291]
          exact ⟨rfl, N291⟩
      · refine own_go (fun _ k => XS.ifYes X283.here hx rfl (pc0 := 182) (pc' := 188) rfl (hb hby at_182) rfl (own_lcF hc182_285).2.1 (by decide) (by decide) k) ?_
        show own_Run p e below _ T283 (mkF m 188 #[.val (.long q1), .second, .val (.long q2), .second, .val (.long q3), .second, .val (.long q4), .second, .val (.int p5), .val (.int (4 : Int32)), .val (.int x10), .val (.long tm), .second, .val (.ref b230), .val (.long (-9223372036854775808 : Int64)), .second, .val (.long q2), .second, .val (.long (own_max q2 q3)), .second, .val (.long (own_max (own_max q2 q3) q4)), .second, .val (.int (1 : Int32))] [])
        refine own_go (fun _ k => XS.iload X283.here hx rfl (hb hby at_188) rfl k) ?_
        refine own_go (fun _ k => XS.iconst X283.here hx rfl (hb hby at_190) k) ?_
        show own_Run p e below _ T283 (mkF m 191 #[.val (.long q1), .second, .val (.long q2), .second, .val (.long q3), .second, .val (.long q4), .second, .val (.int p5), .val (.int (4 : Int32)), .val (.int x10), .val (.long tm), .second, .val (.ref b230), .val (.long (-9223372036854775808 : Int64)), .second, .val (.long q2), .second, .val (.long (own_max q2 q3)), .second, .val (.long (own_max (own_max q2 q3) q4)), .second, .val (.int (1 : Int32))] [(.int (2 : Int32)), (.int (4 : Int32))])
        refine own_go (fun _ k => XS.icmpNo X283.here hx rfl (hb hby at_191) rfl (tlt (by decide : (2 : Int32) < (4 : Int32))).2.2.2 k) ?_
        show own_Run p e below _ T283 (mkF m 194 #[.val (.long q1), .second, .val (.long q2), .second, .val (.long q3), .second, .val (.long q4), .second, .val (.int p5), .val (.int (4 : Int32)), .val (.int x10), .val (.long tm), .second, .val (.ref b230), .val (.long (-9223372036854775808 : Int64)), .second, .val (.long q2), .second, .val (.long (own_max q2 q3)), .second, .val (.long (own_max (own_max q2 q3) q4)), .second, .val (.int (1 : Int32))] [])
        refine own_go (fun _ k => XS.lload X283.here hx rfl (hb hby at_194) rfl k) ?_
        refine own_go (fun _ k => XS.lload X283.here hx rfl (hb hby at_196) rfl k) ?_
        refine own_go (fun _ k => XS.lcmp X283.here hx rfl (hb hby at_198) rfl k) ?_
        show own_Run p e below _ T283 (mkF m 199 #[.val (.long q1), .second, .val (.long q2), .second, .val (.long q3), .second, .val (.long q4), .second, .val (.int p5), .val (.int (4 : Int32)), .val (.int x10), .val (.long tm), .second, .val (.ref b230), .val (.long (-9223372036854775808 : Int64)), .second, .val (.long q2), .second, .val (.long (own_max q2 q3)), .second, .val (.long (own_max (own_max q2 q3) q4)), .second, .val (.int (1 : Int32))] [(.int (lcmpW (own_max q2 q3) tm))])
        have hm292 : ¬ ((own_max q2 q3) < tm) := (own_up1 q2 q3 tm hc182_285)
        refine own_go (fun _ k => XS.ifYes X283.here hx rfl (pc0 := 199) (pc' := 205) rfl (hb hby at_199) rfl (own_lcF hm292).2.1 (by decide) (by decide) k) ?_
        show own_Run p e below _ T283 (mkF m 205 #[.val (.long q1), .second, .val (.long q2), .second, .val (.long q3), .second, .val (.long q4), .second, .val (.int p5), .val (.int (4 : Int32)), .val (.int x10), .val (.long tm), .second, .val (.ref b230), .val (.long (-9223372036854775808 : Int64)), .second, .val (.long q2), .second, .val (.long (own_max q2 q3)), .second, .val (.long (own_max (own_max q2 q3) q4)), .second, .val (.int (1 : Int32))] [])
        refine own_go (fun _ k => XS.iload X283.here hx rfl (hb hby at_205) rfl k) ?_
        refine own_go (fun _ k => XS.iconst X283.here hx rfl (hb hby at_207) k) ?_
        show own_Run p e below _ T283 (mkF m 208 #[.val (.long q1), .second, .val (.long q2), .second, .val (.long q3), .second, .val (.long q4), .second, .val (.int p5), .val (.int (4 : Int32)), .val (.int x10), .val (.long tm), .second, .val (.ref b230), .val (.long (-9223372036854775808 : Int64)), .second, .val (.long q2), .second, .val (.long (own_max q2 q3)), .second, .val (.long (own_max (own_max q2 q3) q4)), .second, .val (.int (1 : Int32))] [(.int (3 : Int32)), (.int (4 : Int32))])
        refine own_go (fun _ k => XS.icmpNo X283.here hx rfl (hb hby at_208) rfl (tlt (by decide : (3 : Int32) < (4 : Int32))).2.2.2 k) ?_
        show own_Run p e below _ T283 (mkF m 211 #[.val (.long q1), .second, .val (.long q2), .second, .val (.long q3), .second, .val (.long q4), .second, .val (.int p5), .val (.int (4 : Int32)), .val (.int x10), .val (.long tm), .second, .val (.ref b230), .val (.long (-9223372036854775808 : Int64)), .second, .val (.long q2), .second, .val (.long (own_max q2 q3)), .second, .val (.long (own_max (own_max q2 q3) q4)), .second, .val (.int (1 : Int32))] [])
        refine own_go (fun _ k => XS.lload X283.here hx rfl (hb hby at_211) rfl k) ?_
        refine own_go (fun _ k => XS.lload X283.here hx rfl (hb hby at_213) rfl k) ?_
        refine own_go (fun _ k => XS.lcmp X283.here hx rfl (hb hby at_215) rfl k) ?_
        show own_Run p e below _ T283 (mkF m 216 #[.val (.long q1), .second, .val (.long q2), .second, .val (.long q3), .second, .val (.long q4), .second, .val (.int p5), .val (.int (4 : Int32)), .val (.int x10), .val (.long tm), .second, .val (.ref b230), .val (.long (-9223372036854775808 : Int64)), .second, .val (.long q2), .second, .val (.long (own_max q2 q3)), .second, .val (.long (own_max (own_max q2 q3) q4)), .second, .val (.int (1 : Int32))] [(.int (lcmpW (own_max (own_max q2 q3) q4) tm))])
        have hm293 : ¬ ((own_max (own_max q2 q3) q4) < tm) := (own_up1 (own_max q2 q3) q4 tm hm292)
        refine own_go (fun _ k => XS.ifYes X283.here hx rfl (pc0 := 216) (pc' := 222) rfl (hb hby at_216) rfl (own_lcF hm293).2.1 (by decide) (by decide) k) ?_
        show own_Run p e below _ T283 (mkF m 222 #[.val (.long q1), .second, .val (.long q2), .second, .val (.long q3), .second, .val (.long q4), .second, .val (.int p5), .val (.int (4 : Int32)), .val (.int x10), .val (.long tm), .second, .val (.ref b230), .val (.long (-9223372036854775808 : Int64)), .second, .val (.long q2), .second, .val (.long (own_max q2 q3)), .second, .val (.long (own_max (own_max q2 q3) q4)), .second, .val (.int (1 : Int32))] [])
        refine own_go (fun _ k => XS.aload X283.here hx rfl (hb hby at_222) rfl rfl k) ?_
        refine own_go (fun _ k => XS.lload X283.here hx rfl (hb hby at_224) rfl k) ?_
        show own_Run p e below _ T283 (mkF m 226 #[.val (.long q1), .second, .val (.long q2), .second, .val (.long q3), .second, .val (.long q4), .second, .val (.int p5), .val (.int (4 : Int32)), .val (.int x10), .val (.long tm), .second, .val (.ref b230), .val (.long (-9223372036854775808 : Int64)), .second, .val (.long q2), .second, .val (.long (own_max q2 q3)), .second, .val (.long (own_max (own_max q2 q3) q4)), .second, .val (.int (1 : Int32))] [(.long tm), (.ref b230)])
        obtain ⟨cq294, kq294, q294a, q294b, q294c⟩ := isOf hZ e283 P280_0
        obtain ⟨_, _, ⟨T294, L294, k294, n294⟩, -, X294, ⟨Lc294, hQ294, l294, y294, z294⟩, st294⟩ := X283.virtualBack hx (y := (⟨"com/example/tote/tote/storage/OffsetIndex", "floorTime", "(J)I"⟩ : MethodName)) (z := (⟨"com/example/tote/tote/storage/OffsetIndex", "floorTime", "(J)I"⟩ : MethodName)) hown (mvT hZ (W 29 rfl)) (mvT hZ (W 30 rfl)) (notFace_of_selects (args := #[]) (mvT hZ (W 32 rfl))) (mvT hZ (W 32 rfl)) (mvT hZ (W 31 rfl)) (by decide) (backOf (W := 0) (rm4n4 l Z a0 hw [] b230 tm b3_232 k3_232 (-9223372036854775808 : Int64) q2 (own_max q2 q3) (own_max (own_max q2 q3) q4) (0 : Int32) T280.heap n0 Z0_c281 P280_3 P280_7 P280_10 (Or.inr (Or.inl ⟨hc165_284, hc182_285, hm292, hm293, rfl⟩))) hZ (W 33 rfl) (W 2 rfl) (by decide) (by decide)) q294a q294c (g := (mkF m 226 #[.val (.long q1), .second, .val (.long q2), .second, .val (.long q3), .second, .val (.long q4), .second, .val (.int p5), .val (.int (4 : Int32)), .val (.int x10), .val (.long tm), .second, .val (.ref b230), .val (.long (-9223372036854775808 : Int64)), .second, .val (.long q2), .second, .val (.long (own_max q2 q3)), .second, .val (.long (own_max (own_max q2 q3) q4)), .second, .val (.int (1 : Int32))] [(.long tm), (.ref b230)])) rfl (by rw [hml]; rfl) (Steps.refl _) (argsL := [(.long tm)]) (rest := []) (lenOf pd_1 rfl) rfl (by show 2 * 0 + _ ≤ _; exact Nat.le_of_eq rfl) (hb hby at_226) (fun _ _ => ⟨rfl, e283, (by decide : 4 + 0 ≤ _), (by decide : 55 + 0 ≤ _)⟩)
        dsimp only [Pt.U, Pt.locs, Pt.cells, Pt.slots] at X294 l294 y294 z294 st294 hQ294
        subst l294 y294 z294
        obtain ⟨rfl, N294q, e294⟩ := hQ294
        have N294 := Fr.app N283 N294q
        refine own_goT st294 ?_
        show own_Run p e below _ T294 (mkF m 229 #[.val (.long q1), .second, .val (.long q2), .second, .val (.long q3), .second, .val (.long q4), .second, .val (.int p5), .val (.int (4 : Int32)), .val (.int x10), .val (.long tm), .second, .val (.ref b230), .val (.long (-9223372036854775808 : Int64)), .second, .val (.long q2), .second, .val (.long (own_max q2 q3)), .second, .val (.long (own_max (own_max q2 q3) q4)), .second, .val (.int (1 : Int32))] [(.int (0 : Int32))])
        refine own_go (fun _ k => XS.iload X294.here hx rfl (hb hby at_229) rfl k) ?_
        refine own_go (fun _ k => XS.iconst X294.here hx rfl (hb hby at_231) k) ?_
        refine own_go (fun _ k => XS.isub X294.here hx rfl (hb hby at_232) rfl k) ?_
        show own_Run p e below _ T294 (mkF m 233 #[.val (.long q1), .second, .val (.long q2), .second, .val (.long q3), .second, .val (.long q4), .second, .val (.int p5), .val (.int (4 : Int32)), .val (.int x10), .val (.long tm), .second, .val (.ref b230), .val (.long (-9223372036854775808 : Int64)), .second, .val (.long q2), .second, .val (.long (own_max q2 q3)), .second, .val (.long (own_max (own_max q2 q3) q4)), .second, .val (.int (1 : Int32))] [(.int ((1 : Int32) - (1 : Int32))), (.int (0 : Int32))])
        rw [show ((1 : Int32) - (1 : Int32)) = (0 : Int32) by decide]
        show own_Run p e below _ T294 (mkF m 233 #[.val (.long q1), .second, .val (.long q2), .second, .val (.long q3), .second, .val (.long q4), .second, .val (.int p5), .val (.int (4 : Int32)), .val (.int x10), .val (.long tm), .second, .val (.ref b230), .val (.long (-9223372036854775808 : Int64)), .second, .val (.long q2), .second, .val (.long (own_max q2 q3)), .second, .val (.long (own_max (own_max q2 q3) q4)), .second, .val (.int (1 : Int32))] [(.int (0 : Int32)), (.int (0 : Int32))])
        refine own_go (fun _ k => XS.icmpNo X294.here hx rfl (hb hby at_233) rfl (teq (by decide : (0 : Int32) = (0 : Int32))).2 k) ?_
        show own_Run p e below _ T294 (mkF m 236 #[.val (.long q1), .second, .val (.long q2), .second, .val (.long q3), .second, .val (.long q4), .second, .val (.int p5), .val (.int (4 : Int32)), .val (.int x10), .val (.long tm), .second, .val (.ref b230), .val (.long (-9223372036854775808 : Int64)), .second, .val (.long q2), .second, .val (.long (own_max q2 q3)), .second, .val (.long (own_max (own_max q2 q3) q4)), .second, .val (.int (1 : Int32))] [])
        refine own_go (fun _ k => XS.iconst X294.here hx rfl (hb hby at_236) k) ?_
        refine own_go (fun _ k => XS.goto X294.here hx rfl (pc0 := 237) (pc' := 241) rfl (hb hby at_237) (by decide) (by decide) k) ?_
        show own_Run p e below _ T294 (mkF m 241 #[.val (.long q1), .second, .val (.long q2), .second, .val (.long q3), .second, .val (.long q4), .second, .val (.int p5), .val (.int (4 : Int32)), .val (.int x10), .val (.long tm), .second, .val (.ref b230), .val (.long (-9223372036854775808 : Int64)), .second, .val (.long q2), .second, .val (.long (own_max q2 q3)), .second, .val (.long (own_max (own_max q2 q3) q4)), .second, .val (.int (1 : Int32))] [(.int (1 : Int32))])
        refine own_done (Q := fun v h L => Q0 Z q1 q2 q3 q4 p5 h0 n0 v h L) (v := (some (.int (1 : Int32)))) X294 (fun h => by rw [hret] at h; cases h) hlk (fun fs hr => retN X294 hx (t := .boolean) hret (by simp) (hb hby at_241) hr) ?_ (by decide) (by decide)
        show Q0 Z q1 q2 q3 q4 p5 h0 n0 _ T294.heap _
        rw [e294]
        exact ⟨rfl, N294⟩
    · refine own_go (fun _ k => XS.ifYes X283.here hx rfl (pc0 := 165) (pc' := 171) rfl (hb hby at_165) rfl (own_lcF hc165_284).2.1 (by decide) (by decide) k) ?_
      show own_Run p e below _ T283 (mkF m 171 #[.val (.long q1), .second, .val (.long q2), .second, .val (.long q3), .second, .val (.long q4), .second, .val (.int p5), .val (.int (4 : Int32)), .val (.int x10), .val (.long tm), .second, .val (.ref b230), .val (.long (-9223372036854775808 : Int64)), .second, .val (.long q2), .second, .val (.long (own_max q2 q3)), .second, .val (.long (own_max (own_max q2 q3) q4)), .second, .val (.int (0 : Int32))] [])
      refine own_go (fun _ k => XS.iload X283.here hx rfl (hb hby at_171) rfl k) ?_
      refine own_go (fun _ k => XS.iconst X283.here hx rfl (hb hby at_173) k) ?_
      show own_Run p e below _ T283 (mkF m 174 #[.val (.long q1), .second, .val (.long q2), .second, .val (.long q3), .second, .val (.long q4), .second, .val (.int p5), .val (.int (4 : Int32)), .val (.int x10), .val (.long tm), .second, .val (.ref b230), .val (.long (-9223372036854775808 : Int64)), .second, .val (.long q2), .second, .val (.long (own_max q2 q3)), .second, .val (.long (own_max (own_max q2 q3) q4)), .second, .val (.int (0 : Int32))] [(.int (1 : Int32)), (.int (4 : Int32))])
      refine own_go (fun _ k => XS.icmpNo X283.here hx rfl (hb hby at_174) rfl (tlt (by decide : (1 : Int32) < (4 : Int32))).2.2.2 k) ?_
      show own_Run p e below _ T283 (mkF m 177 #[.val (.long q1), .second, .val (.long q2), .second, .val (.long q3), .second, .val (.long q4), .second, .val (.int p5), .val (.int (4 : Int32)), .val (.int x10), .val (.long tm), .second, .val (.ref b230), .val (.long (-9223372036854775808 : Int64)), .second, .val (.long q2), .second, .val (.long (own_max q2 q3)), .second, .val (.long (own_max (own_max q2 q3) q4)), .second, .val (.int (0 : Int32))] [])
      refine own_go (fun _ k => XS.lload X283.here hx rfl (hb hby at_177) rfl k) ?_
      refine own_go (fun _ k => XS.lload X283.here hx rfl (hb hby at_179) rfl k) ?_
      refine own_go (fun _ k => XS.lcmp X283.here hx rfl (hb hby at_181) rfl k) ?_
      show own_Run p e below _ T283 (mkF m 182 #[.val (.long q1), .second, .val (.long q2), .second, .val (.long q3), .second, .val (.long q4), .second, .val (.int p5), .val (.int (4 : Int32)), .val (.int x10), .val (.long tm), .second, .val (.ref b230), .val (.long (-9223372036854775808 : Int64)), .second, .val (.long q2), .second, .val (.long (own_max q2 q3)), .second, .val (.long (own_max (own_max q2 q3) q4)), .second, .val (.int (0 : Int32))] [(.int (lcmpW q2 tm))])
      have hm295 : ¬ (q2 < tm) := (own_up0 q2 tm hc165_284)
      refine own_go (fun _ k => XS.ifYes X283.here hx rfl (pc0 := 182) (pc' := 188) rfl (hb hby at_182) rfl (own_lcF hm295).2.1 (by decide) (by decide) k) ?_
      show own_Run p e below _ T283 (mkF m 188 #[.val (.long q1), .second, .val (.long q2), .second, .val (.long q3), .second, .val (.long q4), .second, .val (.int p5), .val (.int (4 : Int32)), .val (.int x10), .val (.long tm), .second, .val (.ref b230), .val (.long (-9223372036854775808 : Int64)), .second, .val (.long q2), .second, .val (.long (own_max q2 q3)), .second, .val (.long (own_max (own_max q2 q3) q4)), .second, .val (.int (0 : Int32))] [])
      refine own_go (fun _ k => XS.iload X283.here hx rfl (hb hby at_188) rfl k) ?_
      refine own_go (fun _ k => XS.iconst X283.here hx rfl (hb hby at_190) k) ?_
      show own_Run p e below _ T283 (mkF m 191 #[.val (.long q1), .second, .val (.long q2), .second, .val (.long q3), .second, .val (.long q4), .second, .val (.int p5), .val (.int (4 : Int32)), .val (.int x10), .val (.long tm), .second, .val (.ref b230), .val (.long (-9223372036854775808 : Int64)), .second, .val (.long q2), .second, .val (.long (own_max q2 q3)), .second, .val (.long (own_max (own_max q2 q3) q4)), .second, .val (.int (0 : Int32))] [(.int (2 : Int32)), (.int (4 : Int32))])
      refine own_go (fun _ k => XS.icmpNo X283.here hx rfl (hb hby at_191) rfl (tlt (by decide : (2 : Int32) < (4 : Int32))).2.2.2 k) ?_
      show own_Run p e below _ T283 (mkF m 194 #[.val (.long q1), .second, .val (.long q2), .second, .val (.long q3), .second, .val (.long q4), .second, .val (.int p5), .val (.int (4 : Int32)), .val (.int x10), .val (.long tm), .second, .val (.ref b230), .val (.long (-9223372036854775808 : Int64)), .second, .val (.long q2), .second, .val (.long (own_max q2 q3)), .second, .val (.long (own_max (own_max q2 q3) q4)), .second, .val (.int (0 : Int32))] [])
      refine own_go (fun _ k => XS.lload X283.here hx rfl (hb hby at_194) rfl k) ?_
      refine own_go (fun _ k => XS.lload X283.here hx rfl (hb hby at_196) rfl k) ?_
      refine own_go (fun _ k => XS.lcmp X283.here hx rfl (hb hby at_198) rfl k) ?_
      show own_Run p e below _ T283 (mkF m 199 #[.val (.long q1), .second, .val (.long q2), .second, .val (.long q3), .second, .val (.long q4), .second, .val (.int p5), .val (.int (4 : Int32)), .val (.int x10), .val (.long tm), .second, .val (.ref b230), .val (.long (-9223372036854775808 : Int64)), .second, .val (.long q2), .second, .val (.long (own_max q2 q3)), .second, .val (.long (own_max (own_max q2 q3) q4)), .second, .val (.int (0 : Int32))] [(.int (lcmpW (own_max q2 q3) tm))])
      have hm296 : ¬ ((own_max q2 q3) < tm) := (own_up1 q2 q3 tm hm295)
      refine own_go (fun _ k => XS.ifYes X283.here hx rfl (pc0 := 199) (pc' := 205) rfl (hb hby at_199) rfl (own_lcF hm296).2.1 (by decide) (by decide) k) ?_
      show own_Run p e below _ T283 (mkF m 205 #[.val (.long q1), .second, .val (.long q2), .second, .val (.long q3), .second, .val (.long q4), .second, .val (.int p5), .val (.int (4 : Int32)), .val (.int x10), .val (.long tm), .second, .val (.ref b230), .val (.long (-9223372036854775808 : Int64)), .second, .val (.long q2), .second, .val (.long (own_max q2 q3)), .second, .val (.long (own_max (own_max q2 q3) q4)), .second, .val (.int (0 : Int32))] [])
      refine own_go (fun _ k => XS.iload X283.here hx rfl (hb hby at_205) rfl k) ?_
      refine own_go (fun _ k => XS.iconst X283.here hx rfl (hb hby at_207) k) ?_
      show own_Run p e below _ T283 (mkF m 208 #[.val (.long q1), .second, .val (.long q2), .second, .val (.long q3), .second, .val (.long q4), .second, .val (.int p5), .val (.int (4 : Int32)), .val (.int x10), .val (.long tm), .second, .val (.ref b230), .val (.long (-9223372036854775808 : Int64)), .second, .val (.long q2), .second, .val (.long (own_max q2 q3)), .second, .val (.long (own_max (own_max q2 q3) q4)), .second, .val (.int (0 : Int32))] [(.int (3 : Int32)), (.int (4 : Int32))])
      refine own_go (fun _ k => XS.icmpNo X283.here hx rfl (hb hby at_208) rfl (tlt (by decide : (3 : Int32) < (4 : Int32))).2.2.2 k) ?_
      show own_Run p e below _ T283 (mkF m 211 #[.val (.long q1), .second, .val (.long q2), .second, .val (.long q3), .second, .val (.long q4), .second, .val (.int p5), .val (.int (4 : Int32)), .val (.int x10), .val (.long tm), .second, .val (.ref b230), .val (.long (-9223372036854775808 : Int64)), .second, .val (.long q2), .second, .val (.long (own_max q2 q3)), .second, .val (.long (own_max (own_max q2 q3) q4)), .second, .val (.int (0 : Int32))] [])
      refine own_go (fun _ k => XS.lload X283.here hx rfl (hb hby at_211) rfl k) ?_
      refine own_go (fun _ k => XS.lload X283.here hx rfl (hb hby at_213) rfl k) ?_
      refine own_go (fun _ k => XS.lcmp X283.here hx rfl (hb hby at_215) rfl k) ?_
      show own_Run p e below _ T283 (mkF m 216 #[.val (.long q1), .second, .val (.long q2), .second, .val (.long q3), .second, .val (.long q4), .second, .val (.int p5), .val (.int (4 : Int32)), .val (.int x10), .val (.long tm), .second, .val (.ref b230), .val (.long (-9223372036854775808 : Int64)), .second, .val (.long q2), .second, .val (.long (own_max q2 q3)), .second, .val (.long (own_max (own_max q2 q3) q4)), .second, .val (.int (0 : Int32))] [(.int (lcmpW (own_max (own_max q2 q3) q4) tm))])
      have hm297 : ¬ ((own_max (own_max q2 q3) q4) < tm) := (own_up1 (own_max q2 q3) q4 tm hm296)
      refine own_go (fun _ k => XS.ifYes X283.here hx rfl (pc0 := 216) (pc' := 222) rfl (hb hby at_216) rfl (own_lcF hm297).2.1 (by decide) (by decide) k) ?_
      show own_Run p e below _ T283 (mkF m 222 #[.val (.long q1), .second, .val (.long q2), .second, .val (.long q3), .second, .val (.long q4), .second, .val (.int p5), .val (.int (4 : Int32)), .val (.int x10), .val (.long tm), .second, .val (.ref b230), .val (.long (-9223372036854775808 : Int64)), .second, .val (.long q2), .second, .val (.long (own_max q2 q3)), .second, .val (.long (own_max (own_max q2 q3) q4)), .second, .val (.int (0 : Int32))] [])
      refine own_go (fun _ k => XS.aload X283.here hx rfl (hb hby at_222) rfl rfl k) ?_
      refine own_go (fun _ k => XS.lload X283.here hx rfl (hb hby at_224) rfl k) ?_
      show own_Run p e below _ T283 (mkF m 226 #[.val (.long q1), .second, .val (.long q2), .second, .val (.long q3), .second, .val (.long q4), .second, .val (.int p5), .val (.int (4 : Int32)), .val (.int x10), .val (.long tm), .second, .val (.ref b230), .val (.long (-9223372036854775808 : Int64)), .second, .val (.long q2), .second, .val (.long (own_max q2 q3)), .second, .val (.long (own_max (own_max q2 q3) q4)), .second, .val (.int (0 : Int32))] [(.long tm), (.ref b230)])
      obtain ⟨cq298, kq298, q298a, q298b, q298c⟩ := isOf hZ e283 P280_0
      obtain ⟨_, _, ⟨T298, L298, k298, n298⟩, -, X298, ⟨Lc298, hQ298, l298, y298, z298⟩, st298⟩ := X283.virtualBack hx (y := (⟨"com/example/tote/tote/storage/OffsetIndex", "floorTime", "(J)I"⟩ : MethodName)) (z := (⟨"com/example/tote/tote/storage/OffsetIndex", "floorTime", "(J)I"⟩ : MethodName)) hown (mvT hZ (W 29 rfl)) (mvT hZ (W 30 rfl)) (notFace_of_selects (args := #[]) (mvT hZ (W 32 rfl))) (mvT hZ (W 32 rfl)) (mvT hZ (W 31 rfl)) (by decide) (backOf (W := 0) (rm4n4 l Z a0 hw [] b230 tm b3_232 k3_232 (-9223372036854775808 : Int64) q2 (own_max q2 q3) (own_max (own_max q2 q3) q4) (-1 : Int32) T280.heap n0 Z0_c281 P280_3 P280_7 P280_10 (Or.inl ⟨hc165_284, hm295, hm296, hm297, rfl⟩)) hZ (W 33 rfl) (W 2 rfl) (by decide) (by decide)) q298a q298c (g := (mkF m 226 #[.val (.long q1), .second, .val (.long q2), .second, .val (.long q3), .second, .val (.long q4), .second, .val (.int p5), .val (.int (4 : Int32)), .val (.int x10), .val (.long tm), .second, .val (.ref b230), .val (.long (-9223372036854775808 : Int64)), .second, .val (.long q2), .second, .val (.long (own_max q2 q3)), .second, .val (.long (own_max (own_max q2 q3) q4)), .second, .val (.int (0 : Int32))] [(.long tm), (.ref b230)])) rfl (by rw [hml]; rfl) (Steps.refl _) (argsL := [(.long tm)]) (rest := []) (lenOf pd_1 rfl) rfl (by show 2 * 0 + _ ≤ _; exact Nat.le_of_eq rfl) (hb hby at_226) (fun _ _ => ⟨rfl, e283, (by decide : 4 + 0 ≤ _), (by decide : 55 + 0 ≤ _)⟩)
      dsimp only [Pt.U, Pt.locs, Pt.cells, Pt.slots] at X298 l298 y298 z298 st298 hQ298
      subst l298 y298 z298
      obtain ⟨rfl, N298q, e298⟩ := hQ298
      have N298 := Fr.app N283 N298q
      refine own_goT st298 ?_
      show own_Run p e below _ T298 (mkF m 229 #[.val (.long q1), .second, .val (.long q2), .second, .val (.long q3), .second, .val (.long q4), .second, .val (.int p5), .val (.int (4 : Int32)), .val (.int x10), .val (.long tm), .second, .val (.ref b230), .val (.long (-9223372036854775808 : Int64)), .second, .val (.long q2), .second, .val (.long (own_max q2 q3)), .second, .val (.long (own_max (own_max q2 q3) q4)), .second, .val (.int (0 : Int32))] [(.int (-1 : Int32))])
      refine own_go (fun _ k => XS.iload X298.here hx rfl (hb hby at_229) rfl k) ?_
      refine own_go (fun _ k => XS.iconst X298.here hx rfl (hb hby at_231) k) ?_
      refine own_go (fun _ k => XS.isub X298.here hx rfl (hb hby at_232) rfl k) ?_
      show own_Run p e below _ T298 (mkF m 233 #[.val (.long q1), .second, .val (.long q2), .second, .val (.long q3), .second, .val (.long q4), .second, .val (.int p5), .val (.int (4 : Int32)), .val (.int x10), .val (.long tm), .second, .val (.ref b230), .val (.long (-9223372036854775808 : Int64)), .second, .val (.long q2), .second, .val (.long (own_max q2 q3)), .second, .val (.long (own_max (own_max q2 q3) q4)), .second, .val (.int (0 : Int32))] [(.int ((0 : Int32) - (1 : Int32))), (.int (-1 : Int32))])
      rw [show ((0 : Int32) - (1 : Int32)) = (-1 : Int32) by decide]
      show own_Run p e below _ T298 (mkF m 233 #[.val (.long q1), .second, .val (.long q2), .second, .val (.long q3), .second, .val (.long q4), .second, .val (.int p5), .val (.int (4 : Int32)), .val (.int x10), .val (.long tm), .second, .val (.ref b230), .val (.long (-9223372036854775808 : Int64)), .second, .val (.long q2), .second, .val (.long (own_max q2 q3)), .second, .val (.long (own_max (own_max q2 q3) q4)), .second, .val (.int (0 : Int32))] [(.int (-1 : Int32)), (.int (-1 : Int32))])
      refine own_go (fun _ k => XS.icmpNo X298.here hx rfl (hb hby at_233) rfl (teq (by decide : (-1 : Int32) = (-1 : Int32))).2 k) ?_
      show own_Run p e below _ T298 (mkF m 236 #[.val (.long q1), .second, .val (.long q2), .second, .val (.long q3), .second, .val (.long q4), .second, .val (.int p5), .val (.int (4 : Int32)), .val (.int x10), .val (.long tm), .second, .val (.ref b230), .val (.long (-9223372036854775808 : Int64)), .second, .val (.long q2), .second, .val (.long (own_max q2 q3)), .second, .val (.long (own_max (own_max q2 q3) q4)), .second, .val (.int (0 : Int32))] [])
      refine own_go (fun _ k => XS.iconst X298.here hx rfl (hb hby at_236) k) ?_
      refine own_go (fun _ k => XS.goto X298.here hx rfl (pc0 := 237) (pc' := 241) rfl (hb hby at_237) (by decide) (by decide) k) ?_
      show own_Run p e below _ T298 (mkF m 241 #[.val (.long q1), .second, .val (.long q2), .second, .val (.long q3), .second, .val (.long q4), .second, .val (.int p5), .val (.int (4 : Int32)), .val (.int x10), .val (.long tm), .second, .val (.ref b230), .val (.long (-9223372036854775808 : Int64)), .second, .val (.long q2), .second, .val (.long (own_max q2 q3)), .second, .val (.long (own_max (own_max q2 q3) q4)), .second, .val (.int (0 : Int32))] [(.int (1 : Int32))])
      refine own_done (Q := fun v h L => Q0 Z q1 q2 q3 q4 p5 h0 n0 v h L) (v := (some (.int (1 : Int32)))) X298 (fun h => by rw [hret] at h; cases h) hlk (fun fs hr => retN X298 hx (t := .boolean) hret (by simp) (hb hby at_241) hr) ?_ (by decide) (by decide)
      show Q0 Z q1 q2 q3 q4 p5 h0 n0 _ T298.heap _
      rw [e298]
      exact ⟨rfl, N298⟩
theorem ef_0 (m : MethodId) (x0 : Int64) (x1 : Int64) (x2 : Int64) (x3 : Int64) (x4 : Int32) : entryFrame m #[(.long x0), (.long x1), (.long x2), (.long x3), (.int x4)] maxLocals = mkF m 0 #[.val (.long x0), .second, .val (.long x1), .second, .val (.long x2), .second, .val (.long x3), .second, .val (.int x4), .unset, .unset, .unset, .unset, .unset, .unset, .unset, .unset, .unset, .unset, .unset, .unset, .unset, .unset] [] := by first | (simp [entryFrame, mkF, argsToLocals, Value.category, maxLocals]; done) | rfl
set_option maxRecDepth 65536 in
set_option maxHeartbeats 40000000 in
theorem rm0 (l : Launch) (Z : State) (a0 : Array Value) (hw : ∀ d ∈ tables_1, d.before a0 Z = true) (ws : List Jvm.Cond) (q1 : Int64) (q2 : Int64) (q3 : Int64) (q4 : Int64) (p5 : Int32) (h0 : Heap) (n0 : Nat) (Z0 : n0 ≤ h0.size) :
    MetFree l x (head1 (Jvm.Cond.code x code maxLocals ret :: ws) room_1) (fun a U => a = #[(.long q1), (.long q2), (.long q3), (.long q4), (.int p5)] ∧ Z.Warmed39 U.vm ∧ U.heap = h0) (fun _ _ _ _ _ => True) (fun _ U o U' => ∃ v L, o = .returned v ∧ Q0 Z q1 q2 q3 q4 p5 h0 n0 v U'.heap L ∧ FrameEnd U o U' L room_1.cells room_1.slots) := by
  refine MetFree.of_bodySF (plainFor_of_name pn_0) hisR ?_
  intro p e s m args below meth c s₁ Bd hml0 hP hK
  obtain ⟨rfl, hZ, hh⟩ := hP
  have hx := Bd.exec
  have hby := Bd.bytes
  have hml : c.maxLocals = 23 := hml0
  have hown : s.vm.findClass "com/example/tote/tote/storage/OffsetIndexFloorTimePinLaw" = some m.cls := findClass_of_methodNamed Bd.named
  have hnm := (name_of_methodNamed Bd.named Bd.method).1
  have hret := Bd.returns
  have hlk : meth.locks = false := BodyLoose.notSynchronized Bd
  have X0 : Stand p l e room_1 s m #[(.long q1), (.long q2), (.long q3), (.long q4), (.int p5)] below meth c s₁ [] 0 0 := Stand.of_body Bd
  have e0 : s₁.heap = h0 := by rw [← hh, Bd.state]; rfl
  have N0 := Fr.nil n0
  have W := fun (k : Nat) {d : Jvm.Cond} (h : tables_1[k]? = some d) => hw d (List.mem_of_getElem? h)
  have K0 : Keep h0 h0 [] := Keep.refl _ _
  refine own_start (ef_0 m q1 q2 q3 q4 p5) ?_
  show own_Run p e below _ s₁ (mkF m 0 #[.val (.long q1), .second, .val (.long q2), .second, .val (.long q3), .second, .val (.long q4), .second, .val (.int p5), .unset, .unset, .unset, .unset, .unset, .unset, .unset, .unset, .unset, .unset, .unset, .unset, .unset, .unset] [])
  refine own_go (fun _ k => XS.iload X0.here hx rfl (hb hby at_0) rfl k) ?_
  refine own_go (fun _ k => XS.iconst X0.here hx rfl (hb hby at_2) k) ?_
  refine own_go (fun _ k => XS.iushr X0.here hx rfl (hb hby at_3) rfl k) ?_
  refine own_go (fun _ k => XS.bipush X0.here hx rfl (hb hby at_4) k) ?_
  show own_Run p e below _ s₁ (mkF m 6 #[.val (.long q1), .second, .val (.long q2), .second, .val (.long q3), .second, .val (.long q4), .second, .val (.int p5), .unset, .unset, .unset, .unset, .unset, .unset, .unset, .unset, .unset, .unset, .unset, .unset, .unset, .unset] [(.int (7 : Int32)), (.int ((p5.toUInt32 >>> ((2 : Int32) &&& 31).toUInt32).toInt32))])
  refine own_go (fun _ k => XS.iand X0.here hx rfl (hb hby at_6) rfl k) ?_
  refine own_go (fun _ k => XS.iconst X0.here hx rfl (hb hby at_7) k) ?_
  refine own_go (fun _ k => iremM X0 hx rfl (hb hby at_8) rfl (by decide) k) ?_
  show own_Run p e below _ s₁ (mkF m 9 #[.val (.long q1), .second, .val (.long q2), .second, .val (.long q3), .second, .val (.long q4), .second, .val (.int p5), .unset, .unset, .unset, .unset, .unset, .unset, .unset, .unset, .unset, .unset, .unset, .unset, .unset, .unset] [(.int ((((p5.toUInt32 >>> ((2 : Int32) &&& 31).toUInt32).toInt32) &&& (7 : Int32)) % (5 : Int32)))])
  obtain ⟨x9, hx9⟩ : ∃ z, z = ((((p5.toUInt32 >>> ((2 : Int32) &&& 31).toUInt32).toInt32) &&& (7 : Int32)) % (5 : Int32)) := ⟨_, rfl⟩
  rw [← hx9]
  show own_Run p e below _ s₁ (mkF m 9 #[.val (.long q1), .second, .val (.long q2), .second, .val (.long q3), .second, .val (.long q4), .second, .val (.int p5), .unset, .unset, .unset, .unset, .unset, .unset, .unset, .unset, .unset, .unset, .unset, .unset, .unset, .unset] [(.int x9)])
  refine own_go (fun _ k => XS.istore X0.here hx rfl (hb hby at_9) rfl (l' := #[.val (.long q1), .second, .val (.long q2), .second, .val (.long q3), .second, .val (.long q4), .second, .val (.int p5), .val (.int x9), .unset, .unset, .unset, .unset, .unset, .unset, .unset, .unset, .unset, .unset, .unset, .unset, .unset]) rfl k) ?_
  refine own_go (fun _ k => XS.iload X0.here hx rfl (hb hby at_11) rfl k) ?_
  refine own_go (fun _ k => XS.iconst X0.here hx rfl (hb hby at_13) k) ?_
  refine own_go (fun _ k => XS.iand X0.here hx rfl (hb hby at_14) rfl k) ?_
  show own_Run p e below _ s₁ (mkF m 15 #[.val (.long q1), .second, .val (.long q2), .second, .val (.long q3), .second, .val (.long q4), .second, .val (.int p5), .val (.int x9), .unset, .unset, .unset, .unset, .unset, .unset, .unset, .unset, .unset, .unset, .unset, .unset, .unset] [(.int (p5 &&& (3 : Int32)))])
  obtain ⟨x10, hx10⟩ : ∃ z, z = (p5 &&& (3 : Int32)) := ⟨_, rfl⟩
  rw [← hx10]
  show own_Run p e below _ s₁ (mkF m 15 #[.val (.long q1), .second, .val (.long q2), .second, .val (.long q3), .second, .val (.long q4), .second, .val (.int p5), .val (.int x9), .unset, .unset, .unset, .unset, .unset, .unset, .unset, .unset, .unset, .unset, .unset, .unset, .unset] [(.int x10)])
  refine own_go (fun _ k => XS.istore X0.here hx rfl (hb hby at_15) rfl (l' := #[.val (.long q1), .second, .val (.long q2), .second, .val (.long q3), .second, .val (.long q4), .second, .val (.int p5), .val (.int x9), .val (.int x10), .unset, .unset, .unset, .unset, .unset, .unset, .unset, .unset, .unset, .unset, .unset, .unset]) rfl k) ?_
  refine own_go (fun _ k => XS.iload X0.here hx rfl (hb hby at_17) rfl k) ?_
  show own_Run p e below _ s₁ (mkF m 19 #[.val (.long q1), .second, .val (.long q2), .second, .val (.long q3), .second, .val (.long q4), .second, .val (.int p5), .val (.int x9), .val (.int x10), .unset, .unset, .unset, .unset, .unset, .unset, .unset, .unset, .unset, .unset, .unset, .unset] [(.int x10)])
  by_cases hc19_299 : x10 = (0 : Int32)
  · refine own_go (fun _ k => XS.ifNo X0.here hx rfl (hb hby at_19) rfl ((if0 _ _).trans (teq hc19_299).2) k) ?_
    show own_Run p e below _ s₁ (mkF m 22 #[.val (.long q1), .second, .val (.long q2), .second, .val (.long q3), .second, .val (.long q4), .second, .val (.int p5), .val (.int x9), .val (.int x10), .unset, .unset, .unset, .unset, .unset, .unset, .unset, .unset, .unset, .unset, .unset, .unset] [])
    refine own_go (fun _ k => XS.lloadN X0.here hx rfl (hb hby at_22) rfl k) ?_
    refine own_go (fun _ k => XS.goto X0.here hx rfl (pc0 := 23) (pc' := 49) rfl (hb hby at_23) (by decide) (by decide) k) ?_
    show own_Run p e below _ s₁ (mkF m 49 #[.val (.long q1), .second, .val (.long q2), .second, .val (.long q3), .second, .val (.long q4), .second, .val (.int p5), .val (.int x9), .val (.int x10), .unset, .unset, .unset, .unset, .unset, .unset, .unset, .unset, .unset, .unset, .unset, .unset] [(.long q1)])
    exact tail0 q1 q2 q3 q4 p5 h0 n0 hx hZ hw hby hml hown hnm hret hlk x9 x10 q1 s₁ h0 _ X0 e0 N0 Z0 K0 (hx9) 
  · refine own_go (fun _ k => XS.ifYes X0.here hx rfl (pc0 := 19) (pc' := 26) rfl (hb hby at_19) rfl ((if0 _ _).trans (feq hc19_299).2) (by decide) (by decide) k) ?_
    show own_Run p e below _ s₁ (mkF m 26 #[.val (.long q1), .second, .val (.long q2), .second, .val (.long q3), .second, .val (.long q4), .second, .val (.int p5), .val (.int x9), .val (.int x10), .unset, .unset, .unset, .unset, .unset, .unset, .unset, .unset, .unset, .unset, .unset, .unset] [])
    refine own_go (fun _ k => XS.iload X0.here hx rfl (hb hby at_26) rfl k) ?_
    refine own_go (fun _ k => XS.iconst X0.here hx rfl (hb hby at_28) k) ?_
    show own_Run p e below _ s₁ (mkF m 29 #[.val (.long q1), .second, .val (.long q2), .second, .val (.long q3), .second, .val (.long q4), .second, .val (.int p5), .val (.int x9), .val (.int x10), .unset, .unset, .unset, .unset, .unset, .unset, .unset, .unset, .unset, .unset, .unset, .unset] [(.int (1 : Int32)), (.int x10)])
    by_cases hc29_300 : x10 = (1 : Int32)
    · refine own_go (fun _ k => XS.icmpNo X0.here hx rfl (hb hby at_29) rfl (teq hc29_300).2 k) ?_
      show own_Run p e below _ s₁ (mkF m 32 #[.val (.long q1), .second, .val (.long q2), .second, .val (.long q3), .second, .val (.long q4), .second, .val (.int p5), .val (.int x9), .val (.int x10), .unset, .unset, .unset, .unset, .unset, .unset, .unset, .unset, .unset, .unset, .unset, .unset] [])
      refine own_go (fun _ k => XS.lloadN X0.here hx rfl (hb hby at_32) rfl k) ?_
      refine own_go (fun _ k => XS.goto X0.here hx rfl (pc0 := 33) (pc' := 49) rfl (hb hby at_33) (by decide) (by decide) k) ?_
      show own_Run p e below _ s₁ (mkF m 49 #[.val (.long q1), .second, .val (.long q2), .second, .val (.long q3), .second, .val (.long q4), .second, .val (.int p5), .val (.int x9), .val (.int x10), .unset, .unset, .unset, .unset, .unset, .unset, .unset, .unset, .unset, .unset, .unset, .unset] [(.long q2)])
      exact tail0 q1 q2 q3 q4 p5 h0 n0 hx hZ hw hby hml hown hnm hret hlk x9 x10 q2 s₁ h0 _ X0 e0 N0 Z0 K0 (hx9) 
    · refine own_go (fun _ k => XS.icmpYes X0.here hx rfl (pc0 := 29) (pc' := 36) rfl (hb hby at_29) rfl (feq hc29_300).2 (by decide) (by decide) k) ?_
      show own_Run p e below _ s₁ (mkF m 36 #[.val (.long q1), .second, .val (.long q2), .second, .val (.long q3), .second, .val (.long q4), .second, .val (.int p5), .val (.int x9), .val (.int x10), .unset, .unset, .unset, .unset, .unset, .unset, .unset, .unset, .unset, .unset, .unset, .unset] [])
      refine own_go (fun _ k => XS.iload X0.here hx rfl (hb hby at_36) rfl k) ?_
      refine own_go (fun _ k => XS.iconst X0.here hx rfl (hb hby at_38) k) ?_
      show own_Run p e below _ s₁ (mkF m 39 #[.val (.long q1), .second, .val (.long q2), .second, .val (.long q3), .second, .val (.long q4), .second, .val (.int p5), .val (.int x9), .val (.int x10), .unset, .unset, .unset, .unset, .unset, .unset, .unset, .unset, .unset, .unset, .unset, .unset] [(.int (2 : Int32)), (.int x10)])
      by_cases hc39_301 : x10 = (2 : Int32)
      · refine own_go (fun _ k => XS.icmpNo X0.here hx rfl (hb hby at_39) rfl (teq hc39_301).2 k) ?_
        show own_Run p e below _ s₁ (mkF m 42 #[.val (.long q1), .second, .val (.long q2), .second, .val (.long q3), .second, .val (.long q4), .second, .val (.int p5), .val (.int x9), .val (.int x10), .unset, .unset, .unset, .unset, .unset, .unset, .unset, .unset, .unset, .unset, .unset, .unset] [])
        refine own_go (fun _ k => XS.lload X0.here hx rfl (hb hby at_42) rfl k) ?_
        refine own_go (fun _ k => XS.goto X0.here hx rfl (pc0 := 44) (pc' := 49) rfl (hb hby at_44) (by decide) (by decide) k) ?_
        show own_Run p e below _ s₁ (mkF m 49 #[.val (.long q1), .second, .val (.long q2), .second, .val (.long q3), .second, .val (.long q4), .second, .val (.int p5), .val (.int x9), .val (.int x10), .unset, .unset, .unset, .unset, .unset, .unset, .unset, .unset, .unset, .unset, .unset, .unset] [(.long q3)])
        exact tail0 q1 q2 q3 q4 p5 h0 n0 hx hZ hw hby hml hown hnm hret hlk x9 x10 q3 s₁ h0 _ X0 e0 N0 Z0 K0 (hx9) 
      · refine own_go (fun _ k => XS.icmpYes X0.here hx rfl (pc0 := 39) (pc' := 47) rfl (hb hby at_39) rfl (feq hc39_301).2 (by decide) (by decide) k) ?_
        show own_Run p e below _ s₁ (mkF m 47 #[.val (.long q1), .second, .val (.long q2), .second, .val (.long q3), .second, .val (.long q4), .second, .val (.int p5), .val (.int x9), .val (.int x10), .unset, .unset, .unset, .unset, .unset, .unset, .unset, .unset, .unset, .unset, .unset, .unset] [])
        refine own_go (fun _ k => XS.lload X0.here hx rfl (hb hby at_47) rfl k) ?_
        show own_Run p e below _ s₁ (mkF m 49 #[.val (.long q1), .second, .val (.long q2), .second, .val (.long q3), .second, .val (.long q4), .second, .val (.int p5), .val (.int x9), .val (.int x10), .unset, .unset, .unset, .unset, .unset, .unset, .unset, .unset, .unset, .unset, .unset, .unset] [(.long q4)])
        exact tail0 q1 q2 q3 q4 p5 h0 n0 hx hZ hw hby hml hown hnm hret hlk x9 x10 q4 s₁ h0 _ X0 e0 N0 Z0 K0 (hx9) 
set_option maxRecDepth 65536 in
set_option maxHeartbeats 40000000 in
theorem comes_1 {Post : Tables → Env → Array Value → State → Outcome → State → Prop} (hpost : ∀ tb e args s v u, (limb_1_1.after args s (.returned v) u = true ∧ limb_1_2.after args s (.returned v) u = true ∧ True) → FrameEnd s (.returned v) u (Jvm.fieldLocs frame_1_writes args s ++ Jvm.arrayLocs frame_1_arrays args s ++ Jvm.staticLocs frame_1_statics s) 16 192 → Post tb e args s (.returned v) u) :
    ArmFor flags0 classFile x code maxLocals ret World_1 tables_1 room_1 Calls_1 rest_1 Pre_1 Post := by
  intro l hfl _ _ p e ha hc hk s m args below hf hA hF happ hP
  obtain ⟨hcalls, hrest, hpre⟩ := hP
  obtain ⟨-, -, -, hnamed, -, -, -, hat⟩ := (Spec.applies_iff hf).mp happ
  obtain ⟨hg, hn⟩ := and_e (Cond.before_iff.mp (show (Jvm.Cond.and given_1 narrow_1).before args s = true from hpre))
  obtain ⟨hcount, hr0⟩ := and_e hg
  obtain ⟨ha0, hr1⟩ := and_e hr0
  obtain ⟨ha1, hr2⟩ := and_e hr1
  obtain ⟨ha2, hr3⟩ := and_e hr2
  obtain ⟨ha3, hr4⟩ := and_e hr3
  have ha4 := hr4
  obtain ⟨w0, w1, w2, w3, w4, rfl⟩ : ∃ w0 w1 w2 w3 w4 : Value, args = #[w0, w1, w2, w3, w4] := by
    have hs : args.size = 5 := by simpa [Cond.value, given_1] using hcount
    obtain ⟨L⟩ := args
    match L, hs with
    | [w0, w1, w2, w3, w4], _ => exact ⟨w0, w1, w2, w3, w4, rfl⟩
  have hw := fun d (hd : d ∈ tables_1) => atoms_spec (ws := Jvm.Cond.code x code maxLocals ret :: tables_1) hat d (List.mem_cons_of_mem _ hd)
  have W := fun (k : Nat) {d : Jvm.Cond} (h : tables_1[k]? = some d) => hw d (List.mem_of_getElem? h)
  have hfit : Fit s := fun {y c} hc i hi => by
    obtain ⟨ha, rfl⟩ := Array.getElem?_eq_some_iff.mp hc
    have q := List.all_eq_true.mp ((Array.all_eq_true_iff_forall_mem.mp hF) _ (Array.getElem_mem ha)) i (List.mem_range.mpr hi)
    simpa [Array.getElem?_eq_getElem hi] using q
  obtain ⟨i0, ei0⟩ := isL_v ha0
  obtain rfl : w0 = (.long i0) := Option.some.inj ei0
  obtain ⟨i1, ei1⟩ := isL_v ha1
  obtain rfl : w1 = (.long i1) := Option.some.inj ei1
  obtain ⟨i2, ei2⟩ := isL_v ha2
  obtain rfl : w2 = (.long i2) := Option.some.inj ei2
  obtain ⟨i3, ei3⟩ := isL_v ha3
  obtain rfl : w3 = (.long i3) := Option.some.inj ei3
  obtain ⟨i4, ei4⟩ := is_v ha4
  obtain rfl : w4 = (.int i4) := Option.some.inj ei4
  obtain ⟨n, o, h1, h2, h3, _, L, rfl, ⟨rfl, N⟩, hq⟩ := rm0 l s _ hw tables_1 i0 i1 i2 i3 i4 s.heap s.heap.size (Nat.le_refl _) p e ha hc hk s m _ below hf ((Spec.applies_iff_loose hf).mp happ).1 ⟨rfl, State.Warmed39.refl s, rfl⟩ trivial
  refine ⟨n, _, h1, h2, h3, hpost _ _ _ _ _ _ ⟨Cond.after_iff.mpr rfl, Cond.after_iff.mpr (eq_i res_at (Term.int_eval (1)) rfl), trivial⟩ ⟨hq.1, hq.2.1, (hq.2.2.sift fun y hy => Or.inr (N y hy)).mono (by decide) (by decide)⟩⟩
theorem main_1_1 : Claimed_1_1 := comes_1 fun _ _ _ _ _ _ h hF => ⟨h.1, hF⟩
theorem main_1_2 : Claimed_1_2 := comes_1 fun _ _ _ _ _ _ h hF => ⟨h.2.1, hF⟩
end Jvm.Pilot.@@N@@
namespace Jvm.Pilot.@@N@@
open Jvm Jvm.ClassFile Sem Op Lib Jvm.Free Jvm.Stand Jvm.Pilot.@@N@@.Jvm.D
/-! MADE BY PROGRAM (witnessworld.py) out of the Statement's table words and the real class files: 12 classes; the members and pool entries that the words name. The judged class is class 1, her method 1. -/
namespace start1
open Jvm.ClassFile
def u (s : String) : CpInfo := .utf8 (stringToUtf16 s)
/-- a pool by its gaps: so many unusable entries, then the entry; so many at the end -/
def gap : Nat → List CpInfo → List CpInfo
  | 0, r => r
  | n + 1, r => .unusable :: gap n r
def poolList (es : List (Nat × CpInfo)) (last : Nat) : List CpInfo := es.foldr (fun e r => gap e.1 (e.2 :: r)) (gap last [])
def pool (es : List (Nat × CpInfo)) (last : Nat) : Array CpInfo := ⟨poolList es last⟩
def fileOf (pool : Array CpInfo) (this : Nat) (attrs : Array Attribute := #[]) (ms : Array MethodInfo := #[]) (fl : Nat := 33) (sup : Nat := 0) (ifs : Array Nat := #[]) (fds : Array FieldInfo := #[]) : ClassFile where
  minorVersion := 0
  majorVersion := 65
  constantPool := pool
  accessFlags := fl
  thisClass := this
  superClass := sup
  interfaces := ifs
  fields := fds
  methods := ms
  attributes := attrs
def plain (name : String) (sup : Option ClassId) : Class where
  name := name
  kind := .ordinary
  loader := none
  accessFlags := 33
  super := sup
  interfaces := #[]
  cf := none
  fields := #[]
  methods := #[]
  instanceTypes := #[]
  staticTypes := #[]
  resolved := #[]
  callSites := []
  init := .initialized
  statics := none
  mirror := none

def pool0 : Array CpInfo := pool [(5, u "<init>"), (0, u "()V"), (1, .class_ 10), (1, u "java/lang/Object")] 113

def k0c0 : Code := { maxStack := 0, maxLocals := 1, code := object_method_1_code, exceptionTable := #[], attributes := #[] }
def k0m0 : Method := { name := "<init>", desc := "()V", sig := { parameters := [], returnType := none }, accessFlags := 1, code := some k0c0 }
/-- java/lang/Object -/
def k0 : Class := { plain "java/lang/Object" none with
  accessFlags := 33
  interfaces := #[]
  cf := some (fileOf pool0 8 #[] #[{ accessFlags := 1, nameIndex := 5, descriptorIndex := 6, attributes := #[] }] 33 0 #[] #[])
  fields := #[]
  methods := #[k0m0]
  instanceTypes := #[]
  staticTypes := #[]
  resolved := Array.replicate 124 none
  statics := none }

def pool1 : Array CpInfo := pool [(2, .class_ 4), (1, u "java/lang/Object"), (0, u "<init>"), (0, u "()V"), (0, .class_ 8), (0, u "com/example/tote/tote/storage/OffsetIndex"), (0, .methodref 7 10), (0, .nameAndType 5 11), (0, u "(JJ)V"), (0, .methodref 7 13), (0, .nameAndType 14 15), (0, u "add"), (0, u "(JJJ)V"), (0, .long 2), (1, .long 3), (3, .long 9223372036854775808), (1, .methodref 25 26), (0, .class_ 27), (0, .nameAndType 28 29), (0, u "java/lang/Math"), (0, u "max"), (0, u "(JJ)J"), (0, .methodref 7 31), (0, .nameAndType 32 33), (0, u "floorTime"), (0, u "(J)I"), (0, .class_ 35), (0, u "com/example/tote/tote/storage/OffsetIndexFloorTimePinLaw"), (2, u "law"), (0, u "(JJJJI)Z")] 3

def k1m0 : Method := { name := "<init>", desc := "()V", sig := { parameters := [], returnType := none }, accessFlags := 1, code := none }
def k1c1 : Code := { maxStack := 7, maxLocals := 23, code := code, exceptionTable := #[], attributes := #[] }
def k1m1 : Method := { name := "law", desc := "(JJJJI)Z", sig := { parameters := [.long, .long, .long, .long, .int], returnType := some .boolean }, accessFlags := 9, code := some k1c1 }
/-- com/example/tote/tote/storage/OffsetIndexFloorTimePinLaw -/
def k1 : Class := { plain "com/example/tote/tote/storage/OffsetIndexFloorTimePinLaw" (some 0) with
  accessFlags := 49
  interfaces := #[]
  cf := some (fileOf pool1 34 #[] #[{ accessFlags := 1, nameIndex := 5, descriptorIndex := 6, attributes := #[] }, { accessFlags := 9, nameIndex := 38, descriptorIndex := 39, attributes := #[] }] 49 2 #[] #[])
  fields := #[]
  methods := #[k1m0, k1m1]
  instanceTypes := #[]
  staticTypes := #[]
  resolved := Array.replicate 43 none
  statics := none }

def pool2 : Array CpInfo := pool [(5, .methodref 6 7), (0, .class_ 8), (0, .nameAndType 9 10), (0, u "java/lang/Object"), (0, u "<init>"), (0, u "()V"), (0, .class_ 12), (0, u "com/example/tote/tote/storage/OffsetIndex"), (0, .fieldref 11 14), (0, .nameAndType 15 16), (0, u "mOffsets"), (0, u "[I"), (0, .fieldref 11 18), (0, .nameAndType 19 16), (0, u "mPositions"), (0, .fieldref 11 21), (0, .nameAndType 22 23), (0, u "mTimestamps"), (0, u "[J"), (0, .long 9223372036854775808), (1, .fieldref 11 27), (0, .nameAndType 28 29), (0, u "mMaxTimestamp"), (0, u "J"), (0, .fieldref 11 31), (0, .nameAndType 32 29), (0, u "mBaseOffset"), (0, .fieldref 11 34), (0, .nameAndType 35 29), (0, u "mIntervalBytes"), (0, .fieldref 11 37), (0, .nameAndType 38 39), (0, u "mCount"), (0, u "I"), (0, .methodref 41 42), (0, .class_ 43), (0, .nameAndType 44 45), (0, u "java/lang/Math"), (0, u "toIntExact"), (0, u "(J)I"), (0, .methodref 11 47), (0, .nameAndType 48 49), (0, u "append"), (0, u "(IIJ)V"), (0, .methodref 41 51), (0, .nameAndType 52 53), (0, u "max"), (0, u "(JJ)J"), (66, u "ENTRY_BYTES"), (2, u "TIME_ENTRY_BYTES"), (0, u "NO_TIMESTAMP"), (0, u "MAX_SEGMENT_BYTES"), (0, u "INITIAL_CAPACITY"), (1, u "(JJ)V"), (2, u "add"), (0, u "(JJJ)V"), (4, u "floorTime")] 40

def k2c0 : Code := { maxStack := 3, maxLocals := 5, code := prog_89_method_1_code, exceptionTable := #[], attributes := #[] }
def k2m0 : Method := { name := "<init>", desc := "(JJ)V", sig := { parameters := [.long, .long], returnType := none }, accessFlags := 0, code := some k2c0 }
def k2c1 : Code := { maxStack := 5, maxLocals := 7, code := prog_89_method_2_code, exceptionTable := #[], attributes := #[] }
def k2m1 : Method := { name := "add", desc := "(JJJ)V", sig := { parameters := [.long, .long, .long], returnType := none }, accessFlags := 0, code := some k2c1 }
def k2c2 : Code := { maxStack := 4, maxLocals := 6, code := prog_89_method_6_code, exceptionTable := #[], attributes := #[] }
def k2m2 : Method := { name := "floorTime", desc := "(J)I", sig := { parameters := [.long], returnType := some .int }, accessFlags := 0, code := some k2c2 }
def k2c3 : Code := { maxStack := 4, maxLocals := 5, code := prog_89_method_15_code, exceptionTable := #[], attributes := #[] }
def k2m3 : Method := { name := "append", desc := "(IIJ)V", sig := { parameters := [.int, .int, .long], returnType := none }, accessFlags := 2, code := some k2c3 }
/-- com/example/tote/tote/storage/OffsetIndex -/
def k2 : Class := { plain "com/example/tote/tote/storage/OffsetIndex" (some 0) with
  accessFlags := 32
  interfaces := #[]
  cf := some (fileOf pool2 11 #[] #[{ accessFlags := 0, nameIndex := 9, descriptorIndex := 128, attributes := #[] }, { accessFlags := 0, nameIndex := 131, descriptorIndex := 132, attributes := #[] }, { accessFlags := 0, nameIndex := 137, descriptorIndex := 45, attributes := #[] }, { accessFlags := 2, nameIndex := 48, descriptorIndex := 49, attributes := #[] }] 32 6 #[] #[{ accessFlags := 24, nameIndex := 120, descriptorIndex := 39, attributes := #[] }, { accessFlags := 24, nameIndex := 123, descriptorIndex := 39, attributes := #[] }, { accessFlags := 24, nameIndex := 124, descriptorIndex := 29, attributes := #[] }, { accessFlags := 24, nameIndex := 125, descriptorIndex := 29, attributes := #[] }, { accessFlags := 26, nameIndex := 126, descriptorIndex := 39, attributes := #[] }, { accessFlags := 18, nameIndex := 32, descriptorIndex := 29, attributes := #[] }, { accessFlags := 18, nameIndex := 35, descriptorIndex := 29, attributes := #[] }, { accessFlags := 2, nameIndex := 15, descriptorIndex := 16, attributes := #[] }, { accessFlags := 2, nameIndex := 19, descriptorIndex := 16, attributes := #[] }, { accessFlags := 2, nameIndex := 22, descriptorIndex := 23, attributes := #[] }, { accessFlags := 2, nameIndex := 38, descriptorIndex := 39, attributes := #[] }, { accessFlags := 2, nameIndex := 28, descriptorIndex := 29, attributes := #[] }])
  fields := #[{ name := "ENTRY_BYTES", type := .int, accessFlags := 24, slot := 0, constantValue := 0 }, { name := "TIME_ENTRY_BYTES", type := .int, accessFlags := 24, slot := 1, constantValue := 0 }, { name := "NO_TIMESTAMP", type := .long, accessFlags := 24, slot := 2, constantValue := 0 }, { name := "MAX_SEGMENT_BYTES", type := .long, accessFlags := 24, slot := 3, constantValue := 0 }, { name := "INITIAL_CAPACITY", type := .int, accessFlags := 26, slot := 4, constantValue := 0 }, { name := "mBaseOffset", type := .long, accessFlags := 18, slot := 0, constantValue := 0 }, { name := "mIntervalBytes", type := .long, accessFlags := 18, slot := 1, constantValue := 0 }, { name := "mOffsets", type := (.array .int), accessFlags := 2, slot := 2, constantValue := 0 }, { name := "mPositions", type := (.array .int), accessFlags := 2, slot := 3, constantValue := 0 }, { name := "mTimestamps", type := (.array .long), accessFlags := 2, slot := 4, constantValue := 0 }, { name := "mCount", type := .int, accessFlags := 2, slot := 5, constantValue := 0 }, { name := "mMaxTimestamp", type := .long, accessFlags := 2, slot := 6, constantValue := 0 }]
  methods := #[k2m0, k2m1, k2m2, k2m3]
  instanceTypes := #[.long, .long, (.array .int), (.array .int), (.array .long), .int, .long]
  staticTypes := #[.int, .int, .long, .long, .int]
  resolved := Array.replicate 178 none
  statics := none }

def pool3 : Array CpInfo := pool [(1, .class_ 2), (0, u "java/lang/Math"), (1, .class_ 6), (1, u "java/lang/Object"), (0, u "<init>"), (0, u "()V"), (89, .class_ 100), (1, u "java/lang/Math$RandomNumberGeneratorHolder"), (20, u "(JJ)J"), (50, u "negativeZeroFloatBits"), (0, u "J"), (2, u "negativeZeroDoubleBits"), (21, u "max"), (46, u "$assertionsDisabled"), (0, u "Z"), (91, u "twoToTheDoubleScaleDown"), (0, u "D"), (4, u "twoToTheDoubleScaleUp"), (9, u "E"), (3, u "PI"), (2, u "TAU"), (2, u "DEGREES_TO_RADIANS"), (0, u "RADIANS_TO_DEGREES"), (39, u "toIntExact"), (0, u "(J)I")] 53

def k3m0 : Method := { name := "<init>", desc := "()V", sig := { parameters := [], returnType := none }, accessFlags := 2, code := none }
def k3c1 : Code := { maxStack := 4, maxLocals := 2, code := jdk_29_method_43_code, exceptionTable := #[], attributes := #[] }
def k3m1 : Method := { name := "toIntExact", desc := "(J)I", sig := { parameters := [.long], returnType := some .int }, accessFlags := 9, code := some k3c1 }
def k3c2 : Code := { maxStack := 4, maxLocals := 4, code := jdk_29_method_66_code, exceptionTable := #[], attributes := #[] }
def k3m2 : Method := { name := "max", desc := "(JJ)J", sig := { parameters := [.long, .long], returnType := some .long }, accessFlags := 9, code := some k3c2 }
/-- java/lang/Math -/
def k3 : Class := { plain "java/lang/Math" (some 0) with
  accessFlags := 49
  interfaces := #[]
  cf := some (fileOf pool3 1 #[.nestMembers #[98]] #[{ accessFlags := 2, nameIndex := 7, descriptorIndex := 8, attributes := #[] }, { accessFlags := 9, nameIndex := 405, descriptorIndex := 406, attributes := #[] }, { accessFlags := 9, nameIndex := 198, descriptorIndex := 121, attributes := #[] }] 49 4 #[] #[{ accessFlags := 25, nameIndex := 354, descriptorIndex := 339, attributes := #[] }, { accessFlags := 25, nameIndex := 358, descriptorIndex := 339, attributes := #[] }, { accessFlags := 25, nameIndex := 361, descriptorIndex := 339, attributes := #[] }, { accessFlags := 26, nameIndex := 364, descriptorIndex := 339, attributes := #[] }, { accessFlags := 26, nameIndex := 365, descriptorIndex := 339, attributes := #[] }, { accessFlags := 26, nameIndex := 172, descriptorIndex := 173, attributes := #[] }, { accessFlags := 26, nameIndex := 176, descriptorIndex := 173, attributes := #[] }, { accessFlags := 8, nameIndex := 344, descriptorIndex := 339, attributes := #[] }, { accessFlags := 8, nameIndex := 338, descriptorIndex := 339, attributes := #[] }, { accessFlags := 4120, nameIndex := 245, descriptorIndex := 246, attributes := #[] }])
  fields := #[{ name := "E", type := .double, accessFlags := 25, slot := 0, constantValue := 0 }, { name := "PI", type := .double, accessFlags := 25, slot := 1, constantValue := 0 }, { name := "TAU", type := .double, accessFlags := 25, slot := 2, constantValue := 0 }, { name := "DEGREES_TO_RADIANS", type := .double, accessFlags := 26, slot := 3, constantValue := 0 }, { name := "RADIANS_TO_DEGREES", type := .double, accessFlags := 26, slot := 4, constantValue := 0 }, { name := "negativeZeroFloatBits", type := .long, accessFlags := 26, slot := 5, constantValue := 0 }, { name := "negativeZeroDoubleBits", type := .long, accessFlags := 26, slot := 6, constantValue := 0 }, { name := "twoToTheDoubleScaleUp", type := .double, accessFlags := 8, slot := 7, constantValue := 0 }, { name := "twoToTheDoubleScaleDown", type := .double, accessFlags := 8, slot := 8, constantValue := 0 }, { name := "$assertionsDisabled", type := .boolean, accessFlags := 4120, slot := 9, constantValue := 0 }]
  methods := #[k3m0, k3m1, k3m2]
  instanceTypes := #[]
  staticTypes := #[.double, .double, .double, .double, .double, .long, .long, .double, .double, .boolean]
  resolved := Array.replicate 460 none
  statics := none }

def pool4 : Array CpInfo := pool [(1, u "java/lang/Cloneable"), (0, .class_ 1), (0, u "java/lang/Object"), (0, .class_ 3)] 3

/-- java/lang/Cloneable -/
def k4 : Class := { plain "java/lang/Cloneable" (some 0) with
  accessFlags := 1537
  interfaces := #[]
  cf := some (fileOf pool4 2 #[] #[] 1537 4 #[] #[])
  fields := #[]
  methods := #[]
  instanceTypes := #[]
  staticTypes := #[]
  resolved := Array.replicate 8 none
  statics := none }

def pool5 : Array CpInfo := pool [(1, u "java/io/Serializable"), (0, .class_ 1), (0, u "java/lang/Object"), (0, .class_ 3)] 3

/-- java/io/Serializable -/
def k5 : Class := { plain "java/io/Serializable" (some 0) with
  accessFlags := 1537
  interfaces := #[]
  cf := some (fileOf pool5 2 #[] #[] 1537 4 #[] #[])
  fields := #[]
  methods := #[]
  instanceTypes := #[]
  staticTypes := #[]
  resolved := Array.replicate 8 none
  statics := none }

/-- the primitive byte -/
def k6 : Class := { plain "byte" none with kind := .primitive 'B', accessFlags := 0x411 }
/-- [B -/
def k7 : Class := { plain "[B" (some 0) with kind := .array 6 .byte, interfaces := #[4, 5], accessFlags := 1041 }

/-- the primitive int -/
def k8 : Class := { plain "int" none with kind := .primitive 'I', accessFlags := 0x411 }
/-- [I -/
def k9 : Class := { plain "[I" (some 0) with kind := .array 8 .int, interfaces := #[4, 5], accessFlags := 1041 }

/-- the primitive long -/
def k10 : Class := { plain "long" none with kind := .primitive 'J', accessFlags := 0x411 }
/-- [J -/
def k11 : Class := { plain "[J" (some 0) with kind := .array 10 .long, interfaces := #[4, 5], accessFlags := 1041 }

def heap : Heap := #[]
def classes : Array Class := #[k0, k1, k2, k3, k4, k5, k6, k7, k8, k9, k10, k11]
def interned : List (Array UInt16 × Addr) := []
def slotsUsed : Nat := 0
def theMethod : MethodId := ⟨1, 1⟩
def args0 : Array Value := #[.long 5, .long 6, .long 7, .long 8, .int 9]
def aboutOver (below : List Frame) : State where
  vm := { classes := classes, interned := interned.toArray }
  heap := heap
  slotsUsed := slotsUsed
  threads := #[{ frames := .invoking theMethod args0 :: below }]
def below0 : List Frame := [.native { method := ⟨0, 0⟩, args := #[] }]
def about1 : State := aboutOver below0
def p0 : Program := .bare "" "" ""
def e0 : Env := launch0.env 0 0 0
theorem w_frames : about1.frames = Frame.invoking theMethod args0 :: below0 := rfl
set_option maxRecDepth 65536 in
theorem w_args : argsFit about1.vm theMethod args0 = true := by decide +kernel
set_option maxRecDepth 65536 in
theorem w_heap : heapFits about1 = true := by decide +kernel
set_option maxRecDepth 65536 in
theorem w_runnable : about1.curStatus? = some .runnable := by decide +kernel
set_option maxRecDepth 65536 in
theorem w_alone : about1.alone = true := by decide +kernel
set_option maxRecDepth 65536 in
theorem w_named : about1.methodNamed? x = some theMethod := by decide +kernel
set_option maxRecDepth 65536 in
theorem w_hears : about1.hears theMethod below0 = true := by decide +kernel
set_option maxRecDepth 65536 in
theorem w_ripe : about1.ripe theMethod args0 below0 = true := by decide +kernel
theorem w_running : about1.status = .running := rfl
set_option maxRecDepth 65536 in
theorem w_room : about1.hasRoom e0.platform room_1 = true :=
  launch0.hasRoom_least _ room_1 (by decide +kernel) (by decide +kernel) (by decide +kernel) (by decide +kernel) (by decide +kernel) (by decide +kernel)
theorem allAtoms_all (ts : List Jvm.Cond) (a : Array Jvm.Value) (st : Jvm.State) : (allAtoms ts).before a st = ts.all (fun c => c.before a st) := by
  induction ts with
  | nil => rfl
  | cons c t ih =>
    show (Jvm.Cond.and c (allAtoms t)).before a st = _
    rw [Jvm.Cond.before_and, ih, List.all_cons]
def words1 : List Jvm.Cond := Jvm.Cond.code x code maxLocals ret :: tables_1
/-- a 'code' word, met by the world's own term for the bytes: nothing is compared byte by byte -/
theorem code_word {y : MethodName} {bytes : ByteArray} {mx : Nat} {rt : Option FieldType} {a : Array Value} {s : State} {m : MethodId} {meth : Method} {c : Code} (h1 : s.methodNamed? y = some m) (h2 : s.vm.method? m = some meth) (h3 : meth.code = some c) (h4 : c.code = bytes)
    (h5 : (c.maxLocals == mx && c.exceptionTable.isEmpty && decide (c.maxStack ≤ mostOperands) && decide (meth.sig.returnType = rt) && !meth.locks && decide (parseMethodDescriptor y.desc = some meth.sig)) = true) : (Jvm.Cond.code y bytes mx rt).before a s = true := by
  simp only [Bool.and_eq_true, beq_iff_eq, Bool.not_eq_true', decide_eq_true_eq] at h5
  obtain ⟨⟨⟨⟨⟨g1, g2⟩, g3⟩, g4⟩, g5⟩, g6⟩ := h5
  simp [Cond.before, Cond.holds, Cond.value, h1, h2, h3, h4, g1, g2, g3, g4, g5, g6]
def isCode : Jvm.Cond → Bool
  | .code _ _ _ _ => true
  | _ => false
theorem all_split {L : List Jvm.Cond} {P : Jvm.Cond → Bool} (h1 : L.all (fun c => isCode c || P c) = true) (h2 : ∀ c ∈ L.filter isCode, P c = true) : L.all P = true := by
  refine List.all_eq_true.mpr fun c hc => ?_
  have h := List.all_eq_true.mp h1 c hc
  rcases Bool.eq_false_or_eq_true (isCode c) with hi | hi
  · exact h2 c (List.mem_filter.mpr ⟨hc, hi⟩)
  · simpa [hi] using h
set_option maxRecDepth 65536 in
theorem w_c0 : (Jvm.Cond.code x code maxLocals ret).before args0 about1 = true := code_word (m := ⟨1, 1⟩) (meth := k1m1) (c := k1c1) (by decide +kernel) rfl rfl rfl (by decide +kernel)
set_option maxRecDepth 65536 in
theorem w_c1 : (Jvm.Cond.code ({ cls := "com/example/tote/tote/storage/OffsetIndex", name := "<init>", desc := "(JJ)V" } : Jvm.MethodName) prog_89_method_1_code (5 : Nat) (Option.none : Option Jvm.ClassFile.FieldType)).before args0 about1 = true := code_word (m := ⟨2, 0⟩) (meth := k2m0) (c := k2c0) (by decide +kernel) rfl rfl rfl (by decide +kernel)
set_option maxRecDepth 65536 in
theorem w_c2 : (Jvm.Cond.code ({ cls := "java/lang/Object", name := "<init>", desc := "()V" } : Jvm.MethodName) object_method_1_code (1 : Nat) (Option.none : Option Jvm.ClassFile.FieldType)).before args0 about1 = true := code_word (m := ⟨0, 0⟩) (meth := k0m0) (c := k0c0) (by decide +kernel) rfl rfl rfl (by decide +kernel)
set_option maxRecDepth 65536 in
theorem w_c3 : (Jvm.Cond.code ({ cls := "java/lang/Math", name := "max", desc := "(JJ)J" } : Jvm.MethodName) jdk_29_method_66_code (4 : Nat) (Option.some Jvm.ClassFile.FieldType.long)).before args0 about1 = true := code_word (m := ⟨3, 2⟩) (meth := k3m2) (c := k3c2) (by decide +kernel) rfl rfl rfl (by decide +kernel)
set_option maxRecDepth 65536 in
theorem w_c4 : (Jvm.Cond.code ({ cls := "com/example/tote/tote/storage/OffsetIndex", name := "floorTime", desc := "(J)I" } : Jvm.MethodName) prog_89_method_6_code (6 : Nat) (Option.some Jvm.ClassFile.FieldType.int)).before args0 about1 = true := code_word (m := ⟨2, 2⟩) (meth := k2m2) (c := k2c2) (by decide +kernel) rfl rfl rfl (by decide +kernel)
set_option maxRecDepth 65536 in
theorem w_c5 : (Jvm.Cond.code ({ cls := "com/example/tote/tote/storage/OffsetIndex", name := "add", desc := "(JJJ)V" } : Jvm.MethodName) prog_89_method_2_code (7 : Nat) (Option.none : Option Jvm.ClassFile.FieldType)).before args0 about1 = true := code_word (m := ⟨2, 1⟩) (meth := k2m1) (c := k2c1) (by decide +kernel) rfl rfl rfl (by decide +kernel)
set_option maxRecDepth 65536 in
theorem w_c6 : (Jvm.Cond.code ({ cls := "java/lang/Math", name := "toIntExact", desc := "(J)I" } : Jvm.MethodName) jdk_29_method_43_code (2 : Nat) (Option.some Jvm.ClassFile.FieldType.int)).before args0 about1 = true := code_word (m := ⟨3, 1⟩) (meth := k3m1) (c := k3c1) (by decide +kernel) rfl rfl rfl (by decide +kernel)
set_option maxRecDepth 65536 in
theorem w_c7 : (Jvm.Cond.code ({ cls := "com/example/tote/tote/storage/OffsetIndex", name := "append", desc := "(IIJ)V" } : Jvm.MethodName) prog_89_method_15_code (5 : Nat) (Option.none : Option Jvm.ClassFile.FieldType)).before args0 about1 = true := code_word (m := ⟨2, 3⟩) (meth := k2m3) (c := k2c3) (by decide +kernel) rfl rfl rfl (by decide +kernel)
def codes1 : List Jvm.Cond := [Jvm.Cond.code x code maxLocals ret, Jvm.Cond.code ({ cls := "com/example/tote/tote/storage/OffsetIndex", name := "<init>", desc := "(JJ)V" } : Jvm.MethodName) prog_89_method_1_code (5 : Nat) (Option.none : Option Jvm.ClassFile.FieldType), Jvm.Cond.code ({ cls := "java/lang/Object", name := "<init>", desc := "()V" } : Jvm.MethodName) object_method_1_code (1 : Nat) (Option.none : Option Jvm.ClassFile.FieldType), Jvm.Cond.code ({ cls := "java/lang/Math", name := "max", desc := "(JJ)J" } : Jvm.MethodName) jdk_29_method_66_code (4 : Nat) (Option.some Jvm.ClassFile.FieldType.long), Jvm.Cond.code ({ cls := "com/example/tote/tote/storage/OffsetIndex", name := "floorTime", desc := "(J)I" } : Jvm.MethodName) prog_89_method_6_code (6 : Nat) (Option.some Jvm.ClassFile.FieldType.int), Jvm.Cond.code ({ cls := "com/example/tote/tote/storage/OffsetIndex", name := "add", desc := "(JJJ)V" } : Jvm.MethodName) prog_89_method_2_code (7 : Nat) (Option.none : Option Jvm.ClassFile.FieldType), Jvm.Cond.code ({ cls := "java/lang/Math", name := "toIntExact", desc := "(J)I" } : Jvm.MethodName) jdk_29_method_43_code (2 : Nat) (Option.some Jvm.ClassFile.FieldType.int), Jvm.Cond.code ({ cls := "com/example/tote/tote/storage/OffsetIndex", name := "append", desc := "(IIJ)V" } : Jvm.MethodName) prog_89_method_15_code (5 : Nat) (Option.none : Option Jvm.ClassFile.FieldType)]
set_option maxRecDepth 65536 in
theorem codes_eq : words1.filter isCode = codes1 := rfl
theorem w_codes : ∀ c ∈ words1.filter isCode, c.before args0 about1 = true := by
  rw [codes_eq]
  intro c hc
  simp only [codes1, List.mem_cons, List.not_mem_nil, or_false] at hc
  rcases hc with rfl | rfl | rfl | rfl | rfl | rfl | rfl | rfl
  · exact w_c0
  · exact w_c1
  · exact w_c2
  · exact w_c3
  · exact w_c4
  · exact w_c5
  · exact w_c6
  · exact w_c7
set_option maxRecDepth 65536 in
theorem w_t1 : (words1.take 24).all (fun c => isCode c || c.before args0 about1) = true := by decide +kernel
set_option maxRecDepth 65536 in
theorem w_t2 : ((words1.drop 24).take 24).all (fun c => isCode c || c.before args0 about1) = true := by decide +kernel
set_option maxRecDepth 65536 in
theorem w_t3 : ((words1.drop 24).drop 24).all (fun c => isCode c || c.before args0 about1) = true := by decide +kernel
theorem w_tables : (allAtoms (Jvm.Cond.code x code maxLocals ret :: tables_1)).before args0 about1 = true := by
  rw [allAtoms_all]
  show words1.all (fun c => c.before args0 about1) = true
  refine all_split ?_ w_codes
  rw [← List.take_append_drop 24 words1, List.all_append, w_t1, ← List.take_append_drop 24 (words1.drop 24), List.all_append, w_t2, w_t3]
  rfl
set_option maxRecDepth 65536 in
theorem w_case : (Jvm.Cond.and given_1 narrow_1).before args0 about1 = true := by decide +kernel
theorem w_applies : (headSpec (Jvm.Cond.code x code maxLocals ret :: tables_1) room_1).applies x e0.platform about1 = true :=
  (Spec.applies_iff w_frames).mpr ⟨w_running, w_runnable, w_alone, w_named, w_hears, w_ripe, w_room, w_tables⟩
theorem atStart : AtStart classFile x code maxLocals ret World_1 tables_1 room_1 Calls_1 rest_1 Pre_1 launch0 p0 e0 about1 theMethod args0 below0 :=
  ⟨lists_1, trivial, launch0.admits_env _ _ _, launch0.least_env, fairChoices_fair.cas, fairChoices_fair.clock, w_frames, w_args, w_heap, w_applies, trivial, trivial, w_case⟩
end start1
theorem witness_1 : WitnessClaimed_1 := ⟨start1.p0, start1.e0, start1.about1, start1.theMethod, start1.args0, start1.below0, start1.atStart⟩
end Jvm.Pilot.@@N@@
