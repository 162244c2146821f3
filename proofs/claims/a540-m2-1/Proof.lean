import JvmDerived
import JvmDerived.Pilot.@@N@@Statement
import JvmDerived.Pilot.@@N@@Code
set_option linter.unusedVariables false
set_option linter.unusedSimpArgs false
namespace Jvm.Pilot.@@N@@
open Jvm Jvm.ClassFile Sem Op Lib Jvm.Free Jvm.Stand Jvm.LawKit Jvm.RoadKit Bundle Jvm.Pilot.@@N@@.Jvm.D
section OwnRun
variable {p : Program} {l : Launch} {e : Env} {R : Room} {s : State} {m : MethodId} {args : Array Value} {below : List Frame} {meth : Method} {c : Code} {T T' : State} {locs : List Loc} {cells slots : Nat}
/-- from here the run ends, as G says -/
def own_Run (p : Program) (e : Env) (below : List Frame) (G : Outcome → State → Prop) (T : State) (g : JFrame) : Prop :=
  ∃ s₂ o, Steps p.tables e below (T.setTop g) s₂ ∧ s₂.status = .running ∧ Ended s₂ below o ∧ G o s₂
theorem own_go {G : Outcome → State → Prop} {g g' : JFrame} (h : ∀ t, Steps p.tables e below (T'.setTop g') t → Steps p.tables e below (T.setTop g) t) (k : own_Run p e below G T' g') : own_Run p e below G T g := by
  obtain ⟨s₂, o, h1, h2, h3, h4⟩ := k
  exact ⟨s₂, o, h _ h1, h2, h3, h4⟩
theorem own_goT {G : Outcome → State → Prop} {g g' : JFrame} (h : Steps p.tables e below (T.setTop g) (T'.setTop g')) (k : own_Run p e below G T' g') : own_Run p e below G T g :=
  own_go (fun _ q => h.trans q) k
theorem own_start {G : Outcome → State → Prop} {f f' : JFrame} (h : f = f') (k : own_Run p e below G T f') : ∃ s₂ o, Steps p.tables e below (T.setTop f) s₂ ∧ s₂.status = .running ∧ Ended s₂ below o ∧ G o s₂ := by
  subst h
  exact k
theorem own_done {Q : Option Value → Heap → List Loc → Prop} {C N : Nat} {g : JFrame} (X : Stand p l e R s m args below meth c T locs cells slots) {v : Option Value} (hv : meth.sig.returnType = none → v = none) (hlocks : meth.locks = false)
    (hstep : ∀ fs, (∀ (f : JFrame) (acts : List Action), f.method = m → f.locked = none → f.entered = [] → (doReturn e (T.setTop f) acts v).1 = T.setFrames fs) → Steps p.tables e below (T.setTop g) (T.setFrames fs))
    (hQ : Q v T.heap locs) (hc : cells ≤ C) (hs : slots ≤ N) :
    own_Run p e below (fun o U' => ∃ v L, o = .returned v ∧ Q v U'.heap L ∧ FrameEnd s o U' L C N) T g := by
  obtain ⟨fs, hr, hrun, hended, hW, hsame⟩ := X.leave hv hlocks
  exact ⟨_, _, hstep fs hr, hrun, hended, _, _, rfl, hQ, ⟨_, rfl⟩, hW, hsame.mono hc hs⟩
theorem own_mono {cells' slots' : Nat} (X : Stand p l e R s m args below meth c T locs cells slots) (hc : cells ≤ cells') (hs : slots ≤ slots') : Stand p l e R s m args below meth c T locs cells' slots' :=
  ⟨X.admits, X.cas, X.clock, X.frames, X.room, X.hears, X.method, X.code, X.here, X.tail, X.warmed, X.limits, X.bytes, X.same.mono hc hs⟩
theorem own_retI (X : Stand p l e R s m args below meth c T locs cells slots) (hx : p.tables.exec = Jvm.exec) {pc : Nat} {Ls : Array Slot} {z : Int32} {rest : List Value} (hret : meth.sig.returnType = some .int) (hd : decode c.code pc = .ok (.ireturn, 1)) {fs : List Frame}
    (hl : ∀ (f : JFrame) (acts : List Action), f.method = m → f.locked = none → f.entered = [] → (doReturn e (T.setTop f) acts (some (.int z))).1 = T.setFrames fs) : Steps p.tables e below (T.setTop (mkF m pc Ls (.int z :: rest))) (T.setFrames fs) :=
  retOut X hx hret rfl (Or.inl ⟨rfl, Or.inl rfl, z, rfl⟩) hd hl
theorem own_retL (X : Stand p l e R s m args below meth c T locs cells slots) (hx : p.tables.exec = Jvm.exec) {pc : Nat} {Ls : Array Slot} {z : Int64} {rest : List Value} (hret : meth.sig.returnType = some .long) (hd : decode c.code pc = .ok (.lreturn, 1)) {fs : List Frame}
    (hl : ∀ (f : JFrame) (acts : List Action), f.method = m → f.locked = none → f.entered = [] → (doReturn e (T.setTop f) acts (some (.long z))).1 = T.setFrames fs) : Steps p.tables e below (T.setTop (mkF m pc Ls (.long z :: rest))) (T.setFrames fs) :=
  retOut X hx hret rfl (Or.inr (Or.inl ⟨rfl, rfl, z, rfl⟩)) hd hl
theorem own_retA {t : FieldType} (X : Stand p l e R s m args below meth c T locs cells slots) (hx : p.tables.exec = Jvm.exec) {pc : Nat} {Ls : Array Slot} {w : Value} {rest : List Value} (hret : meth.sig.returnType = some t) (ht : t.isReference = true) (hn : narrow t w = w) (hw : w.isRef = true) (hd : decode c.code pc = .ok (.areturn, 1)) {fs : List Frame}
    (hl : ∀ (f : JFrame) (acts : List Action), f.method = m → f.locked = none → f.entered = [] → (doReturn e (T.setTop f) acts (some w)).1 = T.setFrames fs) : Steps p.tables e below (T.setTop (mkF m pc Ls (w :: rest))) (T.setFrames fs) :=
  retOut X hx hret hn (Or.inr (Or.inr (Or.inr (Or.inr ⟨rfl, ht, hw⟩)))) hd hl
theorem own_ns {Z : State} {h : Heap} {a : Addr} {C : String} (E : Exa Z h a C) : ∃ c : Cell, h[a]? = some c ∧ c.vm.isStatics = false := by
  obtain ⟨c, k, h1, -, -, h4, -⟩ := E
  exact ⟨c, h1, h4⟩
theorem own_nsV {Z : State} {h : Heap} {a : Addr} {k : ClassId} {ty : FieldType} {n : Int32} {vs : List Value} {d : Value} (V : Arv Z h a k ty n vs d) : ∃ c : Cell, h[a]? = some c ∧ c.vm.isStatics = false := by
  obtain ⟨c, A, -⟩ := V
  exact ⟨c, A.1, A.plain⟩
theorem own_staKeep {Z : State} {h h' : Heap} {ws : List Addr} {C n d : String} {w : Value} (F : Sta Z h C n d w) (K : Keep h h' ws) (q : ∀ x ∈ ws, ∃ c : Cell, h[x]? = some c ∧ c.vm.isStatics = false) : Sta Z h' C n d w := by
  obtain ⟨cf, i, k, f, st, cell, h1, h2, h3, h4, h5, h6, h7⟩ := F
  refine ⟨cf, i, k, f, st, cell, h1, h2, h3, h4, K.2.1 st cell h5 (fun hm => ?_), h6, h7⟩
  obtain ⟨c, e1, e2⟩ := q st hm
  cases h5.symm.trans e1
  rw [h6] at e2; cases e2
theorem own_eqL {args : Array Value} {first s : State} {o : Option Outcome} {idx : List Nat} {t : Term} {n : Int64} (h : (Jvm.Cond.eq t (Term.long n)).value args first o s idx = some true) : t.eval args first o idx s = some (.long n) := by
  cases ht : t.eval args first o idx s with
  | none => simp [Cond.value, ht] at h
  | some x => cases x <;> simp [Cond.value, ht, Term.eval] at h ⊢ <;> exact h
theorem own_eqI {args : Array Value} {first s : State} {o : Option Outcome} {idx : List Nat} {t : Term} {n : Int32} (h : (Jvm.Cond.eq t (Term.int n)).value args first o s idx = some true) : t.eval args first o idx s = some (.int n) := by
  cases ht : t.eval args first o idx s with
  | none => simp [Cond.value, ht] at h
  | some x => cases x <;> simp [Cond.value, ht, Term.eval] at h ⊢ <;> exact h
theorem own_eqR {args : Array Value} {first s : State} {o : Option Outcome} {idx : List Nat} {t u : Term} {x : Addr} (h : (Jvm.Cond.eq t u).value args first o s idx = some true) (hu : u.eval args first o idx s = some (.ref x)) : t.eval args first o idx s = some (.ref x) := by
  cases ht : t.eval args first o idx s with
  | none => simp [Cond.value, ht] at h
  | some y => cases y <;> simp [Cond.value, ht, hu] at h ⊢ <;> exact h
theorem own_nf {s : State} {args : Array Value} {C : String} {y y' : MethodName} (hsel : (Jvm.Cond.selects C y y).before args s = true) (hc : y'.cls = y.cls) : NotFace s y' := fun r0 h0 => by
  obtain ⟨c2, r2, m2, q1, q2, q3, q4, kP, hkP, hkPi⟩ := Cond.selects_spec hsel
  have a := findClass_of_methodNamed q3
  have b := findClass_of_methodNamed h0
  rw [hc] at b
  have e := Option.some.inj (a.symm.trans b)
  exact ⟨kP, by rw [← e]; exact hkP, hkPi⟩
theorem own_selP {s : State} {args args' : Array Value} {C : String} {y y' : MethodName} (hsel : (Jvm.Cond.selects C y' y').before args s = true) (hc : y.cls = y'.cls) (hpriv : s.PrivateAt y) (hinst : (Jvm.Cond.instanceMethod y).before args' s = true) (hy : y.cls ≠ "java/lang/invoke/MethodHandle" ∧ y.cls ≠ "java/lang/invoke/VarHandle") : (Jvm.Cond.selects y.cls y y).before args' s = true := by
  obtain ⟨mk, methM, hnamed, -, -, -⟩ := Cond.instanceMethod_spec hinst
  obtain ⟨k, hk, hni⟩ := own_nf hsel hc mk hnamed
  exact selects_self_of_private (findClass_of_methodNamed hnamed) hk hni hpriv hinst hy
end OwnRun
theorem own_lcLt {x y : Int64} (h : x < y) : lcmpW x y = -1 := by
  have h1 : ¬ (x > y) := by simp only [GT.gt, Int64.lt_iff_toInt_lt] at h ⊢; omega
  have h2 : ¬ (x = y) := by rintro rfl; exact Int64.lt_irrefl h
  simp [lcmpW, h1, h2]
theorem own_lcGt {x y : Int64} (h : y < x) : lcmpW x y = 1 := by
  have h1 : x > y := h
  simp [lcmpW, h1]
theorem own_lcEq {x y : Int64} (h : x = y) : lcmpW x y = 0 := by
  subst h
  have h1 : ¬ (x > x) := Int64.lt_irrefl
  simp [lcmpW, h1]
theorem own_lcNlt {x y : Int64} (h : ¬ x < y) : lcmpW x y = 0 ∨ lcmpW x y = 1 := by
  by_cases q : x = y
  · exact Or.inl (own_lcEq q)
  · refine Or.inr (own_lcGt ?_)
    simp only [Int64.lt_iff_toInt_lt, ← Int64.toInt_inj] at h q ⊢; omega
theorem own_lcNgt {x y : Int64} (h : ¬ y < x) : lcmpW x y = 0 ∨ lcmpW x y = -1 := by
  by_cases q : x = y
  · exact Or.inl (own_lcEq q)
  · refine Or.inr (own_lcLt ?_)
    simp only [Int64.lt_iff_toInt_lt, ← Int64.toInt_inj] at h q ⊢; omega
theorem own_lcNe {x y : Int64} (h : ¬ x = y) : lcmpW x y = 1 ∨ lcmpW x y = -1 := by
  by_cases q : x < y
  · exact Or.inr (own_lcLt q)
  · refine Or.inl (own_lcGt ?_)
    simp only [Int64.lt_iff_toInt_lt, ← Int64.toInt_inj] at h q ⊢; omega
theorem own_lcT {x y : Int64} (h : x < y) : ifCond.holds .lt (lcmpW x y) = true ∧ ifCond.holds .ge (lcmpW x y) = false ∧ ifCond.holds .gt (lcmpW y x) = true ∧ ifCond.holds .le (lcmpW y x) = false := by
  rw [own_lcLt h, own_lcGt h]; decide
theorem own_lcF {x y : Int64} (h : ¬ x < y) : ifCond.holds .lt (lcmpW x y) = false ∧ ifCond.holds .ge (lcmpW x y) = true ∧ ifCond.holds .gt (lcmpW y x) = false ∧ ifCond.holds .le (lcmpW y x) = true := by
  rcases own_lcNlt h with q | q <;> rcases own_lcNgt (x := y) (y := x) h with r | r <;> rw [q, r] <;> decide
theorem own_lcTe {x y : Int64} (h : x = y) : ifCond.holds .eq (lcmpW x y) = true ∧ ifCond.holds .ne (lcmpW x y) = false := by
  rw [own_lcEq h]; decide
theorem own_lcFe {x y : Int64} (h : ¬ x = y) : ifCond.holds .eq (lcmpW x y) = false ∧ ifCond.holds .ne (lcmpW x y) = true := by
  rcases own_lcNe h with q | q <;> rw [q] <;> decide
theorem own_maskI (x : Int32) (M : Nat) (hM : M < 2 ^ 31) : (x &&& Int32.ofNat M).toInt = ((x.toBitVec.toNat &&& M : Nat) : Int) := by
  have h1 : (x &&& Int32.ofNat M).toBitVec.toNat = x.toBitVec.toNat &&& M := by
    rw [Int32.toBitVec_and, BitVec.toNat_and]
    congr 1
    show (BitVec.ofNat 32 M).toNat = M
    rw [BitVec.toNat_ofNat]; omega
  have h2 : x.toBitVec.toNat &&& M ≤ M := Nat.and_le_right
  rw [Int32.toInt, BitVec.toInt_eq_toNat_of_lt (by rw [h1]; omega), h1]
theorem own_mask0 (x : Int32) (M : Nat) (hM : M < 2 ^ 31) : 0 ≤ (x &&& Int32.ofNat M).toInt ∧ (x &&& Int32.ofNat M).toInt ≤ M := by
  rw [own_maskI x M hM]
  have h2 : x.toBitVec.toNat &&& M ≤ M := Nat.and_le_right
  omega
theorem own_rem (x : Int32) (k : Int32) (hx : 0 ≤ x.toInt) (hk : 0 < k.toInt) : 0 ≤ (x % k).toInt ∧ (x % k).toInt < k.toInt := by
  rw [Int32.toInt_mod]
  exact ⟨Int.tmod_nonneg _ hx, Int.tmod_lt_of_pos _ hk⟩
theorem own_bm (z : Int) (h1 : -2147483648 ≤ z) (h2 : z < 2147483648) : z.bmod (2 ^ 32) = z := by
  rw [Int.bmod_def]; split <;> omega
theorem own_addI (a b : Int32) (h1 : -2147483648 ≤ a.toInt + b.toInt) (h2 : a.toInt + b.toInt < 2147483648) : (a + b).toInt = a.toInt + b.toInt := by
  rw [Int32.toInt_add, own_bm _ h1 h2]
theorem own_subI (a b : Int32) (h1 : -2147483648 ≤ a.toInt - b.toInt) (h2 : a.toInt - b.toInt < 2147483648) : (a - b).toInt = a.toInt - b.toInt := by
  rw [Int32.toInt_sub, own_bm _ h1 h2]
theorem own_nz (a : Int32) (h : 0 < a.toInt) : a ≠ 0 := by
  rintro rfl; exact absurd h (by decide)
theorem own_ushr (x k : Int32) (n : Nat) (h : ((k &&& 31).toUInt32.toBitVec % 32).toNat = n) (hn : 0 < n) : ((x.toUInt32 >>> (k &&& 31).toUInt32).toInt32).toInt = ((x.toBitVec.toNat >>> n : Nat) : Int) ∧ x.toBitVec.toNat >>> n < 2 ^ (32 - n) := by
  have e : ((x.toUInt32 >>> (k &&& 31).toUInt32).toInt32).toBitVec = x.toBitVec >>> n := by
    show x.toBitVec >>> ((k &&& 31).toUInt32.toBitVec % 32) = _
    rw [BitVec.ushiftRight_eq', h]
  have hx : x.toBitVec.toNat < 2 ^ 32 := x.toBitVec.isLt
  have e2 : x.toBitVec.toNat >>> n < 2 ^ (32 - n) := by
    rw [Nat.shiftRight_eq_div_pow]
    rcases Nat.lt_or_ge n 32 with q | q
    · rw [Nat.div_lt_iff_lt_mul (Nat.two_pow_pos n), ← Nat.pow_add, Nat.sub_add_cancel (by omega)]; exact hx
    · rw [Nat.div_eq_of_lt (Nat.lt_of_lt_of_le hx (Nat.pow_le_pow_right (by decide) q))]; exact Nat.two_pow_pos _
  refine ⟨?_, e2⟩
  have e3 : 2 ^ (32 - n) ≤ 2 ^ 31 := Nat.pow_le_pow_right (by decide) (by omega)
  rw [Int32.toInt, e, BitVec.toInt_eq_toNat_of_lt (by rw [BitVec.toNat_ushiftRight]; omega), BitVec.toNat_ushiftRight]
theorem own_lit (a : Int32) (n : Int) (b : Int32) (h : a.toInt = n) (hb : b.toInt = n) : a = b := Int32.toInt_inj.mp (h.trans hb.symm)
theorem own_four (a : Int32) (h0 : 0 ≤ a.toInt) (h1 : a.toInt < 4) : a = 0 ∨ a = 1 ∨ a = 2 ∨ a = 3 := by
  have q : a.toInt = 0 ∨ a.toInt = 1 ∨ a.toInt = 2 ∨ a.toInt = 3 := by omega
  rcases q with q | q | q | q
  · exact Or.inl (own_lit _ _ _ q rfl)
  · exact Or.inr (Or.inl (own_lit _ _ _ q rfl))
  · exact Or.inr (Or.inr (Or.inl (own_lit _ _ _ q rfl)))
  · exact Or.inr (Or.inr (Or.inr (own_lit _ _ _ q rfl)))
theorem own_byte (a : Int32) (h0 : 0 ≤ a.toInt) (h1 : a.toInt < 128) : a.toInt8.toInt32 = a := by
  apply Int32.toInt_inj.mp
  rw [Int8.toInt_toInt32, Int32.toInt_toInt8, Int.bmod_def]; split <;> omega
theorem own_bm64 (z : Int) (h1 : -9223372036854775808 ≤ z) (h2 : z < 9223372036854775808) : z.bmod (2 ^ 64) = z := by
  rw [Int.bmod_def]; split <;> omega
theorem own_subL (a b : Int64) (h1 : -9223372036854775808 ≤ a.toInt - b.toInt) (h2 : a.toInt - b.toInt < 9223372036854775808) : (a - b).toInt = a.toInt - b.toInt := by
  rw [Int64.toInt_sub, own_bm64 _ h1 h2]
theorem own_mulL (a b : Int64) (h1 : -9223372036854775808 ≤ a.toInt * b.toInt) (h2 : a.toInt * b.toInt < 9223372036854775808) : (a * b).toInt = a.toInt * b.toInt := by
  rw [Int64.toInt_mul, own_bm64 _ h1 h2]
theorem own_addL (a b : Int64) (h1 : -9223372036854775808 ≤ a.toInt + b.toInt) (h2 : a.toInt + b.toInt < 9223372036854775808) : (a + b).toInt = a.toInt + b.toInt := by
  rw [Int64.toInt_add, own_bm64 _ h1 h2]
theorem own_maskL (x : Int64) (M : Nat) (hM : M < 2 ^ 63) : 0 ≤ (x &&& Int64.ofNat M).toInt ∧ (x &&& Int64.ofNat M).toInt ≤ M := by
  have h1 : (x &&& Int64.ofNat M).toBitVec.toNat = x.toBitVec.toNat &&& M := by
    rw [Int64.toBitVec_and, BitVec.toNat_and]
    congr 1
    show (BitVec.ofNat 64 M).toNat = M
    rw [BitVec.toNat_ofNat]; omega
  have h2 : x.toBitVec.toNat &&& M ≤ M := Nat.and_le_right
  rw [Int64.toInt, BitVec.toInt_eq_toNat_of_lt (by rw [h1]; omega), h1]
  omega
theorem own_shrL (x : Int64) (k : Int32) (n : Nat) (h : ((k &&& 0x3f).toInt64.toBitVec.smod 64).toNat = n) : (x >>> (k &&& 0x3f).toInt64).toInt = x.toInt >>> n := by
  show (x.toBitVec.sshiftRight' ((k &&& 0x3f).toInt64.toBitVec.smod 64)).toInt = _
  rw [BitVec.sshiftRight', h, BitVec.toInt_sshiftRight]; rfl
theorem own_tie (q : Int64) (h0 : 0 ≤ q.toInt) (h1 : q.toInt < 2147483648) : q.toInt32.toInt64 = q := by
  apply Int64.toInt_inj.mp
  rw [Int32.toInt_toInt64, Int64.toInt_toInt32, Int.bmod_def]; split <;> omega
theorem own_b0 (p : Int32) (x : Int64) (h : x = ((p &&& (536870911 : Int32)).toInt64)) : 0 ≤ x.toInt ∧ x.toInt ≤ 536870911 := by
  have q := own_mask0 p 536870911 (by decide)
  rw [h, Int32.toInt_toInt64]; exact q
theorem own_b1 (p : Int32) (x y : Int64) (n : Int) (hn : n ≤ 1600000000) (hx : 0 ≤ x.toInt ∧ x.toInt ≤ n) (h : y = ((x + (1 : Int64)) + ((p &&& (536870911 : Int32)).toInt64))) : x.toInt < y.toInt ∧ 0 ≤ y.toInt ∧ y.toInt ≤ n + 536870912 := by
  have q := own_b0 p _ rfl
  have e1 : (1 : Int64).toInt = 1 := rfl
  have e2 : (x + (1 : Int64)).toInt = x.toInt + 1 := by rw [own_addL _ _ (by omega) (by omega), e1]
  have e3 : y.toInt = x.toInt + 1 + ((p &&& (536870911 : Int32)).toInt64).toInt := by
    rw [h, own_addL _ _ (by omega) (by omega), e2]
  omega
theorem own_gt (x y : Int64) (hx : 0 ≤ x.toInt ∧ x.toInt < 2147483648) (h : x.toInt < y.toInt) (hy : y.toInt < 2147483648) : (0 : Int64) < (y - (x.toInt32.toInt64)) := by
  have e0 : (0 : Int64).toInt = 0 := rfl
  rw [own_tie x hx.1 hx.2, Int64.lt_iff_toInt_lt, e0, own_subL _ _ (by omega) (by omega)]; omega
theorem own_o0 (a : Int64) : (a - a) = (0 : Int64) := Int64.sub_self a
theorem own_o1 (a k : Int64) : ((a + k) - a) = k := by rw [Int64.add_comm, Int64.add_sub_cancel]
theorem own_and7 (p x : Int32) (h : x = (p &&& (7 : Int32))) : x = (0 : Int32) ∨ x = (1 : Int32) ∨ x = (2 : Int32) ∨ x = (3 : Int32) ∨ x = (4 : Int32) ∨ x = (5 : Int32) ∨ x = (6 : Int32) ∨ x = (7 : Int32) := by
  have q := own_mask0 p 7 (by decide)
  have q' : 0 ≤ x.toInt ∧ x.toInt ≤ 7 := by rw [h]; exact q
  have r : x.toInt = 0 ∨ x.toInt = 1 ∨ x.toInt = 2 ∨ x.toInt = 3 ∨ x.toInt = 4 ∨ x.toInt = 5 ∨ x.toInt = 6 ∨ x.toInt = 7 := by omega
  rcases r with q | q | q | q | q | q | q | q
  · exact Or.inl (own_lit _ _ _ q rfl)
  · exact Or.inr (Or.inl (own_lit _ _ _ q rfl))
  · exact Or.inr (Or.inr (Or.inl (own_lit _ _ _ q rfl)))
  · exact Or.inr (Or.inr (Or.inr (Or.inl (own_lit _ _ _ q rfl))))
  · exact Or.inr (Or.inr (Or.inr (Or.inr (Or.inl (own_lit _ _ _ q rfl)))))
  · exact Or.inr (Or.inr (Or.inr (Or.inr (Or.inr (Or.inl (own_lit _ _ _ q rfl))))))
  · exact Or.inr (Or.inr (Or.inr (Or.inr (Or.inr (Or.inr (Or.inl (own_lit _ _ _ q rfl)))))))
  · exact Or.inr (Or.inr (Or.inr (Or.inr (Or.inr (Or.inr (Or.inr (own_lit _ _ _ q rfl)))))))
theorem own_tr (x y t : Int64) (h : x.toInt < y.toInt) (k : y < t) : x < t := by
  rw [Int64.lt_iff_toInt_lt] at k ⊢; omega
theorem own_k1 (t x : Int64) : (¬ (x < t)) ∨ (x < t) := (Classical.em _).symm
theorem own_k2 (t x y : Int64) (h : x.toInt < y.toInt) : (¬ (x < t) ∧ ¬ (y < t)) ∨ (x < t ∧ ¬ (y < t)) ∨ (x < t ∧ y < t) := by
  by_cases a : y < t
  · exact Or.inr (Or.inr ⟨own_tr _ _ _ h a, a⟩)
  · by_cases b : x < t
    · exact Or.inr (Or.inl ⟨b, a⟩)
    · exact Or.inl ⟨b, a⟩
theorem own_k3 (t x y z : Int64) (h : x.toInt < y.toInt) (h2 : y.toInt < z.toInt) : (¬ (x < t) ∧ ¬ (y < t) ∧ ¬ (z < t)) ∨ (x < t ∧ ¬ (y < t) ∧ ¬ (z < t)) ∨ (x < t ∧ y < t ∧ ¬ (z < t)) ∨ (x < t ∧ y < t ∧ z < t) := by
  by_cases a : z < t
  · exact Or.inr (Or.inr (Or.inr ⟨own_tr _ _ _ h (own_tr _ _ _ h2 a), own_tr _ _ _ h2 a, a⟩))
  · rcases own_k2 t x y h with q | q | q
    · exact Or.inl ⟨q.1, q.2, a⟩
    · exact Or.inr (Or.inl ⟨q.1, q.2, a⟩)
    · exact Or.inr (Or.inr (Or.inl ⟨q.1, q.2, a⟩))
theorem own_and3 (p x : Int32) (h : x = (p &&& (3 : Int32))) : x = (0 : Int32) ∨ x = (1 : Int32) ∨ x = (2 : Int32) ∨ x = (3 : Int32) := by
  have q := own_mask0 p 3 (by decide)
  have q' : 0 ≤ x.toInt ∧ x.toInt ≤ 3 := by rw [h]; exact q
  exact own_four x q'.1 (by omega)
theorem d1_0 : decode prog_89_method_1_code 0 = .ok (.aload_n 0, 1) := by decide +kernel
theorem d1_1 : decode prog_89_method_1_code 1 = .ok (.invokespecial 5, 3) := by decide +kernel
theorem d1_4 : decode prog_89_method_1_code 4 = .ok (.aload_n 0, 1) := by decide +kernel
theorem d1_5 : decode prog_89_method_1_code 5 = .ok (.bipush 16, 2) := by decide +kernel
theorem d1_7 : decode prog_89_method_1_code 7 = .ok (.newarray .int, 2) := by decide +kernel
theorem d1_9 : decode prog_89_method_1_code 9 = .ok (.putfield 13, 3) := by decide +kernel
theorem d1_12 : decode prog_89_method_1_code 12 = .ok (.aload_n 0, 1) := by decide +kernel
theorem d1_13 : decode prog_89_method_1_code 13 = .ok (.bipush 16, 2) := by decide +kernel
theorem d1_15 : decode prog_89_method_1_code 15 = .ok (.newarray .int, 2) := by decide +kernel
theorem d1_17 : decode prog_89_method_1_code 17 = .ok (.putfield 17, 3) := by decide +kernel
theorem d1_20 : decode prog_89_method_1_code 20 = .ok (.aload_n 0, 1) := by decide +kernel
theorem d1_21 : decode prog_89_method_1_code 21 = .ok (.bipush 16, 2) := by decide +kernel
theorem d1_23 : decode prog_89_method_1_code 23 = .ok (.newarray .long, 2) := by decide +kernel
theorem d1_25 : decode prog_89_method_1_code 25 = .ok (.putfield 20, 3) := by decide +kernel
theorem d1_28 : decode prog_89_method_1_code 28 = .ok (.aload_n 0, 1) := by decide +kernel
theorem d1_29 : decode prog_89_method_1_code 29 = .ok (.ldc2_w 24, 3) := by decide +kernel
theorem d1_32 : decode prog_89_method_1_code 32 = .ok (.putfield 26, 3) := by decide +kernel
theorem d1_35 : decode prog_89_method_1_code 35 = .ok (.aload_n 0, 1) := by decide +kernel
theorem d1_36 : decode prog_89_method_1_code 36 = .ok (.lload_n 1, 1) := by decide +kernel
theorem d1_37 : decode prog_89_method_1_code 37 = .ok (.putfield 30, 3) := by decide +kernel
theorem d1_40 : decode prog_89_method_1_code 40 = .ok (.aload_n 0, 1) := by decide +kernel
theorem d1_41 : decode prog_89_method_1_code 41 = .ok (.lload_n 3, 1) := by decide +kernel
theorem d1_42 : decode prog_89_method_1_code 42 = .ok (.putfield 33, 3) := by decide +kernel
theorem d1_45 : decode prog_89_method_1_code 45 = .ok (.return_, 1) := by decide +kernel
theorem pn_1 : plainName "com/example/tote/tote/storage/OffsetIndex" = true := by first | (simp [plainName, overriddenIn]; done) | decide +kernel
theorem ef_1 (m : MethodId) (x0 : Addr) (x1 : Int64) (x2 : Int64) : entryFrame m #[(.ref x0), (.long x1), (.long x2)] 5 = mkF m 0 #[.val (.ref x0), .val (.long x1), .second, .val (.long x2), .second] [] := by first | (simp [entryFrame, mkF, argsToLocals, Value.category]; done) | rfl
def Q1 (Z : State) (a1 : Addr) (q2 : Int64) (q3 : Int64) (u0 : Value) (u1 : Value) (u2 : Value) (u3 : Value) (u4 : Value) (u5 : Value) (h0 : Heap) (n0 : Nat) (v : Option Value) (h : Heap) (L : List Loc) : Prop := ∃ (b1 : Addr) (b2 : Addr) (b3 : Addr) (k1 : ClassId) (k2 : ClassId) (k3 : ClassId), v = none ∧ Fr n0 L ∧ Keep h0 h [a1] ∧ Exa Z h a1 "com/example/tote/tote/storage/OffsetIndex" ∧ Fld Z h a1 "com/example/tote/tote/storage/OffsetIndex" "mOffsets" "[I" (.ref b1) ∧ Fld Z h a1 "com/example/tote/tote/storage/OffsetIndex" "mPositions" "[I" (.ref b2) ∧ Fld Z h a1 "com/example/tote/tote/storage/OffsetIndex" "mTimestamps" "[J" (.ref b3) ∧ Fld Z h a1 "com/example/tote/tote/storage/OffsetIndex" "mMaxTimestamp" "J" (.long (-9223372036854775808 : Int64)) ∧ Fld Z h a1 "com/example/tote/tote/storage/OffsetIndex" "mBaseOffset" "J" (.long q2) ∧ Fld Z h a1 "com/example/tote/tote/storage/OffsetIndex" "mIntervalBytes" "J" (.long q3) ∧ Fld Z h a1 "com/example/tote/tote/storage/OffsetIndex" "mCount" "I" (.int (0 : Int32)) ∧ Arv Z h b1 k1 .int (16 : Int32) [(.int (0 : Int32)), (.int (0 : Int32)), (.int (0 : Int32)), (.int (0 : Int32)), (.int (0 : Int32)), (.int (0 : Int32)), (.int (0 : Int32)), (.int (0 : Int32)), (.int (0 : Int32)), (.int (0 : Int32)), (.int (0 : Int32)), (.int (0 : Int32)), (.int (0 : Int32)), (.int (0 : Int32)), (.int (0 : Int32)), (.int (0 : Int32))] (.int (0 : Int32)) ∧ Arv Z h b2 k2 .int (16 : Int32) [(.int (0 : Int32)), (.int (0 : Int32)), (.int (0 : Int32)), (.int (0 : Int32)), (.int (0 : Int32)), (.int (0 : Int32)), (.int (0 : Int32)), (.int (0 : Int32)), (.int (0 : Int32)), (.int (0 : Int32)), (.int (0 : Int32)), (.int (0 : Int32)), (.int (0 : Int32)), (.int (0 : Int32)), (.int (0 : Int32)), (.int (0 : Int32))] (.int (0 : Int32)) ∧ Arv Z h b3 k3 .long (16 : Int32) [(.long (0 : Int64)), (.long (0 : Int64)), (.long (0 : Int64)), (.long (0 : Int64)), (.long (0 : Int64)), (.long (0 : Int64)), (.long (0 : Int64)), (.long (0 : Int64)), (.long (0 : Int64)), (.long (0 : Int64)), (.long (0 : Int64)), (.long (0 : Int64)), (.long (0 : Int64)), (.long (0 : Int64)), (.long (0 : Int64)), (.long (0 : Int64))] (.long (0 : Int64)) ∧ h0.size ≤ b1 ∧ h0.size ≤ b2 ∧ h0.size ≤ b3 ∧ a1 ≠ b1 ∧ a1 ≠ b2 ∧ a1 ≠ b3 ∧ b1 ≠ b2 ∧ b1 ≠ b3 ∧ b2 ≠ b3
set_option maxRecDepth 65536 in
set_option maxHeartbeats 40000000 in
theorem rm1 (l : Launch) (Z : State) (a0 : Array Value) (hw : ∀ d ∈ tables_1, d.before a0 Z = true) (ws : List Jvm.Cond) (a1 : Addr) (q2 : Int64) (q3 : Int64) (u0 : Value) (u1 : Value) (u2 : Value) (u3 : Value) (u4 : Value) (u5 : Value) (h0 : Heap) (n0 : Nat) (Z0 : n0 ≤ h0.size) (E_a1 : Exa Z h0 a1 "com/example/tote/tote/storage/OffsetIndex") (F_mOffsets_a1 : Fld Z h0 a1 "com/example/tote/tote/storage/OffsetIndex" "mOffsets" "[I" u0) (F_mPositions_a1 : Fld Z h0 a1 "com/example/tote/tote/storage/OffsetIndex" "mPositions" "[I" u1) (F_mTimestamps_a1 : Fld Z h0 a1 "com/example/tote/tote/storage/OffsetIndex" "mTimestamps" "[J" u2) (F_mMaxTimestamp_a1 : Fld Z h0 a1 "com/example/tote/tote/storage/OffsetIndex" "mMaxTimestamp" "J" u3) (F_mBaseOffset_a1 : Fld Z h0 a1 "com/example/tote/tote/storage/OffsetIndex" "mBaseOffset" "J" u4) (F_mIntervalBytes_a1 : Fld Z h0 a1 "com/example/tote/tote/storage/OffsetIndex" "mIntervalBytes" "J" u5) (F_mCount_a1 : Fld Z h0 a1 "com/example/tote/tote/storage/OffsetIndex" "mCount" "I" (.int (0 : Int32))) (g_a1 : n0 ≤ a1) :
    MetFree l (⟨"com/example/tote/tote/storage/OffsetIndex", "<init>", "(JJ)V"⟩ : MethodName) (head1 (Jvm.Cond.code (⟨"com/example/tote/tote/storage/OffsetIndex", "<init>", "(JJ)V"⟩ : MethodName) prog_89_method_1_code 5 none :: ws) ({ frames := 1, cells := 3, slots := 48, locals := 12 } : Room)) (fun a U => a = #[(.ref a1), (.long q2), (.long q3)] ∧ Z.Warmed39 U.vm ∧ U.heap = h0) (fun _ _ _ _ _ => True) (fun _ U o U' => ∃ v L, o = .returned v ∧ Q1 Z a1 q2 q3 u0 u1 u2 u3 u4 u5 h0 n0 v U'.heap L ∧ FrameEnd U o U' L ({ frames := 1, cells := 3, slots := 48, locals := 12 } : Room).cells ({ frames := 1, cells := 3, slots := 48, locals := 12 } : Room).slots) := by
  refine MetFree.of_bodySF (plainFor_of_name pn_1) hisR ?_
  intro p e s m args below meth c s₁ Bd hml0 hP hK
  obtain ⟨rfl, hZ, hh⟩ := hP
  have hx := Bd.exec
  have hby := Bd.bytes
  have hml : c.maxLocals = 5 := hml0
  have hown : s.vm.findClass "com/example/tote/tote/storage/OffsetIndex" = some m.cls := findClass_of_methodNamed Bd.named
  have hnm := (name_of_methodNamed Bd.named Bd.method).1
  have hret := Bd.returns
  have hlk : meth.locks = false := BodyLoose.notSynchronized Bd
  have X0 : Stand p l e ({ frames := 1, cells := 3, slots := 48, locals := 12 } : Room) s m #[(.ref a1), (.long q2), (.long q3)] below meth c s₁ [] 0 0 := Stand.of_body Bd
  have e0 : s₁.heap = h0 := by rw [← hh, Bd.state]; rfl
  have N0 := Fr.nil n0
  have W := fun (k : Nat) {d : Jvm.Cond} (h : tables_1[k]? = some d) => hw d (List.mem_of_getElem? h)
  have K0 : Keep h0 h0 [a1] := Keep.refl _ _
  refine own_start (ef_1 m a1 q2 q3) ?_
  show own_Run p e below _ s₁ (mkF m 0 #[.val (.ref a1), .val (.long q2), .second, .val (.long q3), .second] [])
  refine own_go (fun _ k => XS.aloadN X0.here hx rfl (hb hby d1_0) rfl rfl k) ?_
  show own_Run p e below _ s₁ (mkF m 1 #[.val (.ref a1), .val (.long q2), .second, .val (.long q3), .second] [(.ref a1)])
  obtain ⟨T1, X1, e1, st1⟩ := initO X0 hx hZ hown (W 8 rfl) (W 9 rfl) (W 10 rfl) e0 (g := (mkF m 1 #[.val (.ref a1), .val (.long q2), .second, .val (.long q3), .second] [(.ref a1)])) rfl (by rw [hml]; rfl) rfl (hb hby d1_1) (by decide) (W := 0) (by show 2 * 0 + _ ≤ _; exact Nat.le_of_eq rfl) (by decide)
  refine own_go st1 ?_
  show own_Run p e below _ T1 (mkF m 4 #[.val (.ref a1), .val (.long q2), .second, .val (.long q3), .second] [])
  refine own_go (fun _ k => XS.aloadN X1.here hx rfl (hb hby d1_4) rfl rfl k) ?_
  refine own_go (fun _ k => XS.bipush X1.here hx rfl (hb hby d1_5) k) ?_
  show own_Run p e below _ T1 (mkF m 7 #[.val (.ref a1), .val (.long q2), .second, .val (.long q3), .second] [(.int (16 : Int32)), (.ref a1)])
  obtain ⟨T2, h2, k2, X2, e2, E2, A2, st2⟩ := newP X1 hx hZ (W 11 rfl) e1 (g := (mkF m 7 #[.val (.ref a1), .val (.long q2), .second, .val (.long q3), .second] [(.int (16 : Int32)), (.ref a1)])) rfl (hb hby d1_7) rfl (by decide) (cap := 16) (by decide) (by decide) (by decide) (by decide)
  refine own_go st2 ?_
  obtain ⟨b2, g2⟩ : ∃ z, z = h0.size := ⟨_, rfl⟩
  rw [← g2] at A2
  rw [← g2]
  show own_Run p e below _ T2 (mkF m 9 #[.val (.ref a1), .val (.long q2), .second, .val (.long q3), .second] [(.ref b2), (.ref a1)])
  have ne_a1_b2 : a1 ≠ b2 := Nat.ne_of_lt (Nat.lt_of_lt_of_eq E_a1.lt g2.symm)
  have g_b2 : n0 ≤ b2 := Nat.le_trans Z0 (Nat.le_of_eq g2.symm)
  have sz_b2 : h0.size ≤ b2 := Nat.le_trans K0.1 (Nat.le_of_eq g2.symm)
  have Z0_c3 := Nat.le_trans Z0 E2.1
  have K0_c3 := K0.ext E2
  have E_a1_c3 := E_a1.ext E2
  have F_mOffsets_a1_c3 := F_mOffsets_a1.ext E2
  have F_mPositions_a1_c3 := F_mPositions_a1.ext E2
  have F_mTimestamps_a1_c3 := F_mTimestamps_a1.ext E2
  have F_mMaxTimestamp_a1_c3 := F_mMaxTimestamp_a1.ext E2
  have F_mBaseOffset_a1_c3 := F_mBaseOffset_a1.ext E2
  have F_mIntervalBytes_a1_c3 := F_mIntervalBytes_a1.ext E2
  have F_mCount_a1_c3 := F_mCount_a1.ext E2
  have V_b2 : Arv Z h2 b2 k2 .int (16 : Int32) [(.int (0 : Int32)), (.int (0 : Int32)), (.int (0 : Int32)), (.int (0 : Int32)), (.int (0 : Int32)), (.int (0 : Int32)), (.int (0 : Int32)), (.int (0 : Int32)), (.int (0 : Int32)), (.int (0 : Int32)), (.int (0 : Int32)), (.int (0 : Int32)), (.int (0 : Int32)), (.int (0 : Int32)), (.int (0 : Int32)), (.int (0 : Int32))] (.int (0 : Int32)) := (Arv.new A2 (by decide)).pad (pad_rep [] (.int (0 : Int32)) 16)
  obtain ⟨T4, h4, X4, e4, W4, st4⟩ := putF X2 hx hZ hown (host := "") (Or.inl (W 12 rfl)) Via.refl e2 F_mOffsets_a1_c3 E_a1_c3 (Or.inl (W 13 rfl)) (W 3 rfl) (ty := (.array .int)) (by decide) rfl rfl (g := (mkF m 9 #[.val (.ref a1), .val (.long q2), .second, .val (.long q3), .second] [(.ref b2), (.ref a1)])) rfl rfl (hb hby d1_9)
  refine own_go st4 ?_
  show own_Run p e below _ T4 (mkF m 12 #[.val (.ref a1), .val (.long q2), .second, .val (.long q3), .second] [])
  have Z0_c5 := Nat.le_trans Z0_c3 (Keep.of_wr W4).1
  have K0_c5 := K0_c3.wr W4 (Or.inl (List.mem_of_getElem? (i := 0) rfl))
  have E_a1_c5 := E_a1_c3.wr W4
  have F_mPositions_a1_c5 := F_mPositions_a1_c3.other W4 (Or.inr (slot_ne (Or.inl (W 15 rfl)) (Or.inl (W 13 rfl)) (by decide) (t := (.array .int)) (t' := (.array .int)) (by decide) (by decide)))
  have F_mTimestamps_a1_c5 := F_mTimestamps_a1_c3.other W4 (Or.inr (slot_ne (Or.inl (W 17 rfl)) (Or.inl (W 13 rfl)) (by decide) (t := (.array .long)) (t' := (.array .int)) (by decide) (by decide)))
  have F_mMaxTimestamp_a1_c5 := F_mMaxTimestamp_a1_c3.other W4 (Or.inr (slot_ne (Or.inl (W 20 rfl)) (Or.inl (W 13 rfl)) (by decide) (t := .long) (t' := (.array .int)) (by decide) (by decide)))
  have F_mBaseOffset_a1_c5 := F_mBaseOffset_a1_c3.other W4 (Or.inr (slot_ne (Or.inr (W 22 rfl)) (Or.inl (W 13 rfl)) (by decide) (t := .long) (t' := (.array .int)) (by decide) (by decide)))
  have F_mIntervalBytes_a1_c5 := F_mIntervalBytes_a1_c3.other W4 (Or.inr (slot_ne (Or.inr (W 24 rfl)) (Or.inl (W 13 rfl)) (by decide) (t := .long) (t' := (.array .int)) (by decide) (by decide)))
  have F_mCount_a1_c5 := F_mCount_a1_c3.other W4 (Or.inr (slot_ne (Or.inl (W 31 rfl)) (Or.inl (W 13 rfl)) (by decide) (t := .int) (t' := (.array .int)) (by decide) (by decide)))
  have V_b2_c5 := V_b2.other W4 (Ne.symm ne_a1_b2)
  have F_mOffsets_a1_c4 : Fld Z h4 a1 "com/example/tote/tote/storage/OffsetIndex" "mOffsets" "[I" (.ref b2) := F_mOffsets_a1_c3.same W4
  have N4 := Fr.snoc X4 N0 g_a1
  refine own_go (fun _ k => XS.aloadN X4.here hx rfl (hb hby d1_12) rfl rfl k) ?_
  refine own_go (fun _ k => XS.bipush X4.here hx rfl (hb hby d1_13) k) ?_
  show own_Run p e below _ T4 (mkF m 15 #[.val (.ref a1), .val (.long q2), .second, .val (.long q3), .second] [(.int (16 : Int32)), (.ref a1)])
  obtain ⟨T6, h6, k6, X6, e6, E6, A6, st6⟩ := newP X4 hx hZ (W 11 rfl) e4 (g := (mkF m 15 #[.val (.ref a1), .val (.long q2), .second, .val (.long q3), .second] [(.int (16 : Int32)), (.ref a1)])) rfl (hb hby d1_15) rfl (by decide) (cap := 16) (by decide) (by decide) (by decide) (by decide)
  refine own_go st6 ?_
  obtain ⟨b6, g6⟩ : ∃ z, z = h4.size := ⟨_, rfl⟩
  rw [← g6] at A6
  rw [← g6]
  show own_Run p e below _ T6 (mkF m 17 #[.val (.ref a1), .val (.long q2), .second, .val (.long q3), .second] [(.ref b6), (.ref a1)])
  have ne_a1_b6 : a1 ≠ b6 := Nat.ne_of_lt (Nat.lt_of_lt_of_eq E_a1_c5.lt g6.symm)
  have ne_b2_b6 : b2 ≠ b6 := Nat.ne_of_lt (Nat.lt_of_lt_of_eq V_b2_c5.lt g6.symm)
  have g_b6 : n0 ≤ b6 := Nat.le_trans Z0_c5 (Nat.le_of_eq g6.symm)
  have sz_b6 : h0.size ≤ b6 := Nat.le_trans K0_c5.1 (Nat.le_of_eq g6.symm)
  have Z0_c7 := Nat.le_trans Z0_c5 E6.1
  have K0_c7 := K0_c5.ext E6
  have E_a1_c7 := E_a1_c5.ext E6
  have F_mPositions_a1_c7 := F_mPositions_a1_c5.ext E6
  have F_mTimestamps_a1_c7 := F_mTimestamps_a1_c5.ext E6
  have F_mMaxTimestamp_a1_c7 := F_mMaxTimestamp_a1_c5.ext E6
  have F_mBaseOffset_a1_c7 := F_mBaseOffset_a1_c5.ext E6
  have F_mIntervalBytes_a1_c7 := F_mIntervalBytes_a1_c5.ext E6
  have F_mCount_a1_c7 := F_mCount_a1_c5.ext E6
  have V_b2_c7 := V_b2_c5.ext E6
  have F_mOffsets_a1_c7 := F_mOffsets_a1_c4.ext E6
  have V_b6 : Arv Z h6 b6 k6 .int (16 : Int32) [(.int (0 : Int32)), (.int (0 : Int32)), (.int (0 : Int32)), (.int (0 : Int32)), (.int (0 : Int32)), (.int (0 : Int32)), (.int (0 : Int32)), (.int (0 : Int32)), (.int (0 : Int32)), (.int (0 : Int32)), (.int (0 : Int32)), (.int (0 : Int32)), (.int (0 : Int32)), (.int (0 : Int32)), (.int (0 : Int32)), (.int (0 : Int32))] (.int (0 : Int32)) := (Arv.new A6 (by decide)).pad (pad_rep [] (.int (0 : Int32)) 16)
  obtain ⟨T8, h8, X8, e8, W8, st8⟩ := putF X6 hx hZ hown (host := "") (Or.inl (W 14 rfl)) Via.refl e6 F_mPositions_a1_c7 E_a1_c7 (Or.inl (W 15 rfl)) (W 3 rfl) (ty := (.array .int)) (by decide) rfl rfl (g := (mkF m 17 #[.val (.ref a1), .val (.long q2), .second, .val (.long q3), .second] [(.ref b6), (.ref a1)])) rfl rfl (hb hby d1_17)
  refine own_go st8 ?_
  show own_Run p e below _ T8 (mkF m 20 #[.val (.ref a1), .val (.long q2), .second, .val (.long q3), .second] [])
  have Z0_c9 := Nat.le_trans Z0_c7 (Keep.of_wr W8).1
  have K0_c9 := K0_c7.wr W8 (Or.inl (List.mem_of_getElem? (i := 0) rfl))
  have E_a1_c9 := E_a1_c7.wr W8
  have F_mTimestamps_a1_c9 := F_mTimestamps_a1_c7.other W8 (Or.inr (slot_ne (Or.inl (W 17 rfl)) (Or.inl (W 15 rfl)) (by decide) (t := (.array .long)) (t' := (.array .int)) (by decide) (by decide)))
  have F_mMaxTimestamp_a1_c9 := F_mMaxTimestamp_a1_c7.other W8 (Or.inr (slot_ne (Or.inl (W 20 rfl)) (Or.inl (W 15 rfl)) (by decide) (t := .long) (t' := (.array .int)) (by decide) (by decide)))
  have F_mBaseOffset_a1_c9 := F_mBaseOffset_a1_c7.other W8 (Or.inr (slot_ne (Or.inr (W 22 rfl)) (Or.inl (W 15 rfl)) (by decide) (t := .long) (t' := (.array .int)) (by decide) (by decide)))
  have F_mIntervalBytes_a1_c9 := F_mIntervalBytes_a1_c7.other W8 (Or.inr (slot_ne (Or.inr (W 24 rfl)) (Or.inl (W 15 rfl)) (by decide) (t := .long) (t' := (.array .int)) (by decide) (by decide)))
  have F_mCount_a1_c9 := F_mCount_a1_c7.other W8 (Or.inr (slot_ne (Or.inl (W 31 rfl)) (Or.inl (W 15 rfl)) (by decide) (t := .int) (t' := (.array .int)) (by decide) (by decide)))
  have V_b2_c9 := V_b2_c7.other W8 (Ne.symm ne_a1_b2)
  have F_mOffsets_a1_c9 := F_mOffsets_a1_c7.other W8 (Or.inr (slot_ne (Or.inl (W 13 rfl)) (Or.inl (W 15 rfl)) (by decide) (t := (.array .int)) (t' := (.array .int)) (by decide) (by decide)))
  have V_b6_c9 := V_b6.other W8 (Ne.symm ne_a1_b6)
  have F_mPositions_a1_c8 : Fld Z h8 a1 "com/example/tote/tote/storage/OffsetIndex" "mPositions" "[I" (.ref b6) := F_mPositions_a1_c7.same W8
  have N8 := Fr.snoc X8 N4 g_a1
  refine own_go (fun _ k => XS.aloadN X8.here hx rfl (hb hby d1_20) rfl rfl k) ?_
  refine own_go (fun _ k => XS.bipush X8.here hx rfl (hb hby d1_21) k) ?_
  show own_Run p e below _ T8 (mkF m 23 #[.val (.ref a1), .val (.long q2), .second, .val (.long q3), .second] [(.int (16 : Int32)), (.ref a1)])
  obtain ⟨T10, h10, k10, X10, e10, E10, A10, st10⟩ := newP X8 hx hZ (W 1 rfl) e8 (g := (mkF m 23 #[.val (.ref a1), .val (.long q2), .second, .val (.long q3), .second] [(.int (16 : Int32)), (.ref a1)])) rfl (hb hby d1_23) rfl (by decide) (cap := 16) (by decide) (by decide) (by decide) (by decide)
  refine own_go st10 ?_
  obtain ⟨b10, g10⟩ : ∃ z, z = h8.size := ⟨_, rfl⟩
  rw [← g10] at A10
  rw [← g10]
  show own_Run p e below _ T10 (mkF m 25 #[.val (.ref a1), .val (.long q2), .second, .val (.long q3), .second] [(.ref b10), (.ref a1)])
  have ne_a1_b10 : a1 ≠ b10 := Nat.ne_of_lt (Nat.lt_of_lt_of_eq E_a1_c9.lt g10.symm)
  have ne_b2_b10 : b2 ≠ b10 := Nat.ne_of_lt (Nat.lt_of_lt_of_eq V_b2_c9.lt g10.symm)
  have ne_b6_b10 : b6 ≠ b10 := Nat.ne_of_lt (Nat.lt_of_lt_of_eq V_b6_c9.lt g10.symm)
  have g_b10 : n0 ≤ b10 := Nat.le_trans Z0_c9 (Nat.le_of_eq g10.symm)
  have sz_b10 : h0.size ≤ b10 := Nat.le_trans K0_c9.1 (Nat.le_of_eq g10.symm)
  have Z0_c11 := Nat.le_trans Z0_c9 E10.1
  have K0_c11 := K0_c9.ext E10
  have E_a1_c11 := E_a1_c9.ext E10
  have F_mTimestamps_a1_c11 := F_mTimestamps_a1_c9.ext E10
  have F_mMaxTimestamp_a1_c11 := F_mMaxTimestamp_a1_c9.ext E10
  have F_mBaseOffset_a1_c11 := F_mBaseOffset_a1_c9.ext E10
  have F_mIntervalBytes_a1_c11 := F_mIntervalBytes_a1_c9.ext E10
  have F_mCount_a1_c11 := F_mCount_a1_c9.ext E10
  have V_b2_c11 := V_b2_c9.ext E10
  have F_mOffsets_a1_c11 := F_mOffsets_a1_c9.ext E10
  have V_b6_c11 := V_b6_c9.ext E10
  have F_mPositions_a1_c11 := F_mPositions_a1_c8.ext E10
  have V_b10 : Arv Z h10 b10 k10 .long (16 : Int32) [(.long (0 : Int64)), (.long (0 : Int64)), (.long (0 : Int64)), (.long (0 : Int64)), (.long (0 : Int64)), (.long (0 : Int64)), (.long (0 : Int64)), (.long (0 : Int64)), (.long (0 : Int64)), (.long (0 : Int64)), (.long (0 : Int64)), (.long (0 : Int64)), (.long (0 : Int64)), (.long (0 : Int64)), (.long (0 : Int64)), (.long (0 : Int64))] (.long (0 : Int64)) := (Arv.new A10 (by decide)).pad (pad_rep [] (.long (0 : Int64)) 16)
  obtain ⟨T12, h12, X12, e12, W12, st12⟩ := putF X10 hx hZ hown (host := "") (Or.inl (W 16 rfl)) Via.refl e10 F_mTimestamps_a1_c11 E_a1_c11 (Or.inl (W 17 rfl)) (W 3 rfl) (ty := (.array .long)) (by decide) rfl rfl (g := (mkF m 25 #[.val (.ref a1), .val (.long q2), .second, .val (.long q3), .second] [(.ref b10), (.ref a1)])) rfl rfl (hb hby d1_25)
  refine own_go st12 ?_
  show own_Run p e below _ T12 (mkF m 28 #[.val (.ref a1), .val (.long q2), .second, .val (.long q3), .second] [])
  have Z0_c13 := Nat.le_trans Z0_c11 (Keep.of_wr W12).1
  have K0_c13 := K0_c11.wr W12 (Or.inl (List.mem_of_getElem? (i := 0) rfl))
  have E_a1_c13 := E_a1_c11.wr W12
  have F_mMaxTimestamp_a1_c13 := F_mMaxTimestamp_a1_c11.other W12 (Or.inr (slot_ne (Or.inl (W 20 rfl)) (Or.inl (W 17 rfl)) (by decide) (t := .long) (t' := (.array .long)) (by decide) (by decide)))
  have F_mBaseOffset_a1_c13 := F_mBaseOffset_a1_c11.other W12 (Or.inr (slot_ne (Or.inr (W 22 rfl)) (Or.inl (W 17 rfl)) (by decide) (t := .long) (t' := (.array .long)) (by decide) (by decide)))
  have F_mIntervalBytes_a1_c13 := F_mIntervalBytes_a1_c11.other W12 (Or.inr (slot_ne (Or.inr (W 24 rfl)) (Or.inl (W 17 rfl)) (by decide) (t := .long) (t' := (.array .long)) (by decide) (by decide)))
  have F_mCount_a1_c13 := F_mCount_a1_c11.other W12 (Or.inr (slot_ne (Or.inl (W 31 rfl)) (Or.inl (W 17 rfl)) (by decide) (t := .int) (t' := (.array .long)) (by decide) (by decide)))
  have V_b2_c13 := V_b2_c11.other W12 (Ne.symm ne_a1_b2)
  have F_mOffsets_a1_c13 := F_mOffsets_a1_c11.other W12 (Or.inr (slot_ne (Or.inl (W 13 rfl)) (Or.inl (W 17 rfl)) (by decide) (t := (.array .int)) (t' := (.array .long)) (by decide) (by decide)))
  have V_b6_c13 := V_b6_c11.other W12 (Ne.symm ne_a1_b6)
  have F_mPositions_a1_c13 := F_mPositions_a1_c11.other W12 (Or.inr (slot_ne (Or.inl (W 15 rfl)) (Or.inl (W 17 rfl)) (by decide) (t := (.array .int)) (t' := (.array .long)) (by decide) (by decide)))
  have V_b10_c13 := V_b10.other W12 (Ne.symm ne_a1_b10)
  have F_mTimestamps_a1_c12 : Fld Z h12 a1 "com/example/tote/tote/storage/OffsetIndex" "mTimestamps" "[J" (.ref b10) := F_mTimestamps_a1_c11.same W12
  have N12 := Fr.snoc X12 N8 g_a1
  refine own_go (fun _ k => XS.aloadN X12.here hx rfl (hb hby d1_28) rfl rfl k) ?_
  show own_Run p e below _ T12 (mkF m 29 #[.val (.ref a1), .val (.long q2), .second, .val (.long q3), .second] [(.ref a1)])
  refine own_go (X12.ldc2Long hx hown (mvT hZ (W 18 rfl)) (g := (mkF m 29 #[.val (.ref a1), .val (.long q2), .second, .val (.long q3), .second] [(.ref a1)])) rfl (hb hby d1_29)) ?_
  show own_Run p e below _ T12 (mkF m 32 #[.val (.ref a1), .val (.long q2), .second, .val (.long q3), .second] [(.long (-9223372036854775808 : Int64)), (.ref a1)])
  obtain ⟨T14, h14, X14, e14, W14, st14⟩ := putF X12 hx hZ hown (host := "") (Or.inl (W 19 rfl)) Via.refl e12 F_mMaxTimestamp_a1_c13 E_a1_c13 (Or.inl (W 20 rfl)) (W 3 rfl) (ty := .long) (by decide) rfl rfl (g := (mkF m 32 #[.val (.ref a1), .val (.long q2), .second, .val (.long q3), .second] [(.long (-9223372036854775808 : Int64)), (.ref a1)])) rfl rfl (hb hby d1_32)
  refine own_go st14 ?_
  show own_Run p e below _ T14 (mkF m 35 #[.val (.ref a1), .val (.long q2), .second, .val (.long q3), .second] [])
  have Z0_c15 := Nat.le_trans Z0_c13 (Keep.of_wr W14).1
  have K0_c15 := K0_c13.wr W14 (Or.inl (List.mem_of_getElem? (i := 0) rfl))
  have E_a1_c15 := E_a1_c13.wr W14
  have F_mBaseOffset_a1_c15 := F_mBaseOffset_a1_c13.other W14 (Or.inr (slot_ne (Or.inr (W 22 rfl)) (Or.inl (W 20 rfl)) (by decide) (t := .long) (t' := .long) (by decide) (by decide)))
  have F_mIntervalBytes_a1_c15 := F_mIntervalBytes_a1_c13.other W14 (Or.inr (slot_ne (Or.inr (W 24 rfl)) (Or.inl (W 20 rfl)) (by decide) (t := .long) (t' := .long) (by decide) (by decide)))
  have F_mCount_a1_c15 := F_mCount_a1_c13.other W14 (Or.inr (slot_ne (Or.inl (W 31 rfl)) (Or.inl (W 20 rfl)) (by decide) (t := .int) (t' := .long) (by decide) (by decide)))
  have V_b2_c15 := V_b2_c13.other W14 (Ne.symm ne_a1_b2)
  have F_mOffsets_a1_c15 := F_mOffsets_a1_c13.other W14 (Or.inr (slot_ne (Or.inl (W 13 rfl)) (Or.inl (W 20 rfl)) (by decide) (t := (.array .int)) (t' := .long) (by decide) (by decide)))
  have V_b6_c15 := V_b6_c13.other W14 (Ne.symm ne_a1_b6)
  have F_mPositions_a1_c15 := F_mPositions_a1_c13.other W14 (Or.inr (slot_ne (Or.inl (W 15 rfl)) (Or.inl (W 20 rfl)) (by decide) (t := (.array .int)) (t' := .long) (by decide) (by decide)))
  have V_b10_c15 := V_b10_c13.other W14 (Ne.symm ne_a1_b10)
  have F_mTimestamps_a1_c15 := F_mTimestamps_a1_c12.other W14 (Or.inr (slot_ne (Or.inl (W 17 rfl)) (Or.inl (W 20 rfl)) (by decide) (t := (.array .long)) (t' := .long) (by decide) (by decide)))
  have F_mMaxTimestamp_a1_c14 : Fld Z h14 a1 "com/example/tote/tote/storage/OffsetIndex" "mMaxTimestamp" "J" (.long (-9223372036854775808 : Int64)) := F_mMaxTimestamp_a1_c13.same W14
  have N14 := Fr.snoc X14 N12 g_a1
  refine own_go (fun _ k => XS.aloadN X14.here hx rfl (hb hby d1_35) rfl rfl k) ?_
  refine own_go (fun _ k => XS.lloadN X14.here hx rfl (hb hby d1_36) rfl k) ?_
  show own_Run p e below _ T14 (mkF m 37 #[.val (.ref a1), .val (.long q2), .second, .val (.long q3), .second] [(.long q2), (.ref a1)])
  obtain ⟨T16, h16, X16, e16, W16, st16⟩ := putF X14 hx hZ hown (host := "") (Or.inl (W 21 rfl)) Via.refl e14 F_mBaseOffset_a1_c15 E_a1_c15 (Or.inr ⟨(W 22 rfl), rfl, hnm⟩) (W 3 rfl) (ty := .long) (by decide) rfl rfl (g := (mkF m 37 #[.val (.ref a1), .val (.long q2), .second, .val (.long q3), .second] [(.long q2), (.ref a1)])) rfl rfl (hb hby d1_37)
  refine own_go st16 ?_
  show own_Run p e below _ T16 (mkF m 40 #[.val (.ref a1), .val (.long q2), .second, .val (.long q3), .second] [])
  have Z0_c17 := Nat.le_trans Z0_c15 (Keep.of_wr W16).1
  have K0_c17 := K0_c15.wr W16 (Or.inl (List.mem_of_getElem? (i := 0) rfl))
  have E_a1_c17 := E_a1_c15.wr W16
  have F_mIntervalBytes_a1_c17 := F_mIntervalBytes_a1_c15.other W16 (Or.inr (slot_ne (Or.inr (W 24 rfl)) (Or.inr (W 22 rfl)) (by decide) (t := .long) (t' := .long) (by decide) (by decide)))
  have F_mCount_a1_c17 := F_mCount_a1_c15.other W16 (Or.inr (slot_ne (Or.inl (W 31 rfl)) (Or.inr (W 22 rfl)) (by decide) (t := .int) (t' := .long) (by decide) (by decide)))
  have V_b2_c17 := V_b2_c15.other W16 (Ne.symm ne_a1_b2)
  have F_mOffsets_a1_c17 := F_mOffsets_a1_c15.other W16 (Or.inr (slot_ne (Or.inl (W 13 rfl)) (Or.inr (W 22 rfl)) (by decide) (t := (.array .int)) (t' := .long) (by decide) (by decide)))
  have V_b6_c17 := V_b6_c15.other W16 (Ne.symm ne_a1_b6)
  have F_mPositions_a1_c17 := F_mPositions_a1_c15.other W16 (Or.inr (slot_ne (Or.inl (W 15 rfl)) (Or.inr (W 22 rfl)) (by decide) (t := (.array .int)) (t' := .long) (by decide) (by decide)))
  have V_b10_c17 := V_b10_c15.other W16 (Ne.symm ne_a1_b10)
  have F_mTimestamps_a1_c17 := F_mTimestamps_a1_c15.other W16 (Or.inr (slot_ne (Or.inl (W 17 rfl)) (Or.inr (W 22 rfl)) (by decide) (t := (.array .long)) (t' := .long) (by decide) (by decide)))
  have F_mMaxTimestamp_a1_c17 := F_mMaxTimestamp_a1_c14.other W16 (Or.inr (slot_ne (Or.inl (W 20 rfl)) (Or.inr (W 22 rfl)) (by decide) (t := .long) (t' := .long) (by decide) (by decide)))
  have F_mBaseOffset_a1_c16 : Fld Z h16 a1 "com/example/tote/tote/storage/OffsetIndex" "mBaseOffset" "J" (.long q2) := F_mBaseOffset_a1_c15.same W16
  have N16 := Fr.snoc X16 N14 g_a1
  refine own_go (fun _ k => XS.aloadN X16.here hx rfl (hb hby d1_40) rfl rfl k) ?_
  refine own_go (fun _ k => XS.lloadN X16.here hx rfl (hb hby d1_41) rfl k) ?_
  show own_Run p e below _ T16 (mkF m 42 #[.val (.ref a1), .val (.long q2), .second, .val (.long q3), .second] [(.long q3), (.ref a1)])
  obtain ⟨T18, h18, X18, e18, W18, st18⟩ := putF X16 hx hZ hown (host := "") (Or.inl (W 23 rfl)) Via.refl e16 F_mIntervalBytes_a1_c17 E_a1_c17 (Or.inr ⟨(W 24 rfl), rfl, hnm⟩) (W 3 rfl) (ty := .long) (by decide) rfl rfl (g := (mkF m 42 #[.val (.ref a1), .val (.long q2), .second, .val (.long q3), .second] [(.long q3), (.ref a1)])) rfl rfl (hb hby d1_42)
  refine own_go st18 ?_
  show own_Run p e below _ T18 (mkF m 45 #[.val (.ref a1), .val (.long q2), .second, .val (.long q3), .second] [])
  have Z0_c19 := Nat.le_trans Z0_c17 (Keep.of_wr W18).1
  have K0_c19 := K0_c17.wr W18 (Or.inl (List.mem_of_getElem? (i := 0) rfl))
  have E_a1_c19 := E_a1_c17.wr W18
  have F_mCount_a1_c19 := F_mCount_a1_c17.other W18 (Or.inr (slot_ne (Or.inl (W 31 rfl)) (Or.inr (W 24 rfl)) (by decide) (t := .int) (t' := .long) (by decide) (by decide)))
  have V_b2_c19 := V_b2_c17.other W18 (Ne.symm ne_a1_b2)
  have F_mOffsets_a1_c19 := F_mOffsets_a1_c17.other W18 (Or.inr (slot_ne (Or.inl (W 13 rfl)) (Or.inr (W 24 rfl)) (by decide) (t := (.array .int)) (t' := .long) (by decide) (by decide)))
  have V_b6_c19 := V_b6_c17.other W18 (Ne.symm ne_a1_b6)
  have F_mPositions_a1_c19 := F_mPositions_a1_c17.other W18 (Or.inr (slot_ne (Or.inl (W 15 rfl)) (Or.inr (W 24 rfl)) (by decide) (t := (.array .int)) (t' := .long) (by decide) (by decide)))
  have V_b10_c19 := V_b10_c17.other W18 (Ne.symm ne_a1_b10)
  have F_mTimestamps_a1_c19 := F_mTimestamps_a1_c17.other W18 (Or.inr (slot_ne (Or.inl (W 17 rfl)) (Or.inr (W 24 rfl)) (by decide) (t := (.array .long)) (t' := .long) (by decide) (by decide)))
  have F_mMaxTimestamp_a1_c19 := F_mMaxTimestamp_a1_c17.other W18 (Or.inr (slot_ne (Or.inl (W 20 rfl)) (Or.inr (W 24 rfl)) (by decide) (t := .long) (t' := .long) (by decide) (by decide)))
  have F_mBaseOffset_a1_c19 := F_mBaseOffset_a1_c16.other W18 (Or.inr (slot_ne (Or.inr (W 22 rfl)) (Or.inr (W 24 rfl)) (by decide) (t := .long) (t' := .long) (by decide) (by decide)))
  have F_mIntervalBytes_a1_c18 : Fld Z h18 a1 "com/example/tote/tote/storage/OffsetIndex" "mIntervalBytes" "J" (.long q3) := F_mIntervalBytes_a1_c17.same W18
  have N18 := Fr.snoc X18 N16 g_a1
  refine own_done (Q := fun v h L => Q1 Z a1 q2 q3 u0 u1 u2 u3 u4 u5 h0 n0 v h L) (v := none) X18 (fun _ => rfl) hlk (fun fs hr => X18.returnOut hx hret (hb hby d1_45) hr) ?_ (by decide) (by decide)
  show Q1 Z a1 q2 q3 u0 u1 u2 u3 u4 u5 h0 n0 _ T18.heap _
  rw [e18]
  exact ⟨b2, b6, b10, k2, k6, k10, rfl, N18, K0_c19, E_a1_c19, F_mOffsets_a1_c19, F_mPositions_a1_c19, F_mTimestamps_a1_c19, F_mMaxTimestamp_a1_c19, F_mBaseOffset_a1_c19, F_mIntervalBytes_a1_c18, F_mCount_a1_c19, V_b2_c19, V_b6_c19, V_b10_c19, sz_b2, sz_b6, sz_b10, ne_a1_b2, ne_a1_b6, ne_a1_b10, ne_b2_b6, ne_b2_b10, ne_b6_b10⟩
def own_max (a b : Int64) : Int64 := if a < b then b else a
theorem d6_0 : decode jdk_29_method_66_code 0 = .ok (.lload_n 0, 1) := by decide +kernel
theorem d6_1 : decode jdk_29_method_66_code 1 = .ok (.lload_n 2, 1) := by decide +kernel
theorem d6_2 : decode jdk_29_method_66_code 2 = .ok (.lcmp, 1) := by decide +kernel
theorem d6_3 : decode jdk_29_method_66_code 3 = .ok (.ifCond .lt 7, 3) := by decide +kernel
theorem d6_6 : decode jdk_29_method_66_code 6 = .ok (.lload_n 0, 1) := by decide +kernel
theorem d6_7 : decode jdk_29_method_66_code 7 = .ok (.goto 4, 3) := by decide +kernel
theorem d6_10 : decode jdk_29_method_66_code 10 = .ok (.lload_n 2, 1) := by decide +kernel
theorem d6_11 : decode jdk_29_method_66_code 11 = .ok (.lreturn, 1) := by decide +kernel
theorem ef_6 (m : MethodId) (x0 : Int64) (x1 : Int64) : entryFrame m #[(.long x0), (.long x1)] 4 = mkF m 0 #[.val (.long x0), .second, .val (.long x1), .second] [] := by first | (simp [entryFrame, mkF, argsToLocals, Value.category]; done) | rfl
def Q6 (Z : State) (q1 : Int64) (q2 : Int64) (h0 : Heap) (n0 : Nat) (v : Option Value) (h : Heap) (L : List Loc) : Prop := v = some (.long (own_max q1 q2)) ∧ Fr n0 L ∧ h = h0
set_option maxRecDepth 65536 in
set_option maxHeartbeats 40000000 in
theorem rm6 (l : Launch) (Z : State) (a0 : Array Value) (hw : ∀ d ∈ tables_1, d.before a0 Z = true) (ws : List Jvm.Cond) (q1 : Int64) (q2 : Int64) (h0 : Heap) (n0 : Nat) (Z0 : n0 ≤ h0.size) :
    MetFree l (⟨"java/lang/Math", "max", "(JJ)J"⟩ : MethodName) (head1 (Jvm.Cond.code (⟨"java/lang/Math", "max", "(JJ)J"⟩ : MethodName) jdk_29_method_66_code 4 (some .long) :: ws) ({ frames := 0, cells := 0, slots := 0, locals := 0 } : Room)) (fun a U => a = #[(.long q1), (.long q2)] ∧ Z.Warmed39 U.vm ∧ U.heap = h0) (fun _ _ _ _ _ => True) (fun _ U o U' => ∃ v L, o = .returned v ∧ Q6 Z q1 q2 h0 n0 v U'.heap L ∧ FrameEnd U o U' L ({ frames := 0, cells := 0, slots := 0, locals := 0 } : Room).cells ({ frames := 0, cells := 0, slots := 0, locals := 0 } : Room).slots) := by
  refine MetFree.of_bodySF (Jvm.Free.JP.mathPlain rfl (by decide +kernel)) hisR ?_
  intro p e s m args below meth c s₁ Bd hml0 hP hK
  obtain ⟨rfl, hZ, hh⟩ := hP
  have hx := Bd.exec
  have hby := Bd.bytes
  have hml : c.maxLocals = 4 := hml0
  have hown : s.vm.findClass "java/lang/Math" = some m.cls := findClass_of_methodNamed Bd.named
  have hnm := (name_of_methodNamed Bd.named Bd.method).1
  have hret := Bd.returns
  have hlk : meth.locks = false := BodyLoose.notSynchronized Bd
  have X0 : Stand p l e ({ frames := 0, cells := 0, slots := 0, locals := 0 } : Room) s m #[(.long q1), (.long q2)] below meth c s₁ [] 0 0 := Stand.of_body Bd
  have e0 : s₁.heap = h0 := by rw [← hh, Bd.state]; rfl
  have N0 := Fr.nil n0
  have W := fun (k : Nat) {d : Jvm.Cond} (h : tables_1[k]? = some d) => hw d (List.mem_of_getElem? h)
  have K0 : Keep h0 h0 [] := Keep.refl _ _
  refine own_start (ef_6 m q1 q2) ?_
  show own_Run p e below _ s₁ (mkF m 0 #[.val (.long q1), .second, .val (.long q2), .second] [])
  refine own_go (fun _ k => XS.lloadN X0.here hx rfl (hb hby d6_0) rfl k) ?_
  refine own_go (fun _ k => XS.lloadN X0.here hx rfl (hb hby d6_1) rfl k) ?_
  refine own_go (fun _ k => XS.lcmp X0.here hx rfl (hb hby d6_2) rfl k) ?_
  show own_Run p e below _ s₁ (mkF m 3 #[.val (.long q1), .second, .val (.long q2), .second] [(.int (lcmpW q1 q2))])
  by_cases hc3_20 : q1 < q2
  · refine own_go (fun _ k => XS.ifYes X0.here hx rfl (pc0 := 3) (pc' := 10) rfl (hb hby d6_3) rfl (own_lcT hc3_20).1 (by decide) (by decide) k) ?_
    show own_Run p e below _ s₁ (mkF m 10 #[.val (.long q1), .second, .val (.long q2), .second] [])
    refine own_go (fun _ k => XS.lloadN X0.here hx rfl (hb hby d6_10) rfl k) ?_
    show own_Run p e below _ s₁ (mkF m 11 #[.val (.long q1), .second, .val (.long q2), .second] [(.long q2)])
    refine own_done (Q := fun v h L => Q6 Z q1 q2 h0 n0 v h L) (v := (some (.long q2))) X0 (fun h => by rw [hret] at h; cases h) hlk (fun fs hr => own_retL X0 hx hret (hb hby d6_11) hr) ?_ (by decide) (by decide)
    show Q6 Z q1 q2 h0 n0 _ s₁.heap _
    rw [e0]
    exact ⟨by rw [own_max, if_pos hc3_20], N0, rfl⟩
  · refine own_go (fun _ k => XS.ifNo X0.here hx rfl (hb hby d6_3) rfl (own_lcF hc3_20).1 k) ?_
    show own_Run p e below _ s₁ (mkF m 6 #[.val (.long q1), .second, .val (.long q2), .second] [])
    refine own_go (fun _ k => XS.lloadN X0.here hx rfl (hb hby d6_6) rfl k) ?_
    refine own_go (fun _ k => XS.goto X0.here hx rfl (pc0 := 7) (pc' := 11) rfl (hb hby d6_7) (by decide) (by decide) k) ?_
    show own_Run p e below _ s₁ (mkF m 11 #[.val (.long q1), .second, .val (.long q2), .second] [(.long q1)])
    refine own_done (Q := fun v h L => Q6 Z q1 q2 h0 n0 v h L) (v := (some (.long q1))) X0 (fun h => by rw [hret] at h; cases h) hlk (fun fs hr => own_retL X0 hx hret (hb hby d6_11) hr) ?_ (by decide) (by decide)
    show Q6 Z q1 q2 h0 n0 _ s₁.heap _
    rw [e0]
    exact ⟨by rw [own_max, if_neg hc3_20], N0, rfl⟩
theorem d4_0 : decode jdk_29_method_43_code 0 = .ok (.lload_n 0, 1) := by decide +kernel
theorem d4_1 : decode jdk_29_method_43_code 1 = .ok (.l2i, 1) := by decide +kernel
theorem d4_2 : decode jdk_29_method_43_code 2 = .ok (.i2l, 1) := by decide +kernel
theorem d4_3 : decode jdk_29_method_43_code 3 = .ok (.lload_n 0, 1) := by decide +kernel
theorem d4_4 : decode jdk_29_method_43_code 4 = .ok (.lcmp, 1) := by decide +kernel
theorem d4_5 : decode jdk_29_method_43_code 5 = .ok (.ifCond .eq 13, 3) := by decide +kernel
theorem d4_8 : decode jdk_29_method_43_code 8 = .ok (.new 109, 3) := by decide +kernel
theorem d4_11 : decode jdk_29_method_43_code 11 = .ok (.dup, 1) := by decide +kernel
theorem d4_12 : decode jdk_29_method_43_code 12 = .ok (.ldc 111, 2) := by decide +kernel
theorem d4_14 : decode jdk_29_method_43_code 14 = .ok (.invokespecial 113, 3) := by decide +kernel
theorem d4_17 : decode jdk_29_method_43_code 17 = .ok (.athrow, 1) := by decide +kernel
theorem d4_18 : decode jdk_29_method_43_code 18 = .ok (.lload_n 0, 1) := by decide +kernel
theorem d4_19 : decode jdk_29_method_43_code 19 = .ok (.l2i, 1) := by decide +kernel
theorem d4_20 : decode jdk_29_method_43_code 20 = .ok (.ireturn, 1) := by decide +kernel
theorem ef_4 (m : MethodId) (x0 : Int64) : entryFrame m #[(.long x0)] 2 = mkF m 0 #[.val (.long x0), .second] [] := by first | (simp [entryFrame, mkF, argsToLocals, Value.category]; done) | rfl
def Q4 (Z : State) (q1 : Int64) (h0 : Heap) (n0 : Nat) (v : Option Value) (h : Heap) (L : List Loc) : Prop := v = some (.int (q1.toInt32)) ∧ Fr n0 L ∧ h = h0
set_option maxRecDepth 65536 in
set_option maxHeartbeats 40000000 in
theorem rm4 (l : Launch) (Z : State) (a0 : Array Value) (hw : ∀ d ∈ tables_1, d.before a0 Z = true) (ws : List Jvm.Cond) (q1 : Int64) (h0 : Heap) (n0 : Nat) (Z0 : n0 ≤ h0.size) (hp : ((q1.toInt32).toInt64) = q1) :
    MetFree l (⟨"java/lang/Math", "toIntExact", "(J)I"⟩ : MethodName) (head1 (Jvm.Cond.code (⟨"java/lang/Math", "toIntExact", "(J)I"⟩ : MethodName) jdk_29_method_43_code 2 (some .int) :: ws) ({ frames := 0, cells := 0, slots := 0, locals := 0 } : Room)) (fun a U => a = #[(.long q1)] ∧ Z.Warmed39 U.vm ∧ U.heap = h0) (fun _ _ _ _ _ => True) (fun _ U o U' => ∃ v L, o = .returned v ∧ Q4 Z q1 h0 n0 v U'.heap L ∧ FrameEnd U o U' L ({ frames := 0, cells := 0, slots := 0, locals := 0 } : Room).cells ({ frames := 0, cells := 0, slots := 0, locals := 0 } : Room).slots) := by
  refine MetFree.of_bodySF (Jvm.Free.JP.mathPlain rfl (by decide +kernel)) hisR ?_
  intro p e s m args below meth c s₁ Bd hml0 hP hK
  obtain ⟨rfl, hZ, hh⟩ := hP
  have hx := Bd.exec
  have hby := Bd.bytes
  have hml : c.maxLocals = 2 := hml0
  have hown : s.vm.findClass "java/lang/Math" = some m.cls := findClass_of_methodNamed Bd.named
  have hnm := (name_of_methodNamed Bd.named Bd.method).1
  have hret := Bd.returns
  have hlk : meth.locks = false := BodyLoose.notSynchronized Bd
  have X0 : Stand p l e ({ frames := 0, cells := 0, slots := 0, locals := 0 } : Room) s m #[(.long q1)] below meth c s₁ [] 0 0 := Stand.of_body Bd
  have e0 : s₁.heap = h0 := by rw [← hh, Bd.state]; rfl
  have N0 := Fr.nil n0
  have W := fun (k : Nat) {d : Jvm.Cond} (h : tables_1[k]? = some d) => hw d (List.mem_of_getElem? h)
  have K0 : Keep h0 h0 [] := Keep.refl _ _
  refine own_start (ef_4 m q1) ?_
  show own_Run p e below _ s₁ (mkF m 0 #[.val (.long q1), .second] [])
  refine own_go (fun _ k => XS.lloadN X0.here hx rfl (hb hby d4_0) rfl k) ?_
  refine own_go (fun _ k => XS.l2i X0.here hx rfl (hb hby d4_1) rfl k) ?_
  refine own_go (fun _ k => XS.i2l X0.here hx rfl (hb hby d4_2) rfl k) ?_
  refine own_go (fun _ k => XS.lloadN X0.here hx rfl (hb hby d4_3) rfl k) ?_
  show own_Run p e below _ s₁ (mkF m 4 #[.val (.long q1), .second] [(.long q1), (.long ((q1.toInt32).toInt64))])
  refine own_go (fun _ k => XS.lcmp X0.here hx rfl (hb hby d4_4) rfl k) ?_
  show own_Run p e below _ s₁ (mkF m 5 #[.val (.long q1), .second] [(.int (lcmpW ((q1.toInt32).toInt64) q1))])
  refine own_go (fun _ k => XS.ifYes X0.here hx rfl (pc0 := 5) (pc' := 18) rfl (hb hby d4_5) rfl (own_lcTe hp).1 (by decide) (by decide) k) ?_
  show own_Run p e below _ s₁ (mkF m 18 #[.val (.long q1), .second] [])
  refine own_go (fun _ k => XS.lloadN X0.here hx rfl (hb hby d4_18) rfl k) ?_
  refine own_go (fun _ k => XS.l2i X0.here hx rfl (hb hby d4_19) rfl k) ?_
  show own_Run p e below _ s₁ (mkF m 20 #[.val (.long q1), .second] [(.int (q1.toInt32))])
  refine own_done (Q := fun v h L => Q4 Z q1 h0 n0 v h L) (v := (some (.int (q1.toInt32)))) X0 (fun h => by rw [hret] at h; cases h) hlk (fun fs hr => own_retI X0 hx hret (hb hby d4_20) hr) ?_ (by decide) (by decide)
  show Q4 Z q1 h0 n0 _ s₁.heap _
  rw [e0]
  exact ⟨rfl, N0, rfl⟩
theorem d5_0 : decode prog_89_method_15_code 0 = .ok (.aload_n 0, 1) := by decide +kernel
theorem d5_1 : decode prog_89_method_15_code 1 = .ok (.getfield 36, 3) := by decide +kernel
theorem d5_4 : decode prog_89_method_15_code 4 = .ok (.aload_n 0, 1) := by decide +kernel
theorem d5_5 : decode prog_89_method_15_code 5 = .ok (.getfield 13, 3) := by decide +kernel
theorem d5_8 : decode prog_89_method_15_code 8 = .ok (.arraylength, 1) := by decide +kernel
theorem d5_9 : decode prog_89_method_15_code 9 = .ok (.if_icmp .ne 54, 3) := by decide +kernel
theorem d5_12 : decode prog_89_method_15_code 12 = .ok (.aload_n 0, 1) := by decide +kernel
theorem d5_13 : decode prog_89_method_15_code 13 = .ok (.aload_n 0, 1) := by decide +kernel
theorem d5_14 : decode prog_89_method_15_code 14 = .ok (.getfield 13, 3) := by decide +kernel
theorem d5_17 : decode prog_89_method_15_code 17 = .ok (.iconst 2, 1) := by decide +kernel
theorem d5_18 : decode prog_89_method_15_code 18 = .ok (.aload_n 0, 1) := by decide +kernel
theorem d5_19 : decode prog_89_method_15_code 19 = .ok (.getfield 36, 3) := by decide +kernel
theorem d5_22 : decode prog_89_method_15_code 22 = .ok (.imul, 1) := by decide +kernel
theorem d5_23 : decode prog_89_method_15_code 23 = .ok (.invokestatic 113, 3) := by decide +kernel
theorem d5_26 : decode prog_89_method_15_code 26 = .ok (.putfield 13, 3) := by decide +kernel
theorem d5_29 : decode prog_89_method_15_code 29 = .ok (.aload_n 0, 1) := by decide +kernel
theorem d5_30 : decode prog_89_method_15_code 30 = .ok (.aload_n 0, 1) := by decide +kernel
theorem d5_31 : decode prog_89_method_15_code 31 = .ok (.getfield 17, 3) := by decide +kernel
theorem d5_34 : decode prog_89_method_15_code 34 = .ok (.iconst 2, 1) := by decide +kernel
theorem d5_35 : decode prog_89_method_15_code 35 = .ok (.aload_n 0, 1) := by decide +kernel
theorem d5_36 : decode prog_89_method_15_code 36 = .ok (.getfield 36, 3) := by decide +kernel
theorem d5_39 : decode prog_89_method_15_code 39 = .ok (.imul, 1) := by decide +kernel
theorem d5_40 : decode prog_89_method_15_code 40 = .ok (.invokestatic 113, 3) := by decide +kernel
theorem d5_43 : decode prog_89_method_15_code 43 = .ok (.putfield 17, 3) := by decide +kernel
theorem d5_46 : decode prog_89_method_15_code 46 = .ok (.aload_n 0, 1) := by decide +kernel
theorem d5_47 : decode prog_89_method_15_code 47 = .ok (.aload_n 0, 1) := by decide +kernel
theorem d5_48 : decode prog_89_method_15_code 48 = .ok (.getfield 20, 3) := by decide +kernel
theorem d5_51 : decode prog_89_method_15_code 51 = .ok (.iconst 2, 1) := by decide +kernel
theorem d5_52 : decode prog_89_method_15_code 52 = .ok (.aload_n 0, 1) := by decide +kernel
theorem d5_53 : decode prog_89_method_15_code 53 = .ok (.getfield 36, 3) := by decide +kernel
theorem d5_56 : decode prog_89_method_15_code 56 = .ok (.imul, 1) := by decide +kernel
theorem d5_57 : decode prog_89_method_15_code 57 = .ok (.invokestatic 117, 3) := by decide +kernel
theorem d5_60 : decode prog_89_method_15_code 60 = .ok (.putfield 20, 3) := by decide +kernel
theorem d5_63 : decode prog_89_method_15_code 63 = .ok (.aload_n 0, 1) := by decide +kernel
theorem d5_64 : decode prog_89_method_15_code 64 = .ok (.getfield 13, 3) := by decide +kernel
theorem d5_67 : decode prog_89_method_15_code 67 = .ok (.aload_n 0, 1) := by decide +kernel
theorem d5_68 : decode prog_89_method_15_code 68 = .ok (.getfield 36, 3) := by decide +kernel
theorem d5_71 : decode prog_89_method_15_code 71 = .ok (.iload_n 1, 1) := by decide +kernel
theorem d5_72 : decode prog_89_method_15_code 72 = .ok (.iastore, 1) := by decide +kernel
theorem d5_73 : decode prog_89_method_15_code 73 = .ok (.aload_n 0, 1) := by decide +kernel
theorem d5_74 : decode prog_89_method_15_code 74 = .ok (.getfield 17, 3) := by decide +kernel
theorem d5_77 : decode prog_89_method_15_code 77 = .ok (.aload_n 0, 1) := by decide +kernel
theorem d5_78 : decode prog_89_method_15_code 78 = .ok (.getfield 36, 3) := by decide +kernel
theorem d5_81 : decode prog_89_method_15_code 81 = .ok (.iload_n 2, 1) := by decide +kernel
theorem d5_82 : decode prog_89_method_15_code 82 = .ok (.iastore, 1) := by decide +kernel
theorem d5_83 : decode prog_89_method_15_code 83 = .ok (.aload_n 0, 1) := by decide +kernel
theorem d5_84 : decode prog_89_method_15_code 84 = .ok (.getfield 20, 3) := by decide +kernel
theorem d5_87 : decode prog_89_method_15_code 87 = .ok (.aload_n 0, 1) := by decide +kernel
theorem d5_88 : decode prog_89_method_15_code 88 = .ok (.getfield 36, 3) := by decide +kernel
theorem d5_91 : decode prog_89_method_15_code 91 = .ok (.lload_n 3, 1) := by decide +kernel
theorem d5_92 : decode prog_89_method_15_code 92 = .ok (.lastore, 1) := by decide +kernel
theorem d5_93 : decode prog_89_method_15_code 93 = .ok (.aload_n 0, 1) := by decide +kernel
theorem d5_94 : decode prog_89_method_15_code 94 = .ok (.dup, 1) := by decide +kernel
theorem d5_95 : decode prog_89_method_15_code 95 = .ok (.getfield 36, 3) := by decide +kernel
theorem d5_98 : decode prog_89_method_15_code 98 = .ok (.iconst 1, 1) := by decide +kernel
theorem d5_99 : decode prog_89_method_15_code 99 = .ok (.iadd, 1) := by decide +kernel
theorem d5_100 : decode prog_89_method_15_code 100 = .ok (.putfield 36, 3) := by decide +kernel
theorem d5_103 : decode prog_89_method_15_code 103 = .ok (.return_, 1) := by decide +kernel
theorem pn_5 : plainName "com/example/tote/tote/storage/OffsetIndex" = true := by first | (simp [plainName, overriddenIn]; done) | decide +kernel
theorem ef_5 (m : MethodId) (x0 : Addr) (x1 : Int32) (x2 : Int32) (x3 : Int64) : entryFrame m #[(.ref x0), (.int x1), (.int x2), (.long x3)] 5 = mkF m 0 #[.val (.ref x0), .val (.int x1), .val (.int x2), .val (.long x3), .second] [] := by first | (simp [entryFrame, mkF, argsToLocals, Value.category]; done) | rfl
def Q5c0 (Z : State) (a1 : Addr) (p2 : Int32) (p3 : Int32) (q4 : Int64) (b1 : Addr) (b2 : Addr) (b3 : Addr) (k1 : ClassId) (k2 : ClassId) (k3 : ClassId) (mx : Int64) (ba : Int64) (iv : Int64) (h0 : Heap) (n0 : Nat) (v : Option Value) (h : Heap) (L : List Loc) : Prop := v = none ∧ Fr n0 L ∧ Keep h0 h [a1, b1, b2, b3] ∧ Exa Z h a1 "com/example/tote/tote/storage/OffsetIndex" ∧ Fld Z h a1 "com/example/tote/tote/storage/OffsetIndex" "mOffsets" "[I" (.ref b1) ∧ Fld Z h a1 "com/example/tote/tote/storage/OffsetIndex" "mPositions" "[I" (.ref b2) ∧ Fld Z h a1 "com/example/tote/tote/storage/OffsetIndex" "mTimestamps" "[J" (.ref b3) ∧ Fld Z h a1 "com/example/tote/tote/storage/OffsetIndex" "mMaxTimestamp" "J" (.long mx) ∧ Fld Z h a1 "com/example/tote/tote/storage/OffsetIndex" "mBaseOffset" "J" (.long ba) ∧ Fld Z h a1 "com/example/tote/tote/storage/OffsetIndex" "mIntervalBytes" "J" (.long iv) ∧ Fld Z h a1 "com/example/tote/tote/storage/OffsetIndex" "mCount" "I" (.int (1 : Int32)) ∧ Arv Z h b1 k1 .int (16 : Int32) [(.int p2), (.int (0 : Int32)), (.int (0 : Int32)), (.int (0 : Int32)), (.int (0 : Int32)), (.int (0 : Int32)), (.int (0 : Int32)), (.int (0 : Int32)), (.int (0 : Int32)), (.int (0 : Int32)), (.int (0 : Int32)), (.int (0 : Int32)), (.int (0 : Int32)), (.int (0 : Int32)), (.int (0 : Int32)), (.int (0 : Int32))] (.int (0 : Int32)) ∧ Arv Z h b2 k2 .int (16 : Int32) [(.int p3), (.int (0 : Int32)), (.int (0 : Int32)), (.int (0 : Int32)), (.int (0 : Int32)), (.int (0 : Int32)), (.int (0 : Int32)), (.int (0 : Int32)), (.int (0 : Int32)), (.int (0 : Int32)), (.int (0 : Int32)), (.int (0 : Int32)), (.int (0 : Int32)), (.int (0 : Int32)), (.int (0 : Int32)), (.int (0 : Int32))] (.int (0 : Int32)) ∧ Arv Z h b3 k3 .long (16 : Int32) [(.long q4), (.long (0 : Int64)), (.long (0 : Int64)), (.long (0 : Int64)), (.long (0 : Int64)), (.long (0 : Int64)), (.long (0 : Int64)), (.long (0 : Int64)), (.long (0 : Int64)), (.long (0 : Int64)), (.long (0 : Int64)), (.long (0 : Int64)), (.long (0 : Int64)), (.long (0 : Int64)), (.long (0 : Int64)), (.long (0 : Int64))] (.long (0 : Int64))
set_option maxRecDepth 65536 in
set_option maxHeartbeats 40000000 in
theorem rm5c0 (l : Launch) (Z : State) (a0 : Array Value) (hw : ∀ d ∈ tables_1, d.before a0 Z = true) (ws : List Jvm.Cond) (a1 : Addr) (p2 : Int32) (p3 : Int32) (q4 : Int64) (b1 : Addr) (b2 : Addr) (b3 : Addr) (k1 : ClassId) (k2 : ClassId) (k3 : ClassId) (mx : Int64) (ba : Int64) (iv : Int64) (h0 : Heap) (n0 : Nat) (Z0 : n0 ≤ h0.size) (E_a1 : Exa Z h0 a1 "com/example/tote/tote/storage/OffsetIndex") (F_mOffsets_a1 : Fld Z h0 a1 "com/example/tote/tote/storage/OffsetIndex" "mOffsets" "[I" (.ref b1)) (F_mPositions_a1 : Fld Z h0 a1 "com/example/tote/tote/storage/OffsetIndex" "mPositions" "[I" (.ref b2)) (F_mTimestamps_a1 : Fld Z h0 a1 "com/example/tote/tote/storage/OffsetIndex" "mTimestamps" "[J" (.ref b3)) (F_mMaxTimestamp_a1 : Fld Z h0 a1 "com/example/tote/tote/storage/OffsetIndex" "mMaxTimestamp" "J" (.long mx)) (F_mBaseOffset_a1 : Fld Z h0 a1 "com/example/tote/tote/storage/OffsetIndex" "mBaseOffset" "J" (.long ba)) (F_mIntervalBytes_a1 : Fld Z h0 a1 "com/example/tote/tote/storage/OffsetIndex" "mIntervalBytes" "J" (.long iv)) (F_mCount_a1 : Fld Z h0 a1 "com/example/tote/tote/storage/OffsetIndex" "mCount" "I" (.int (0 : Int32))) (V_b1 : Arv Z h0 b1 k1 .int (16 : Int32) [(.int (0 : Int32)), (.int (0 : Int32)), (.int (0 : Int32)), (.int (0 : Int32)), (.int (0 : Int32)), (.int (0 : Int32)), (.int (0 : Int32)), (.int (0 : Int32)), (.int (0 : Int32)), (.int (0 : Int32)), (.int (0 : Int32)), (.int (0 : Int32)), (.int (0 : Int32)), (.int (0 : Int32)), (.int (0 : Int32)), (.int (0 : Int32))] (.int (0 : Int32))) (V_b2 : Arv Z h0 b2 k2 .int (16 : Int32) [(.int (0 : Int32)), (.int (0 : Int32)), (.int (0 : Int32)), (.int (0 : Int32)), (.int (0 : Int32)), (.int (0 : Int32)), (.int (0 : Int32)), (.int (0 : Int32)), (.int (0 : Int32)), (.int (0 : Int32)), (.int (0 : Int32)), (.int (0 : Int32)), (.int (0 : Int32)), (.int (0 : Int32)), (.int (0 : Int32)), (.int (0 : Int32))] (.int (0 : Int32))) (V_b3 : Arv Z h0 b3 k3 .long (16 : Int32) [(.long (0 : Int64)), (.long (0 : Int64)), (.long (0 : Int64)), (.long (0 : Int64)), (.long (0 : Int64)), (.long (0 : Int64)), (.long (0 : Int64)), (.long (0 : Int64)), (.long (0 : Int64)), (.long (0 : Int64)), (.long (0 : Int64)), (.long (0 : Int64)), (.long (0 : Int64)), (.long (0 : Int64)), (.long (0 : Int64)), (.long (0 : Int64))] (.long (0 : Int64))) (g_a1 : n0 ≤ a1) (g_b1 : n0 ≤ b1) (g_b2 : n0 ≤ b2) (g_b3 : n0 ≤ b3) (ne_a1_b1 : a1 ≠ b1) (ne_a1_b2 : a1 ≠ b2) (ne_a1_b3 : a1 ≠ b3) (ne_b1_b2 : b1 ≠ b2) (ne_b1_b3 : b1 ≠ b3) (ne_b2_b3 : b2 ≠ b3) :
    MetFree l (⟨"com/example/tote/tote/storage/OffsetIndex", "append", "(IIJ)V"⟩ : MethodName) (head1 (Jvm.Cond.code (⟨"com/example/tote/tote/storage/OffsetIndex", "append", "(IIJ)V"⟩ : MethodName) prog_89_method_15_code 5 none :: ws) ({ frames := 0, cells := 0, slots := 0, locals := 0 } : Room)) (fun a U => a = #[(.ref a1), (.int p2), (.int p3), (.long q4)] ∧ Z.Warmed39 U.vm ∧ U.heap = h0) (fun _ _ _ _ _ => True) (fun _ U o U' => ∃ v L, o = .returned v ∧ Q5c0 Z a1 p2 p3 q4 b1 b2 b3 k1 k2 k3 mx ba iv h0 n0 v U'.heap L ∧ FrameEnd U o U' L ({ frames := 0, cells := 0, slots := 0, locals := 0 } : Room).cells ({ frames := 0, cells := 0, slots := 0, locals := 0 } : Room).slots) := by
  refine MetFree.of_bodySF (plainFor_of_name pn_5) hisR ?_
  intro p e s m args below meth c s₁ Bd hml0 hP hK
  obtain ⟨rfl, hZ, hh⟩ := hP
  have hx := Bd.exec
  have hby := Bd.bytes
  have hml : c.maxLocals = 5 := hml0
  have hown : s.vm.findClass "com/example/tote/tote/storage/OffsetIndex" = some m.cls := findClass_of_methodNamed Bd.named
  have hnm := (name_of_methodNamed Bd.named Bd.method).1
  have hret := Bd.returns
  have hlk : meth.locks = false := BodyLoose.notSynchronized Bd
  have X0 : Stand p l e ({ frames := 0, cells := 0, slots := 0, locals := 0 } : Room) s m #[(.ref a1), (.int p2), (.int p3), (.long q4)] below meth c s₁ [] 0 0 := Stand.of_body Bd
  have e0 : s₁.heap = h0 := by rw [← hh, Bd.state]; rfl
  have N0 := Fr.nil n0
  have W := fun (k : Nat) {d : Jvm.Cond} (h : tables_1[k]? = some d) => hw d (List.mem_of_getElem? h)
  have K0 : Keep h0 h0 [a1, b1, b2, b3] := Keep.refl _ _
  refine own_start (ef_5 m a1 p2 p3 q4) ?_
  show own_Run p e below _ s₁ (mkF m 0 #[.val (.ref a1), .val (.int p2), .val (.int p3), .val (.long q4), .second] [])
  refine own_go (fun _ k => XS.aloadN X0.here hx rfl (hb hby d5_0) rfl rfl k) ?_
  show own_Run p e below _ s₁ (mkF m 1 #[.val (.ref a1), .val (.int p2), .val (.int p3), .val (.long q4), .second] [(.ref a1)])
  obtain ⟨T21, X21, e21, st21⟩ := getF X0 hx hZ hown (host := "") (Or.inl (W 30 rfl)) Via.refl e0 F_mCount_a1 (g := (mkF m 1 #[.val (.ref a1), .val (.int p2), .val (.int p3), .val (.long q4), .second] [(.ref a1)])) rfl rfl (hb hby d5_1)
  refine own_go st21 ?_
  show own_Run p e below _ T21 (mkF m 4 #[.val (.ref a1), .val (.int p2), .val (.int p3), .val (.long q4), .second] [(.int (0 : Int32))])
  refine own_go (fun _ k => XS.aloadN X21.here hx rfl (hb hby d5_4) rfl rfl k) ?_
  show own_Run p e below _ T21 (mkF m 5 #[.val (.ref a1), .val (.int p2), .val (.int p3), .val (.long q4), .second] [(.ref a1), (.int (0 : Int32))])
  obtain ⟨T22, X22, e22, st22⟩ := getF X21 hx hZ hown (host := "") (Or.inl (W 12 rfl)) Via.refl e21 F_mOffsets_a1 (g := (mkF m 5 #[.val (.ref a1), .val (.int p2), .val (.int p3), .val (.long q4), .second] [(.ref a1), (.int (0 : Int32))])) rfl rfl (hb hby d5_5)
  refine own_go st22 ?_
  show own_Run p e below _ T22 (mkF m 8 #[.val (.ref a1), .val (.int p2), .val (.int p3), .val (.long q4), .second] [(.ref b1), (.int (0 : Int32))])
  obtain ⟨cl23, Ar23, q23, S23, N23, H23, G23⟩ := id V_b1
  refine own_go (X22.arraylength hx (by rw [e22]; exact Ar23.1) (State.isArrayOf_alike hZ.alike Ar23.2.1) (g := (mkF m 8 #[.val (.ref a1), .val (.int p2), .val (.int p3), .val (.long q4), .second] [(.ref b1), (.int (0 : Int32))])) rfl rfl (hb hby d5_8)) ?_
  rw [len_of S23 N23]
  show own_Run p e below _ T22 (mkF m 9 #[.val (.ref a1), .val (.int p2), .val (.int p3), .val (.long q4), .second] [(.int (16 : Int32)), (.int (0 : Int32))])
  refine own_go (fun _ k => XS.icmpYes X22.here hx rfl (pc0 := 9) (pc' := 63) rfl (hb hby d5_9) rfl (feq (by decide : ¬ ((0 : Int32) = (16 : Int32)))).2 (by decide) (by decide) k) ?_
  show own_Run p e below _ T22 (mkF m 63 #[.val (.ref a1), .val (.int p2), .val (.int p3), .val (.long q4), .second] [])
  refine own_go (fun _ k => XS.aloadN X22.here hx rfl (hb hby d5_63) rfl rfl k) ?_
  show own_Run p e below _ T22 (mkF m 64 #[.val (.ref a1), .val (.int p2), .val (.int p3), .val (.long q4), .second] [(.ref a1)])
  obtain ⟨T24, X24, e24, st24⟩ := getF X22 hx hZ hown (host := "") (Or.inl (W 12 rfl)) Via.refl e22 F_mOffsets_a1 (g := (mkF m 64 #[.val (.ref a1), .val (.int p2), .val (.int p3), .val (.long q4), .second] [(.ref a1)])) rfl rfl (hb hby d5_64)
  refine own_go st24 ?_
  show own_Run p e below _ T24 (mkF m 67 #[.val (.ref a1), .val (.int p2), .val (.int p3), .val (.long q4), .second] [(.ref b1)])
  refine own_go (fun _ k => XS.aloadN X24.here hx rfl (hb hby d5_67) rfl rfl k) ?_
  show own_Run p e below _ T24 (mkF m 68 #[.val (.ref a1), .val (.int p2), .val (.int p3), .val (.long q4), .second] [(.ref a1), (.ref b1)])
  obtain ⟨T25, X25, e25, st25⟩ := getF X24 hx hZ hown (host := "") (Or.inl (W 30 rfl)) Via.refl e24 F_mCount_a1 (g := (mkF m 68 #[.val (.ref a1), .val (.int p2), .val (.int p3), .val (.long q4), .second] [(.ref a1), (.ref b1)])) rfl rfl (hb hby d5_68)
  refine own_go st25 ?_
  show own_Run p e below _ T25 (mkF m 71 #[.val (.ref a1), .val (.int p2), .val (.int p3), .val (.long q4), .second] [(.int (0 : Int32)), (.ref b1)])
  refine own_go (fun _ k => XS.iloadN X25.here hx rfl (hb hby d5_71) rfl k) ?_
  show own_Run p e below _ T25 (mkF m 72 #[.val (.ref a1), .val (.int p2), .val (.int p3), .val (.long q4), .second] [(.int p2), (.int (0 : Int32)), (.ref b1)])
  obtain ⟨cl26, Ar26, q26, S26, N26, H26, G26⟩ := id V_b1
  have hin26 : ¬ ((0 : Int32) < 0 ∨ cl26.slots.size ≤ ((0 : Int32)).toNatClampNeg) := inb_of S26 ⟨by decide, by decide⟩
  obtain ⟨T27, h27, X27, e27, W27, st27⟩ := stI X25 hx hZ e25 Ar26 (j := (0 : Int32)) hin26 (g := (mkF m 72 #[.val (.ref a1), .val (.int p2), .val (.int p3), .val (.long q4), .second] [(.int p2), (.int (0 : Int32)), (.ref b1)])) rfl rfl (hb hby d5_72)
  refine own_go st27 ?_
  show own_Run p e below _ T27 (mkF m 73 #[.val (.ref a1), .val (.int p2), .val (.int p3), .val (.long q4), .second] [])
  have Z0_c28 := Nat.le_trans Z0 (Keep.of_wr W27).1
  have K0_c28 := K0.wr W27 (Or.inl (List.mem_of_getElem? (i := 1) rfl))
  have E_a1_c28 := E_a1.wr W27
  have F_mOffsets_a1_c28 := F_mOffsets_a1.other W27 (Or.inl ne_a1_b1)
  have F_mPositions_a1_c28 := F_mPositions_a1.other W27 (Or.inl ne_a1_b1)
  have F_mTimestamps_a1_c28 := F_mTimestamps_a1.other W27 (Or.inl ne_a1_b1)
  have F_mMaxTimestamp_a1_c28 := F_mMaxTimestamp_a1.other W27 (Or.inl ne_a1_b1)
  have F_mBaseOffset_a1_c28 := F_mBaseOffset_a1.other W27 (Or.inl ne_a1_b1)
  have F_mIntervalBytes_a1_c28 := F_mIntervalBytes_a1.other W27 (Or.inl ne_a1_b1)
  have F_mCount_a1_c28 := F_mCount_a1.other W27 (Or.inl ne_a1_b1)
  have V_b2_c28 := V_b2.other W27 (Ne.symm ne_b1_b2)
  have V_b3_c28 := V_b3.other W27 (Ne.symm ne_b1_b3)
  have V_b1_c27 : Arv Z h27 b1 k1 .int (16 : Int32) [(.int p2), (.int (0 : Int32)), (.int (0 : Int32)), (.int (0 : Int32)), (.int (0 : Int32)), (.int (0 : Int32)), (.int (0 : Int32)), (.int (0 : Int32)), (.int (0 : Int32)), (.int (0 : Int32)), (.int (0 : Int32)), (.int (0 : Int32)), (.int (0 : Int32)), (.int (0 : Int32)), (.int (0 : Int32)), (.int (0 : Int32))] (.int (0 : Int32)) := Arv.set Ar26 q26 S26 N26 H26 G26 rfl W27 0 rfl (Nat.le_of_ble_eq_true rfl)
  have N27 := Fr.snoc X27 N0 g_b1
  refine own_go (fun _ k => XS.aloadN X27.here hx rfl (hb hby d5_73) rfl rfl k) ?_
  show own_Run p e below _ T27 (mkF m 74 #[.val (.ref a1), .val (.int p2), .val (.int p3), .val (.long q4), .second] [(.ref a1)])
  obtain ⟨T29, X29, e29, st29⟩ := getF X27 hx hZ hown (host := "") (Or.inl (W 14 rfl)) Via.refl e27 F_mPositions_a1_c28 (g := (mkF m 74 #[.val (.ref a1), .val (.int p2), .val (.int p3), .val (.long q4), .second] [(.ref a1)])) rfl rfl (hb hby d5_74)
  refine own_go st29 ?_
  show own_Run p e below _ T29 (mkF m 77 #[.val (.ref a1), .val (.int p2), .val (.int p3), .val (.long q4), .second] [(.ref b2)])
  refine own_go (fun _ k => XS.aloadN X29.here hx rfl (hb hby d5_77) rfl rfl k) ?_
  show own_Run p e below _ T29 (mkF m 78 #[.val (.ref a1), .val (.int p2), .val (.int p3), .val (.long q4), .second] [(.ref a1), (.ref b2)])
  obtain ⟨T30, X30, e30, st30⟩ := getF X29 hx hZ hown (host := "") (Or.inl (W 30 rfl)) Via.refl e29 F_mCount_a1_c28 (g := (mkF m 78 #[.val (.ref a1), .val (.int p2), .val (.int p3), .val (.long q4), .second] [(.ref a1), (.ref b2)])) rfl rfl (hb hby d5_78)
  refine own_go st30 ?_
  show own_Run p e below _ T30 (mkF m 81 #[.val (.ref a1), .val (.int p2), .val (.int p3), .val (.long q4), .second] [(.int (0 : Int32)), (.ref b2)])
  refine own_go (fun _ k => XS.iloadN X30.here hx rfl (hb hby d5_81) rfl k) ?_
  show own_Run p e below _ T30 (mkF m 82 #[.val (.ref a1), .val (.int p2), .val (.int p3), .val (.long q4), .second] [(.int p3), (.int (0 : Int32)), (.ref b2)])
  obtain ⟨cl31, Ar31, q31, S31, N31, H31, G31⟩ := id V_b2_c28
  have hin31 : ¬ ((0 : Int32) < 0 ∨ cl31.slots.size ≤ ((0 : Int32)).toNatClampNeg) := inb_of S31 ⟨by decide, by decide⟩
  obtain ⟨T32, h32, X32, e32, W32, st32⟩ := stI X30 hx hZ e30 Ar31 (j := (0 : Int32)) hin31 (g := (mkF m 82 #[.val (.ref a1), .val (.int p2), .val (.int p3), .val (.long q4), .second] [(.int p3), (.int (0 : Int32)), (.ref b2)])) rfl rfl (hb hby d5_82)
  refine own_go st32 ?_
  show own_Run p e below _ T32 (mkF m 83 #[.val (.ref a1), .val (.int p2), .val (.int p3), .val (.long q4), .second] [])
  have Z0_c33 := Nat.le_trans Z0_c28 (Keep.of_wr W32).1
  have K0_c33 := K0_c28.wr W32 (Or.inl (List.mem_of_getElem? (i := 2) rfl))
  have E_a1_c33 := E_a1_c28.wr W32
  have F_mOffsets_a1_c33 := F_mOffsets_a1_c28.other W32 (Or.inl ne_a1_b2)
  have F_mPositions_a1_c33 := F_mPositions_a1_c28.other W32 (Or.inl ne_a1_b2)
  have F_mTimestamps_a1_c33 := F_mTimestamps_a1_c28.other W32 (Or.inl ne_a1_b2)
  have F_mMaxTimestamp_a1_c33 := F_mMaxTimestamp_a1_c28.other W32 (Or.inl ne_a1_b2)
  have F_mBaseOffset_a1_c33 := F_mBaseOffset_a1_c28.other W32 (Or.inl ne_a1_b2)
  have F_mIntervalBytes_a1_c33 := F_mIntervalBytes_a1_c28.other W32 (Or.inl ne_a1_b2)
  have F_mCount_a1_c33 := F_mCount_a1_c28.other W32 (Or.inl ne_a1_b2)
  have V_b3_c33 := V_b3_c28.other W32 (Ne.symm ne_b2_b3)
  have V_b1_c33 := V_b1_c27.other W32 ne_b1_b2
  have V_b2_c32 : Arv Z h32 b2 k2 .int (16 : Int32) [(.int p3), (.int (0 : Int32)), (.int (0 : Int32)), (.int (0 : Int32)), (.int (0 : Int32)), (.int (0 : Int32)), (.int (0 : Int32)), (.int (0 : Int32)), (.int (0 : Int32)), (.int (0 : Int32)), (.int (0 : Int32)), (.int (0 : Int32)), (.int (0 : Int32)), (.int (0 : Int32)), (.int (0 : Int32)), (.int (0 : Int32))] (.int (0 : Int32)) := Arv.set Ar31 q31 S31 N31 H31 G31 rfl W32 0 rfl (Nat.le_of_ble_eq_true rfl)
  have N32 := Fr.snoc X32 N27 g_b2
  refine own_go (fun _ k => XS.aloadN X32.here hx rfl (hb hby d5_83) rfl rfl k) ?_
  show own_Run p e below _ T32 (mkF m 84 #[.val (.ref a1), .val (.int p2), .val (.int p3), .val (.long q4), .second] [(.ref a1)])
  obtain ⟨T34, X34, e34, st34⟩ := getF X32 hx hZ hown (host := "") (Or.inl (W 16 rfl)) Via.refl e32 F_mTimestamps_a1_c33 (g := (mkF m 84 #[.val (.ref a1), .val (.int p2), .val (.int p3), .val (.long q4), .second] [(.ref a1)])) rfl rfl (hb hby d5_84)
  refine own_go st34 ?_
  show own_Run p e below _ T34 (mkF m 87 #[.val (.ref a1), .val (.int p2), .val (.int p3), .val (.long q4), .second] [(.ref b3)])
  refine own_go (fun _ k => XS.aloadN X34.here hx rfl (hb hby d5_87) rfl rfl k) ?_
  show own_Run p e below _ T34 (mkF m 88 #[.val (.ref a1), .val (.int p2), .val (.int p3), .val (.long q4), .second] [(.ref a1), (.ref b3)])
  obtain ⟨T35, X35, e35, st35⟩ := getF X34 hx hZ hown (host := "") (Or.inl (W 30 rfl)) Via.refl e34 F_mCount_a1_c33 (g := (mkF m 88 #[.val (.ref a1), .val (.int p2), .val (.int p3), .val (.long q4), .second] [(.ref a1), (.ref b3)])) rfl rfl (hb hby d5_88)
  refine own_go st35 ?_
  show own_Run p e below _ T35 (mkF m 91 #[.val (.ref a1), .val (.int p2), .val (.int p3), .val (.long q4), .second] [(.int (0 : Int32)), (.ref b3)])
  refine own_go (fun _ k => XS.lloadN X35.here hx rfl (hb hby d5_91) rfl k) ?_
  show own_Run p e below _ T35 (mkF m 92 #[.val (.ref a1), .val (.int p2), .val (.int p3), .val (.long q4), .second] [(.long q4), (.int (0 : Int32)), (.ref b3)])
  obtain ⟨cl36, Ar36, q36, S36, N36, H36, G36⟩ := id V_b3_c33
  have hin36 : ¬ ((0 : Int32) < 0 ∨ cl36.slots.size ≤ ((0 : Int32)).toNatClampNeg) := inb_of S36 ⟨by decide, by decide⟩
  obtain ⟨T37, h37, X37, e37, W37, st37⟩ := stJ X35 hx hZ e35 Ar36 (j := (0 : Int32)) hin36 (g := (mkF m 92 #[.val (.ref a1), .val (.int p2), .val (.int p3), .val (.long q4), .second] [(.long q4), (.int (0 : Int32)), (.ref b3)])) rfl rfl (hb hby d5_92)
  refine own_go st37 ?_
  show own_Run p e below _ T37 (mkF m 93 #[.val (.ref a1), .val (.int p2), .val (.int p3), .val (.long q4), .second] [])
  have Z0_c38 := Nat.le_trans Z0_c33 (Keep.of_wr W37).1
  have K0_c38 := K0_c33.wr W37 (Or.inl (List.mem_of_getElem? (i := 3) rfl))
  have E_a1_c38 := E_a1_c33.wr W37
  have F_mOffsets_a1_c38 := F_mOffsets_a1_c33.other W37 (Or.inl ne_a1_b3)
  have F_mPositions_a1_c38 := F_mPositions_a1_c33.other W37 (Or.inl ne_a1_b3)
  have F_mTimestamps_a1_c38 := F_mTimestamps_a1_c33.other W37 (Or.inl ne_a1_b3)
  have F_mMaxTimestamp_a1_c38 := F_mMaxTimestamp_a1_c33.other W37 (Or.inl ne_a1_b3)
  have F_mBaseOffset_a1_c38 := F_mBaseOffset_a1_c33.other W37 (Or.inl ne_a1_b3)
  have F_mIntervalBytes_a1_c38 := F_mIntervalBytes_a1_c33.other W37 (Or.inl ne_a1_b3)
  have F_mCount_a1_c38 := F_mCount_a1_c33.other W37 (Or.inl ne_a1_b3)
  have V_b1_c38 := V_b1_c33.other W37 ne_b1_b3
  have V_b2_c38 := V_b2_c32.other W37 ne_b2_b3
  have V_b3_c37 : Arv Z h37 b3 k3 .long (16 : Int32) [(.long q4), (.long (0 : Int64)), (.long (0 : Int64)), (.long (0 : Int64)), (.long (0 : Int64)), (.long (0 : Int64)), (.long (0 : Int64)), (.long (0 : Int64)), (.long (0 : Int64)), (.long (0 : Int64)), (.long (0 : Int64)), (.long (0 : Int64)), (.long (0 : Int64)), (.long (0 : Int64)), (.long (0 : Int64)), (.long (0 : Int64))] (.long (0 : Int64)) := Arv.set Ar36 q36 S36 N36 H36 G36 rfl W37 0 rfl (Nat.le_of_ble_eq_true rfl)
  have N37 := Fr.snoc X37 N32 g_b3
  refine own_go (fun _ k => XS.aloadN X37.here hx rfl (hb hby d5_93) rfl rfl k) ?_
  refine own_go (fun _ k => XS.dup X37.here hx rfl (hb hby d5_94) rfl rfl k) ?_
  show own_Run p e below _ T37 (mkF m 95 #[.val (.ref a1), .val (.int p2), .val (.int p3), .val (.long q4), .second] [(.ref a1), (.ref a1)])
  obtain ⟨T39, X39, e39, st39⟩ := getF X37 hx hZ hown (host := "") (Or.inl (W 30 rfl)) Via.refl e37 F_mCount_a1_c38 (g := (mkF m 95 #[.val (.ref a1), .val (.int p2), .val (.int p3), .val (.long q4), .second] [(.ref a1), (.ref a1)])) rfl rfl (hb hby d5_95)
  refine own_go st39 ?_
  show own_Run p e below _ T39 (mkF m 98 #[.val (.ref a1), .val (.int p2), .val (.int p3), .val (.long q4), .second] [(.int (0 : Int32)), (.ref a1)])
  refine own_go (fun _ k => XS.iconst X39.here hx rfl (hb hby d5_98) k) ?_
  refine own_go (fun _ k => XS.iadd X39.here hx rfl (hb hby d5_99) rfl k) ?_
  show own_Run p e below _ T39 (mkF m 100 #[.val (.ref a1), .val (.int p2), .val (.int p3), .val (.long q4), .second] [(.int ((0 : Int32) + (1 : Int32))), (.ref a1)])
  rw [show ((0 : Int32) + (1 : Int32)) = (1 : Int32) by decide]
  show own_Run p e below _ T39 (mkF m 100 #[.val (.ref a1), .val (.int p2), .val (.int p3), .val (.long q4), .second] [(.int (1 : Int32)), (.ref a1)])
  obtain ⟨T40, h40, X40, e40, W40, st40⟩ := putF X39 hx hZ hown (host := "") (Or.inl (W 30 rfl)) Via.refl e39 F_mCount_a1_c38 E_a1_c38 (Or.inl (W 31 rfl)) (W 3 rfl) (ty := .int) (by decide) rfl rfl (g := (mkF m 100 #[.val (.ref a1), .val (.int p2), .val (.int p3), .val (.long q4), .second] [(.int (1 : Int32)), (.ref a1)])) rfl rfl (hb hby d5_100)
  refine own_go st40 ?_
  show own_Run p e below _ T40 (mkF m 103 #[.val (.ref a1), .val (.int p2), .val (.int p3), .val (.long q4), .second] [])
  have Z0_c41 := Nat.le_trans Z0_c38 (Keep.of_wr W40).1
  have K0_c41 := K0_c38.wr W40 (Or.inl (List.mem_of_getElem? (i := 0) rfl))
  have E_a1_c41 := E_a1_c38.wr W40
  have F_mOffsets_a1_c41 := F_mOffsets_a1_c38.other W40 (Or.inr (slot_ne (Or.inl (W 13 rfl)) (Or.inl (W 31 rfl)) (by decide) (t := (.array .int)) (t' := .int) (by decide) (by decide)))
  have F_mPositions_a1_c41 := F_mPositions_a1_c38.other W40 (Or.inr (slot_ne (Or.inl (W 15 rfl)) (Or.inl (W 31 rfl)) (by decide) (t := (.array .int)) (t' := .int) (by decide) (by decide)))
  have F_mTimestamps_a1_c41 := F_mTimestamps_a1_c38.other W40 (Or.inr (slot_ne (Or.inl (W 17 rfl)) (Or.inl (W 31 rfl)) (by decide) (t := (.array .long)) (t' := .int) (by decide) (by decide)))
  have F_mMaxTimestamp_a1_c41 := F_mMaxTimestamp_a1_c38.other W40 (Or.inr (slot_ne (Or.inl (W 20 rfl)) (Or.inl (W 31 rfl)) (by decide) (t := .long) (t' := .int) (by decide) (by decide)))
  have F_mBaseOffset_a1_c41 := F_mBaseOffset_a1_c38.other W40 (Or.inr (slot_ne (Or.inr (W 22 rfl)) (Or.inl (W 31 rfl)) (by decide) (t := .long) (t' := .int) (by decide) (by decide)))
  have F_mIntervalBytes_a1_c41 := F_mIntervalBytes_a1_c38.other W40 (Or.inr (slot_ne (Or.inr (W 24 rfl)) (Or.inl (W 31 rfl)) (by decide) (t := .long) (t' := .int) (by decide) (by decide)))
  have V_b1_c41 := V_b1_c38.other W40 (Ne.symm ne_a1_b1)
  have V_b2_c41 := V_b2_c38.other W40 (Ne.symm ne_a1_b2)
  have V_b3_c41 := V_b3_c37.other W40 (Ne.symm ne_a1_b3)
  have F_mCount_a1_c40 : Fld Z h40 a1 "com/example/tote/tote/storage/OffsetIndex" "mCount" "I" (.int (1 : Int32)) := F_mCount_a1_c38.same W40
  have N40 := Fr.snoc X40 N37 g_a1
  refine own_done (Q := fun v h L => Q5c0 Z a1 p2 p3 q4 b1 b2 b3 k1 k2 k3 mx ba iv h0 n0 v h L) (v := none) X40 (fun _ => rfl) hlk (fun fs hr => X40.returnOut hx hret (hb hby d5_103) hr) ?_ (by decide) (by decide)
  show Q5c0 Z a1 p2 p3 q4 b1 b2 b3 k1 k2 k3 mx ba iv h0 n0 _ T40.heap _
  rw [e40]
  exact ⟨rfl, N40, K0_c41, E_a1_c41, F_mOffsets_a1_c41, F_mPositions_a1_c41, F_mTimestamps_a1_c41, F_mMaxTimestamp_a1_c41, F_mBaseOffset_a1_c41, F_mIntervalBytes_a1_c41, F_mCount_a1_c40, V_b1_c41, V_b2_c41, V_b3_c41⟩
theorem d3_0 : decode prog_89_method_2_code 0 = .ok (.aload_n 0, 1) := by decide +kernel
theorem d3_1 : decode prog_89_method_2_code 1 = .ok (.getfield 36, 3) := by decide +kernel
theorem d3_4 : decode prog_89_method_2_code 4 = .ok (.ifCond .eq 25, 3) := by decide +kernel
theorem d3_7 : decode prog_89_method_2_code 7 = .ok (.lload_n 3, 1) := by decide +kernel
theorem d3_8 : decode prog_89_method_2_code 8 = .ok (.aload_n 0, 1) := by decide +kernel
theorem d3_9 : decode prog_89_method_2_code 9 = .ok (.getfield 17, 3) := by decide +kernel
theorem d3_12 : decode prog_89_method_2_code 12 = .ok (.aload_n 0, 1) := by decide +kernel
theorem d3_13 : decode prog_89_method_2_code 13 = .ok (.getfield 36, 3) := by decide +kernel
theorem d3_16 : decode prog_89_method_2_code 16 = .ok (.iconst 1, 1) := by decide +kernel
theorem d3_17 : decode prog_89_method_2_code 17 = .ok (.isub, 1) := by decide +kernel
theorem d3_18 : decode prog_89_method_2_code 18 = .ok (.iaload, 1) := by decide +kernel
theorem d3_19 : decode prog_89_method_2_code 19 = .ok (.i2l, 1) := by decide +kernel
theorem d3_20 : decode prog_89_method_2_code 20 = .ok (.lsub, 1) := by decide +kernel
theorem d3_21 : decode prog_89_method_2_code 21 = .ok (.aload_n 0, 1) := by decide +kernel
theorem d3_22 : decode prog_89_method_2_code 22 = .ok (.getfield 33, 3) := by decide +kernel
theorem d3_25 : decode prog_89_method_2_code 25 = .ok (.lcmp, 1) := by decide +kernel
theorem d3_26 : decode prog_89_method_2_code 26 = .ok (.ifCond .le 24, 3) := by decide +kernel
theorem d3_29 : decode prog_89_method_2_code 29 = .ok (.aload_n 0, 1) := by decide +kernel
theorem d3_30 : decode prog_89_method_2_code 30 = .ok (.lload_n 1, 1) := by decide +kernel
theorem d3_31 : decode prog_89_method_2_code 31 = .ok (.aload_n 0, 1) := by decide +kernel
theorem d3_32 : decode prog_89_method_2_code 32 = .ok (.getfield 30, 3) := by decide +kernel
theorem d3_35 : decode prog_89_method_2_code 35 = .ok (.lsub, 1) := by decide +kernel
theorem d3_36 : decode prog_89_method_2_code 36 = .ok (.invokestatic 40, 3) := by decide +kernel
theorem d3_39 : decode prog_89_method_2_code 39 = .ok (.lload_n 3, 1) := by decide +kernel
theorem d3_40 : decode prog_89_method_2_code 40 = .ok (.invokestatic 40, 3) := by decide +kernel
theorem d3_43 : decode prog_89_method_2_code 43 = .ok (.aload_n 0, 1) := by decide +kernel
theorem d3_44 : decode prog_89_method_2_code 44 = .ok (.getfield 26, 3) := by decide +kernel
theorem d3_47 : decode prog_89_method_2_code 47 = .ok (.invokevirtual 46, 3) := by decide +kernel
theorem d3_50 : decode prog_89_method_2_code 50 = .ok (.aload_n 0, 1) := by decide +kernel
theorem d3_51 : decode prog_89_method_2_code 51 = .ok (.aload_n 0, 1) := by decide +kernel
theorem d3_52 : decode prog_89_method_2_code 52 = .ok (.getfield 26, 3) := by decide +kernel
theorem d3_55 : decode prog_89_method_2_code 55 = .ok (.lload 5, 2) := by decide +kernel
theorem d3_57 : decode prog_89_method_2_code 57 = .ok (.invokestatic 50, 3) := by decide +kernel
theorem d3_60 : decode prog_89_method_2_code 60 = .ok (.putfield 26, 3) := by decide +kernel
theorem d3_63 : decode prog_89_method_2_code 63 = .ok (.return_, 1) := by decide +kernel
theorem pn_3 : plainName "com/example/tote/tote/storage/OffsetIndex" = true := by first | (simp [plainName, overriddenIn]; done) | decide +kernel
theorem ef_3 (m : MethodId) (x0 : Addr) (x1 : Int64) (x2 : Int64) (x3 : Int64) : entryFrame m #[(.ref x0), (.long x1), (.long x2), (.long x3)] 7 = mkF m 0 #[.val (.ref x0), .val (.long x1), .second, .val (.long x2), .second, .val (.long x3), .second] [] := by first | (simp [entryFrame, mkF, argsToLocals, Value.category]; done) | rfl
theorem pd_1 : parseMethodDescriptor "(J)I" = some ⟨[.long], some .int⟩ := by decide +kernel
theorem pd_2 : parseMethodDescriptor "(IIJ)V" = some ⟨[.int, .int, .long], none⟩ := by decide +kernel
theorem pd_3 : parseMethodDescriptor "(JJ)J" = some ⟨[.long, .long], some .long⟩ := by decide +kernel
def Q3c0 (Z : State) (a1 : Addr) (q2 : Int64) (q3 : Int64) (q4 : Int64) (b1 : Addr) (b2 : Addr) (b3 : Addr) (k1 : ClassId) (k2 : ClassId) (k3 : ClassId) (mx : Int64) (ba : Int64) (iv : Int64) (h0 : Heap) (n0 : Nat) (v : Option Value) (h : Heap) (L : List Loc) : Prop := v = none ∧ Fr n0 L ∧ Keep h0 h [a1, b1, b2, b3] ∧ Exa Z h a1 "com/example/tote/tote/storage/OffsetIndex" ∧ Fld Z h a1 "com/example/tote/tote/storage/OffsetIndex" "mOffsets" "[I" (.ref b1) ∧ Fld Z h a1 "com/example/tote/tote/storage/OffsetIndex" "mPositions" "[I" (.ref b2) ∧ Fld Z h a1 "com/example/tote/tote/storage/OffsetIndex" "mTimestamps" "[J" (.ref b3) ∧ Fld Z h a1 "com/example/tote/tote/storage/OffsetIndex" "mMaxTimestamp" "J" (.long (own_max mx q4)) ∧ Fld Z h a1 "com/example/tote/tote/storage/OffsetIndex" "mBaseOffset" "J" (.long ba) ∧ Fld Z h a1 "com/example/tote/tote/storage/OffsetIndex" "mIntervalBytes" "J" (.long iv) ∧ Fld Z h a1 "com/example/tote/tote/storage/OffsetIndex" "mCount" "I" (.int (1 : Int32)) ∧ Arv Z h b1 k1 .int (16 : Int32) [(.int ((q2 - ba).toInt32)), (.int (0 : Int32)), (.int (0 : Int32)), (.int (0 : Int32)), (.int (0 : Int32)), (.int (0 : Int32)), (.int (0 : Int32)), (.int (0 : Int32)), (.int (0 : Int32)), (.int (0 : Int32)), (.int (0 : Int32)), (.int (0 : Int32)), (.int (0 : Int32)), (.int (0 : Int32)), (.int (0 : Int32)), (.int (0 : Int32))] (.int (0 : Int32)) ∧ Arv Z h b2 k2 .int (16 : Int32) [(.int (q3.toInt32)), (.int (0 : Int32)), (.int (0 : Int32)), (.int (0 : Int32)), (.int (0 : Int32)), (.int (0 : Int32)), (.int (0 : Int32)), (.int (0 : Int32)), (.int (0 : Int32)), (.int (0 : Int32)), (.int (0 : Int32)), (.int (0 : Int32)), (.int (0 : Int32)), (.int (0 : Int32)), (.int (0 : Int32)), (.int (0 : Int32))] (.int (0 : Int32)) ∧ Arv Z h b3 k3 .long (16 : Int32) [(.long mx), (.long (0 : Int64)), (.long (0 : Int64)), (.long (0 : Int64)), (.long (0 : Int64)), (.long (0 : Int64)), (.long (0 : Int64)), (.long (0 : Int64)), (.long (0 : Int64)), (.long (0 : Int64)), (.long (0 : Int64)), (.long (0 : Int64)), (.long (0 : Int64)), (.long (0 : Int64)), (.long (0 : Int64)), (.long (0 : Int64))] (.long (0 : Int64))
set_option maxRecDepth 65536 in
set_option maxHeartbeats 40000000 in
theorem rm3c0 (l : Launch) (Z : State) (a0 : Array Value) (hw : ∀ d ∈ tables_1, d.before a0 Z = true) (ws : List Jvm.Cond) (a1 : Addr) (q2 : Int64) (q3 : Int64) (q4 : Int64) (b1 : Addr) (b2 : Addr) (b3 : Addr) (k1 : ClassId) (k2 : ClassId) (k3 : ClassId) (mx : Int64) (ba : Int64) (iv : Int64) (h0 : Heap) (n0 : Nat) (Z0 : n0 ≤ h0.size) (E_a1 : Exa Z h0 a1 "com/example/tote/tote/storage/OffsetIndex") (F_mOffsets_a1 : Fld Z h0 a1 "com/example/tote/tote/storage/OffsetIndex" "mOffsets" "[I" (.ref b1)) (F_mPositions_a1 : Fld Z h0 a1 "com/example/tote/tote/storage/OffsetIndex" "mPositions" "[I" (.ref b2)) (F_mTimestamps_a1 : Fld Z h0 a1 "com/example/tote/tote/storage/OffsetIndex" "mTimestamps" "[J" (.ref b3)) (F_mMaxTimestamp_a1 : Fld Z h0 a1 "com/example/tote/tote/storage/OffsetIndex" "mMaxTimestamp" "J" (.long mx)) (F_mBaseOffset_a1 : Fld Z h0 a1 "com/example/tote/tote/storage/OffsetIndex" "mBaseOffset" "J" (.long ba)) (F_mIntervalBytes_a1 : Fld Z h0 a1 "com/example/tote/tote/storage/OffsetIndex" "mIntervalBytes" "J" (.long iv)) (F_mCount_a1 : Fld Z h0 a1 "com/example/tote/tote/storage/OffsetIndex" "mCount" "I" (.int (0 : Int32))) (V_b1 : Arv Z h0 b1 k1 .int (16 : Int32) [(.int (0 : Int32)), (.int (0 : Int32)), (.int (0 : Int32)), (.int (0 : Int32)), (.int (0 : Int32)), (.int (0 : Int32)), (.int (0 : Int32)), (.int (0 : Int32)), (.int (0 : Int32)), (.int (0 : Int32)), (.int (0 : Int32)), (.int (0 : Int32)), (.int (0 : Int32)), (.int (0 : Int32)), (.int (0 : Int32)), (.int (0 : Int32))] (.int (0 : Int32))) (V_b2 : Arv Z h0 b2 k2 .int (16 : Int32) [(.int (0 : Int32)), (.int (0 : Int32)), (.int (0 : Int32)), (.int (0 : Int32)), (.int (0 : Int32)), (.int (0 : Int32)), (.int (0 : Int32)), (.int (0 : Int32)), (.int (0 : Int32)), (.int (0 : Int32)), (.int (0 : Int32)), (.int (0 : Int32)), (.int (0 : Int32)), (.int (0 : Int32)), (.int (0 : Int32)), (.int (0 : Int32))] (.int (0 : Int32))) (V_b3 : Arv Z h0 b3 k3 .long (16 : Int32) [(.long (0 : Int64)), (.long (0 : Int64)), (.long (0 : Int64)), (.long (0 : Int64)), (.long (0 : Int64)), (.long (0 : Int64)), (.long (0 : Int64)), (.long (0 : Int64)), (.long (0 : Int64)), (.long (0 : Int64)), (.long (0 : Int64)), (.long (0 : Int64)), (.long (0 : Int64)), (.long (0 : Int64)), (.long (0 : Int64)), (.long (0 : Int64))] (.long (0 : Int64))) (g_a1 : n0 ≤ a1) (g_b1 : n0 ≤ b1) (g_b2 : n0 ≤ b2) (g_b3 : n0 ≤ b3) (ne_a1_b1 : a1 ≠ b1) (ne_a1_b2 : a1 ≠ b2) (ne_a1_b3 : a1 ≠ b3) (ne_b1_b2 : b1 ≠ b2) (ne_b1_b3 : b1 ≠ b3) (ne_b2_b3 : b2 ≠ b3) (ho : (((q2 - ba).toInt32).toInt64) = (q2 - ba)) (hq : ((q3.toInt32).toInt64) = q3) :
    MetFree l (⟨"com/example/tote/tote/storage/OffsetIndex", "add", "(JJJ)V"⟩ : MethodName) (head1 (Jvm.Cond.code (⟨"com/example/tote/tote/storage/OffsetIndex", "add", "(JJJ)V"⟩ : MethodName) prog_89_method_2_code 7 none :: ws) ({ frames := 1, cells := 0, slots := 0, locals := 17 } : Room)) (fun a U => a = #[(.ref a1), (.long q2), (.long q3), (.long q4)] ∧ Z.Warmed39 U.vm ∧ U.heap = h0) (fun _ _ _ _ _ => True) (fun _ U o U' => ∃ v L, o = .returned v ∧ Q3c0 Z a1 q2 q3 q4 b1 b2 b3 k1 k2 k3 mx ba iv h0 n0 v U'.heap L ∧ FrameEnd U o U' L ({ frames := 1, cells := 0, slots := 0, locals := 17 } : Room).cells ({ frames := 1, cells := 0, slots := 0, locals := 17 } : Room).slots) := by
  refine MetFree.of_bodySF (plainFor_of_name pn_3) hisR ?_
  intro p e s m args below meth c s₁ Bd hml0 hP hK
  obtain ⟨rfl, hZ, hh⟩ := hP
  have hx := Bd.exec
  have hby := Bd.bytes
  have hml : c.maxLocals = 7 := hml0
  have hown : s.vm.findClass "com/example/tote/tote/storage/OffsetIndex" = some m.cls := findClass_of_methodNamed Bd.named
  have hnm := (name_of_methodNamed Bd.named Bd.method).1
  have hret := Bd.returns
  have hlk : meth.locks = false := BodyLoose.notSynchronized Bd
  have X0 : Stand p l e ({ frames := 1, cells := 0, slots := 0, locals := 17 } : Room) s m #[(.ref a1), (.long q2), (.long q3), (.long q4)] below meth c s₁ [] 0 0 := Stand.of_body Bd
  have e0 : s₁.heap = h0 := by rw [← hh, Bd.state]; rfl
  have N0 := Fr.nil n0
  have W := fun (k : Nat) {d : Jvm.Cond} (h : tables_1[k]? = some d) => hw d (List.mem_of_getElem? h)
  have K0 : Keep h0 h0 [a1, b1, b2, b3] := Keep.refl _ _
  refine own_start (ef_3 m a1 q2 q3 q4) ?_
  show own_Run p e below _ s₁ (mkF m 0 #[.val (.ref a1), .val (.long q2), .second, .val (.long q3), .second, .val (.long q4), .second] [])
  refine own_go (fun _ k => XS.aloadN X0.here hx rfl (hb hby d3_0) rfl rfl k) ?_
  show own_Run p e below _ s₁ (mkF m 1 #[.val (.ref a1), .val (.long q2), .second, .val (.long q3), .second, .val (.long q4), .second] [(.ref a1)])
  obtain ⟨T42, X42, e42, st42⟩ := getF X0 hx hZ hown (host := "") (Or.inl (W 30 rfl)) Via.refl e0 F_mCount_a1 (g := (mkF m 1 #[.val (.ref a1), .val (.long q2), .second, .val (.long q3), .second, .val (.long q4), .second] [(.ref a1)])) rfl rfl (hb hby d3_1)
  refine own_go st42 ?_
  show own_Run p e below _ T42 (mkF m 4 #[.val (.ref a1), .val (.long q2), .second, .val (.long q3), .second, .val (.long q4), .second] [(.int (0 : Int32))])
  refine own_go (fun _ k => XS.ifYes X42.here hx rfl (pc0 := 4) (pc' := 29) rfl (hb hby d3_4) rfl ((if0 _ _).trans (teq (by decide : (0 : Int32) = (0 : Int32))).1) (by decide) (by decide) k) ?_
  show own_Run p e below _ T42 (mkF m 29 #[.val (.ref a1), .val (.long q2), .second, .val (.long q3), .second, .val (.long q4), .second] [])
  refine own_go (fun _ k => XS.aloadN X42.here hx rfl (hb hby d3_29) rfl rfl k) ?_
  refine own_go (fun _ k => XS.lloadN X42.here hx rfl (hb hby d3_30) rfl k) ?_
  refine own_go (fun _ k => XS.aloadN X42.here hx rfl (hb hby d3_31) rfl rfl k) ?_
  show own_Run p e below _ T42 (mkF m 32 #[.val (.ref a1), .val (.long q2), .second, .val (.long q3), .second, .val (.long q4), .second] [(.ref a1), (.long q2), (.ref a1)])
  obtain ⟨T43, X43, e43, st43⟩ := getF X42 hx hZ hown (host := "") (Or.inl (W 21 rfl)) Via.refl e42 F_mBaseOffset_a1 (g := (mkF m 32 #[.val (.ref a1), .val (.long q2), .second, .val (.long q3), .second, .val (.long q4), .second] [(.ref a1), (.long q2), (.ref a1)])) rfl rfl (hb hby d3_32)
  refine own_go st43 ?_
  show own_Run p e below _ T43 (mkF m 35 #[.val (.ref a1), .val (.long q2), .second, .val (.long q3), .second, .val (.long q4), .second] [(.long ba), (.long q2), (.ref a1)])
  refine own_go (fun _ k => XS.lsub X43.here hx rfl (hb hby d3_35) rfl k) ?_
  show own_Run p e below _ T43 (mkF m 36 #[.val (.ref a1), .val (.long q2), .second, .val (.long q3), .second, .val (.long q4), .second] [(.long (q2 - ba)), (.ref a1)])
  obtain ⟨_, _, ⟨T44, L44, k44, n44⟩, -, X44, ⟨Lc44, hQ44, l44, y44, z44⟩, st44⟩ := Jvm.LawKit.callS X43 hx (y := (⟨"java/lang/Math", "toIntExact", "(J)I"⟩ : MethodName)) hown (mvT hZ (W 32 rfl)) (mvT hZ (W 33 rfl)) (mvT hZ (W 34 rfl)) (mvT hZ (W 35 rfl)) (by decide) (backOf (W := 1) (rm4 l Z a0 hw [] (q2 - ba) h0 n0 Z0 (ho)) hZ (W 35 rfl) (W 34 rfl) (by decide) (by decide)) (g := (mkF m 36 #[.val (.ref a1), .val (.long q2), .second, .val (.long q3), .second, .val (.long q4), .second] [(.long (q2 - ba)), (.ref a1)])) rfl (by rw [hml]; rfl) (argsL := [(.long (q2 - ba))]) (rest := [(.ref a1)]) (lenOf pd_1 rfl) rfl (by show 2 * 0 + _ ≤ _; exact Nat.le_of_eq rfl) (hb hby d3_36) (fun _ _ => ⟨rfl, e43, (by decide : 0 + 0 ≤ _), (by decide : 0 + 0 ≤ _)⟩)
  dsimp only [Pt.U, Pt.locs, Pt.cells, Pt.slots] at X44 l44 y44 z44 st44 hQ44
  subst l44 y44 z44
  obtain ⟨rfl, N44q, e44⟩ := hQ44
  have N44 := Fr.app N0 N44q
  refine own_go st44 ?_
  show own_Run p e below _ T44 (mkF m 39 #[.val (.ref a1), .val (.long q2), .second, .val (.long q3), .second, .val (.long q4), .second] [(.int ((q2 - ba).toInt32)), (.ref a1)])
  refine own_go (fun _ k => XS.lloadN X44.here hx rfl (hb hby d3_39) rfl k) ?_
  show own_Run p e below _ T44 (mkF m 40 #[.val (.ref a1), .val (.long q2), .second, .val (.long q3), .second, .val (.long q4), .second] [(.long q3), (.int ((q2 - ba).toInt32)), (.ref a1)])
  obtain ⟨_, _, ⟨T45, L45, k45, n45⟩, -, X45, ⟨Lc45, hQ45, l45, y45, z45⟩, st45⟩ := Jvm.LawKit.callS X44 hx (y := (⟨"java/lang/Math", "toIntExact", "(J)I"⟩ : MethodName)) hown (mvT hZ (W 32 rfl)) (mvT hZ (W 33 rfl)) (mvT hZ (W 34 rfl)) (mvT hZ (W 35 rfl)) (by decide) (backOf (W := 2) (rm4 l Z a0 hw [] q3 h0 n0 Z0 (hq)) hZ (W 35 rfl) (W 34 rfl) (by decide) (by decide)) (g := (mkF m 40 #[.val (.ref a1), .val (.long q2), .second, .val (.long q3), .second, .val (.long q4), .second] [(.long q3), (.int ((q2 - ba).toInt32)), (.ref a1)])) rfl (by rw [hml]; rfl) (argsL := [(.long q3)]) (rest := [(.int ((q2 - ba).toInt32)), (.ref a1)]) (lenOf pd_1 rfl) rfl (by show 2 * 0 + _ ≤ _; exact Nat.le_of_eq rfl) (hb hby d3_40) (fun _ _ => ⟨rfl, e44, (by decide : 0 + 0 ≤ _), (by decide : 0 + 0 ≤ _)⟩)
  dsimp only [Pt.U, Pt.locs, Pt.cells, Pt.slots] at X45 l45 y45 z45 st45 hQ45
  subst l45 y45 z45
  obtain ⟨rfl, N45q, e45⟩ := hQ45
  have N45 := Fr.app N44 N45q
  refine own_go st45 ?_
  show own_Run p e below _ T45 (mkF m 43 #[.val (.ref a1), .val (.long q2), .second, .val (.long q3), .second, .val (.long q4), .second] [(.int (q3.toInt32)), (.int ((q2 - ba).toInt32)), (.ref a1)])
  refine own_go (fun _ k => XS.aloadN X45.here hx rfl (hb hby d3_43) rfl rfl k) ?_
  show own_Run p e below _ T45 (mkF m 44 #[.val (.ref a1), .val (.long q2), .second, .val (.long q3), .second, .val (.long q4), .second] [(.ref a1), (.int (q3.toInt32)), (.int ((q2 - ba).toInt32)), (.ref a1)])
  obtain ⟨T46, X46, e46, st46⟩ := getF X45 hx hZ hown (host := "") (Or.inl (W 19 rfl)) Via.refl e45 F_mMaxTimestamp_a1 (g := (mkF m 44 #[.val (.ref a1), .val (.long q2), .second, .val (.long q3), .second, .val (.long q4), .second] [(.ref a1), (.int (q3.toInt32)), (.int ((q2 - ba).toInt32)), (.ref a1)])) rfl rfl (hb hby d3_44)
  refine own_go st46 ?_
  show own_Run p e below _ T46 (mkF m 47 #[.val (.ref a1), .val (.long q2), .second, .val (.long q3), .second, .val (.long q4), .second] [(.long mx), (.int (q3.toInt32)), (.int ((q2 - ba).toInt32)), (.ref a1)])
  obtain ⟨cq47, q47, q47'⟩ := E_a1.cell
  obtain ⟨_, _, ⟨T47, L47, k47, n47⟩, -, X47, ⟨Lc47, hQ47, l47, y47, z47⟩, st47⟩ := X46.privateBack hx (y := (⟨"com/example/tote/tote/storage/OffsetIndex", "append", "(IIJ)V"⟩ : MethodName)) hown (mvT hZ (W 36 rfl)) (mvT hZ (W 37 rfl)) (own_selP (args := #[]) (y := (⟨"com/example/tote/tote/storage/OffsetIndex", "append", "(IIJ)V"⟩ : MethodName)) (mvT hZ (W 28 rfl)) rfl (Cond.privateMethod_at (mvP hZ (W 38 rfl) (args := #[]))) (mvT hZ (W 37 rfl)) (by decide)) (Cond.privateMethod_at (mvP hZ (W 38 rfl) (args := #[]))) (mvT hZ (W 39 rfl)) (by decide) (backOf (W := 0) (rm5c0 l Z a0 hw [] a1 ((q2 - ba).toInt32) (q3.toInt32) mx b1 b2 b3 k1 k2 k3 mx ba iv h0 n0 Z0 E_a1 F_mOffsets_a1 F_mPositions_a1 F_mTimestamps_a1 F_mMaxTimestamp_a1 F_mBaseOffset_a1 F_mIntervalBytes_a1 F_mCount_a1 V_b1 V_b2 V_b3 g_a1 g_b1 g_b2 g_b3 ne_a1_b1 ne_a1_b2 ne_a1_b3 ne_b1_b2 ne_b1_b3 ne_b2_b3) hZ (W 39 rfl) (W 4 rfl) (by decide) (by decide)) (g := (mkF m 47 #[.val (.ref a1), .val (.long q2), .second, .val (.long q3), .second, .val (.long q4), .second] [(.long mx), (.int (q3.toInt32)), (.int ((q2 - ba).toInt32)), (.ref a1)])) rfl (by rw [hml]; rfl) (Steps.refl _) (a := a1) (by rw [e46]; exact q47) q47' (argsL := [(.int ((q2 - ba).toInt32)), (.int (q3.toInt32)), (.long mx)]) (rest := []) (lenOf pd_2 rfl) rfl (by show 2 * 0 + _ ≤ _; exact Nat.le_of_eq rfl) (hb hby d3_47) (fun _ _ => ⟨rfl, e46, (by decide : 0 + 0 ≤ _), (by decide : 0 + 0 ≤ _)⟩)
  dsimp only [Pt.U, Pt.locs, Pt.cells, Pt.slots] at X47 l47 y47 z47 st47 hQ47
  subst l47 y47 z47
  obtain ⟨rfl, N47q, K47, P47_0, P47_1, P47_2, P47_3, P47_4, P47_5, P47_6, P47_7, P47_8, P47_9, P47_10⟩ := hQ47
  have N47 := Fr.app N45 N47q
  refine own_goT st47 ?_
  show own_Run p e below _ T47 (mkF m 50 #[.val (.ref a1), .val (.long q2), .second, .val (.long q3), .second, .val (.long q4), .second] [])
  have Z0_c48 := Nat.le_trans Z0 K47.1
  have K0_c48 := K0.trans K47 (allS (Or.inl (List.mem_of_getElem? (i := 0) rfl)) (allS (Or.inl (List.mem_of_getElem? (i := 1) rfl)) (allS (Or.inl (List.mem_of_getElem? (i := 2) rfl)) (allS (Or.inl (List.mem_of_getElem? (i := 3) rfl)) all0))))
  have E_a1_c48 := E_a1.keep K47
  refine own_go (fun _ k => XS.aloadN X47.here hx rfl (hb hby d3_50) rfl rfl k) ?_
  refine own_go (fun _ k => XS.aloadN X47.here hx rfl (hb hby d3_51) rfl rfl k) ?_
  show own_Run p e below _ T47 (mkF m 52 #[.val (.ref a1), .val (.long q2), .second, .val (.long q3), .second, .val (.long q4), .second] [(.ref a1), (.ref a1)])
  obtain ⟨T49, X49, e49, st49⟩ := getF X47 hx hZ hown (host := "") (Or.inl (W 19 rfl)) Via.refl rfl P47_4 (g := (mkF m 52 #[.val (.ref a1), .val (.long q2), .second, .val (.long q3), .second, .val (.long q4), .second] [(.ref a1), (.ref a1)])) rfl rfl (hb hby d3_52)
  refine own_go st49 ?_
  show own_Run p e below _ T49 (mkF m 55 #[.val (.ref a1), .val (.long q2), .second, .val (.long q3), .second, .val (.long q4), .second] [(.long mx), (.ref a1)])
  refine own_go (fun _ k => XS.lload X49.here hx rfl (hb hby d3_55) rfl k) ?_
  show own_Run p e below _ T49 (mkF m 57 #[.val (.ref a1), .val (.long q2), .second, .val (.long q3), .second, .val (.long q4), .second] [(.long q4), (.long mx), (.ref a1)])
  obtain ⟨_, _, ⟨T50, L50, k50, n50⟩, -, X50, ⟨Lc50, hQ50, l50, y50, z50⟩, st50⟩ := Jvm.LawKit.callS X49 hx (y := (⟨"java/lang/Math", "max", "(JJ)J"⟩ : MethodName)) hown (mvT hZ (W 40 rfl)) (mvT hZ (W 41 rfl)) (mvT hZ (W 34 rfl)) (mvT hZ (W 42 rfl)) (by decide) (backOf (W := 1) (rm6 l Z a0 hw [] mx q4 T47.heap n0 Z0_c48 ) hZ (W 42 rfl) (W 34 rfl) (by decide) (by decide)) (g := (mkF m 57 #[.val (.ref a1), .val (.long q2), .second, .val (.long q3), .second, .val (.long q4), .second] [(.long q4), (.long mx), (.ref a1)])) rfl (by rw [hml]; rfl) (argsL := [(.long mx), (.long q4)]) (rest := [(.ref a1)]) (lenOf pd_3 rfl) rfl (by show 2 * 0 + _ ≤ _; exact Nat.le_of_eq rfl) (hb hby d3_57) (fun _ _ => ⟨rfl, e49, (by decide : 0 + 0 ≤ _), (by decide : 0 + 0 ≤ _)⟩)
  dsimp only [Pt.U, Pt.locs, Pt.cells, Pt.slots] at X50 l50 y50 z50 st50 hQ50
  subst l50 y50 z50
  obtain ⟨rfl, N50q, e50⟩ := hQ50
  have N50 := Fr.app N47 N50q
  refine own_go st50 ?_
  show own_Run p e below _ T50 (mkF m 60 #[.val (.ref a1), .val (.long q2), .second, .val (.long q3), .second, .val (.long q4), .second] [(.long (own_max mx q4)), (.ref a1)])
  obtain ⟨T51, h51, X51, e51, W51, st51⟩ := putF X50 hx hZ hown (host := "") (Or.inl (W 19 rfl)) Via.refl e50 P47_4 P47_0 (Or.inl (W 20 rfl)) (W 3 rfl) (ty := .long) (by decide) rfl rfl (g := (mkF m 60 #[.val (.ref a1), .val (.long q2), .second, .val (.long q3), .second, .val (.long q4), .second] [(.long (own_max mx q4)), (.ref a1)])) rfl rfl (hb hby d3_60)
  refine own_go st51 ?_
  show own_Run p e below _ T51 (mkF m 63 #[.val (.ref a1), .val (.long q2), .second, .val (.long q3), .second, .val (.long q4), .second] [])
  have Z0_c52 := Nat.le_trans Z0_c48 (Keep.of_wr W51).1
  have K0_c52 := K0_c48.wr W51 (Or.inl (List.mem_of_getElem? (i := 0) rfl))
  have P47_0_c52 := P47_0.wr W51
  have P47_1_c52 := P47_1.other W51 (Or.inr (slot_ne (Or.inl (W 13 rfl)) (Or.inl (W 20 rfl)) (by decide) (t := (.array .int)) (t' := .long) (by decide) (by decide)))
  have P47_2_c52 := P47_2.other W51 (Or.inr (slot_ne (Or.inl (W 15 rfl)) (Or.inl (W 20 rfl)) (by decide) (t := (.array .int)) (t' := .long) (by decide) (by decide)))
  have P47_3_c52 := P47_3.other W51 (Or.inr (slot_ne (Or.inl (W 17 rfl)) (Or.inl (W 20 rfl)) (by decide) (t := (.array .long)) (t' := .long) (by decide) (by decide)))
  have P47_5_c52 := P47_5.other W51 (Or.inr (slot_ne (Or.inr (W 22 rfl)) (Or.inl (W 20 rfl)) (by decide) (t := .long) (t' := .long) (by decide) (by decide)))
  have P47_6_c52 := P47_6.other W51 (Or.inr (slot_ne (Or.inr (W 24 rfl)) (Or.inl (W 20 rfl)) (by decide) (t := .long) (t' := .long) (by decide) (by decide)))
  have P47_7_c52 := P47_7.other W51 (Or.inr (slot_ne (Or.inl (W 31 rfl)) (Or.inl (W 20 rfl)) (by decide) (t := .int) (t' := .long) (by decide) (by decide)))
  have P47_8_c52 := P47_8.other W51 (Ne.symm ne_a1_b1)
  have P47_9_c52 := P47_9.other W51 (Ne.symm ne_a1_b2)
  have P47_10_c52 := P47_10.other W51 (Ne.symm ne_a1_b3)
  have F_mMaxTimestamp_a1_c51 : Fld Z h51 a1 "com/example/tote/tote/storage/OffsetIndex" "mMaxTimestamp" "J" (.long (own_max mx q4)) := P47_4.same W51
  have N51 := Fr.snoc X51 N50 g_a1
  refine own_done (Q := fun v h L => Q3c0 Z a1 q2 q3 q4 b1 b2 b3 k1 k2 k3 mx ba iv h0 n0 v h L) (v := none) X51 (fun _ => rfl) hlk (fun fs hr => X51.returnOut hx hret (hb hby d3_63) hr) ?_ (by decide) (by decide)
  show Q3c0 Z a1 q2 q3 q4 b1 b2 b3 k1 k2 k3 mx ba iv h0 n0 _ T51.heap _
  rw [e51]
  exact ⟨rfl, N51, K0_c52, P47_0_c52, P47_1_c52, P47_2_c52, P47_3_c52, F_mMaxTimestamp_a1_c51, P47_5_c52, P47_6_c52, P47_7_c52, P47_8_c52, P47_9_c52, P47_10_c52⟩
def Q5c1 (Z : State) (a1 : Addr) (p2 : Int32) (p3 : Int32) (q4 : Int64) (b1 : Addr) (b2 : Addr) (b3 : Addr) (k1 : ClassId) (k2 : ClassId) (k3 : ClassId) (mx : Int64) (ba : Int64) (iv : Int64) (x0 : Int32) (y0 : Int32) (z0 : Int64) (h0 : Heap) (n0 : Nat) (v : Option Value) (h : Heap) (L : List Loc) : Prop := v = none ∧ Fr n0 L ∧ Keep h0 h [a1, b1, b2, b3] ∧ Exa Z h a1 "com/example/tote/tote/storage/OffsetIndex" ∧ Fld Z h a1 "com/example/tote/tote/storage/OffsetIndex" "mOffsets" "[I" (.ref b1) ∧ Fld Z h a1 "com/example/tote/tote/storage/OffsetIndex" "mPositions" "[I" (.ref b2) ∧ Fld Z h a1 "com/example/tote/tote/storage/OffsetIndex" "mTimestamps" "[J" (.ref b3) ∧ Fld Z h a1 "com/example/tote/tote/storage/OffsetIndex" "mMaxTimestamp" "J" (.long mx) ∧ Fld Z h a1 "com/example/tote/tote/storage/OffsetIndex" "mBaseOffset" "J" (.long ba) ∧ Fld Z h a1 "com/example/tote/tote/storage/OffsetIndex" "mIntervalBytes" "J" (.long iv) ∧ Fld Z h a1 "com/example/tote/tote/storage/OffsetIndex" "mCount" "I" (.int (2 : Int32)) ∧ Arv Z h b1 k1 .int (16 : Int32) [(.int x0), (.int p2), (.int (0 : Int32)), (.int (0 : Int32)), (.int (0 : Int32)), (.int (0 : Int32)), (.int (0 : Int32)), (.int (0 : Int32)), (.int (0 : Int32)), (.int (0 : Int32)), (.int (0 : Int32)), (.int (0 : Int32)), (.int (0 : Int32)), (.int (0 : Int32)), (.int (0 : Int32)), (.int (0 : Int32))] (.int (0 : Int32)) ∧ Arv Z h b2 k2 .int (16 : Int32) [(.int y0), (.int p3), (.int (0 : Int32)), (.int (0 : Int32)), (.int (0 : Int32)), (.int (0 : Int32)), (.int (0 : Int32)), (.int (0 : Int32)), (.int (0 : Int32)), (.int (0 : Int32)), (.int (0 : Int32)), (.int (0 : Int32)), (.int (0 : Int32)), (.int (0 : Int32)), (.int (0 : Int32)), (.int (0 : Int32))] (.int (0 : Int32)) ∧ Arv Z h b3 k3 .long (16 : Int32) [(.long z0), (.long q4), (.long (0 : Int64)), (.long (0 : Int64)), (.long (0 : Int64)), (.long (0 : Int64)), (.long (0 : Int64)), (.long (0 : Int64)), (.long (0 : Int64)), (.long (0 : Int64)), (.long (0 : Int64)), (.long (0 : Int64)), (.long (0 : Int64)), (.long (0 : Int64)), (.long (0 : Int64)), (.long (0 : Int64))] (.long (0 : Int64))
set_option maxRecDepth 65536 in
set_option maxHeartbeats 40000000 in
theorem rm5c1 (l : Launch) (Z : State) (a0 : Array Value) (hw : ∀ d ∈ tables_1, d.before a0 Z = true) (ws : List Jvm.Cond) (a1 : Addr) (p2 : Int32) (p3 : Int32) (q4 : Int64) (b1 : Addr) (b2 : Addr) (b3 : Addr) (k1 : ClassId) (k2 : ClassId) (k3 : ClassId) (mx : Int64) (ba : Int64) (iv : Int64) (x0 : Int32) (y0 : Int32) (z0 : Int64) (h0 : Heap) (n0 : Nat) (Z0 : n0 ≤ h0.size) (E_a1 : Exa Z h0 a1 "com/example/tote/tote/storage/OffsetIndex") (F_mOffsets_a1 : Fld Z h0 a1 "com/example/tote/tote/storage/OffsetIndex" "mOffsets" "[I" (.ref b1)) (F_mPositions_a1 : Fld Z h0 a1 "com/example/tote/tote/storage/OffsetIndex" "mPositions" "[I" (.ref b2)) (F_mTimestamps_a1 : Fld Z h0 a1 "com/example/tote/tote/storage/OffsetIndex" "mTimestamps" "[J" (.ref b3)) (F_mMaxTimestamp_a1 : Fld Z h0 a1 "com/example/tote/tote/storage/OffsetIndex" "mMaxTimestamp" "J" (.long mx)) (F_mBaseOffset_a1 : Fld Z h0 a1 "com/example/tote/tote/storage/OffsetIndex" "mBaseOffset" "J" (.long ba)) (F_mIntervalBytes_a1 : Fld Z h0 a1 "com/example/tote/tote/storage/OffsetIndex" "mIntervalBytes" "J" (.long iv)) (F_mCount_a1 : Fld Z h0 a1 "com/example/tote/tote/storage/OffsetIndex" "mCount" "I" (.int (1 : Int32))) (V_b1 : Arv Z h0 b1 k1 .int (16 : Int32) [(.int x0), (.int (0 : Int32)), (.int (0 : Int32)), (.int (0 : Int32)), (.int (0 : Int32)), (.int (0 : Int32)), (.int (0 : Int32)), (.int (0 : Int32)), (.int (0 : Int32)), (.int (0 : Int32)), (.int (0 : Int32)), (.int (0 : Int32)), (.int (0 : Int32)), (.int (0 : Int32)), (.int (0 : Int32)), (.int (0 : Int32))] (.int (0 : Int32))) (V_b2 : Arv Z h0 b2 k2 .int (16 : Int32) [(.int y0), (.int (0 : Int32)), (.int (0 : Int32)), (.int (0 : Int32)), (.int (0 : Int32)), (.int (0 : Int32)), (.int (0 : Int32)), (.int (0 : Int32)), (.int (0 : Int32)), (.int (0 : Int32)), (.int (0 : Int32)), (.int (0 : Int32)), (.int (0 : Int32)), (.int (0 : Int32)), (.int (0 : Int32)), (.int (0 : Int32))] (.int (0 : Int32))) (V_b3 : Arv Z h0 b3 k3 .long (16 : Int32) [(.long z0), (.long (0 : Int64)), (.long (0 : Int64)), (.long (0 : Int64)), (.long (0 : Int64)), (.long (0 : Int64)), (.long (0 : Int64)), (.long (0 : Int64)), (.long (0 : Int64)), (.long (0 : Int64)), (.long (0 : Int64)), (.long (0 : Int64)), (.long (0 : Int64)), (.long (0 : Int64)), (.long (0 : Int64)), (.long (0 : Int64))] (.long (0 : Int64))) (g_a1 : n0 ≤ a1) (g_b1 : n0 ≤ b1) (g_b2 : n0 ≤ b2) (g_b3 : n0 ≤ b3) (ne_a1_b1 : a1 ≠ b1) (ne_a1_b2 : a1 ≠ b2) (ne_a1_b3 : a1 ≠ b3) (ne_b1_b2 : b1 ≠ b2) (ne_b1_b3 : b1 ≠ b3) (ne_b2_b3 : b2 ≠ b3) :
    MetFree l (⟨"com/example/tote/tote/storage/OffsetIndex", "append", "(IIJ)V"⟩ : MethodName) (head1 (Jvm.Cond.code (⟨"com/example/tote/tote/storage/OffsetIndex", "append", "(IIJ)V"⟩ : MethodName) prog_89_method_15_code 5 none :: ws) ({ frames := 0, cells := 0, slots := 0, locals := 0 } : Room)) (fun a U => a = #[(.ref a1), (.int p2), (.int p3), (.long q4)] ∧ Z.Warmed39 U.vm ∧ U.heap = h0) (fun _ _ _ _ _ => True) (fun _ U o U' => ∃ v L, o = .returned v ∧ Q5c1 Z a1 p2 p3 q4 b1 b2 b3 k1 k2 k3 mx ba iv x0 y0 z0 h0 n0 v U'.heap L ∧ FrameEnd U o U' L ({ frames := 0, cells := 0, slots := 0, locals := 0 } : Room).cells ({ frames := 0, cells := 0, slots := 0, locals := 0 } : Room).slots) := by
  refine MetFree.of_bodySF (plainFor_of_name pn_5) hisR ?_
  intro p e s m args below meth c s₁ Bd hml0 hP hK
  obtain ⟨rfl, hZ, hh⟩ := hP
  have hx := Bd.exec
  have hby := Bd.bytes
  have hml : c.maxLocals = 5 := hml0
  have hown : s.vm.findClass "com/example/tote/tote/storage/OffsetIndex" = some m.cls := findClass_of_methodNamed Bd.named
  have hnm := (name_of_methodNamed Bd.named Bd.method).1
  have hret := Bd.returns
  have hlk : meth.locks = false := BodyLoose.notSynchronized Bd
  have X0 : Stand p l e ({ frames := 0, cells := 0, slots := 0, locals := 0 } : Room) s m #[(.ref a1), (.int p2), (.int p3), (.long q4)] below meth c s₁ [] 0 0 := Stand.of_body Bd
  have e0 : s₁.heap = h0 := by rw [← hh, Bd.state]; rfl
  have N0 := Fr.nil n0
  have W := fun (k : Nat) {d : Jvm.Cond} (h : tables_1[k]? = some d) => hw d (List.mem_of_getElem? h)
  have K0 : Keep h0 h0 [a1, b1, b2, b3] := Keep.refl _ _
  refine own_start (ef_5 m a1 p2 p3 q4) ?_
  show own_Run p e below _ s₁ (mkF m 0 #[.val (.ref a1), .val (.int p2), .val (.int p3), .val (.long q4), .second] [])
  refine own_go (fun _ k => XS.aloadN X0.here hx rfl (hb hby d5_0) rfl rfl k) ?_
  show own_Run p e below _ s₁ (mkF m 1 #[.val (.ref a1), .val (.int p2), .val (.int p3), .val (.long q4), .second] [(.ref a1)])
  obtain ⟨T53, X53, e53, st53⟩ := getF X0 hx hZ hown (host := "") (Or.inl (W 30 rfl)) Via.refl e0 F_mCount_a1 (g := (mkF m 1 #[.val (.ref a1), .val (.int p2), .val (.int p3), .val (.long q4), .second] [(.ref a1)])) rfl rfl (hb hby d5_1)
  refine own_go st53 ?_
  show own_Run p e below _ T53 (mkF m 4 #[.val (.ref a1), .val (.int p2), .val (.int p3), .val (.long q4), .second] [(.int (1 : Int32))])
  refine own_go (fun _ k => XS.aloadN X53.here hx rfl (hb hby d5_4) rfl rfl k) ?_
  show own_Run p e below _ T53 (mkF m 5 #[.val (.ref a1), .val (.int p2), .val (.int p3), .val (.long q4), .second] [(.ref a1), (.int (1 : Int32))])
  obtain ⟨T54, X54, e54, st54⟩ := getF X53 hx hZ hown (host := "") (Or.inl (W 12 rfl)) Via.refl e53 F_mOffsets_a1 (g := (mkF m 5 #[.val (.ref a1), .val (.int p2), .val (.int p3), .val (.long q4), .second] [(.ref a1), (.int (1 : Int32))])) rfl rfl (hb hby d5_5)
  refine own_go st54 ?_
  show own_Run p e below _ T54 (mkF m 8 #[.val (.ref a1), .val (.int p2), .val (.int p3), .val (.long q4), .second] [(.ref b1), (.int (1 : Int32))])
  obtain ⟨cl55, Ar55, q55, S55, N55, H55, G55⟩ := id V_b1
  refine own_go (X54.arraylength hx (by rw [e54]; exact Ar55.1) (State.isArrayOf_alike hZ.alike Ar55.2.1) (g := (mkF m 8 #[.val (.ref a1), .val (.int p2), .val (.int p3), .val (.long q4), .second] [(.ref b1), (.int (1 : Int32))])) rfl rfl (hb hby d5_8)) ?_
  rw [len_of S55 N55]
  show own_Run p e below _ T54 (mkF m 9 #[.val (.ref a1), .val (.int p2), .val (.int p3), .val (.long q4), .second] [(.int (16 : Int32)), (.int (1 : Int32))])
  refine own_go (fun _ k => XS.icmpYes X54.here hx rfl (pc0 := 9) (pc' := 63) rfl (hb hby d5_9) rfl (feq (by decide : ¬ ((1 : Int32) = (16 : Int32)))).2 (by decide) (by decide) k) ?_
  show own_Run p e below _ T54 (mkF m 63 #[.val (.ref a1), .val (.int p2), .val (.int p3), .val (.long q4), .second] [])
  refine own_go (fun _ k => XS.aloadN X54.here hx rfl (hb hby d5_63) rfl rfl k) ?_
  show own_Run p e below _ T54 (mkF m 64 #[.val (.ref a1), .val (.int p2), .val (.int p3), .val (.long q4), .second] [(.ref a1)])
  obtain ⟨T56, X56, e56, st56⟩ := getF X54 hx hZ hown (host := "") (Or.inl (W 12 rfl)) Via.refl e54 F_mOffsets_a1 (g := (mkF m 64 #[.val (.ref a1), .val (.int p2), .val (.int p3), .val (.long q4), .second] [(.ref a1)])) rfl rfl (hb hby d5_64)
  refine own_go st56 ?_
  show own_Run p e below _ T56 (mkF m 67 #[.val (.ref a1), .val (.int p2), .val (.int p3), .val (.long q4), .second] [(.ref b1)])
  refine own_go (fun _ k => XS.aloadN X56.here hx rfl (hb hby d5_67) rfl rfl k) ?_
  show own_Run p e below _ T56 (mkF m 68 #[.val (.ref a1), .val (.int p2), .val (.int p3), .val (.long q4), .second] [(.ref a1), (.ref b1)])
  obtain ⟨T57, X57, e57, st57⟩ := getF X56 hx hZ hown (host := "") (Or.inl (W 30 rfl)) Via.refl e56 F_mCount_a1 (g := (mkF m 68 #[.val (.ref a1), .val (.int p2), .val (.int p3), .val (.long q4), .second] [(.ref a1), (.ref b1)])) rfl rfl (hb hby d5_68)
  refine own_go st57 ?_
  show own_Run p e below _ T57 (mkF m 71 #[.val (.ref a1), .val (.int p2), .val (.int p3), .val (.long q4), .second] [(.int (1 : Int32)), (.ref b1)])
  refine own_go (fun _ k => XS.iloadN X57.here hx rfl (hb hby d5_71) rfl k) ?_
  show own_Run p e below _ T57 (mkF m 72 #[.val (.ref a1), .val (.int p2), .val (.int p3), .val (.long q4), .second] [(.int p2), (.int (1 : Int32)), (.ref b1)])
  obtain ⟨cl58, Ar58, q58, S58, N58, H58, G58⟩ := id V_b1
  have hin58 : ¬ ((1 : Int32) < 0 ∨ cl58.slots.size ≤ ((1 : Int32)).toNatClampNeg) := inb_of S58 ⟨by decide, by decide⟩
  obtain ⟨T59, h59, X59, e59, W59, st59⟩ := stI X57 hx hZ e57 Ar58 (j := (1 : Int32)) hin58 (g := (mkF m 72 #[.val (.ref a1), .val (.int p2), .val (.int p3), .val (.long q4), .second] [(.int p2), (.int (1 : Int32)), (.ref b1)])) rfl rfl (hb hby d5_72)
  refine own_go st59 ?_
  show own_Run p e below _ T59 (mkF m 73 #[.val (.ref a1), .val (.int p2), .val (.int p3), .val (.long q4), .second] [])
  have Z0_c60 := Nat.le_trans Z0 (Keep.of_wr W59).1
  have K0_c60 := K0.wr W59 (Or.inl (List.mem_of_getElem? (i := 1) rfl))
  have E_a1_c60 := E_a1.wr W59
  have F_mOffsets_a1_c60 := F_mOffsets_a1.other W59 (Or.inl ne_a1_b1)
  have F_mPositions_a1_c60 := F_mPositions_a1.other W59 (Or.inl ne_a1_b1)
  have F_mTimestamps_a1_c60 := F_mTimestamps_a1.other W59 (Or.inl ne_a1_b1)
  have F_mMaxTimestamp_a1_c60 := F_mMaxTimestamp_a1.other W59 (Or.inl ne_a1_b1)
  have F_mBaseOffset_a1_c60 := F_mBaseOffset_a1.other W59 (Or.inl ne_a1_b1)
  have F_mIntervalBytes_a1_c60 := F_mIntervalBytes_a1.other W59 (Or.inl ne_a1_b1)
  have F_mCount_a1_c60 := F_mCount_a1.other W59 (Or.inl ne_a1_b1)
  have V_b2_c60 := V_b2.other W59 (Ne.symm ne_b1_b2)
  have V_b3_c60 := V_b3.other W59 (Ne.symm ne_b1_b3)
  have V_b1_c59 : Arv Z h59 b1 k1 .int (16 : Int32) [(.int x0), (.int p2), (.int (0 : Int32)), (.int (0 : Int32)), (.int (0 : Int32)), (.int (0 : Int32)), (.int (0 : Int32)), (.int (0 : Int32)), (.int (0 : Int32)), (.int (0 : Int32)), (.int (0 : Int32)), (.int (0 : Int32)), (.int (0 : Int32)), (.int (0 : Int32)), (.int (0 : Int32)), (.int (0 : Int32))] (.int (0 : Int32)) := Arv.set Ar58 q58 S58 N58 H58 G58 rfl W59 1 rfl (Nat.le_of_ble_eq_true rfl)
  have N59 := Fr.snoc X59 N0 g_b1
  refine own_go (fun _ k => XS.aloadN X59.here hx rfl (hb hby d5_73) rfl rfl k) ?_
  show own_Run p e below _ T59 (mkF m 74 #[.val (.ref a1), .val (.int p2), .val (.int p3), .val (.long q4), .second] [(.ref a1)])
  obtain ⟨T61, X61, e61, st61⟩ := getF X59 hx hZ hown (host := "") (Or.inl (W 14 rfl)) Via.refl e59 F_mPositions_a1_c60 (g := (mkF m 74 #[.val (.ref a1), .val (.int p2), .val (.int p3), .val (.long q4), .second] [(.ref a1)])) rfl rfl (hb hby d5_74)
  refine own_go st61 ?_
  show own_Run p e below _ T61 (mkF m 77 #[.val (.ref a1), .val (.int p2), .val (.int p3), .val (.long q4), .second] [(.ref b2)])
  refine own_go (fun _ k => XS.aloadN X61.here hx rfl (hb hby d5_77) rfl rfl k) ?_
  show own_Run p e below _ T61 (mkF m 78 #[.val (.ref a1), .val (.int p2), .val (.int p3), .val (.long q4), .second] [(.ref a1), (.ref b2)])
  obtain ⟨T62, X62, e62, st62⟩ := getF X61 hx hZ hown (host := "") (Or.inl (W 30 rfl)) Via.refl e61 F_mCount_a1_c60 (g := (mkF m 78 #[.val (.ref a1), .val (.int p2), .val (.int p3), .val (.long q4), .second] [(.ref a1), (.ref b2)])) rfl rfl (hb hby d5_78)
  refine own_go st62 ?_
  show own_Run p e below _ T62 (mkF m 81 #[.val (.ref a1), .val (.int p2), .val (.int p3), .val (.long q4), .second] [(.int (1 : Int32)), (.ref b2)])
  refine own_go (fun _ k => XS.iloadN X62.here hx rfl (hb hby d5_81) rfl k) ?_
  show own_Run p e below _ T62 (mkF m 82 #[.val (.ref a1), .val (.int p2), .val (.int p3), .val (.long q4), .second] [(.int p3), (.int (1 : Int32)), (.ref b2)])
  obtain ⟨cl63, Ar63, q63, S63, N63, H63, G63⟩ := id V_b2_c60
  have hin63 : ¬ ((1 : Int32) < 0 ∨ cl63.slots.size ≤ ((1 : Int32)).toNatClampNeg) := inb_of S63 ⟨by decide, by decide⟩
  obtain ⟨T64, h64, X64, e64, W64, st64⟩ := stI X62 hx hZ e62 Ar63 (j := (1 : Int32)) hin63 (g := (mkF m 82 #[.val (.ref a1), .val (.int p2), .val (.int p3), .val (.long q4), .second] [(.int p3), (.int (1 : Int32)), (.ref b2)])) rfl rfl (hb hby d5_82)
  refine own_go st64 ?_
  show own_Run p e below _ T64 (mkF m 83 #[.val (.ref a1), .val (.int p2), .val (.int p3), .val (.long q4), .second] [])
  have Z0_c65 := Nat.le_trans Z0_c60 (Keep.of_wr W64).1
  have K0_c65 := K0_c60.wr W64 (Or.inl (List.mem_of_getElem? (i := 2) rfl))
  have E_a1_c65 := E_a1_c60.wr W64
  have F_mOffsets_a1_c65 := F_mOffsets_a1_c60.other W64 (Or.inl ne_a1_b2)
  have F_mPositions_a1_c65 := F_mPositions_a1_c60.other W64 (Or.inl ne_a1_b2)
  have F_mTimestamps_a1_c65 := F_mTimestamps_a1_c60.other W64 (Or.inl ne_a1_b2)
  have F_mMaxTimestamp_a1_c65 := F_mMaxTimestamp_a1_c60.other W64 (Or.inl ne_a1_b2)
  have F_mBaseOffset_a1_c65 := F_mBaseOffset_a1_c60.other W64 (Or.inl ne_a1_b2)
  have F_mIntervalBytes_a1_c65 := F_mIntervalBytes_a1_c60.other W64 (Or.inl ne_a1_b2)
  have F_mCount_a1_c65 := F_mCount_a1_c60.other W64 (Or.inl ne_a1_b2)
  have V_b3_c65 := V_b3_c60.other W64 (Ne.symm ne_b2_b3)
  have V_b1_c65 := V_b1_c59.other W64 ne_b1_b2
  have V_b2_c64 : Arv Z h64 b2 k2 .int (16 : Int32) [(.int y0), (.int p3), (.int (0 : Int32)), (.int (0 : Int32)), (.int (0 : Int32)), (.int (0 : Int32)), (.int (0 : Int32)), (.int (0 : Int32)), (.int (0 : Int32)), (.int (0 : Int32)), (.int (0 : Int32)), (.int (0 : Int32)), (.int (0 : Int32)), (.int (0 : Int32)), (.int (0 : Int32)), (.int (0 : Int32))] (.int (0 : Int32)) := Arv.set Ar63 q63 S63 N63 H63 G63 rfl W64 1 rfl (Nat.le_of_ble_eq_true rfl)
  have N64 := Fr.snoc X64 N59 g_b2
  refine own_go (fun _ k => XS.aloadN X64.here hx rfl (hb hby d5_83) rfl rfl k) ?_
  show own_Run p e below _ T64 (mkF m 84 #[.val (.ref a1), .val (.int p2), .val (.int p3), .val (.long q4), .second] [(.ref a1)])
  obtain ⟨T66, X66, e66, st66⟩ := getF X64 hx hZ hown (host := "") (Or.inl (W 16 rfl)) Via.refl e64 F_mTimestamps_a1_c65 (g := (mkF m 84 #[.val (.ref a1), .val (.int p2), .val (.int p3), .val (.long q4), .second] [(.ref a1)])) rfl rfl (hb hby d5_84)
  refine own_go st66 ?_
  show own_Run p e below _ T66 (mkF m 87 #[.val (.ref a1), .val (.int p2), .val (.int p3), .val (.long q4), .second] [(.ref b3)])
  refine own_go (fun _ k => XS.aloadN X66.here hx rfl (hb hby d5_87) rfl rfl k) ?_
  show own_Run p e below _ T66 (mkF m 88 #[.val (.ref a1), .val (.int p2), .val (.int p3), .val (.long q4), .second] [(.ref a1), (.ref b3)])
  obtain ⟨T67, X67, e67, st67⟩ := getF X66 hx hZ hown (host := "") (Or.inl (W 30 rfl)) Via.refl e66 F_mCount_a1_c65 (g := (mkF m 88 #[.val (.ref a1), .val (.int p2), .val (.int p3), .val (.long q4), .second] [(.ref a1), (.ref b3)])) rfl rfl (hb hby d5_88)
  refine own_go st67 ?_
  show own_Run p e below _ T67 (mkF m 91 #[.val (.ref a1), .val (.int p2), .val (.int p3), .val (.long q4), .second] [(.int (1 : Int32)), (.ref b3)])
  refine own_go (fun _ k => XS.lloadN X67.here hx rfl (hb hby d5_91) rfl k) ?_
  show own_Run p e below _ T67 (mkF m 92 #[.val (.ref a1), .val (.int p2), .val (.int p3), .val (.long q4), .second] [(.long q4), (.int (1 : Int32)), (.ref b3)])
  obtain ⟨cl68, Ar68, q68, S68, N68, H68, G68⟩ := id V_b3_c65
  have hin68 : ¬ ((1 : Int32) < 0 ∨ cl68.slots.size ≤ ((1 : Int32)).toNatClampNeg) := inb_of S68 ⟨by decide, by decide⟩
  obtain ⟨T69, h69, X69, e69, W69, st69⟩ := stJ X67 hx hZ e67 Ar68 (j := (1 : Int32)) hin68 (g := (mkF m 92 #[.val (.ref a1), .val (.int p2), .val (.int p3), .val (.long q4), .second] [(.long q4), (.int (1 : Int32)), (.ref b3)])) rfl rfl (hb hby d5_92)
  refine own_go st69 ?_
  show own_Run p e below _ T69 (mkF m 93 #[.val (.ref a1), .val (.int p2), .val (.int p3), .val (.long q4), .second] [])
  have Z0_c70 := Nat.le_trans Z0_c65 (Keep.of_wr W69).1
  have K0_c70 := K0_c65.wr W69 (Or.inl (List.mem_of_getElem? (i := 3) rfl))
  have E_a1_c70 := E_a1_c65.wr W69
  have F_mOffsets_a1_c70 := F_mOffsets_a1_c65.other W69 (Or.inl ne_a1_b3)
  have F_mPositions_a1_c70 := F_mPositions_a1_c65.other W69 (Or.inl ne_a1_b3)
  have F_mTimestamps_a1_c70 := F_mTimestamps_a1_c65.other W69 (Or.inl ne_a1_b3)
  have F_mMaxTimestamp_a1_c70 := F_mMaxTimestamp_a1_c65.other W69 (Or.inl ne_a1_b3)
  have F_mBaseOffset_a1_c70 := F_mBaseOffset_a1_c65.other W69 (Or.inl ne_a1_b3)
  have F_mIntervalBytes_a1_c70 := F_mIntervalBytes_a1_c65.other W69 (Or.inl ne_a1_b3)
  have F_mCount_a1_c70 := F_mCount_a1_c65.other W69 (Or.inl ne_a1_b3)
  have V_b1_c70 := V_b1_c65.other W69 ne_b1_b3
  have V_b2_c70 := V_b2_c64.other W69 ne_b2_b3
  have V_b3_c69 : Arv Z h69 b3 k3 .long (16 : Int32) [(.long z0), (.long q4), (.long (0 : Int64)), (.long (0 : Int64)), (.long (0 : Int64)), (.long (0 : Int64)), (.long (0 : Int64)), (.long (0 : Int64)), (.long (0 : Int64)), (.long (0 : Int64)), (.long (0 : Int64)), (.long (0 : Int64)), (.long (0 : Int64)), (.long (0 : Int64)), (.long (0 : Int64)), (.long (0 : Int64))] (.long (0 : Int64)) := Arv.set Ar68 q68 S68 N68 H68 G68 rfl W69 1 rfl (Nat.le_of_ble_eq_true rfl)
  have N69 := Fr.snoc X69 N64 g_b3
  refine own_go (fun _ k => XS.aloadN X69.here hx rfl (hb hby d5_93) rfl rfl k) ?_
  refine own_go (fun _ k => XS.dup X69.here hx rfl (hb hby d5_94) rfl rfl k) ?_
  show own_Run p e below _ T69 (mkF m 95 #[.val (.ref a1), .val (.int p2), .val (.int p3), .val (.long q4), .second] [(.ref a1), (.ref a1)])
  obtain ⟨T71, X71, e71, st71⟩ := getF X69 hx hZ hown (host := "") (Or.inl (W 30 rfl)) Via.refl e69 F_mCount_a1_c70 (g := (mkF m 95 #[.val (.ref a1), .val (.int p2), .val (.int p3), .val (.long q4), .second] [(.ref a1), (.ref a1)])) rfl rfl (hb hby d5_95)
  refine own_go st71 ?_
  show own_Run p e below _ T71 (mkF m 98 #[.val (.ref a1), .val (.int p2), .val (.int p3), .val (.long q4), .second] [(.int (1 : Int32)), (.ref a1)])
  refine own_go (fun _ k => XS.iconst X71.here hx rfl (hb hby d5_98) k) ?_
  refine own_go (fun _ k => XS.iadd X71.here hx rfl (hb hby d5_99) rfl k) ?_
  show own_Run p e below _ T71 (mkF m 100 #[.val (.ref a1), .val (.int p2), .val (.int p3), .val (.long q4), .second] [(.int ((1 : Int32) + (1 : Int32))), (.ref a1)])
  rw [show ((1 : Int32) + (1 : Int32)) = (2 : Int32) by decide]
  show own_Run p e below _ T71 (mkF m 100 #[.val (.ref a1), .val (.int p2), .val (.int p3), .val (.long q4), .second] [(.int (2 : Int32)), (.ref a1)])
  obtain ⟨T72, h72, X72, e72, W72, st72⟩ := putF X71 hx hZ hown (host := "") (Or.inl (W 30 rfl)) Via.refl e71 F_mCount_a1_c70 E_a1_c70 (Or.inl (W 31 rfl)) (W 3 rfl) (ty := .int) (by decide) rfl rfl (g := (mkF m 100 #[.val (.ref a1), .val (.int p2), .val (.int p3), .val (.long q4), .second] [(.int (2 : Int32)), (.ref a1)])) rfl rfl (hb hby d5_100)
  refine own_go st72 ?_
  show own_Run p e below _ T72 (mkF m 103 #[.val (.ref a1), .val (.int p2), .val (.int p3), .val (.long q4), .second] [])
  have Z0_c73 := Nat.le_trans Z0_c70 (Keep.of_wr W72).1
  have K0_c73 := K0_c70.wr W72 (Or.inl (List.mem_of_getElem? (i := 0) rfl))
  have E_a1_c73 := E_a1_c70.wr W72
  have F_mOffsets_a1_c73 := F_mOffsets_a1_c70.other W72 (Or.inr (slot_ne (Or.inl (W 13 rfl)) (Or.inl (W 31 rfl)) (by decide) (t := (.array .int)) (t' := .int) (by decide) (by decide)))
  have F_mPositions_a1_c73 := F_mPositions_a1_c70.other W72 (Or.inr (slot_ne (Or.inl (W 15 rfl)) (Or.inl (W 31 rfl)) (by decide) (t := (.array .int)) (t' := .int) (by decide) (by decide)))
  have F_mTimestamps_a1_c73 := F_mTimestamps_a1_c70.other W72 (Or.inr (slot_ne (Or.inl (W 17 rfl)) (Or.inl (W 31 rfl)) (by decide) (t := (.array .long)) (t' := .int) (by decide) (by decide)))
  have F_mMaxTimestamp_a1_c73 := F_mMaxTimestamp_a1_c70.other W72 (Or.inr (slot_ne (Or.inl (W 20 rfl)) (Or.inl (W 31 rfl)) (by decide) (t := .long) (t' := .int) (by decide) (by decide)))
  have F_mBaseOffset_a1_c73 := F_mBaseOffset_a1_c70.other W72 (Or.inr (slot_ne (Or.inr (W 22 rfl)) (Or.inl (W 31 rfl)) (by decide) (t := .long) (t' := .int) (by decide) (by decide)))
  have F_mIntervalBytes_a1_c73 := F_mIntervalBytes_a1_c70.other W72 (Or.inr (slot_ne (Or.inr (W 24 rfl)) (Or.inl (W 31 rfl)) (by decide) (t := .long) (t' := .int) (by decide) (by decide)))
  have V_b1_c73 := V_b1_c70.other W72 (Ne.symm ne_a1_b1)
  have V_b2_c73 := V_b2_c70.other W72 (Ne.symm ne_a1_b2)
  have V_b3_c73 := V_b3_c69.other W72 (Ne.symm ne_a1_b3)
  have F_mCount_a1_c72 : Fld Z h72 a1 "com/example/tote/tote/storage/OffsetIndex" "mCount" "I" (.int (2 : Int32)) := F_mCount_a1_c70.same W72
  have N72 := Fr.snoc X72 N69 g_a1
  refine own_done (Q := fun v h L => Q5c1 Z a1 p2 p3 q4 b1 b2 b3 k1 k2 k3 mx ba iv x0 y0 z0 h0 n0 v h L) (v := none) X72 (fun _ => rfl) hlk (fun fs hr => X72.returnOut hx hret (hb hby d5_103) hr) ?_ (by decide) (by decide)
  show Q5c1 Z a1 p2 p3 q4 b1 b2 b3 k1 k2 k3 mx ba iv x0 y0 z0 h0 n0 _ T72.heap _
  rw [e72]
  exact ⟨rfl, N72, K0_c73, E_a1_c73, F_mOffsets_a1_c73, F_mPositions_a1_c73, F_mTimestamps_a1_c73, F_mMaxTimestamp_a1_c73, F_mBaseOffset_a1_c73, F_mIntervalBytes_a1_c73, F_mCount_a1_c72, V_b1_c73, V_b2_c73, V_b3_c73⟩
def Q3c1 (Z : State) (a1 : Addr) (q2 : Int64) (q3 : Int64) (q4 : Int64) (b1 : Addr) (b2 : Addr) (b3 : Addr) (k1 : ClassId) (k2 : ClassId) (k3 : ClassId) (mx : Int64) (ba : Int64) (iv : Int64) (x0 : Int32) (y0 : Int32) (z0 : Int64) (h0 : Heap) (n0 : Nat) (v : Option Value) (h : Heap) (L : List Loc) : Prop := v = none ∧ Fr n0 L ∧ Keep h0 h [a1, b1, b2, b3] ∧ Exa Z h a1 "com/example/tote/tote/storage/OffsetIndex" ∧ Fld Z h a1 "com/example/tote/tote/storage/OffsetIndex" "mOffsets" "[I" (.ref b1) ∧ Fld Z h a1 "com/example/tote/tote/storage/OffsetIndex" "mPositions" "[I" (.ref b2) ∧ Fld Z h a1 "com/example/tote/tote/storage/OffsetIndex" "mTimestamps" "[J" (.ref b3) ∧ Fld Z h a1 "com/example/tote/tote/storage/OffsetIndex" "mMaxTimestamp" "J" (.long (own_max mx q4)) ∧ Fld Z h a1 "com/example/tote/tote/storage/OffsetIndex" "mBaseOffset" "J" (.long ba) ∧ Fld Z h a1 "com/example/tote/tote/storage/OffsetIndex" "mIntervalBytes" "J" (.long iv) ∧ Fld Z h a1 "com/example/tote/tote/storage/OffsetIndex" "mCount" "I" (.int (2 : Int32)) ∧ Arv Z h b1 k1 .int (16 : Int32) [(.int x0), (.int ((q2 - ba).toInt32)), (.int (0 : Int32)), (.int (0 : Int32)), (.int (0 : Int32)), (.int (0 : Int32)), (.int (0 : Int32)), (.int (0 : Int32)), (.int (0 : Int32)), (.int (0 : Int32)), (.int (0 : Int32)), (.int (0 : Int32)), (.int (0 : Int32)), (.int (0 : Int32)), (.int (0 : Int32)), (.int (0 : Int32))] (.int (0 : Int32)) ∧ Arv Z h b2 k2 .int (16 : Int32) [(.int y0), (.int (q3.toInt32)), (.int (0 : Int32)), (.int (0 : Int32)), (.int (0 : Int32)), (.int (0 : Int32)), (.int (0 : Int32)), (.int (0 : Int32)), (.int (0 : Int32)), (.int (0 : Int32)), (.int (0 : Int32)), (.int (0 : Int32)), (.int (0 : Int32)), (.int (0 : Int32)), (.int (0 : Int32)), (.int (0 : Int32))] (.int (0 : Int32)) ∧ Arv Z h b3 k3 .long (16 : Int32) [(.long z0), (.long mx), (.long (0 : Int64)), (.long (0 : Int64)), (.long (0 : Int64)), (.long (0 : Int64)), (.long (0 : Int64)), (.long (0 : Int64)), (.long (0 : Int64)), (.long (0 : Int64)), (.long (0 : Int64)), (.long (0 : Int64)), (.long (0 : Int64)), (.long (0 : Int64)), (.long (0 : Int64)), (.long (0 : Int64))] (.long (0 : Int64))
set_option maxRecDepth 65536 in
set_option maxHeartbeats 40000000 in
theorem rm3c1 (l : Launch) (Z : State) (a0 : Array Value) (hw : ∀ d ∈ tables_1, d.before a0 Z = true) (ws : List Jvm.Cond) (a1 : Addr) (q2 : Int64) (q3 : Int64) (q4 : Int64) (b1 : Addr) (b2 : Addr) (b3 : Addr) (k1 : ClassId) (k2 : ClassId) (k3 : ClassId) (mx : Int64) (ba : Int64) (iv : Int64) (x0 : Int32) (y0 : Int32) (z0 : Int64) (h0 : Heap) (n0 : Nat) (Z0 : n0 ≤ h0.size) (E_a1 : Exa Z h0 a1 "com/example/tote/tote/storage/OffsetIndex") (F_mOffsets_a1 : Fld Z h0 a1 "com/example/tote/tote/storage/OffsetIndex" "mOffsets" "[I" (.ref b1)) (F_mPositions_a1 : Fld Z h0 a1 "com/example/tote/tote/storage/OffsetIndex" "mPositions" "[I" (.ref b2)) (F_mTimestamps_a1 : Fld Z h0 a1 "com/example/tote/tote/storage/OffsetIndex" "mTimestamps" "[J" (.ref b3)) (F_mMaxTimestamp_a1 : Fld Z h0 a1 "com/example/tote/tote/storage/OffsetIndex" "mMaxTimestamp" "J" (.long mx)) (F_mBaseOffset_a1 : Fld Z h0 a1 "com/example/tote/tote/storage/OffsetIndex" "mBaseOffset" "J" (.long ba)) (F_mIntervalBytes_a1 : Fld Z h0 a1 "com/example/tote/tote/storage/OffsetIndex" "mIntervalBytes" "J" (.long iv)) (F_mCount_a1 : Fld Z h0 a1 "com/example/tote/tote/storage/OffsetIndex" "mCount" "I" (.int (1 : Int32))) (V_b1 : Arv Z h0 b1 k1 .int (16 : Int32) [(.int x0), (.int (0 : Int32)), (.int (0 : Int32)), (.int (0 : Int32)), (.int (0 : Int32)), (.int (0 : Int32)), (.int (0 : Int32)), (.int (0 : Int32)), (.int (0 : Int32)), (.int (0 : Int32)), (.int (0 : Int32)), (.int (0 : Int32)), (.int (0 : Int32)), (.int (0 : Int32)), (.int (0 : Int32)), (.int (0 : Int32))] (.int (0 : Int32))) (V_b2 : Arv Z h0 b2 k2 .int (16 : Int32) [(.int y0), (.int (0 : Int32)), (.int (0 : Int32)), (.int (0 : Int32)), (.int (0 : Int32)), (.int (0 : Int32)), (.int (0 : Int32)), (.int (0 : Int32)), (.int (0 : Int32)), (.int (0 : Int32)), (.int (0 : Int32)), (.int (0 : Int32)), (.int (0 : Int32)), (.int (0 : Int32)), (.int (0 : Int32)), (.int (0 : Int32))] (.int (0 : Int32))) (V_b3 : Arv Z h0 b3 k3 .long (16 : Int32) [(.long z0), (.long (0 : Int64)), (.long (0 : Int64)), (.long (0 : Int64)), (.long (0 : Int64)), (.long (0 : Int64)), (.long (0 : Int64)), (.long (0 : Int64)), (.long (0 : Int64)), (.long (0 : Int64)), (.long (0 : Int64)), (.long (0 : Int64)), (.long (0 : Int64)), (.long (0 : Int64)), (.long (0 : Int64)), (.long (0 : Int64))] (.long (0 : Int64))) (g_a1 : n0 ≤ a1) (g_b1 : n0 ≤ b1) (g_b2 : n0 ≤ b2) (g_b3 : n0 ≤ b3) (ne_a1_b1 : a1 ≠ b1) (ne_a1_b2 : a1 ≠ b2) (ne_a1_b3 : a1 ≠ b3) (ne_b1_b2 : b1 ≠ b2) (ne_b1_b3 : b1 ≠ b3) (ne_b2_b3 : b2 ≠ b3) (ho : (((q2 - ba).toInt32).toInt64) = (q2 - ba)) (hq : ((q3.toInt32).toInt64) = q3) (hgt : iv < (q3 - (y0.toInt64))) :
    MetFree l (⟨"com/example/tote/tote/storage/OffsetIndex", "add", "(JJJ)V"⟩ : MethodName) (head1 (Jvm.Cond.code (⟨"com/example/tote/tote/storage/OffsetIndex", "add", "(JJJ)V"⟩ : MethodName) prog_89_method_2_code 7 none :: ws) ({ frames := 1, cells := 0, slots := 0, locals := 17 } : Room)) (fun a U => a = #[(.ref a1), (.long q2), (.long q3), (.long q4)] ∧ Z.Warmed39 U.vm ∧ U.heap = h0) (fun _ _ _ _ _ => True) (fun _ U o U' => ∃ v L, o = .returned v ∧ Q3c1 Z a1 q2 q3 q4 b1 b2 b3 k1 k2 k3 mx ba iv x0 y0 z0 h0 n0 v U'.heap L ∧ FrameEnd U o U' L ({ frames := 1, cells := 0, slots := 0, locals := 17 } : Room).cells ({ frames := 1, cells := 0, slots := 0, locals := 17 } : Room).slots) := by
  refine MetFree.of_bodySF (plainFor_of_name pn_3) hisR ?_
  intro p e s m args below meth c s₁ Bd hml0 hP hK
  obtain ⟨rfl, hZ, hh⟩ := hP
  have hx := Bd.exec
  have hby := Bd.bytes
  have hml : c.maxLocals = 7 := hml0
  have hown : s.vm.findClass "com/example/tote/tote/storage/OffsetIndex" = some m.cls := findClass_of_methodNamed Bd.named
  have hnm := (name_of_methodNamed Bd.named Bd.method).1
  have hret := Bd.returns
  have hlk : meth.locks = false := BodyLoose.notSynchronized Bd
  have X0 : Stand p l e ({ frames := 1, cells := 0, slots := 0, locals := 17 } : Room) s m #[(.ref a1), (.long q2), (.long q3), (.long q4)] below meth c s₁ [] 0 0 := Stand.of_body Bd
  have e0 : s₁.heap = h0 := by rw [← hh, Bd.state]; rfl
  have N0 := Fr.nil n0
  have W := fun (k : Nat) {d : Jvm.Cond} (h : tables_1[k]? = some d) => hw d (List.mem_of_getElem? h)
  have K0 : Keep h0 h0 [a1, b1, b2, b3] := Keep.refl _ _
  refine own_start (ef_3 m a1 q2 q3 q4) ?_
  show own_Run p e below _ s₁ (mkF m 0 #[.val (.ref a1), .val (.long q2), .second, .val (.long q3), .second, .val (.long q4), .second] [])
  refine own_go (fun _ k => XS.aloadN X0.here hx rfl (hb hby d3_0) rfl rfl k) ?_
  show own_Run p e below _ s₁ (mkF m 1 #[.val (.ref a1), .val (.long q2), .second, .val (.long q3), .second, .val (.long q4), .second] [(.ref a1)])
  obtain ⟨T74, X74, e74, st74⟩ := getF X0 hx hZ hown (host := "") (Or.inl (W 30 rfl)) Via.refl e0 F_mCount_a1 (g := (mkF m 1 #[.val (.ref a1), .val (.long q2), .second, .val (.long q3), .second, .val (.long q4), .second] [(.ref a1)])) rfl rfl (hb hby d3_1)
  refine own_go st74 ?_
  show own_Run p e below _ T74 (mkF m 4 #[.val (.ref a1), .val (.long q2), .second, .val (.long q3), .second, .val (.long q4), .second] [(.int (1 : Int32))])
  refine own_go (fun _ k => XS.ifNo X74.here hx rfl (hb hby d3_4) rfl ((if0 _ _).trans (feq (by decide : ¬ ((1 : Int32) = (0 : Int32)))).1) k) ?_
  show own_Run p e below _ T74 (mkF m 7 #[.val (.ref a1), .val (.long q2), .second, .val (.long q3), .second, .val (.long q4), .second] [])
  refine own_go (fun _ k => XS.lloadN X74.here hx rfl (hb hby d3_7) rfl k) ?_
  refine own_go (fun _ k => XS.aloadN X74.here hx rfl (hb hby d3_8) rfl rfl k) ?_
  show own_Run p e below _ T74 (mkF m 9 #[.val (.ref a1), .val (.long q2), .second, .val (.long q3), .second, .val (.long q4), .second] [(.ref a1), (.long q3)])
  obtain ⟨T75, X75, e75, st75⟩ := getF X74 hx hZ hown (host := "") (Or.inl (W 14 rfl)) Via.refl e74 F_mPositions_a1 (g := (mkF m 9 #[.val (.ref a1), .val (.long q2), .second, .val (.long q3), .second, .val (.long q4), .second] [(.ref a1), (.long q3)])) rfl rfl (hb hby d3_9)
  refine own_go st75 ?_
  show own_Run p e below _ T75 (mkF m 12 #[.val (.ref a1), .val (.long q2), .second, .val (.long q3), .second, .val (.long q4), .second] [(.ref b2), (.long q3)])
  refine own_go (fun _ k => XS.aloadN X75.here hx rfl (hb hby d3_12) rfl rfl k) ?_
  show own_Run p e below _ T75 (mkF m 13 #[.val (.ref a1), .val (.long q2), .second, .val (.long q3), .second, .val (.long q4), .second] [(.ref a1), (.ref b2), (.long q3)])
  obtain ⟨T76, X76, e76, st76⟩ := getF X75 hx hZ hown (host := "") (Or.inl (W 30 rfl)) Via.refl e75 F_mCount_a1 (g := (mkF m 13 #[.val (.ref a1), .val (.long q2), .second, .val (.long q3), .second, .val (.long q4), .second] [(.ref a1), (.ref b2), (.long q3)])) rfl rfl (hb hby d3_13)
  refine own_go st76 ?_
  show own_Run p e below _ T76 (mkF m 16 #[.val (.ref a1), .val (.long q2), .second, .val (.long q3), .second, .val (.long q4), .second] [(.int (1 : Int32)), (.ref b2), (.long q3)])
  refine own_go (fun _ k => XS.iconst X76.here hx rfl (hb hby d3_16) k) ?_
  refine own_go (fun _ k => XS.isub X76.here hx rfl (hb hby d3_17) rfl k) ?_
  show own_Run p e below _ T76 (mkF m 18 #[.val (.ref a1), .val (.long q2), .second, .val (.long q3), .second, .val (.long q4), .second] [(.int ((1 : Int32) - (1 : Int32))), (.ref b2), (.long q3)])
  rw [show ((1 : Int32) - (1 : Int32)) = (0 : Int32) by decide]
  show own_Run p e below _ T76 (mkF m 18 #[.val (.ref a1), .val (.long q2), .second, .val (.long q3), .second, .val (.long q4), .second] [(.int (0 : Int32)), (.ref b2), (.long q3)])
  obtain ⟨cl77, Ar77, q77, S77, N77, H77, G77⟩ := id V_b2
  have hin77 : ¬ ((0 : Int32) < 0 ∨ cl77.slots.size ≤ ((0 : Int32)).toNatClampNeg) := inb_of S77 ⟨by decide, by decide⟩
  refine own_go (X76.iaload hx (j := (0 : Int32)) (v := (.int y0)) (by rw [e76]; exact Ar77.1) (State.isArrayOf_alike hZ.alike Ar77.2.1) Ar77.2.2 hin77 (H77.at hin77 rfl) (g := (mkF m 18 #[.val (.ref a1), .val (.long q2), .second, .val (.long q3), .second, .val (.long q4), .second] [(.int (0 : Int32)), (.ref b2), (.long q3)])) rfl rfl (hb hby d3_18)) ?_
  show own_Run p e below _ T76 (mkF m 19 #[.val (.ref a1), .val (.long q2), .second, .val (.long q3), .second, .val (.long q4), .second] [(.int y0), (.long q3)])
  refine own_go (fun _ k => XS.i2l X76.here hx rfl (hb hby d3_19) rfl k) ?_
  refine own_go (fun _ k => XS.lsub X76.here hx rfl (hb hby d3_20) rfl k) ?_
  refine own_go (fun _ k => XS.aloadN X76.here hx rfl (hb hby d3_21) rfl rfl k) ?_
  show own_Run p e below _ T76 (mkF m 22 #[.val (.ref a1), .val (.long q2), .second, .val (.long q3), .second, .val (.long q4), .second] [(.ref a1), (.long (q3 - (y0.toInt64)))])
  obtain ⟨T78, X78, e78, st78⟩ := getF X76 hx hZ hown (host := "") (Or.inl (W 23 rfl)) Via.refl e76 F_mIntervalBytes_a1 (g := (mkF m 22 #[.val (.ref a1), .val (.long q2), .second, .val (.long q3), .second, .val (.long q4), .second] [(.ref a1), (.long (q3 - (y0.toInt64)))])) rfl rfl (hb hby d3_22)
  refine own_go st78 ?_
  show own_Run p e below _ T78 (mkF m 25 #[.val (.ref a1), .val (.long q2), .second, .val (.long q3), .second, .val (.long q4), .second] [(.long iv), (.long (q3 - (y0.toInt64)))])
  refine own_go (fun _ k => XS.lcmp X78.here hx rfl (hb hby d3_25) rfl k) ?_
  show own_Run p e below _ T78 (mkF m 26 #[.val (.ref a1), .val (.long q2), .second, .val (.long q3), .second, .val (.long q4), .second] [(.int (lcmpW (q3 - (y0.toInt64)) iv))])
  refine own_go (fun _ k => XS.ifNo X78.here hx rfl (hb hby d3_26) rfl (own_lcT hgt).2.2.2 k) ?_
  show own_Run p e below _ T78 (mkF m 29 #[.val (.ref a1), .val (.long q2), .second, .val (.long q3), .second, .val (.long q4), .second] [])
  refine own_go (fun _ k => XS.aloadN X78.here hx rfl (hb hby d3_29) rfl rfl k) ?_
  refine own_go (fun _ k => XS.lloadN X78.here hx rfl (hb hby d3_30) rfl k) ?_
  refine own_go (fun _ k => XS.aloadN X78.here hx rfl (hb hby d3_31) rfl rfl k) ?_
  show own_Run p e below _ T78 (mkF m 32 #[.val (.ref a1), .val (.long q2), .second, .val (.long q3), .second, .val (.long q4), .second] [(.ref a1), (.long q2), (.ref a1)])
  obtain ⟨T79, X79, e79, st79⟩ := getF X78 hx hZ hown (host := "") (Or.inl (W 21 rfl)) Via.refl e78 F_mBaseOffset_a1 (g := (mkF m 32 #[.val (.ref a1), .val (.long q2), .second, .val (.long q3), .second, .val (.long q4), .second] [(.ref a1), (.long q2), (.ref a1)])) rfl rfl (hb hby d3_32)
  refine own_go st79 ?_
  show own_Run p e below _ T79 (mkF m 35 #[.val (.ref a1), .val (.long q2), .second, .val (.long q3), .second, .val (.long q4), .second] [(.long ba), (.long q2), (.ref a1)])
  refine own_go (fun _ k => XS.lsub X79.here hx rfl (hb hby d3_35) rfl k) ?_
  show own_Run p e below _ T79 (mkF m 36 #[.val (.ref a1), .val (.long q2), .second, .val (.long q3), .second, .val (.long q4), .second] [(.long (q2 - ba)), (.ref a1)])
  obtain ⟨_, _, ⟨T80, L80, k80, n80⟩, -, X80, ⟨Lc80, hQ80, l80, y80, z80⟩, st80⟩ := Jvm.LawKit.callS X79 hx (y := (⟨"java/lang/Math", "toIntExact", "(J)I"⟩ : MethodName)) hown (mvT hZ (W 32 rfl)) (mvT hZ (W 33 rfl)) (mvT hZ (W 34 rfl)) (mvT hZ (W 35 rfl)) (by decide) (backOf (W := 1) (rm4 l Z a0 hw [] (q2 - ba) h0 n0 Z0 (ho)) hZ (W 35 rfl) (W 34 rfl) (by decide) (by decide)) (g := (mkF m 36 #[.val (.ref a1), .val (.long q2), .second, .val (.long q3), .second, .val (.long q4), .second] [(.long (q2 - ba)), (.ref a1)])) rfl (by rw [hml]; rfl) (argsL := [(.long (q2 - ba))]) (rest := [(.ref a1)]) (lenOf pd_1 rfl) rfl (by show 2 * 0 + _ ≤ _; exact Nat.le_of_eq rfl) (hb hby d3_36) (fun _ _ => ⟨rfl, e79, (by decide : 0 + 0 ≤ _), (by decide : 0 + 0 ≤ _)⟩)
  dsimp only [Pt.U, Pt.locs, Pt.cells, Pt.slots] at X80 l80 y80 z80 st80 hQ80
  subst l80 y80 z80
  obtain ⟨rfl, N80q, e80⟩ := hQ80
  have N80 := Fr.app N0 N80q
  refine own_go st80 ?_
  show own_Run p e below _ T80 (mkF m 39 #[.val (.ref a1), .val (.long q2), .second, .val (.long q3), .second, .val (.long q4), .second] [(.int ((q2 - ba).toInt32)), (.ref a1)])
  refine own_go (fun _ k => XS.lloadN X80.here hx rfl (hb hby d3_39) rfl k) ?_
  show own_Run p e below _ T80 (mkF m 40 #[.val (.ref a1), .val (.long q2), .second, .val (.long q3), .second, .val (.long q4), .second] [(.long q3), (.int ((q2 - ba).toInt32)), (.ref a1)])
  obtain ⟨_, _, ⟨T81, L81, k81, n81⟩, -, X81, ⟨Lc81, hQ81, l81, y81, z81⟩, st81⟩ := Jvm.LawKit.callS X80 hx (y := (⟨"java/lang/Math", "toIntExact", "(J)I"⟩ : MethodName)) hown (mvT hZ (W 32 rfl)) (mvT hZ (W 33 rfl)) (mvT hZ (W 34 rfl)) (mvT hZ (W 35 rfl)) (by decide) (backOf (W := 2) (rm4 l Z a0 hw [] q3 h0 n0 Z0 (hq)) hZ (W 35 rfl) (W 34 rfl) (by decide) (by decide)) (g := (mkF m 40 #[.val (.ref a1), .val (.long q2), .second, .val (.long q3), .second, .val (.long q4), .second] [(.long q3), (.int ((q2 - ba).toInt32)), (.ref a1)])) rfl (by rw [hml]; rfl) (argsL := [(.long q3)]) (rest := [(.int ((q2 - ba).toInt32)), (.ref a1)]) (lenOf pd_1 rfl) rfl (by show 2 * 0 + _ ≤ _; exact Nat.le_of_eq rfl) (hb hby d3_40) (fun _ _ => ⟨rfl, e80, (by decide : 0 + 0 ≤ _), (by decide : 0 + 0 ≤ _)⟩)
  dsimp only [Pt.U, Pt.locs, Pt.cells, Pt.slots] at X81 l81 y81 z81 st81 hQ81
  subst l81 y81 z81
  obtain ⟨rfl, N81q, e81⟩ := hQ81
  have N81 := Fr.app N80 N81q
  refine own_go st81 ?_
  show own_Run p e below _ T81 (mkF m 43 #[.val (.ref a1), .val (.long q2), .second, .val (.long q3), .second, .val (.long q4), .second] [(.int (q3.toInt32)), (.int ((q2 - ba).toInt32)), (.ref a1)])
  refine own_go (fun _ k => XS.aloadN X81.here hx rfl (hb hby d3_43) rfl rfl k) ?_
  show own_Run p e below _ T81 (mkF m 44 #[.val (.ref a1), .val (.long q2), .second, .val (.long q3), .second, .val (.long q4), .second] [(.ref a1), (.int (q3.toInt32)), (.int ((q2 - ba).toInt32)), (.ref a1)])
  obtain ⟨T82, X82, e82, st82⟩ := getF X81 hx hZ hown (host := "") (Or.inl (W 19 rfl)) Via.refl e81 F_mMaxTimestamp_a1 (g := (mkF m 44 #[.val (.ref a1), .val (.long q2), .second, .val (.long q3), .second, .val (.long q4), .second] [(.ref a1), (.int (q3.toInt32)), (.int ((q2 - ba).toInt32)), (.ref a1)])) rfl rfl (hb hby d3_44)
  refine own_go st82 ?_
  show own_Run p e below _ T82 (mkF m 47 #[.val (.ref a1), .val (.long q2), .second, .val (.long q3), .second, .val (.long q4), .second] [(.long mx), (.int (q3.toInt32)), (.int ((q2 - ba).toInt32)), (.ref a1)])
  obtain ⟨cq83, q83, q83'⟩ := E_a1.cell
  obtain ⟨_, _, ⟨T83, L83, k83, n83⟩, -, X83, ⟨Lc83, hQ83, l83, y83, z83⟩, st83⟩ := X82.privateBack hx (y := (⟨"com/example/tote/tote/storage/OffsetIndex", "append", "(IIJ)V"⟩ : MethodName)) hown (mvT hZ (W 36 rfl)) (mvT hZ (W 37 rfl)) (own_selP (args := #[]) (y := (⟨"com/example/tote/tote/storage/OffsetIndex", "append", "(IIJ)V"⟩ : MethodName)) (mvT hZ (W 28 rfl)) rfl (Cond.privateMethod_at (mvP hZ (W 38 rfl) (args := #[]))) (mvT hZ (W 37 rfl)) (by decide)) (Cond.privateMethod_at (mvP hZ (W 38 rfl) (args := #[]))) (mvT hZ (W 39 rfl)) (by decide) (backOf (W := 0) (rm5c1 l Z a0 hw [] a1 ((q2 - ba).toInt32) (q3.toInt32) mx b1 b2 b3 k1 k2 k3 mx ba iv x0 y0 z0 h0 n0 Z0 E_a1 F_mOffsets_a1 F_mPositions_a1 F_mTimestamps_a1 F_mMaxTimestamp_a1 F_mBaseOffset_a1 F_mIntervalBytes_a1 F_mCount_a1 V_b1 V_b2 V_b3 g_a1 g_b1 g_b2 g_b3 ne_a1_b1 ne_a1_b2 ne_a1_b3 ne_b1_b2 ne_b1_b3 ne_b2_b3) hZ (W 39 rfl) (W 4 rfl) (by decide) (by decide)) (g := (mkF m 47 #[.val (.ref a1), .val (.long q2), .second, .val (.long q3), .second, .val (.long q4), .second] [(.long mx), (.int (q3.toInt32)), (.int ((q2 - ba).toInt32)), (.ref a1)])) rfl (by rw [hml]; rfl) (Steps.refl _) (a := a1) (by rw [e82]; exact q83) q83' (argsL := [(.int ((q2 - ba).toInt32)), (.int (q3.toInt32)), (.long mx)]) (rest := []) (lenOf pd_2 rfl) rfl (by show 2 * 0 + _ ≤ _; exact Nat.le_of_eq rfl) (hb hby d3_47) (fun _ _ => ⟨rfl, e82, (by decide : 0 + 0 ≤ _), (by decide : 0 + 0 ≤ _)⟩)
  dsimp only [Pt.U, Pt.locs, Pt.cells, Pt.slots] at X83 l83 y83 z83 st83 hQ83
  subst l83 y83 z83
  obtain ⟨rfl, N83q, K83, P83_0, P83_1, P83_2, P83_3, P83_4, P83_5, P83_6, P83_7, P83_8, P83_9, P83_10⟩ := hQ83
  have N83 := Fr.app N81 N83q
  refine own_goT st83 ?_
  show own_Run p e below _ T83 (mkF m 50 #[.val (.ref a1), .val (.long q2), .second, .val (.long q3), .second, .val (.long q4), .second] [])
  have Z0_c84 := Nat.le_trans Z0 K83.1
  have K0_c84 := K0.trans K83 (allS (Or.inl (List.mem_of_getElem? (i := 0) rfl)) (allS (Or.inl (List.mem_of_getElem? (i := 1) rfl)) (allS (Or.inl (List.mem_of_getElem? (i := 2) rfl)) (allS (Or.inl (List.mem_of_getElem? (i := 3) rfl)) all0))))
  have E_a1_c84 := E_a1.keep K83
  refine own_go (fun _ k => XS.aloadN X83.here hx rfl (hb hby d3_50) rfl rfl k) ?_
  refine own_go (fun _ k => XS.aloadN X83.here hx rfl (hb hby d3_51) rfl rfl k) ?_
  show own_Run p e below _ T83 (mkF m 52 #[.val (.ref a1), .val (.long q2), .second, .val (.long q3), .second, .val (.long q4), .second] [(.ref a1), (.ref a1)])
  obtain ⟨T85, X85, e85, st85⟩ := getF X83 hx hZ hown (host := "") (Or.inl (W 19 rfl)) Via.refl rfl P83_4 (g := (mkF m 52 #[.val (.ref a1), .val (.long q2), .second, .val (.long q3), .second, .val (.long q4), .second] [(.ref a1), (.ref a1)])) rfl rfl (hb hby d3_52)
  refine own_go st85 ?_
  show own_Run p e below _ T85 (mkF m 55 #[.val (.ref a1), .val (.long q2), .second, .val (.long q3), .second, .val (.long q4), .second] [(.long mx), (.ref a1)])
  refine own_go (fun _ k => XS.lload X85.here hx rfl (hb hby d3_55) rfl k) ?_
  show own_Run p e below _ T85 (mkF m 57 #[.val (.ref a1), .val (.long q2), .second, .val (.long q3), .second, .val (.long q4), .second] [(.long q4), (.long mx), (.ref a1)])
  obtain ⟨_, _, ⟨T86, L86, k86, n86⟩, -, X86, ⟨Lc86, hQ86, l86, y86, z86⟩, st86⟩ := Jvm.LawKit.callS X85 hx (y := (⟨"java/lang/Math", "max", "(JJ)J"⟩ : MethodName)) hown (mvT hZ (W 40 rfl)) (mvT hZ (W 41 rfl)) (mvT hZ (W 34 rfl)) (mvT hZ (W 42 rfl)) (by decide) (backOf (W := 1) (rm6 l Z a0 hw [] mx q4 T83.heap n0 Z0_c84 ) hZ (W 42 rfl) (W 34 rfl) (by decide) (by decide)) (g := (mkF m 57 #[.val (.ref a1), .val (.long q2), .second, .val (.long q3), .second, .val (.long q4), .second] [(.long q4), (.long mx), (.ref a1)])) rfl (by rw [hml]; rfl) (argsL := [(.long mx), (.long q4)]) (rest := [(.ref a1)]) (lenOf pd_3 rfl) rfl (by show 2 * 0 + _ ≤ _; exact Nat.le_of_eq rfl) (hb hby d3_57) (fun _ _ => ⟨rfl, e85, (by decide : 0 + 0 ≤ _), (by decide : 0 + 0 ≤ _)⟩)
  dsimp only [Pt.U, Pt.locs, Pt.cells, Pt.slots] at X86 l86 y86 z86 st86 hQ86
  subst l86 y86 z86
  obtain ⟨rfl, N86q, e86⟩ := hQ86
  have N86 := Fr.app N83 N86q
  refine own_go st86 ?_
  show own_Run p e below _ T86 (mkF m 60 #[.val (.ref a1), .val (.long q2), .second, .val (.long q3), .second, .val (.long q4), .second] [(.long (own_max mx q4)), (.ref a1)])
  obtain ⟨T87, h87, X87, e87, W87, st87⟩ := putF X86 hx hZ hown (host := "") (Or.inl (W 19 rfl)) Via.refl e86 P83_4 P83_0 (Or.inl (W 20 rfl)) (W 3 rfl) (ty := .long) (by decide) rfl rfl (g := (mkF m 60 #[.val (.ref a1), .val (.long q2), .second, .val (.long q3), .second, .val (.long q4), .second] [(.long (own_max mx q4)), (.ref a1)])) rfl rfl (hb hby d3_60)
  refine own_go st87 ?_
  show own_Run p e below _ T87 (mkF m 63 #[.val (.ref a1), .val (.long q2), .second, .val (.long q3), .second, .val (.long q4), .second] [])
  have Z0_c88 := Nat.le_trans Z0_c84 (Keep.of_wr W87).1
  have K0_c88 := K0_c84.wr W87 (Or.inl (List.mem_of_getElem? (i := 0) rfl))
  have P83_0_c88 := P83_0.wr W87
  have P83_1_c88 := P83_1.other W87 (Or.inr (slot_ne (Or.inl (W 13 rfl)) (Or.inl (W 20 rfl)) (by decide) (t := (.array .int)) (t' := .long) (by decide) (by decide)))
  have P83_2_c88 := P83_2.other W87 (Or.inr (slot_ne (Or.inl (W 15 rfl)) (Or.inl (W 20 rfl)) (by decide) (t := (.array .int)) (t' := .long) (by decide) (by decide)))
  have P83_3_c88 := P83_3.other W87 (Or.inr (slot_ne (Or.inl (W 17 rfl)) (Or.inl (W 20 rfl)) (by decide) (t := (.array .long)) (t' := .long) (by decide) (by decide)))
  have P83_5_c88 := P83_5.other W87 (Or.inr (slot_ne (Or.inr (W 22 rfl)) (Or.inl (W 20 rfl)) (by decide) (t := .long) (t' := .long) (by decide) (by decide)))
  have P83_6_c88 := P83_6.other W87 (Or.inr (slot_ne (Or.inr (W 24 rfl)) (Or.inl (W 20 rfl)) (by decide) (t := .long) (t' := .long) (by decide) (by decide)))
  have P83_7_c88 := P83_7.other W87 (Or.inr (slot_ne (Or.inl (W 31 rfl)) (Or.inl (W 20 rfl)) (by decide) (t := .int) (t' := .long) (by decide) (by decide)))
  have P83_8_c88 := P83_8.other W87 (Ne.symm ne_a1_b1)
  have P83_9_c88 := P83_9.other W87 (Ne.symm ne_a1_b2)
  have P83_10_c88 := P83_10.other W87 (Ne.symm ne_a1_b3)
  have F_mMaxTimestamp_a1_c87 : Fld Z h87 a1 "com/example/tote/tote/storage/OffsetIndex" "mMaxTimestamp" "J" (.long (own_max mx q4)) := P83_4.same W87
  have N87 := Fr.snoc X87 N86 g_a1
  refine own_done (Q := fun v h L => Q3c1 Z a1 q2 q3 q4 b1 b2 b3 k1 k2 k3 mx ba iv x0 y0 z0 h0 n0 v h L) (v := none) X87 (fun _ => rfl) hlk (fun fs hr => X87.returnOut hx hret (hb hby d3_63) hr) ?_ (by decide) (by decide)
  show Q3c1 Z a1 q2 q3 q4 b1 b2 b3 k1 k2 k3 mx ba iv x0 y0 z0 h0 n0 _ T87.heap _
  rw [e87]
  exact ⟨rfl, N87, K0_c88, P83_0_c88, P83_1_c88, P83_2_c88, P83_3_c88, F_mMaxTimestamp_a1_c87, P83_5_c88, P83_6_c88, P83_7_c88, P83_8_c88, P83_9_c88, P83_10_c88⟩
def Q5c2 (Z : State) (a1 : Addr) (p2 : Int32) (p3 : Int32) (q4 : Int64) (b1 : Addr) (b2 : Addr) (b3 : Addr) (k1 : ClassId) (k2 : ClassId) (k3 : ClassId) (mx : Int64) (ba : Int64) (iv : Int64) (x0 : Int32) (x1 : Int32) (y0 : Int32) (y1 : Int32) (z0 : Int64) (z1 : Int64) (h0 : Heap) (n0 : Nat) (v : Option Value) (h : Heap) (L : List Loc) : Prop := v = none ∧ Fr n0 L ∧ Keep h0 h [a1, b1, b2, b3] ∧ Exa Z h a1 "com/example/tote/tote/storage/OffsetIndex" ∧ Fld Z h a1 "com/example/tote/tote/storage/OffsetIndex" "mOffsets" "[I" (.ref b1) ∧ Fld Z h a1 "com/example/tote/tote/storage/OffsetIndex" "mPositions" "[I" (.ref b2) ∧ Fld Z h a1 "com/example/tote/tote/storage/OffsetIndex" "mTimestamps" "[J" (.ref b3) ∧ Fld Z h a1 "com/example/tote/tote/storage/OffsetIndex" "mMaxTimestamp" "J" (.long mx) ∧ Fld Z h a1 "com/example/tote/tote/storage/OffsetIndex" "mBaseOffset" "J" (.long ba) ∧ Fld Z h a1 "com/example/tote/tote/storage/OffsetIndex" "mIntervalBytes" "J" (.long iv) ∧ Fld Z h a1 "com/example/tote/tote/storage/OffsetIndex" "mCount" "I" (.int (3 : Int32)) ∧ Arv Z h b1 k1 .int (16 : Int32) [(.int x0), (.int x1), (.int p2), (.int (0 : Int32)), (.int (0 : Int32)), (.int (0 : Int32)), (.int (0 : Int32)), (.int (0 : Int32)), (.int (0 : Int32)), (.int (0 : Int32)), (.int (0 : Int32)), (.int (0 : Int32)), (.int (0 : Int32)), (.int (0 : Int32)), (.int (0 : Int32)), (.int (0 : Int32))] (.int (0 : Int32)) ∧ Arv Z h b2 k2 .int (16 : Int32) [(.int y0), (.int y1), (.int p3), (.int (0 : Int32)), (.int (0 : Int32)), (.int (0 : Int32)), (.int (0 : Int32)), (.int (0 : Int32)), (.int (0 : Int32)), (.int (0 : Int32)), (.int (0 : Int32)), (.int (0 : Int32)), (.int (0 : Int32)), (.int (0 : Int32)), (.int (0 : Int32)), (.int (0 : Int32))] (.int (0 : Int32)) ∧ Arv Z h b3 k3 .long (16 : Int32) [(.long z0), (.long z1), (.long q4), (.long (0 : Int64)), (.long (0 : Int64)), (.long (0 : Int64)), (.long (0 : Int64)), (.long (0 : Int64)), (.long (0 : Int64)), (.long (0 : Int64)), (.long (0 : Int64)), (.long (0 : Int64)), (.long (0 : Int64)), (.long (0 : Int64)), (.long (0 : Int64)), (.long (0 : Int64))] (.long (0 : Int64))
set_option maxRecDepth 65536 in
set_option maxHeartbeats 40000000 in
theorem rm5c2 (l : Launch) (Z : State) (a0 : Array Value) (hw : ∀ d ∈ tables_1, d.before a0 Z = true) (ws : List Jvm.Cond) (a1 : Addr) (p2 : Int32) (p3 : Int32) (q4 : Int64) (b1 : Addr) (b2 : Addr) (b3 : Addr) (k1 : ClassId) (k2 : ClassId) (k3 : ClassId) (mx : Int64) (ba : Int64) (iv : Int64) (x0 : Int32) (x1 : Int32) (y0 : Int32) (y1 : Int32) (z0 : Int64) (z1 : Int64) (h0 : Heap) (n0 : Nat) (Z0 : n0 ≤ h0.size) (E_a1 : Exa Z h0 a1 "com/example/tote/tote/storage/OffsetIndex") (F_mOffsets_a1 : Fld Z h0 a1 "com/example/tote/tote/storage/OffsetIndex" "mOffsets" "[I" (.ref b1)) (F_mPositions_a1 : Fld Z h0 a1 "com/example/tote/tote/storage/OffsetIndex" "mPositions" "[I" (.ref b2)) (F_mTimestamps_a1 : Fld Z h0 a1 "com/example/tote/tote/storage/OffsetIndex" "mTimestamps" "[J" (.ref b3)) (F_mMaxTimestamp_a1 : Fld Z h0 a1 "com/example/tote/tote/storage/OffsetIndex" "mMaxTimestamp" "J" (.long mx)) (F_mBaseOffset_a1 : Fld Z h0 a1 "com/example/tote/tote/storage/OffsetIndex" "mBaseOffset" "J" (.long ba)) (F_mIntervalBytes_a1 : Fld Z h0 a1 "com/example/tote/tote/storage/OffsetIndex" "mIntervalBytes" "J" (.long iv)) (F_mCount_a1 : Fld Z h0 a1 "com/example/tote/tote/storage/OffsetIndex" "mCount" "I" (.int (2 : Int32))) (V_b1 : Arv Z h0 b1 k1 .int (16 : Int32) [(.int x0), (.int x1), (.int (0 : Int32)), (.int (0 : Int32)), (.int (0 : Int32)), (.int (0 : Int32)), (.int (0 : Int32)), (.int (0 : Int32)), (.int (0 : Int32)), (.int (0 : Int32)), (.int (0 : Int32)), (.int (0 : Int32)), (.int (0 : Int32)), (.int (0 : Int32)), (.int (0 : Int32)), (.int (0 : Int32))] (.int (0 : Int32))) (V_b2 : Arv Z h0 b2 k2 .int (16 : Int32) [(.int y0), (.int y1), (.int (0 : Int32)), (.int (0 : Int32)), (.int (0 : Int32)), (.int (0 : Int32)), (.int (0 : Int32)), (.int (0 : Int32)), (.int (0 : Int32)), (.int (0 : Int32)), (.int (0 : Int32)), (.int (0 : Int32)), (.int (0 : Int32)), (.int (0 : Int32)), (.int (0 : Int32)), (.int (0 : Int32))] (.int (0 : Int32))) (V_b3 : Arv Z h0 b3 k3 .long (16 : Int32) [(.long z0), (.long z1), (.long (0 : Int64)), (.long (0 : Int64)), (.long (0 : Int64)), (.long (0 : Int64)), (.long (0 : Int64)), (.long (0 : Int64)), (.long (0 : Int64)), (.long (0 : Int64)), (.long (0 : Int64)), (.long (0 : Int64)), (.long (0 : Int64)), (.long (0 : Int64)), (.long (0 : Int64)), (.long (0 : Int64))] (.long (0 : Int64))) (g_a1 : n0 ≤ a1) (g_b1 : n0 ≤ b1) (g_b2 : n0 ≤ b2) (g_b3 : n0 ≤ b3) (ne_a1_b1 : a1 ≠ b1) (ne_a1_b2 : a1 ≠ b2) (ne_a1_b3 : a1 ≠ b3) (ne_b1_b2 : b1 ≠ b2) (ne_b1_b3 : b1 ≠ b3) (ne_b2_b3 : b2 ≠ b3) :
    MetFree l (⟨"com/example/tote/tote/storage/OffsetIndex", "append", "(IIJ)V"⟩ : MethodName) (head1 (Jvm.Cond.code (⟨"com/example/tote/tote/storage/OffsetIndex", "append", "(IIJ)V"⟩ : MethodName) prog_89_method_15_code 5 none :: ws) ({ frames := 0, cells := 0, slots := 0, locals := 0 } : Room)) (fun a U => a = #[(.ref a1), (.int p2), (.int p3), (.long q4)] ∧ Z.Warmed39 U.vm ∧ U.heap = h0) (fun _ _ _ _ _ => True) (fun _ U o U' => ∃ v L, o = .returned v ∧ Q5c2 Z a1 p2 p3 q4 b1 b2 b3 k1 k2 k3 mx ba iv x0 x1 y0 y1 z0 z1 h0 n0 v U'.heap L ∧ FrameEnd U o U' L ({ frames := 0, cells := 0, slots := 0, locals := 0 } : Room).cells ({ frames := 0, cells := 0, slots := 0, locals := 0 } : Room).slots) := by
  refine MetFree.of_bodySF (plainFor_of_name pn_5) hisR ?_
  intro p e s m args below meth c s₁ Bd hml0 hP hK
  obtain ⟨rfl, hZ, hh⟩ := hP
  have hx := Bd.exec
  have hby := Bd.bytes
  have hml : c.maxLocals = 5 := hml0
  have hown : s.vm.findClass "com/example/tote/tote/storage/OffsetIndex" = some m.cls := findClass_of_methodNamed Bd.named
  have hnm := (name_of_methodNamed Bd.named Bd.method).1
  have hret := Bd.returns
  have hlk : meth.locks = false := BodyLoose.notSynchronized Bd
  have X0 : Stand p l e ({ frames := 0, cells := 0, slots := 0, locals := 0 } : Room) s m #[(.ref a1), (.int p2), (.int p3), (.long q4)] below meth c s₁ [] 0 0 := Stand.of_body Bd
  have e0 : s₁.heap = h0 := by rw [← hh, Bd.state]; rfl
  have N0 := Fr.nil n0
  have W := fun (k : Nat) {d : Jvm.Cond} (h : tables_1[k]? = some d) => hw d (List.mem_of_getElem? h)
  have K0 : Keep h0 h0 [a1, b1, b2, b3] := Keep.refl _ _
  refine own_start (ef_5 m a1 p2 p3 q4) ?_
  show own_Run p e below _ s₁ (mkF m 0 #[.val (.ref a1), .val (.int p2), .val (.int p3), .val (.long q4), .second] [])
  refine own_go (fun _ k => XS.aloadN X0.here hx rfl (hb hby d5_0) rfl rfl k) ?_
  show own_Run p e below _ s₁ (mkF m 1 #[.val (.ref a1), .val (.int p2), .val (.int p3), .val (.long q4), .second] [(.ref a1)])
  obtain ⟨T89, X89, e89, st89⟩ := getF X0 hx hZ hown (host := "") (Or.inl (W 30 rfl)) Via.refl e0 F_mCount_a1 (g := (mkF m 1 #[.val (.ref a1), .val (.int p2), .val (.int p3), .val (.long q4), .second] [(.ref a1)])) rfl rfl (hb hby d5_1)
  refine own_go st89 ?_
  show own_Run p e below _ T89 (mkF m 4 #[.val (.ref a1), .val (.int p2), .val (.int p3), .val (.long q4), .second] [(.int (2 : Int32))])
  refine own_go (fun _ k => XS.aloadN X89.here hx rfl (hb hby d5_4) rfl rfl k) ?_
  show own_Run p e below _ T89 (mkF m 5 #[.val (.ref a1), .val (.int p2), .val (.int p3), .val (.long q4), .second] [(.ref a1), (.int (2 : Int32))])
  obtain ⟨T90, X90, e90, st90⟩ := getF X89 hx hZ hown (host := "") (Or.inl (W 12 rfl)) Via.refl e89 F_mOffsets_a1 (g := (mkF m 5 #[.val (.ref a1), .val (.int p2), .val (.int p3), .val (.long q4), .second] [(.ref a1), (.int (2 : Int32))])) rfl rfl (hb hby d5_5)
  refine own_go st90 ?_
  show own_Run p e below _ T90 (mkF m 8 #[.val (.ref a1), .val (.int p2), .val (.int p3), .val (.long q4), .second] [(.ref b1), (.int (2 : Int32))])
  obtain ⟨cl91, Ar91, q91, S91, N91, H91, G91⟩ := id V_b1
  refine own_go (X90.arraylength hx (by rw [e90]; exact Ar91.1) (State.isArrayOf_alike hZ.alike Ar91.2.1) (g := (mkF m 8 #[.val (.ref a1), .val (.int p2), .val (.int p3), .val (.long q4), .second] [(.ref b1), (.int (2 : Int32))])) rfl rfl (hb hby d5_8)) ?_
  rw [len_of S91 N91]
  show own_Run p e below _ T90 (mkF m 9 #[.val (.ref a1), .val (.int p2), .val (.int p3), .val (.long q4), .second] [(.int (16 : Int32)), (.int (2 : Int32))])
  refine own_go (fun _ k => XS.icmpYes X90.here hx rfl (pc0 := 9) (pc' := 63) rfl (hb hby d5_9) rfl (feq (by decide : ¬ ((2 : Int32) = (16 : Int32)))).2 (by decide) (by decide) k) ?_
  show own_Run p e below _ T90 (mkF m 63 #[.val (.ref a1), .val (.int p2), .val (.int p3), .val (.long q4), .second] [])
  refine own_go (fun _ k => XS.aloadN X90.here hx rfl (hb hby d5_63) rfl rfl k) ?_
  show own_Run p e below _ T90 (mkF m 64 #[.val (.ref a1), .val (.int p2), .val (.int p3), .val (.long q4), .second] [(.ref a1)])
  obtain ⟨T92, X92, e92, st92⟩ := getF X90 hx hZ hown (host := "") (Or.inl (W 12 rfl)) Via.refl e90 F_mOffsets_a1 (g := (mkF m 64 #[.val (.ref a1), .val (.int p2), .val (.int p3), .val (.long q4), .second] [(.ref a1)])) rfl rfl (hb hby d5_64)
  refine own_go st92 ?_
  show own_Run p e below _ T92 (mkF m 67 #[.val (.ref a1), .val (.int p2), .val (.int p3), .val (.long q4), .second] [(.ref b1)])
  refine own_go (fun _ k => XS.aloadN X92.here hx rfl (hb hby d5_67) rfl rfl k) ?_
  show own_Run p e below _ T92 (mkF m 68 #[.val (.ref a1), .val (.int p2), .val (.int p3), .val (.long q4), .second] [(.ref a1), (.ref b1)])
  obtain ⟨T93, X93, e93, st93⟩ := getF X92 hx hZ hown (host := "") (Or.inl (W 30 rfl)) Via.refl e92 F_mCount_a1 (g := (mkF m 68 #[.val (.ref a1), .val (.int p2), .val (.int p3), .val (.long q4), .second] [(.ref a1), (.ref b1)])) rfl rfl (hb hby d5_68)
  refine own_go st93 ?_
  show own_Run p e below _ T93 (mkF m 71 #[.val (.ref a1), .val (.int p2), .val (.int p3), .val (.long q4), .second] [(.int (2 : Int32)), (.ref b1)])
  refine own_go (fun _ k => XS.iloadN X93.here hx rfl (hb hby d5_71) rfl k) ?_
  show own_Run p e below _ T93 (mkF m 72 #[.val (.ref a1), .val (.int p2), .val (.int p3), .val (.long q4), .second] [(.int p2), (.int (2 : Int32)), (.ref b1)])
  obtain ⟨cl94, Ar94, q94, S94, N94, H94, G94⟩ := id V_b1
  have hin94 : ¬ ((2 : Int32) < 0 ∨ cl94.slots.size ≤ ((2 : Int32)).toNatClampNeg) := inb_of S94 ⟨by decide, by decide⟩
  obtain ⟨T95, h95, X95, e95, W95, st95⟩ := stI X93 hx hZ e93 Ar94 (j := (2 : Int32)) hin94 (g := (mkF m 72 #[.val (.ref a1), .val (.int p2), .val (.int p3), .val (.long q4), .second] [(.int p2), (.int (2 : Int32)), (.ref b1)])) rfl rfl (hb hby d5_72)
  refine own_go st95 ?_
  show own_Run p e below _ T95 (mkF m 73 #[.val (.ref a1), .val (.int p2), .val (.int p3), .val (.long q4), .second] [])
  have Z0_c96 := Nat.le_trans Z0 (Keep.of_wr W95).1
  have K0_c96 := K0.wr W95 (Or.inl (List.mem_of_getElem? (i := 1) rfl))
  have E_a1_c96 := E_a1.wr W95
  have F_mOffsets_a1_c96 := F_mOffsets_a1.other W95 (Or.inl ne_a1_b1)
  have F_mPositions_a1_c96 := F_mPositions_a1.other W95 (Or.inl ne_a1_b1)
  have F_mTimestamps_a1_c96 := F_mTimestamps_a1.other W95 (Or.inl ne_a1_b1)
  have F_mMaxTimestamp_a1_c96 := F_mMaxTimestamp_a1.other W95 (Or.inl ne_a1_b1)
  have F_mBaseOffset_a1_c96 := F_mBaseOffset_a1.other W95 (Or.inl ne_a1_b1)
  have F_mIntervalBytes_a1_c96 := F_mIntervalBytes_a1.other W95 (Or.inl ne_a1_b1)
  have F_mCount_a1_c96 := F_mCount_a1.other W95 (Or.inl ne_a1_b1)
  have V_b2_c96 := V_b2.other W95 (Ne.symm ne_b1_b2)
  have V_b3_c96 := V_b3.other W95 (Ne.symm ne_b1_b3)
  have V_b1_c95 : Arv Z h95 b1 k1 .int (16 : Int32) [(.int x0), (.int x1), (.int p2), (.int (0 : Int32)), (.int (0 : Int32)), (.int (0 : Int32)), (.int (0 : Int32)), (.int (0 : Int32)), (.int (0 : Int32)), (.int (0 : Int32)), (.int (0 : Int32)), (.int (0 : Int32)), (.int (0 : Int32)), (.int (0 : Int32)), (.int (0 : Int32)), (.int (0 : Int32))] (.int (0 : Int32)) := Arv.set Ar94 q94 S94 N94 H94 G94 rfl W95 2 rfl (Nat.le_of_ble_eq_true rfl)
  have N95 := Fr.snoc X95 N0 g_b1
  refine own_go (fun _ k => XS.aloadN X95.here hx rfl (hb hby d5_73) rfl rfl k) ?_
  show own_Run p e below _ T95 (mkF m 74 #[.val (.ref a1), .val (.int p2), .val (.int p3), .val (.long q4), .second] [(.ref a1)])
  obtain ⟨T97, X97, e97, st97⟩ := getF X95 hx hZ hown (host := "") (Or.inl (W 14 rfl)) Via.refl e95 F_mPositions_a1_c96 (g := (mkF m 74 #[.val (.ref a1), .val (.int p2), .val (.int p3), .val (.long q4), .second] [(.ref a1)])) rfl rfl (hb hby d5_74)
  refine own_go st97 ?_
  show own_Run p e below _ T97 (mkF m 77 #[.val (.ref a1), .val (.int p2), .val (.int p3), .val (.long q4), .second] [(.ref b2)])
  refine own_go (fun _ k => XS.aloadN X97.here hx rfl (hb hby d5_77) rfl rfl k) ?_
  show own_Run p e below _ T97 (mkF m 78 #[.val (.ref a1), .val (.int p2), .val (.int p3), .val (.long q4), .second] [(.ref a1), (.ref b2)])
  obtain ⟨T98, X98, e98, st98⟩ := getF X97 hx hZ hown (host := "") (Or.inl (W 30 rfl)) Via.refl e97 F_mCount_a1_c96 (g := (mkF m 78 #[.val (.ref a1), .val (.int p2), .val (.int p3), .val (.long q4), .second] [(.ref a1), (.ref b2)])) rfl rfl (hb hby d5_78)
  refine own_go st98 ?_
  show own_Run p e below _ T98 (mkF m 81 #[.val (.ref a1), .val (.int p2), .val (.int p3), .val (.long q4), .second] [(.int (2 : Int32)), (.ref b2)])
  refine own_go (fun _ k => XS.iloadN X98.here hx rfl (hb hby d5_81) rfl k) ?_
  show own_Run p e below _ T98 (mkF m 82 #[.val (.ref a1), .val (.int p2), .val (.int p3), .val (.long q4), .second] [(.int p3), (.int (2 : Int32)), (.ref b2)])
  obtain ⟨cl99, Ar99, q99, S99, N99, H99, G99⟩ := id V_b2_c96
  have hin99 : ¬ ((2 : Int32) < 0 ∨ cl99.slots.size ≤ ((2 : Int32)).toNatClampNeg) := inb_of S99 ⟨by decide, by decide⟩
  obtain ⟨T100, h100, X100, e100, W100, st100⟩ := stI X98 hx hZ e98 Ar99 (j := (2 : Int32)) hin99 (g := (mkF m 82 #[.val (.ref a1), .val (.int p2), .val (.int p3), .val (.long q4), .second] [(.int p3), (.int (2 : Int32)), (.ref b2)])) rfl rfl (hb hby d5_82)
  refine own_go st100 ?_
  show own_Run p e below _ T100 (mkF m 83 #[.val (.ref a1), .val (.int p2), .val (.int p3), .val (.long q4), .second] [])
  have Z0_c101 := Nat.le_trans Z0_c96 (Keep.of_wr W100).1
  have K0_c101 := K0_c96.wr W100 (Or.inl (List.mem_of_getElem? (i := 2) rfl))
  have E_a1_c101 := E_a1_c96.wr W100
  have F_mOffsets_a1_c101 := F_mOffsets_a1_c96.other W100 (Or.inl ne_a1_b2)
  have F_mPositions_a1_c101 := F_mPositions_a1_c96.other W100 (Or.inl ne_a1_b2)
  have F_mTimestamps_a1_c101 := F_mTimestamps_a1_c96.other W100 (Or.inl ne_a1_b2)
  have F_mMaxTimestamp_a1_c101 := F_mMaxTimestamp_a1_c96.other W100 (Or.inl ne_a1_b2)
  have F_mBaseOffset_a1_c101 := F_mBaseOffset_a1_c96.other W100 (Or.inl ne_a1_b2)
  have F_mIntervalBytes_a1_c101 := F_mIntervalBytes_a1_c96.other W100 (Or.inl ne_a1_b2)
  have F_mCount_a1_c101 := F_mCount_a1_c96.other W100 (Or.inl ne_a1_b2)
  have V_b3_c101 := V_b3_c96.other W100 (Ne.symm ne_b2_b3)
  have V_b1_c101 := V_b1_c95.other W100 ne_b1_b2
  have V_b2_c100 : Arv Z h100 b2 k2 .int (16 : Int32) [(.int y0), (.int y1), (.int p3), (.int (0 : Int32)), (.int (0 : Int32)), (.int (0 : Int32)), (.int (0 : Int32)), (.int (0 : Int32)), (.int (0 : Int32)), (.int (0 : Int32)), (.int (0 : Int32)), (.int (0 : Int32)), (.int (0 : Int32)), (.int (0 : Int32)), (.int (0 : Int32)), (.int (0 : Int32))] (.int (0 : Int32)) := Arv.set Ar99 q99 S99 N99 H99 G99 rfl W100 2 rfl (Nat.le_of_ble_eq_true rfl)
  have N100 := Fr.snoc X100 N95 g_b2
  refine own_go (fun _ k => XS.aloadN X100.here hx rfl (hb hby d5_83) rfl rfl k) ?_
  show own_Run p e below _ T100 (mkF m 84 #[.val (.ref a1), .val (.int p2), .val (.int p3), .val (.long q4), .second] [(.ref a1)])
  obtain ⟨T102, X102, e102, st102⟩ := getF X100 hx hZ hown (host := "") (Or.inl (W 16 rfl)) Via.refl e100 F_mTimestamps_a1_c101 (g := (mkF m 84 #[.val (.ref a1), .val (.int p2), .val (.int p3), .val (.long q4), .second] [(.ref a1)])) rfl rfl (hb hby d5_84)
  refine own_go st102 ?_
  show own_Run p e below _ T102 (mkF m 87 #[.val (.ref a1), .val (.int p2), .val (.int p3), .val (.long q4), .second] [(.ref b3)])
  refine own_go (fun _ k => XS.aloadN X102.here hx rfl (hb hby d5_87) rfl rfl k) ?_
  show own_Run p e below _ T102 (mkF m 88 #[.val (.ref a1), .val (.int p2), .val (.int p3), .val (.long q4), .second] [(.ref a1), (.ref b3)])
  obtain ⟨T103, X103, e103, st103⟩ := getF X102 hx hZ hown (host := "") (Or.inl (W 30 rfl)) Via.refl e102 F_mCount_a1_c101 (g := (mkF m 88 #[.val (.ref a1), .val (.int p2), .val (.int p3), .val (.long q4), .second] [(.ref a1), (.ref b3)])) rfl rfl (hb hby d5_88)
  refine own_go st103 ?_
  show own_Run p e below _ T103 (mkF m 91 #[.val (.ref a1), .val (.int p2), .val (.int p3), .val (.long q4), .second] [(.int (2 : Int32)), (.ref b3)])
  refine own_go (fun _ k => XS.lloadN X103.here hx rfl (hb hby d5_91) rfl k) ?_
  show own_Run p e below _ T103 (mkF m 92 #[.val (.ref a1), .val (.int p2), .val (.int p3), .val (.long q4), .second] [(.long q4), (.int (2 : Int32)), (.ref b3)])
  obtain ⟨cl104, Ar104, q104, S104, N104, H104, G104⟩ := id V_b3_c101
  have hin104 : ¬ ((2 : Int32) < 0 ∨ cl104.slots.size ≤ ((2 : Int32)).toNatClampNeg) := inb_of S104 ⟨by decide, by decide⟩
  obtain ⟨T105, h105, X105, e105, W105, st105⟩ := stJ X103 hx hZ e103 Ar104 (j := (2 : Int32)) hin104 (g := (mkF m 92 #[.val (.ref a1), .val (.int p2), .val (.int p3), .val (.long q4), .second] [(.long q4), (.int (2 : Int32)), (.ref b3)])) rfl rfl (hb hby d5_92)
  refine own_go st105 ?_
  show own_Run p e below _ T105 (mkF m 93 #[.val (.ref a1), .val (.int p2), .val (.int p3), .val (.long q4), .second] [])
  have Z0_c106 := Nat.le_trans Z0_c101 (Keep.of_wr W105).1
  have K0_c106 := K0_c101.wr W105 (Or.inl (List.mem_of_getElem? (i := 3) rfl))
  have E_a1_c106 := E_a1_c101.wr W105
  have F_mOffsets_a1_c106 := F_mOffsets_a1_c101.other W105 (Or.inl ne_a1_b3)
  have F_mPositions_a1_c106 := F_mPositions_a1_c101.other W105 (Or.inl ne_a1_b3)
  have F_mTimestamps_a1_c106 := F_mTimestamps_a1_c101.other W105 (Or.inl ne_a1_b3)
  have F_mMaxTimestamp_a1_c106 := F_mMaxTimestamp_a1_c101.other W105 (Or.inl ne_a1_b3)
  have F_mBaseOffset_a1_c106 := F_mBaseOffset_a1_c101.other W105 (Or.inl ne_a1_b3)
  have F_mIntervalBytes_a1_c106 := F_mIntervalBytes_a1_c101.other W105 (Or.inl ne_a1_b3)
  have F_mCount_a1_c106 := F_mCount_a1_c101.other W105 (Or.inl ne_a1_b3)
  have V_b1_c106 := V_b1_c101.other W105 ne_b1_b3
  have V_b2_c106 := V_b2_c100.other W105 ne_b2_b3
  have V_b3_c105 : Arv Z h105 b3 k3 .long (16 : Int32) [(.long z0), (.long z1), (.long q4), (.long (0 : Int64)), (.long (0 : Int64)), (.long (0 : Int64)), (.long (0 : Int64)), (.long (0 : Int64)), (.long (0 : Int64)), (.long (0 : Int64)), (.long (0 : Int64)), (.long (0 : Int64)), (.long (0 : Int64)), (.long (0 : Int64)), (.long (0 : Int64)), (.long (0 : Int64))] (.long (0 : Int64)) := Arv.set Ar104 q104 S104 N104 H104 G104 rfl W105 2 rfl (Nat.le_of_ble_eq_true rfl)
  have N105 := Fr.snoc X105 N100 g_b3
  refine own_go (fun _ k => XS.aloadN X105.here hx rfl (hb hby d5_93) rfl rfl k) ?_
  refine own_go (fun _ k => XS.dup X105.here hx rfl (hb hby d5_94) rfl rfl k) ?_
  show own_Run p e below _ T105 (mkF m 95 #[.val (.ref a1), .val (.int p2), .val (.int p3), .val (.long q4), .second] [(.ref a1), (.ref a1)])
  obtain ⟨T107, X107, e107, st107⟩ := getF X105 hx hZ hown (host := "") (Or.inl (W 30 rfl)) Via.refl e105 F_mCount_a1_c106 (g := (mkF m 95 #[.val (.ref a1), .val (.int p2), .val (.int p3), .val (.long q4), .second] [(.ref a1), (.ref a1)])) rfl rfl (hb hby d5_95)
  refine own_go st107 ?_
  show own_Run p e below _ T107 (mkF m 98 #[.val (.ref a1), .val (.int p2), .val (.int p3), .val (.long q4), .second] [(.int (2 : Int32)), (.ref a1)])
  refine own_go (fun _ k => XS.iconst X107.here hx rfl (hb hby d5_98) k) ?_
  refine own_go (fun _ k => XS.iadd X107.here hx rfl (hb hby d5_99) rfl k) ?_
  show own_Run p e below _ T107 (mkF m 100 #[.val (.ref a1), .val (.int p2), .val (.int p3), .val (.long q4), .second] [(.int ((2 : Int32) + (1 : Int32))), (.ref a1)])
  rw [show ((2 : Int32) + (1 : Int32)) = (3 : Int32) by decide]
  show own_Run p e below _ T107 (mkF m 100 #[.val (.ref a1), .val (.int p2), .val (.int p3), .val (.long q4), .second] [(.int (3 : Int32)), (.ref a1)])
  obtain ⟨T108, h108, X108, e108, W108, st108⟩ := putF X107 hx hZ hown (host := "") (Or.inl (W 30 rfl)) Via.refl e107 F_mCount_a1_c106 E_a1_c106 (Or.inl (W 31 rfl)) (W 3 rfl) (ty := .int) (by decide) rfl rfl (g := (mkF m 100 #[.val (.ref a1), .val (.int p2), .val (.int p3), .val (.long q4), .second] [(.int (3 : Int32)), (.ref a1)])) rfl rfl (hb hby d5_100)
  refine own_go st108 ?_
  show own_Run p e below _ T108 (mkF m 103 #[.val (.ref a1), .val (.int p2), .val (.int p3), .val (.long q4), .second] [])
  have Z0_c109 := Nat.le_trans Z0_c106 (Keep.of_wr W108).1
  have K0_c109 := K0_c106.wr W108 (Or.inl (List.mem_of_getElem? (i := 0) rfl))
  have E_a1_c109 := E_a1_c106.wr W108
  have F_mOffsets_a1_c109 := F_mOffsets_a1_c106.other W108 (Or.inr (slot_ne (Or.inl (W 13 rfl)) (Or.inl (W 31 rfl)) (by decide) (t := (.array .int)) (t' := .int) (by decide) (by decide)))
  have F_mPositions_a1_c109 := F_mPositions_a1_c106.other W108 (Or.inr (slot_ne (Or.inl (W 15 rfl)) (Or.inl (W 31 rfl)) (by decide) (t := (.array .int)) (t' := .int) (by decide) (by decide)))
  have F_mTimestamps_a1_c109 := F_mTimestamps_a1_c106.other W108 (Or.inr (slot_ne (Or.inl (W 17 rfl)) (Or.inl (W 31 rfl)) (by decide) (t := (.array .long)) (t' := .int) (by decide) (by decide)))
  have F_mMaxTimestamp_a1_c109 := F_mMaxTimestamp_a1_c106.other W108 (Or.inr (slot_ne (Or.inl (W 20 rfl)) (Or.inl (W 31 rfl)) (by decide) (t := .long) (t' := .int) (by decide) (by decide)))
  have F_mBaseOffset_a1_c109 := F_mBaseOffset_a1_c106.other W108 (Or.inr (slot_ne (Or.inr (W 22 rfl)) (Or.inl (W 31 rfl)) (by decide) (t := .long) (t' := .int) (by decide) (by decide)))
  have F_mIntervalBytes_a1_c109 := F_mIntervalBytes_a1_c106.other W108 (Or.inr (slot_ne (Or.inr (W 24 rfl)) (Or.inl (W 31 rfl)) (by decide) (t := .long) (t' := .int) (by decide) (by decide)))
  have V_b1_c109 := V_b1_c106.other W108 (Ne.symm ne_a1_b1)
  have V_b2_c109 := V_b2_c106.other W108 (Ne.symm ne_a1_b2)
  have V_b3_c109 := V_b3_c105.other W108 (Ne.symm ne_a1_b3)
  have F_mCount_a1_c108 : Fld Z h108 a1 "com/example/tote/tote/storage/OffsetIndex" "mCount" "I" (.int (3 : Int32)) := F_mCount_a1_c106.same W108
  have N108 := Fr.snoc X108 N105 g_a1
  refine own_done (Q := fun v h L => Q5c2 Z a1 p2 p3 q4 b1 b2 b3 k1 k2 k3 mx ba iv x0 x1 y0 y1 z0 z1 h0 n0 v h L) (v := none) X108 (fun _ => rfl) hlk (fun fs hr => X108.returnOut hx hret (hb hby d5_103) hr) ?_ (by decide) (by decide)
  show Q5c2 Z a1 p2 p3 q4 b1 b2 b3 k1 k2 k3 mx ba iv x0 x1 y0 y1 z0 z1 h0 n0 _ T108.heap _
  rw [e108]
  exact ⟨rfl, N108, K0_c109, E_a1_c109, F_mOffsets_a1_c109, F_mPositions_a1_c109, F_mTimestamps_a1_c109, F_mMaxTimestamp_a1_c109, F_mBaseOffset_a1_c109, F_mIntervalBytes_a1_c109, F_mCount_a1_c108, V_b1_c109, V_b2_c109, V_b3_c109⟩
def Q3c2 (Z : State) (a1 : Addr) (q2 : Int64) (q3 : Int64) (q4 : Int64) (b1 : Addr) (b2 : Addr) (b3 : Addr) (k1 : ClassId) (k2 : ClassId) (k3 : ClassId) (mx : Int64) (ba : Int64) (iv : Int64) (x0 : Int32) (x1 : Int32) (y0 : Int32) (y1 : Int32) (z0 : Int64) (z1 : Int64) (h0 : Heap) (n0 : Nat) (v : Option Value) (h : Heap) (L : List Loc) : Prop := v = none ∧ Fr n0 L ∧ Keep h0 h [a1, b1, b2, b3] ∧ Exa Z h a1 "com/example/tote/tote/storage/OffsetIndex" ∧ Fld Z h a1 "com/example/tote/tote/storage/OffsetIndex" "mOffsets" "[I" (.ref b1) ∧ Fld Z h a1 "com/example/tote/tote/storage/OffsetIndex" "mPositions" "[I" (.ref b2) ∧ Fld Z h a1 "com/example/tote/tote/storage/OffsetIndex" "mTimestamps" "[J" (.ref b3) ∧ Fld Z h a1 "com/example/tote/tote/storage/OffsetIndex" "mMaxTimestamp" "J" (.long (own_max mx q4)) ∧ Fld Z h a1 "com/example/tote/tote/storage/OffsetIndex" "mBaseOffset" "J" (.long ba) ∧ Fld Z h a1 "com/example/tote/tote/storage/OffsetIndex" "mIntervalBytes" "J" (.long iv) ∧ Fld Z h a1 "com/example/tote/tote/storage/OffsetIndex" "mCount" "I" (.int (3 : Int32)) ∧ Arv Z h b1 k1 .int (16 : Int32) [(.int x0), (.int x1), (.int ((q2 - ba).toInt32)), (.int (0 : Int32)), (.int (0 : Int32)), (.int (0 : Int32)), (.int (0 : Int32)), (.int (0 : Int32)), (.int (0 : Int32)), (.int (0 : Int32)), (.int (0 : Int32)), (.int (0 : Int32)), (.int (0 : Int32)), (.int (0 : Int32)), (.int (0 : Int32)), (.int (0 : Int32))] (.int (0 : Int32)) ∧ Arv Z h b2 k2 .int (16 : Int32) [(.int y0), (.int y1), (.int (q3.toInt32)), (.int (0 : Int32)), (.int (0 : Int32)), (.int (0 : Int32)), (.int (0 : Int32)), (.int (0 : Int32)), (.int (0 : Int32)), (.int (0 : Int32)), (.int (0 : Int32)), (.int (0 : Int32)), (.int (0 : Int32)), (.int (0 : Int32)), (.int (0 : Int32)), (.int (0 : Int32))] (.int (0 : Int32)) ∧ Arv Z h b3 k3 .long (16 : Int32) [(.long z0), (.long z1), (.long mx), (.long (0 : Int64)), (.long (0 : Int64)), (.long (0 : Int64)), (.long (0 : Int64)), (.long (0 : Int64)), (.long (0 : Int64)), (.long (0 : Int64)), (.long (0 : Int64)), (.long (0 : Int64)), (.long (0 : Int64)), (.long (0 : Int64)), (.long (0 : Int64)), (.long (0 : Int64))] (.long (0 : Int64))
set_option maxRecDepth 65536 in
set_option maxHeartbeats 40000000 in
theorem rm3c2 (l : Launch) (Z : State) (a0 : Array Value) (hw : ∀ d ∈ tables_1, d.before a0 Z = true) (ws : List Jvm.Cond) (a1 : Addr) (q2 : Int64) (q3 : Int64) (q4 : Int64) (b1 : Addr) (b2 : Addr) (b3 : Addr) (k1 : ClassId) (k2 : ClassId) (k3 : ClassId) (mx : Int64) (ba : Int64) (iv : Int64) (x0 : Int32) (x1 : Int32) (y0 : Int32) (y1 : Int32) (z0 : Int64) (z1 : Int64) (h0 : Heap) (n0 : Nat) (Z0 : n0 ≤ h0.size) (E_a1 : Exa Z h0 a1 "com/example/tote/tote/storage/OffsetIndex") (F_mOffsets_a1 : Fld Z h0 a1 "com/example/tote/tote/storage/OffsetIndex" "mOffsets" "[I" (.ref b1)) (F_mPositions_a1 : Fld Z h0 a1 "com/example/tote/tote/storage/OffsetIndex" "mPositions" "[I" (.ref b2)) (F_mTimestamps_a1 : Fld Z h0 a1 "com/example/tote/tote/storage/OffsetIndex" "mTimestamps" "[J" (.ref b3)) (F_mMaxTimestamp_a1 : Fld Z h0 a1 "com/example/tote/tote/storage/OffsetIndex" "mMaxTimestamp" "J" (.long mx)) (F_mBaseOffset_a1 : Fld Z h0 a1 "com/example/tote/tote/storage/OffsetIndex" "mBaseOffset" "J" (.long ba)) (F_mIntervalBytes_a1 : Fld Z h0 a1 "com/example/tote/tote/storage/OffsetIndex" "mIntervalBytes" "J" (.long iv)) (F_mCount_a1 : Fld Z h0 a1 "com/example/tote/tote/storage/OffsetIndex" "mCount" "I" (.int (2 : Int32))) (V_b1 : Arv Z h0 b1 k1 .int (16 : Int32) [(.int x0), (.int x1), (.int (0 : Int32)), (.int (0 : Int32)), (.int (0 : Int32)), (.int (0 : Int32)), (.int (0 : Int32)), (.int (0 : Int32)), (.int (0 : Int32)), (.int (0 : Int32)), (.int (0 : Int32)), (.int (0 : Int32)), (.int (0 : Int32)), (.int (0 : Int32)), (.int (0 : Int32)), (.int (0 : Int32))] (.int (0 : Int32))) (V_b2 : Arv Z h0 b2 k2 .int (16 : Int32) [(.int y0), (.int y1), (.int (0 : Int32)), (.int (0 : Int32)), (.int (0 : Int32)), (.int (0 : Int32)), (.int (0 : Int32)), (.int (0 : Int32)), (.int (0 : Int32)), (.int (0 : Int32)), (.int (0 : Int32)), (.int (0 : Int32)), (.int (0 : Int32)), (.int (0 : Int32)), (.int (0 : Int32)), (.int (0 : Int32))] (.int (0 : Int32))) (V_b3 : Arv Z h0 b3 k3 .long (16 : Int32) [(.long z0), (.long z1), (.long (0 : Int64)), (.long (0 : Int64)), (.long (0 : Int64)), (.long (0 : Int64)), (.long (0 : Int64)), (.long (0 : Int64)), (.long (0 : Int64)), (.long (0 : Int64)), (.long (0 : Int64)), (.long (0 : Int64)), (.long (0 : Int64)), (.long (0 : Int64)), (.long (0 : Int64)), (.long (0 : Int64))] (.long (0 : Int64))) (g_a1 : n0 ≤ a1) (g_b1 : n0 ≤ b1) (g_b2 : n0 ≤ b2) (g_b3 : n0 ≤ b3) (ne_a1_b1 : a1 ≠ b1) (ne_a1_b2 : a1 ≠ b2) (ne_a1_b3 : a1 ≠ b3) (ne_b1_b2 : b1 ≠ b2) (ne_b1_b3 : b1 ≠ b3) (ne_b2_b3 : b2 ≠ b3) (ho : (((q2 - ba).toInt32).toInt64) = (q2 - ba)) (hq : ((q3.toInt32).toInt64) = q3) (hgt : iv < (q3 - (y1.toInt64))) :
    MetFree l (⟨"com/example/tote/tote/storage/OffsetIndex", "add", "(JJJ)V"⟩ : MethodName) (head1 (Jvm.Cond.code (⟨"com/example/tote/tote/storage/OffsetIndex", "add", "(JJJ)V"⟩ : MethodName) prog_89_method_2_code 7 none :: ws) ({ frames := 1, cells := 0, slots := 0, locals := 17 } : Room)) (fun a U => a = #[(.ref a1), (.long q2), (.long q3), (.long q4)] ∧ Z.Warmed39 U.vm ∧ U.heap = h0) (fun _ _ _ _ _ => True) (fun _ U o U' => ∃ v L, o = .returned v ∧ Q3c2 Z a1 q2 q3 q4 b1 b2 b3 k1 k2 k3 mx ba iv x0 x1 y0 y1 z0 z1 h0 n0 v U'.heap L ∧ FrameEnd U o U' L ({ frames := 1, cells := 0, slots := 0, locals := 17 } : Room).cells ({ frames := 1, cells := 0, slots := 0, locals := 17 } : Room).slots) := by
  refine MetFree.of_bodySF (plainFor_of_name pn_3) hisR ?_
  intro p e s m args below meth c s₁ Bd hml0 hP hK
  obtain ⟨rfl, hZ, hh⟩ := hP
  have hx := Bd.exec
  have hby := Bd.bytes
  have hml : c.maxLocals = 7 := hml0
  have hown : s.vm.findClass "com/example/tote/tote/storage/OffsetIndex" = some m.cls := findClass_of_methodNamed Bd.named
  have hnm := (name_of_methodNamed Bd.named Bd.method).1
  have hret := Bd.returns
  have hlk : meth.locks = false := BodyLoose.notSynchronized Bd
  have X0 : Stand p l e ({ frames := 1, cells := 0, slots := 0, locals := 17 } : Room) s m #[(.ref a1), (.long q2), (.long q3), (.long q4)] below meth c s₁ [] 0 0 := Stand.of_body Bd
  have e0 : s₁.heap = h0 := by rw [← hh, Bd.state]; rfl
  have N0 := Fr.nil n0
  have W := fun (k : Nat) {d : Jvm.Cond} (h : tables_1[k]? = some d) => hw d (List.mem_of_getElem? h)
  have K0 : Keep h0 h0 [a1, b1, b2, b3] := Keep.refl _ _
  refine own_start (ef_3 m a1 q2 q3 q4) ?_
  show own_Run p e below _ s₁ (mkF m 0 #[.val (.ref a1), .val (.long q2), .second, .val (.long q3), .second, .val (.long q4), .second] [])
  refine own_go (fun _ k => XS.aloadN X0.here hx rfl (hb hby d3_0) rfl rfl k) ?_
  show own_Run p e below _ s₁ (mkF m 1 #[.val (.ref a1), .val (.long q2), .second, .val (.long q3), .second, .val (.long q4), .second] [(.ref a1)])
  obtain ⟨T110, X110, e110, st110⟩ := getF X0 hx hZ hown (host := "") (Or.inl (W 30 rfl)) Via.refl e0 F_mCount_a1 (g := (mkF m 1 #[.val (.ref a1), .val (.long q2), .second, .val (.long q3), .second, .val (.long q4), .second] [(.ref a1)])) rfl rfl (hb hby d3_1)
  refine own_go st110 ?_
  show own_Run p e below _ T110 (mkF m 4 #[.val (.ref a1), .val (.long q2), .second, .val (.long q3), .second, .val (.long q4), .second] [(.int (2 : Int32))])
  refine own_go (fun _ k => XS.ifNo X110.here hx rfl (hb hby d3_4) rfl ((if0 _ _).trans (feq (by decide : ¬ ((2 : Int32) = (0 : Int32)))).1) k) ?_
  show own_Run p e below _ T110 (mkF m 7 #[.val (.ref a1), .val (.long q2), .second, .val (.long q3), .second, .val (.long q4), .second] [])
  refine own_go (fun _ k => XS.lloadN X110.here hx rfl (hb hby d3_7) rfl k) ?_
  refine own_go (fun _ k => XS.aloadN X110.here hx rfl (hb hby d3_8) rfl rfl k) ?_
  show own_Run p e below _ T110 (mkF m 9 #[.val (.ref a1), .val (.long q2), .second, .val (.long q3), .second, .val (.long q4), .second] [(.ref a1), (.long q3)])
  obtain ⟨T111, X111, e111, st111⟩ := getF X110 hx hZ hown (host := "") (Or.inl (W 14 rfl)) Via.refl e110 F_mPositions_a1 (g := (mkF m 9 #[.val (.ref a1), .val (.long q2), .second, .val (.long q3), .second, .val (.long q4), .second] [(.ref a1), (.long q3)])) rfl rfl (hb hby d3_9)
  refine own_go st111 ?_
  show own_Run p e below _ T111 (mkF m 12 #[.val (.ref a1), .val (.long q2), .second, .val (.long q3), .second, .val (.long q4), .second] [(.ref b2), (.long q3)])
  refine own_go (fun _ k => XS.aloadN X111.here hx rfl (hb hby d3_12) rfl rfl k) ?_
  show own_Run p e below _ T111 (mkF m 13 #[.val (.ref a1), .val (.long q2), .second, .val (.long q3), .second, .val (.long q4), .second] [(.ref a1), (.ref b2), (.long q3)])
  obtain ⟨T112, X112, e112, st112⟩ := getF X111 hx hZ hown (host := "") (Or.inl (W 30 rfl)) Via.refl e111 F_mCount_a1 (g := (mkF m 13 #[.val (.ref a1), .val (.long q2), .second, .val (.long q3), .second, .val (.long q4), .second] [(.ref a1), (.ref b2), (.long q3)])) rfl rfl (hb hby d3_13)
  refine own_go st112 ?_
  show own_Run p e below _ T112 (mkF m 16 #[.val (.ref a1), .val (.long q2), .second, .val (.long q3), .second, .val (.long q4), .second] [(.int (2 : Int32)), (.ref b2), (.long q3)])
  refine own_go (fun _ k => XS.iconst X112.here hx rfl (hb hby d3_16) k) ?_
  refine own_go (fun _ k => XS.isub X112.here hx rfl (hb hby d3_17) rfl k) ?_
  show own_Run p e below _ T112 (mkF m 18 #[.val (.ref a1), .val (.long q2), .second, .val (.long q3), .second, .val (.long q4), .second] [(.int ((2 : Int32) - (1 : Int32))), (.ref b2), (.long q3)])
  rw [show ((2 : Int32) - (1 : Int32)) = (1 : Int32) by decide]
  show own_Run p e below _ T112 (mkF m 18 #[.val (.ref a1), .val (.long q2), .second, .val (.long q3), .second, .val (.long q4), .second] [(.int (1 : Int32)), (.ref b2), (.long q3)])
  obtain ⟨cl113, Ar113, q113, S113, N113, H113, G113⟩ := id V_b2
  have hin113 : ¬ ((1 : Int32) < 0 ∨ cl113.slots.size ≤ ((1 : Int32)).toNatClampNeg) := inb_of S113 ⟨by decide, by decide⟩
  refine own_go (X112.iaload hx (j := (1 : Int32)) (v := (.int y1)) (by rw [e112]; exact Ar113.1) (State.isArrayOf_alike hZ.alike Ar113.2.1) Ar113.2.2 hin113 (H113.at hin113 rfl) (g := (mkF m 18 #[.val (.ref a1), .val (.long q2), .second, .val (.long q3), .second, .val (.long q4), .second] [(.int (1 : Int32)), (.ref b2), (.long q3)])) rfl rfl (hb hby d3_18)) ?_
  show own_Run p e below _ T112 (mkF m 19 #[.val (.ref a1), .val (.long q2), .second, .val (.long q3), .second, .val (.long q4), .second] [(.int y1), (.long q3)])
  refine own_go (fun _ k => XS.i2l X112.here hx rfl (hb hby d3_19) rfl k) ?_
  refine own_go (fun _ k => XS.lsub X112.here hx rfl (hb hby d3_20) rfl k) ?_
  refine own_go (fun _ k => XS.aloadN X112.here hx rfl (hb hby d3_21) rfl rfl k) ?_
  show own_Run p e below _ T112 (mkF m 22 #[.val (.ref a1), .val (.long q2), .second, .val (.long q3), .second, .val (.long q4), .second] [(.ref a1), (.long (q3 - (y1.toInt64)))])
  obtain ⟨T114, X114, e114, st114⟩ := getF X112 hx hZ hown (host := "") (Or.inl (W 23 rfl)) Via.refl e112 F_mIntervalBytes_a1 (g := (mkF m 22 #[.val (.ref a1), .val (.long q2), .second, .val (.long q3), .second, .val (.long q4), .second] [(.ref a1), (.long (q3 - (y1.toInt64)))])) rfl rfl (hb hby d3_22)
  refine own_go st114 ?_
  show own_Run p e below _ T114 (mkF m 25 #[.val (.ref a1), .val (.long q2), .second, .val (.long q3), .second, .val (.long q4), .second] [(.long iv), (.long (q3 - (y1.toInt64)))])
  refine own_go (fun _ k => XS.lcmp X114.here hx rfl (hb hby d3_25) rfl k) ?_
  show own_Run p e below _ T114 (mkF m 26 #[.val (.ref a1), .val (.long q2), .second, .val (.long q3), .second, .val (.long q4), .second] [(.int (lcmpW (q3 - (y1.toInt64)) iv))])
  refine own_go (fun _ k => XS.ifNo X114.here hx rfl (hb hby d3_26) rfl (own_lcT hgt).2.2.2 k) ?_
  show own_Run p e below _ T114 (mkF m 29 #[.val (.ref a1), .val (.long q2), .second, .val (.long q3), .second, .val (.long q4), .second] [])
  refine own_go (fun _ k => XS.aloadN X114.here hx rfl (hb hby d3_29) rfl rfl k) ?_
  refine own_go (fun _ k => XS.lloadN X114.here hx rfl (hb hby d3_30) rfl k) ?_
  refine own_go (fun _ k => XS.aloadN X114.here hx rfl (hb hby d3_31) rfl rfl k) ?_
  show own_Run p e below _ T114 (mkF m 32 #[.val (.ref a1), .val (.long q2), .second, .val (.long q3), .second, .val (.long q4), .second] [(.ref a1), (.long q2), (.ref a1)])
  obtain ⟨T115, X115, e115, st115⟩ := getF X114 hx hZ hown (host := "") (Or.inl (W 21 rfl)) Via.refl e114 F_mBaseOffset_a1 (g := (mkF m 32 #[.val (.ref a1), .val (.long q2), .second, .val (.long q3), .second, .val (.long q4), .second] [(.ref a1), (.long q2), (.ref a1)])) rfl rfl (hb hby d3_32)
  refine own_go st115 ?_
  show own_Run p e below _ T115 (mkF m 35 #[.val (.ref a1), .val (.long q2), .second, .val (.long q3), .second, .val (.long q4), .second] [(.long ba), (.long q2), (.ref a1)])
  refine own_go (fun _ k => XS.lsub X115.here hx rfl (hb hby d3_35) rfl k) ?_
  show own_Run p e below _ T115 (mkF m 36 #[.val (.ref a1), .val (.long q2), .second, .val (.long q3), .second, .val (.long q4), .second] [(.long (q2 - ba)), (.ref a1)])
  obtain ⟨_, _, ⟨T116, L116, k116, n116⟩, -, X116, ⟨Lc116, hQ116, l116, y116, z116⟩, st116⟩ := Jvm.LawKit.callS X115 hx (y := (⟨"java/lang/Math", "toIntExact", "(J)I"⟩ : MethodName)) hown (mvT hZ (W 32 rfl)) (mvT hZ (W 33 rfl)) (mvT hZ (W 34 rfl)) (mvT hZ (W 35 rfl)) (by decide) (backOf (W := 1) (rm4 l Z a0 hw [] (q2 - ba) h0 n0 Z0 (ho)) hZ (W 35 rfl) (W 34 rfl) (by decide) (by decide)) (g := (mkF m 36 #[.val (.ref a1), .val (.long q2), .second, .val (.long q3), .second, .val (.long q4), .second] [(.long (q2 - ba)), (.ref a1)])) rfl (by rw [hml]; rfl) (argsL := [(.long (q2 - ba))]) (rest := [(.ref a1)]) (lenOf pd_1 rfl) rfl (by show 2 * 0 + _ ≤ _; exact Nat.le_of_eq rfl) (hb hby d3_36) (fun _ _ => ⟨rfl, e115, (by decide : 0 + 0 ≤ _), (by decide : 0 + 0 ≤ _)⟩)
  dsimp only [Pt.U, Pt.locs, Pt.cells, Pt.slots] at X116 l116 y116 z116 st116 hQ116
  subst l116 y116 z116
  obtain ⟨rfl, N116q, e116⟩ := hQ116
  have N116 := Fr.app N0 N116q
  refine own_go st116 ?_
  show own_Run p e below _ T116 (mkF m 39 #[.val (.ref a1), .val (.long q2), .second, .val (.long q3), .second, .val (.long q4), .second] [(.int ((q2 - ba).toInt32)), (.ref a1)])
  refine own_go (fun _ k => XS.lloadN X116.here hx rfl (hb hby d3_39) rfl k) ?_
  show own_Run p e below _ T116 (mkF m 40 #[.val (.ref a1), .val (.long q2), .second, .val (.long q3), .second, .val (.long q4), .second] [(.long q3), (.int ((q2 - ba).toInt32)), (.ref a1)])
  obtain ⟨_, _, ⟨T117, L117, k117, n117⟩, -, X117, ⟨Lc117, hQ117, l117, y117, z117⟩, st117⟩ := Jvm.LawKit.callS X116 hx (y := (⟨"java/lang/Math", "toIntExact", "(J)I"⟩ : MethodName)) hown (mvT hZ (W 32 rfl)) (mvT hZ (W 33 rfl)) (mvT hZ (W 34 rfl)) (mvT hZ (W 35 rfl)) (by decide) (backOf (W := 2) (rm4 l Z a0 hw [] q3 h0 n0 Z0 (hq)) hZ (W 35 rfl) (W 34 rfl) (by decide) (by decide)) (g := (mkF m 40 #[.val (.ref a1), .val (.long q2), .second, .val (.long q3), .second, .val (.long q4), .second] [(.long q3), (.int ((q2 - ba).toInt32)), (.ref a1)])) rfl (by rw [hml]; rfl) (argsL := [(.long q3)]) (rest := [(.int ((q2 - ba).toInt32)), (.ref a1)]) (lenOf pd_1 rfl) rfl (by show 2 * 0 + _ ≤ _; exact Nat.le_of_eq rfl) (hb hby d3_40) (fun _ _ => ⟨rfl, e116, (by decide : 0 + 0 ≤ _), (by decide : 0 + 0 ≤ _)⟩)
  dsimp only [Pt.U, Pt.locs, Pt.cells, Pt.slots] at X117 l117 y117 z117 st117 hQ117
  subst l117 y117 z117
  obtain ⟨rfl, N117q, e117⟩ := hQ117
  have N117 := Fr.app N116 N117q
  refine own_go st117 ?_
  show own_Run p e below _ T117 (mkF m 43 #[.val (.ref a1), .val (.long q2), .second, .val (.long q3), .second, .val (.long q4), .second] [(.int (q3.toInt32)), (.int ((q2 - ba).toInt32)), (.ref a1)])
  refine own_go (fun _ k => XS.aloadN X117.here hx rfl (hb hby d3_43) rfl rfl k) ?_
  show own_Run p e below _ T117 (mkF m 44 #[.val (.ref a1), .val (.long q2), .second, .val (.long q3), .second, .val (.long q4), .second] [(.ref a1), (.int (q3.toInt32)), (.int ((q2 - ba).toInt32)), (.ref a1)])
  obtain ⟨T118, X118, e118, st118⟩ := getF X117 hx hZ hown (host := "") (Or.inl (W 19 rfl)) Via.refl e117 F_mMaxTimestamp_a1 (g := (mkF m 44 #[.val (.ref a1), .val (.long q2), .second, .val (.long q3), .second, .val (.long q4), .second] [(.ref a1), (.int (q3.toInt32)), (.int ((q2 - ba).toInt32)), (.ref a1)])) rfl rfl (hb hby d3_44)
  refine own_go st118 ?_
  show own_Run p e below _ T118 (mkF m 47 #[.val (.ref a1), .val (.long q2), .second, .val (.long q3), .second, .val (.long q4), .second] [(.long mx), (.int (q3.toInt32)), (.int ((q2 - ba).toInt32)), (.ref a1)])
  obtain ⟨cq119, q119, q119'⟩ := E_a1.cell
  obtain ⟨_, _, ⟨T119, L119, k119, n119⟩, -, X119, ⟨Lc119, hQ119, l119, y119, z119⟩, st119⟩ := X118.privateBack hx (y := (⟨"com/example/tote/tote/storage/OffsetIndex", "append", "(IIJ)V"⟩ : MethodName)) hown (mvT hZ (W 36 rfl)) (mvT hZ (W 37 rfl)) (own_selP (args := #[]) (y := (⟨"com/example/tote/tote/storage/OffsetIndex", "append", "(IIJ)V"⟩ : MethodName)) (mvT hZ (W 28 rfl)) rfl (Cond.privateMethod_at (mvP hZ (W 38 rfl) (args := #[]))) (mvT hZ (W 37 rfl)) (by decide)) (Cond.privateMethod_at (mvP hZ (W 38 rfl) (args := #[]))) (mvT hZ (W 39 rfl)) (by decide) (backOf (W := 0) (rm5c2 l Z a0 hw [] a1 ((q2 - ba).toInt32) (q3.toInt32) mx b1 b2 b3 k1 k2 k3 mx ba iv x0 x1 y0 y1 z0 z1 h0 n0 Z0 E_a1 F_mOffsets_a1 F_mPositions_a1 F_mTimestamps_a1 F_mMaxTimestamp_a1 F_mBaseOffset_a1 F_mIntervalBytes_a1 F_mCount_a1 V_b1 V_b2 V_b3 g_a1 g_b1 g_b2 g_b3 ne_a1_b1 ne_a1_b2 ne_a1_b3 ne_b1_b2 ne_b1_b3 ne_b2_b3) hZ (W 39 rfl) (W 4 rfl) (by decide) (by decide)) (g := (mkF m 47 #[.val (.ref a1), .val (.long q2), .second, .val (.long q3), .second, .val (.long q4), .second] [(.long mx), (.int (q3.toInt32)), (.int ((q2 - ba).toInt32)), (.ref a1)])) rfl (by rw [hml]; rfl) (Steps.refl _) (a := a1) (by rw [e118]; exact q119) q119' (argsL := [(.int ((q2 - ba).toInt32)), (.int (q3.toInt32)), (.long mx)]) (rest := []) (lenOf pd_2 rfl) rfl (by show 2 * 0 + _ ≤ _; exact Nat.le_of_eq rfl) (hb hby d3_47) (fun _ _ => ⟨rfl, e118, (by decide : 0 + 0 ≤ _), (by decide : 0 + 0 ≤ _)⟩)
  dsimp only [Pt.U, Pt.locs, Pt.cells, Pt.slots] at X119 l119 y119 z119 st119 hQ119
  subst l119 y119 z119
  obtain ⟨rfl, N119q, K119, P119_0, P119_1, P119_2, P119_3, P119_4, P119_5, P119_6, P119_7, P119_8, P119_9, P119_10⟩ := hQ119
  have N119 := Fr.app N117 N119q
  refine own_goT st119 ?_
  show own_Run p e below _ T119 (mkF m 50 #[.val (.ref a1), .val (.long q2), .second, .val (.long q3), .second, .val (.long q4), .second] [])
  have Z0_c120 := Nat.le_trans Z0 K119.1
  have K0_c120 := K0.trans K119 (allS (Or.inl (List.mem_of_getElem? (i := 0) rfl)) (allS (Or.inl (List.mem_of_getElem? (i := 1) rfl)) (allS (Or.inl (List.mem_of_getElem? (i := 2) rfl)) (allS (Or.inl (List.mem_of_getElem? (i := 3) rfl)) all0))))
  have E_a1_c120 := E_a1.keep K119
  refine own_go (fun _ k => XS.aloadN X119.here hx rfl (hb hby d3_50) rfl rfl k) ?_
  refine own_go (fun _ k => XS.aloadN X119.here hx rfl (hb hby d3_51) rfl rfl k) ?_
  show own_Run p e below _ T119 (mkF m 52 #[.val (.ref a1), .val (.long q2), .second, .val (.long q3), .second, .val (.long q4), .second] [(.ref a1), (.ref a1)])
  obtain ⟨T121, X121, e121, st121⟩ := getF X119 hx hZ hown (host := "") (Or.inl (W 19 rfl)) Via.refl rfl P119_4 (g := (mkF m 52 #[.val (.ref a1), .val (.long q2), .second, .val (.long q3), .second, .val (.long q4), .second] [(.ref a1), (.ref a1)])) rfl rfl (hb hby d3_52)
  refine own_go st121 ?_
  show own_Run p e below _ T121 (mkF m 55 #[.val (.ref a1), .val (.long q2), .second, .val (.long q3), .second, .val (.long q4), .second] [(.long mx), (.ref a1)])
  refine own_go (fun _ k => XS.lload X121.here hx rfl (hb hby d3_55) rfl k) ?_
  show own_Run p e below _ T121 (mkF m 57 #[.val (.ref a1), .val (.long q2), .second, .val (.long q3), .second, .val (.long q4), .second] [(.long q4), (.long mx), (.ref a1)])
  obtain ⟨_, _, ⟨T122, L122, k122, n122⟩, -, X122, ⟨Lc122, hQ122, l122, y122, z122⟩, st122⟩ := Jvm.LawKit.callS X121 hx (y := (⟨"java/lang/Math", "max", "(JJ)J"⟩ : MethodName)) hown (mvT hZ (W 40 rfl)) (mvT hZ (W 41 rfl)) (mvT hZ (W 34 rfl)) (mvT hZ (W 42 rfl)) (by decide) (backOf (W := 1) (rm6 l Z a0 hw [] mx q4 T119.heap n0 Z0_c120 ) hZ (W 42 rfl) (W 34 rfl) (by decide) (by decide)) (g := (mkF m 57 #[.val (.ref a1), .val (.long q2), .second, .val (.long q3), .second, .val (.long q4), .second] [(.long q4), (.long mx), (.ref a1)])) rfl (by rw [hml]; rfl) (argsL := [(.long mx), (.long q4)]) (rest := [(.ref a1)]) (lenOf pd_3 rfl) rfl (by show 2 * 0 + _ ≤ _; exact Nat.le_of_eq rfl) (hb hby d3_57) (fun _ _ => ⟨rfl, e121, (by decide : 0 + 0 ≤ _), (by decide : 0 + 0 ≤ _)⟩)
  dsimp only [Pt.U, Pt.locs, Pt.cells, Pt.slots] at X122 l122 y122 z122 st122 hQ122
  subst l122 y122 z122
  obtain ⟨rfl, N122q, e122⟩ := hQ122
  have N122 := Fr.app N119 N122q
  refine own_go st122 ?_
  show own_Run p e below _ T122 (mkF m 60 #[.val (.ref a1), .val (.long q2), .second, .val (.long q3), .second, .val (.long q4), .second] [(.long (own_max mx q4)), (.ref a1)])
  obtain ⟨T123, h123, X123, e123, W123, st123⟩ := putF X122 hx hZ hown (host := "") (Or.inl (W 19 rfl)) Via.refl e122 P119_4 P119_0 (Or.inl (W 20 rfl)) (W 3 rfl) (ty := .long) (by decide) rfl rfl (g := (mkF m 60 #[.val (.ref a1), .val (.long q2), .second, .val (.long q3), .second, .val (.long q4), .second] [(.long (own_max mx q4)), (.ref a1)])) rfl rfl (hb hby d3_60)
  refine own_go st123 ?_
  show own_Run p e below _ T123 (mkF m 63 #[.val (.ref a1), .val (.long q2), .second, .val (.long q3), .second, .val (.long q4), .second] [])
  have Z0_c124 := Nat.le_trans Z0_c120 (Keep.of_wr W123).1
  have K0_c124 := K0_c120.wr W123 (Or.inl (List.mem_of_getElem? (i := 0) rfl))
  have P119_0_c124 := P119_0.wr W123
  have P119_1_c124 := P119_1.other W123 (Or.inr (slot_ne (Or.inl (W 13 rfl)) (Or.inl (W 20 rfl)) (by decide) (t := (.array .int)) (t' := .long) (by decide) (by decide)))
  have P119_2_c124 := P119_2.other W123 (Or.inr (slot_ne (Or.inl (W 15 rfl)) (Or.inl (W 20 rfl)) (by decide) (t := (.array .int)) (t' := .long) (by decide) (by decide)))
  have P119_3_c124 := P119_3.other W123 (Or.inr (slot_ne (Or.inl (W 17 rfl)) (Or.inl (W 20 rfl)) (by decide) (t := (.array .long)) (t' := .long) (by decide) (by decide)))
  have P119_5_c124 := P119_5.other W123 (Or.inr (slot_ne (Or.inr (W 22 rfl)) (Or.inl (W 20 rfl)) (by decide) (t := .long) (t' := .long) (by decide) (by decide)))
  have P119_6_c124 := P119_6.other W123 (Or.inr (slot_ne (Or.inr (W 24 rfl)) (Or.inl (W 20 rfl)) (by decide) (t := .long) (t' := .long) (by decide) (by decide)))
  have P119_7_c124 := P119_7.other W123 (Or.inr (slot_ne (Or.inl (W 31 rfl)) (Or.inl (W 20 rfl)) (by decide) (t := .int) (t' := .long) (by decide) (by decide)))
  have P119_8_c124 := P119_8.other W123 (Ne.symm ne_a1_b1)
  have P119_9_c124 := P119_9.other W123 (Ne.symm ne_a1_b2)
  have P119_10_c124 := P119_10.other W123 (Ne.symm ne_a1_b3)
  have F_mMaxTimestamp_a1_c123 : Fld Z h123 a1 "com/example/tote/tote/storage/OffsetIndex" "mMaxTimestamp" "J" (.long (own_max mx q4)) := P119_4.same W123
  have N123 := Fr.snoc X123 N122 g_a1
  refine own_done (Q := fun v h L => Q3c2 Z a1 q2 q3 q4 b1 b2 b3 k1 k2 k3 mx ba iv x0 x1 y0 y1 z0 z1 h0 n0 v h L) (v := none) X123 (fun _ => rfl) hlk (fun fs hr => X123.returnOut hx hret (hb hby d3_63) hr) ?_ (by decide) (by decide)
  show Q3c2 Z a1 q2 q3 q4 b1 b2 b3 k1 k2 k3 mx ba iv x0 x1 y0 y1 z0 z1 h0 n0 _ T123.heap _
  rw [e123]
  exact ⟨rfl, N123, K0_c124, P119_0_c124, P119_1_c124, P119_2_c124, P119_3_c124, F_mMaxTimestamp_a1_c123, P119_5_c124, P119_6_c124, P119_7_c124, P119_8_c124, P119_9_c124, P119_10_c124⟩
theorem d7_0 : decode prog_89_method_5_code 0 = .ok (.aload_n 0, 1) := by decide +kernel
theorem d7_1 : decode prog_89_method_5_code 1 = .ok (.getfield 26, 3) := by decide +kernel
theorem d7_4 : decode prog_89_method_5_code 4 = .ok (.lreturn, 1) := by decide +kernel
theorem pn_7 : plainName "com/example/tote/tote/storage/OffsetIndex" = true := by first | (simp [plainName, overriddenIn]; done) | decide +kernel
theorem ef_7 (m : MethodId) (x0 : Addr) : entryFrame m #[(.ref x0)] 1 = mkF m 0 #[.val (.ref x0)] [] := by first | (simp [entryFrame, mkF, argsToLocals, Value.category]; done) | rfl
def Q7 (Z : State) (a1 : Addr) (w1 : Int64) (h0 : Heap) (n0 : Nat) (v : Option Value) (h : Heap) (L : List Loc) : Prop := v = some (.long w1) ∧ Fr n0 L ∧ h = h0
set_option maxRecDepth 65536 in
set_option maxHeartbeats 40000000 in
theorem rm7 (l : Launch) (Z : State) (a0 : Array Value) (hw : ∀ d ∈ tables_1, d.before a0 Z = true) (ws : List Jvm.Cond) (a1 : Addr) (w1 : Int64) (h0 : Heap) (n0 : Nat) (Z0 : n0 ≤ h0.size) (F_mMaxTimestamp_a1 : Fld Z h0 a1 "com/example/tote/tote/storage/OffsetIndex" "mMaxTimestamp" "J" (.long w1)) :
    MetFree l (⟨"com/example/tote/tote/storage/OffsetIndex", "maxTimestamp", "()J"⟩ : MethodName) (head1 (Jvm.Cond.code (⟨"com/example/tote/tote/storage/OffsetIndex", "maxTimestamp", "()J"⟩ : MethodName) prog_89_method_5_code 1 (some .long) :: ws) ({ frames := 0, cells := 0, slots := 0, locals := 0 } : Room)) (fun a U => a = #[(.ref a1)] ∧ Z.Warmed39 U.vm ∧ U.heap = h0) (fun _ _ _ _ _ => True) (fun _ U o U' => ∃ v L, o = .returned v ∧ Q7 Z a1 w1 h0 n0 v U'.heap L ∧ FrameEnd U o U' L ({ frames := 0, cells := 0, slots := 0, locals := 0 } : Room).cells ({ frames := 0, cells := 0, slots := 0, locals := 0 } : Room).slots) := by
  refine MetFree.of_bodySF (plainFor_of_name pn_7) hisR ?_
  intro p e s m args below meth c s₁ Bd hml0 hP hK
  obtain ⟨rfl, hZ, hh⟩ := hP
  have hx := Bd.exec
  have hby := Bd.bytes
  have hml : c.maxLocals = 1 := hml0
  have hown : s.vm.findClass "com/example/tote/tote/storage/OffsetIndex" = some m.cls := findClass_of_methodNamed Bd.named
  have hnm := (name_of_methodNamed Bd.named Bd.method).1
  have hret := Bd.returns
  have hlk : meth.locks = false := BodyLoose.notSynchronized Bd
  have X0 : Stand p l e ({ frames := 0, cells := 0, slots := 0, locals := 0 } : Room) s m #[(.ref a1)] below meth c s₁ [] 0 0 := Stand.of_body Bd
  have e0 : s₁.heap = h0 := by rw [← hh, Bd.state]; rfl
  have N0 := Fr.nil n0
  have W := fun (k : Nat) {d : Jvm.Cond} (h : tables_1[k]? = some d) => hw d (List.mem_of_getElem? h)
  have K0 : Keep h0 h0 [] := Keep.refl _ _
  refine own_start (ef_7 m a1) ?_
  show own_Run p e below _ s₁ (mkF m 0 #[.val (.ref a1)] [])
  refine own_go (fun _ k => XS.aloadN X0.here hx rfl (hb hby d7_0) rfl rfl k) ?_
  show own_Run p e below _ s₁ (mkF m 1 #[.val (.ref a1)] [(.ref a1)])
  obtain ⟨T125, X125, e125, st125⟩ := getF X0 hx hZ hown (host := "") (Or.inl (W 19 rfl)) Via.refl e0 F_mMaxTimestamp_a1 (g := (mkF m 1 #[.val (.ref a1)] [(.ref a1)])) rfl rfl (hb hby d7_1)
  refine own_go st125 ?_
  show own_Run p e below _ T125 (mkF m 4 #[.val (.ref a1)] [(.long w1)])
  refine own_done (Q := fun v h L => Q7 Z a1 w1 h0 n0 v h L) (v := (some (.long w1))) X125 (fun h => by rw [hret] at h; cases h) hlk (fun fs hr => own_retL X125 hx hret (hb hby d7_4) hr) ?_ (by decide) (by decide)
  show Q7 Z a1 w1 h0 n0 _ T125.heap _
  rw [e125]
  exact ⟨rfl, N0, rfl⟩
theorem d9_0 : decode prog_89_method_3_code 0 = .ok (.aload_n 0, 1) := by decide +kernel
theorem d9_1 : decode prog_89_method_3_code 1 = .ok (.getfield 36, 3) := by decide +kernel
theorem d9_4 : decode prog_89_method_3_code 4 = .ok (.ireturn, 1) := by decide +kernel
theorem pn_9 : plainName "com/example/tote/tote/storage/OffsetIndex" = true := by first | (simp [plainName, overriddenIn]; done) | decide +kernel
theorem ef_9 (m : MethodId) (x0 : Addr) : entryFrame m #[(.ref x0)] 1 = mkF m 0 #[.val (.ref x0)] [] := by first | (simp [entryFrame, mkF, argsToLocals, Value.category]; done) | rfl
def Q9 (Z : State) (a1 : Addr) (w1 : Int32) (h0 : Heap) (n0 : Nat) (v : Option Value) (h : Heap) (L : List Loc) : Prop := v = some (.int w1) ∧ Fr n0 L ∧ h = h0
set_option maxRecDepth 65536 in
set_option maxHeartbeats 40000000 in
theorem rm9 (l : Launch) (Z : State) (a0 : Array Value) (hw : ∀ d ∈ tables_1, d.before a0 Z = true) (ws : List Jvm.Cond) (a1 : Addr) (w1 : Int32) (h0 : Heap) (n0 : Nat) (Z0 : n0 ≤ h0.size) (F_mCount_a1 : Fld Z h0 a1 "com/example/tote/tote/storage/OffsetIndex" "mCount" "I" (.int w1)) :
    MetFree l (⟨"com/example/tote/tote/storage/OffsetIndex", "count", "()I"⟩ : MethodName) (head1 (Jvm.Cond.code (⟨"com/example/tote/tote/storage/OffsetIndex", "count", "()I"⟩ : MethodName) prog_89_method_3_code 1 (some .int) :: ws) ({ frames := 0, cells := 0, slots := 0, locals := 0 } : Room)) (fun a U => a = #[(.ref a1)] ∧ Z.Warmed39 U.vm ∧ U.heap = h0) (fun _ _ _ _ _ => True) (fun _ U o U' => ∃ v L, o = .returned v ∧ Q9 Z a1 w1 h0 n0 v U'.heap L ∧ FrameEnd U o U' L ({ frames := 0, cells := 0, slots := 0, locals := 0 } : Room).cells ({ frames := 0, cells := 0, slots := 0, locals := 0 } : Room).slots) := by
  refine MetFree.of_bodySF (plainFor_of_name pn_9) hisR ?_
  intro p e s m args below meth c s₁ Bd hml0 hP hK
  obtain ⟨rfl, hZ, hh⟩ := hP
  have hx := Bd.exec
  have hby := Bd.bytes
  have hml : c.maxLocals = 1 := hml0
  have hown : s.vm.findClass "com/example/tote/tote/storage/OffsetIndex" = some m.cls := findClass_of_methodNamed Bd.named
  have hnm := (name_of_methodNamed Bd.named Bd.method).1
  have hret := Bd.returns
  have hlk : meth.locks = false := BodyLoose.notSynchronized Bd
  have X0 : Stand p l e ({ frames := 0, cells := 0, slots := 0, locals := 0 } : Room) s m #[(.ref a1)] below meth c s₁ [] 0 0 := Stand.of_body Bd
  have e0 : s₁.heap = h0 := by rw [← hh, Bd.state]; rfl
  have N0 := Fr.nil n0
  have W := fun (k : Nat) {d : Jvm.Cond} (h : tables_1[k]? = some d) => hw d (List.mem_of_getElem? h)
  have K0 : Keep h0 h0 [] := Keep.refl _ _
  refine own_start (ef_9 m a1) ?_
  show own_Run p e below _ s₁ (mkF m 0 #[.val (.ref a1)] [])
  refine own_go (fun _ k => XS.aloadN X0.here hx rfl (hb hby d9_0) rfl rfl k) ?_
  show own_Run p e below _ s₁ (mkF m 1 #[.val (.ref a1)] [(.ref a1)])
  obtain ⟨T126, X126, e126, st126⟩ := getF X0 hx hZ hown (host := "") (Or.inl (W 30 rfl)) Via.refl e0 F_mCount_a1 (g := (mkF m 1 #[.val (.ref a1)] [(.ref a1)])) rfl rfl (hb hby d9_1)
  refine own_go st126 ?_
  show own_Run p e below _ T126 (mkF m 4 #[.val (.ref a1)] [(.int w1)])
  refine own_done (Q := fun v h L => Q9 Z a1 w1 h0 n0 v h L) (v := (some (.int w1))) X126 (fun h => by rw [hret] at h; cases h) hlk (fun fs hr => own_retI X126 hx hret (hb hby d9_4) hr) ?_ (by decide) (by decide)
  show Q9 Z a1 w1 h0 n0 _ T126.heap _
  rw [e126]
  exact ⟨rfl, N0, rfl⟩
theorem d10_0 : decode prog_89_method_8_code 0 = .ok (.aload_n 0, 1) := by decide +kernel
theorem d10_1 : decode prog_89_method_8_code 1 = .ok (.getfield 17, 3) := by decide +kernel
theorem d10_4 : decode prog_89_method_8_code 4 = .ok (.iload_n 1, 1) := by decide +kernel
theorem d10_5 : decode prog_89_method_8_code 5 = .ok (.iaload, 1) := by decide +kernel
theorem d10_6 : decode prog_89_method_8_code 6 = .ok (.i2l, 1) := by decide +kernel
theorem d10_7 : decode prog_89_method_8_code 7 = .ok (.lreturn, 1) := by decide +kernel
theorem pn_10 : plainName "com/example/tote/tote/storage/OffsetIndex" = true := by first | (simp [plainName, overriddenIn]; done) | decide +kernel
theorem ef_10 (m : MethodId) (x0 : Addr) (x1 : Int32) : entryFrame m #[(.ref x0), (.int x1)] 2 = mkF m 0 #[.val (.ref x0), .val (.int x1)] [] := by first | (simp [entryFrame, mkF, argsToLocals, Value.category]; done) | rfl
def Q10 (Z : State) (a1 : Addr) (p2 : Int32) (b2 : Addr) (k2 : ClassId) (y0 : Int32) (y1 : Int32) (y2 : Int32) (r : Int32) (h0 : Heap) (n0 : Nat) (v : Option Value) (h : Heap) (L : List Loc) : Prop := v = some (.long (r.toInt64)) ∧ Fr n0 L ∧ h = h0
set_option maxRecDepth 65536 in
set_option maxHeartbeats 40000000 in
theorem rm10 (l : Launch) (Z : State) (a0 : Array Value) (hw : ∀ d ∈ tables_1, d.before a0 Z = true) (ws : List Jvm.Cond) (a1 : Addr) (p2 : Int32) (b2 : Addr) (k2 : ClassId) (y0 : Int32) (y1 : Int32) (y2 : Int32) (r : Int32) (h0 : Heap) (n0 : Nat) (Z0 : n0 ≤ h0.size) (F_mPositions_a1 : Fld Z h0 a1 "com/example/tote/tote/storage/OffsetIndex" "mPositions" "[I" (.ref b2)) (V_b2 : Arv Z h0 b2 k2 .int (16 : Int32) [(.int y0), (.int y1), (.int y2), (.int (0 : Int32)), (.int (0 : Int32)), (.int (0 : Int32)), (.int (0 : Int32)), (.int (0 : Int32)), (.int (0 : Int32)), (.int (0 : Int32)), (.int (0 : Int32)), (.int (0 : Int32)), (.int (0 : Int32)), (.int (0 : Int32)), (.int (0 : Int32)), (.int (0 : Int32))] (.int (0 : Int32))) (hp : (p2 = (0 : Int32) ∧ y0 = r) ∨ (p2 = (1 : Int32) ∧ y1 = r) ∨ (p2 = (2 : Int32) ∧ y2 = r)) :
    MetFree l (⟨"com/example/tote/tote/storage/OffsetIndex", "position", "(I)J"⟩ : MethodName) (head1 (Jvm.Cond.code (⟨"com/example/tote/tote/storage/OffsetIndex", "position", "(I)J"⟩ : MethodName) prog_89_method_8_code 2 (some .long) :: ws) ({ frames := 0, cells := 0, slots := 0, locals := 0 } : Room)) (fun a U => a = #[(.ref a1), (.int p2)] ∧ Z.Warmed39 U.vm ∧ U.heap = h0) (fun _ _ _ _ _ => True) (fun _ U o U' => ∃ v L, o = .returned v ∧ Q10 Z a1 p2 b2 k2 y0 y1 y2 r h0 n0 v U'.heap L ∧ FrameEnd U o U' L ({ frames := 0, cells := 0, slots := 0, locals := 0 } : Room).cells ({ frames := 0, cells := 0, slots := 0, locals := 0 } : Room).slots) := by
  refine MetFree.of_bodySF (plainFor_of_name pn_10) hisR ?_
  intro p e s m args below meth c s₁ Bd hml0 hP hK
  obtain ⟨rfl, hZ, hh⟩ := hP
  have hx := Bd.exec
  have hby := Bd.bytes
  have hml : c.maxLocals = 2 := hml0
  have hown : s.vm.findClass "com/example/tote/tote/storage/OffsetIndex" = some m.cls := findClass_of_methodNamed Bd.named
  have hnm := (name_of_methodNamed Bd.named Bd.method).1
  have hret := Bd.returns
  have hlk : meth.locks = false := BodyLoose.notSynchronized Bd
  have X0 : Stand p l e ({ frames := 0, cells := 0, slots := 0, locals := 0 } : Room) s m #[(.ref a1), (.int p2)] below meth c s₁ [] 0 0 := Stand.of_body Bd
  have e0 : s₁.heap = h0 := by rw [← hh, Bd.state]; rfl
  have N0 := Fr.nil n0
  have W := fun (k : Nat) {d : Jvm.Cond} (h : tables_1[k]? = some d) => hw d (List.mem_of_getElem? h)
  have K0 : Keep h0 h0 [] := Keep.refl _ _
  refine own_start (ef_10 m a1 p2) ?_
  show own_Run p e below _ s₁ (mkF m 0 #[.val (.ref a1), .val (.int p2)] [])
  rcases hp with ⟨rfl, rfl⟩ | ⟨rfl, rfl⟩ | ⟨rfl, rfl⟩
  · show own_Run p e below _ s₁ (mkF m 0 #[.val (.ref a1), .val (.int (0 : Int32))] [])
    refine own_go (fun _ k => XS.aloadN X0.here hx rfl (hb hby d10_0) rfl rfl k) ?_
    show own_Run p e below _ s₁ (mkF m 1 #[.val (.ref a1), .val (.int (0 : Int32))] [(.ref a1)])
    obtain ⟨T127, X127, e127, st127⟩ := getF X0 hx hZ hown (host := "") (Or.inl (W 14 rfl)) Via.refl e0 F_mPositions_a1 (g := (mkF m 1 #[.val (.ref a1), .val (.int (0 : Int32))] [(.ref a1)])) rfl rfl (hb hby d10_1)
    refine own_go st127 ?_
    show own_Run p e below _ T127 (mkF m 4 #[.val (.ref a1), .val (.int (0 : Int32))] [(.ref b2)])
    refine own_go (fun _ k => XS.iloadN X127.here hx rfl (hb hby d10_4) rfl k) ?_
    show own_Run p e below _ T127 (mkF m 5 #[.val (.ref a1), .val (.int (0 : Int32))] [(.int (0 : Int32)), (.ref b2)])
    obtain ⟨cl128, Ar128, q128, S128, N128, H128, G128⟩ := id V_b2
    have hin128 : ¬ ((0 : Int32) < 0 ∨ cl128.slots.size ≤ ((0 : Int32)).toNatClampNeg) := inb_of S128 ⟨by decide, by decide⟩
    refine own_go (X127.iaload hx (j := (0 : Int32)) (v := (.int y0)) (by rw [e127]; exact Ar128.1) (State.isArrayOf_alike hZ.alike Ar128.2.1) Ar128.2.2 hin128 (H128.at hin128 rfl) (g := (mkF m 5 #[.val (.ref a1), .val (.int (0 : Int32))] [(.int (0 : Int32)), (.ref b2)])) rfl rfl (hb hby d10_5)) ?_
    show own_Run p e below _ T127 (mkF m 6 #[.val (.ref a1), .val (.int (0 : Int32))] [(.int y0)])
    refine own_go (fun _ k => XS.i2l X127.here hx rfl (hb hby d10_6) rfl k) ?_
    show own_Run p e below _ T127 (mkF m 7 #[.val (.ref a1), .val (.int (0 : Int32))] [(.long (y0.toInt64))])
    refine own_done (Q := fun v h L => Q10 Z a1 (0 : Int32) b2 k2 y0 y1 y2 y0 h0 n0 v h L) (v := (some (.long (y0.toInt64)))) X127 (fun h => by rw [hret] at h; cases h) hlk (fun fs hr => own_retL X127 hx hret (hb hby d10_7) hr) ?_ (by decide) (by decide)
    show Q10 Z a1 (0 : Int32) b2 k2 y0 y1 y2 y0 h0 n0 _ T127.heap _
    rw [e127]
    exact ⟨rfl, N0, rfl⟩
  · show own_Run p e below _ s₁ (mkF m 0 #[.val (.ref a1), .val (.int (1 : Int32))] [])
    refine own_go (fun _ k => XS.aloadN X0.here hx rfl (hb hby d10_0) rfl rfl k) ?_
    show own_Run p e below _ s₁ (mkF m 1 #[.val (.ref a1), .val (.int (1 : Int32))] [(.ref a1)])
    obtain ⟨T129, X129, e129, st129⟩ := getF X0 hx hZ hown (host := "") (Or.inl (W 14 rfl)) Via.refl e0 F_mPositions_a1 (g := (mkF m 1 #[.val (.ref a1), .val (.int (1 : Int32))] [(.ref a1)])) rfl rfl (hb hby d10_1)
    refine own_go st129 ?_
    show own_Run p e below _ T129 (mkF m 4 #[.val (.ref a1), .val (.int (1 : Int32))] [(.ref b2)])
    refine own_go (fun _ k => XS.iloadN X129.here hx rfl (hb hby d10_4) rfl k) ?_
    show own_Run p e below _ T129 (mkF m 5 #[.val (.ref a1), .val (.int (1 : Int32))] [(.int (1 : Int32)), (.ref b2)])
    obtain ⟨cl130, Ar130, q130, S130, N130, H130, G130⟩ := id V_b2
    have hin130 : ¬ ((1 : Int32) < 0 ∨ cl130.slots.size ≤ ((1 : Int32)).toNatClampNeg) := inb_of S130 ⟨by decide, by decide⟩
    refine own_go (X129.iaload hx (j := (1 : Int32)) (v := (.int y1)) (by rw [e129]; exact Ar130.1) (State.isArrayOf_alike hZ.alike Ar130.2.1) Ar130.2.2 hin130 (H130.at hin130 rfl) (g := (mkF m 5 #[.val (.ref a1), .val (.int (1 : Int32))] [(.int (1 : Int32)), (.ref b2)])) rfl rfl (hb hby d10_5)) ?_
    show own_Run p e below _ T129 (mkF m 6 #[.val (.ref a1), .val (.int (1 : Int32))] [(.int y1)])
    refine own_go (fun _ k => XS.i2l X129.here hx rfl (hb hby d10_6) rfl k) ?_
    show own_Run p e below _ T129 (mkF m 7 #[.val (.ref a1), .val (.int (1 : Int32))] [(.long (y1.toInt64))])
    refine own_done (Q := fun v h L => Q10 Z a1 (1 : Int32) b2 k2 y0 y1 y2 y1 h0 n0 v h L) (v := (some (.long (y1.toInt64)))) X129 (fun h => by rw [hret] at h; cases h) hlk (fun fs hr => own_retL X129 hx hret (hb hby d10_7) hr) ?_ (by decide) (by decide)
    show Q10 Z a1 (1 : Int32) b2 k2 y0 y1 y2 y1 h0 n0 _ T129.heap _
    rw [e129]
    exact ⟨rfl, N0, rfl⟩
  · show own_Run p e below _ s₁ (mkF m 0 #[.val (.ref a1), .val (.int (2 : Int32))] [])
    refine own_go (fun _ k => XS.aloadN X0.here hx rfl (hb hby d10_0) rfl rfl k) ?_
    show own_Run p e below _ s₁ (mkF m 1 #[.val (.ref a1), .val (.int (2 : Int32))] [(.ref a1)])
    obtain ⟨T131, X131, e131, st131⟩ := getF X0 hx hZ hown (host := "") (Or.inl (W 14 rfl)) Via.refl e0 F_mPositions_a1 (g := (mkF m 1 #[.val (.ref a1), .val (.int (2 : Int32))] [(.ref a1)])) rfl rfl (hb hby d10_1)
    refine own_go st131 ?_
    show own_Run p e below _ T131 (mkF m 4 #[.val (.ref a1), .val (.int (2 : Int32))] [(.ref b2)])
    refine own_go (fun _ k => XS.iloadN X131.here hx rfl (hb hby d10_4) rfl k) ?_
    show own_Run p e below _ T131 (mkF m 5 #[.val (.ref a1), .val (.int (2 : Int32))] [(.int (2 : Int32)), (.ref b2)])
    obtain ⟨cl132, Ar132, q132, S132, N132, H132, G132⟩ := id V_b2
    have hin132 : ¬ ((2 : Int32) < 0 ∨ cl132.slots.size ≤ ((2 : Int32)).toNatClampNeg) := inb_of S132 ⟨by decide, by decide⟩
    refine own_go (X131.iaload hx (j := (2 : Int32)) (v := (.int y2)) (by rw [e131]; exact Ar132.1) (State.isArrayOf_alike hZ.alike Ar132.2.1) Ar132.2.2 hin132 (H132.at hin132 rfl) (g := (mkF m 5 #[.val (.ref a1), .val (.int (2 : Int32))] [(.int (2 : Int32)), (.ref b2)])) rfl rfl (hb hby d10_5)) ?_
    show own_Run p e below _ T131 (mkF m 6 #[.val (.ref a1), .val (.int (2 : Int32))] [(.int y2)])
    refine own_go (fun _ k => XS.i2l X131.here hx rfl (hb hby d10_6) rfl k) ?_
    show own_Run p e below _ T131 (mkF m 7 #[.val (.ref a1), .val (.int (2 : Int32))] [(.long (y2.toInt64))])
    refine own_done (Q := fun v h L => Q10 Z a1 (2 : Int32) b2 k2 y0 y1 y2 y2 h0 n0 v h L) (v := (some (.long (y2.toInt64)))) X131 (fun h => by rw [hret] at h; cases h) hlk (fun fs hr => own_retL X131 hx hret (hb hby d10_7) hr) ?_ (by decide) (by decide)
    show Q10 Z a1 (2 : Int32) b2 k2 y0 y1 y2 y2 h0 n0 _ T131.heap _
    rw [e131]
    exact ⟨rfl, N0, rfl⟩
theorem d11_0 : decode prog_89_method_7_code 0 = .ok (.aload_n 0, 1) := by decide +kernel
theorem d11_1 : decode prog_89_method_7_code 1 = .ok (.getfield 30, 3) := by decide +kernel
theorem d11_4 : decode prog_89_method_7_code 4 = .ok (.aload_n 0, 1) := by decide +kernel
theorem d11_5 : decode prog_89_method_7_code 5 = .ok (.getfield 13, 3) := by decide +kernel
theorem d11_8 : decode prog_89_method_7_code 8 = .ok (.iload_n 1, 1) := by decide +kernel
theorem d11_9 : decode prog_89_method_7_code 9 = .ok (.iaload, 1) := by decide +kernel
theorem d11_10 : decode prog_89_method_7_code 10 = .ok (.i2l, 1) := by decide +kernel
theorem d11_11 : decode prog_89_method_7_code 11 = .ok (.ladd, 1) := by decide +kernel
theorem d11_12 : decode prog_89_method_7_code 12 = .ok (.lreturn, 1) := by decide +kernel
theorem pn_11 : plainName "com/example/tote/tote/storage/OffsetIndex" = true := by first | (simp [plainName, overriddenIn]; done) | decide +kernel
theorem ef_11 (m : MethodId) (x0 : Addr) (x1 : Int32) : entryFrame m #[(.ref x0), (.int x1)] 2 = mkF m 0 #[.val (.ref x0), .val (.int x1)] [] := by first | (simp [entryFrame, mkF, argsToLocals, Value.category]; done) | rfl
def Q11 (Z : State) (a1 : Addr) (p2 : Int32) (b1 : Addr) (k1 : ClassId) (ba : Int64) (y0 : Int32) (y1 : Int32) (y2 : Int32) (r : Int32) (h0 : Heap) (n0 : Nat) (v : Option Value) (h : Heap) (L : List Loc) : Prop := v = some (.long (ba + (r.toInt64))) ∧ Fr n0 L ∧ h = h0
set_option maxRecDepth 65536 in
set_option maxHeartbeats 40000000 in
theorem rm11 (l : Launch) (Z : State) (a0 : Array Value) (hw : ∀ d ∈ tables_1, d.before a0 Z = true) (ws : List Jvm.Cond) (a1 : Addr) (p2 : Int32) (b1 : Addr) (k1 : ClassId) (ba : Int64) (y0 : Int32) (y1 : Int32) (y2 : Int32) (r : Int32) (h0 : Heap) (n0 : Nat) (Z0 : n0 ≤ h0.size) (F_mOffsets_a1 : Fld Z h0 a1 "com/example/tote/tote/storage/OffsetIndex" "mOffsets" "[I" (.ref b1)) (F_mBaseOffset_a1 : Fld Z h0 a1 "com/example/tote/tote/storage/OffsetIndex" "mBaseOffset" "J" (.long ba)) (V_b1 : Arv Z h0 b1 k1 .int (16 : Int32) [(.int y0), (.int y1), (.int y2), (.int (0 : Int32)), (.int (0 : Int32)), (.int (0 : Int32)), (.int (0 : Int32)), (.int (0 : Int32)), (.int (0 : Int32)), (.int (0 : Int32)), (.int (0 : Int32)), (.int (0 : Int32)), (.int (0 : Int32)), (.int (0 : Int32)), (.int (0 : Int32)), (.int (0 : Int32))] (.int (0 : Int32))) (hp : (p2 = (0 : Int32) ∧ y0 = r) ∨ (p2 = (1 : Int32) ∧ y1 = r) ∨ (p2 = (2 : Int32) ∧ y2 = r)) :
    MetFree l (⟨"com/example/tote/tote/storage/OffsetIndex", "offset", "(I)J"⟩ : MethodName) (head1 (Jvm.Cond.code (⟨"com/example/tote/tote/storage/OffsetIndex", "offset", "(I)J"⟩ : MethodName) prog_89_method_7_code 2 (some .long) :: ws) ({ frames := 0, cells := 0, slots := 0, locals := 0 } : Room)) (fun a U => a = #[(.ref a1), (.int p2)] ∧ Z.Warmed39 U.vm ∧ U.heap = h0) (fun _ _ _ _ _ => True) (fun _ U o U' => ∃ v L, o = .returned v ∧ Q11 Z a1 p2 b1 k1 ba y0 y1 y2 r h0 n0 v U'.heap L ∧ FrameEnd U o U' L ({ frames := 0, cells := 0, slots := 0, locals := 0 } : Room).cells ({ frames := 0, cells := 0, slots := 0, locals := 0 } : Room).slots) := by
  refine MetFree.of_bodySF (plainFor_of_name pn_11) hisR ?_
  intro p e s m args below meth c s₁ Bd hml0 hP hK
  obtain ⟨rfl, hZ, hh⟩ := hP
  have hx := Bd.exec
  have hby := Bd.bytes
  have hml : c.maxLocals = 2 := hml0
  have hown : s.vm.findClass "com/example/tote/tote/storage/OffsetIndex" = some m.cls := findClass_of_methodNamed Bd.named
  have hnm := (name_of_methodNamed Bd.named Bd.method).1
  have hret := Bd.returns
  have hlk : meth.locks = false := BodyLoose.notSynchronized Bd
  have X0 : Stand p l e ({ frames := 0, cells := 0, slots := 0, locals := 0 } : Room) s m #[(.ref a1), (.int p2)] below meth c s₁ [] 0 0 := Stand.of_body Bd
  have e0 : s₁.heap = h0 := by rw [← hh, Bd.state]; rfl
  have N0 := Fr.nil n0
  have W := fun (k : Nat) {d : Jvm.Cond} (h : tables_1[k]? = some d) => hw d (List.mem_of_getElem? h)
  have K0 : Keep h0 h0 [] := Keep.refl _ _
  refine own_start (ef_11 m a1 p2) ?_
  show own_Run p e below _ s₁ (mkF m 0 #[.val (.ref a1), .val (.int p2)] [])
  rcases hp with ⟨rfl, rfl⟩ | ⟨rfl, rfl⟩ | ⟨rfl, rfl⟩
  · show own_Run p e below _ s₁ (mkF m 0 #[.val (.ref a1), .val (.int (0 : Int32))] [])
    refine own_go (fun _ k => XS.aloadN X0.here hx rfl (hb hby d11_0) rfl rfl k) ?_
    show own_Run p e below _ s₁ (mkF m 1 #[.val (.ref a1), .val (.int (0 : Int32))] [(.ref a1)])
    obtain ⟨T133, X133, e133, st133⟩ := getF X0 hx hZ hown (host := "") (Or.inl (W 21 rfl)) Via.refl e0 F_mBaseOffset_a1 (g := (mkF m 1 #[.val (.ref a1), .val (.int (0 : Int32))] [(.ref a1)])) rfl rfl (hb hby d11_1)
    refine own_go st133 ?_
    show own_Run p e below _ T133 (mkF m 4 #[.val (.ref a1), .val (.int (0 : Int32))] [(.long ba)])
    refine own_go (fun _ k => XS.aloadN X133.here hx rfl (hb hby d11_4) rfl rfl k) ?_
    show own_Run p e below _ T133 (mkF m 5 #[.val (.ref a1), .val (.int (0 : Int32))] [(.ref a1), (.long ba)])
    obtain ⟨T134, X134, e134, st134⟩ := getF X133 hx hZ hown (host := "") (Or.inl (W 12 rfl)) Via.refl e133 F_mOffsets_a1 (g := (mkF m 5 #[.val (.ref a1), .val (.int (0 : Int32))] [(.ref a1), (.long ba)])) rfl rfl (hb hby d11_5)
    refine own_go st134 ?_
    show own_Run p e below _ T134 (mkF m 8 #[.val (.ref a1), .val (.int (0 : Int32))] [(.ref b1), (.long ba)])
    refine own_go (fun _ k => XS.iloadN X134.here hx rfl (hb hby d11_8) rfl k) ?_
    show own_Run p e below _ T134 (mkF m 9 #[.val (.ref a1), .val (.int (0 : Int32))] [(.int (0 : Int32)), (.ref b1), (.long ba)])
    obtain ⟨cl135, Ar135, q135, S135, N135, H135, G135⟩ := id V_b1
    have hin135 : ¬ ((0 : Int32) < 0 ∨ cl135.slots.size ≤ ((0 : Int32)).toNatClampNeg) := inb_of S135 ⟨by decide, by decide⟩
    refine own_go (X134.iaload hx (j := (0 : Int32)) (v := (.int y0)) (by rw [e134]; exact Ar135.1) (State.isArrayOf_alike hZ.alike Ar135.2.1) Ar135.2.2 hin135 (H135.at hin135 rfl) (g := (mkF m 9 #[.val (.ref a1), .val (.int (0 : Int32))] [(.int (0 : Int32)), (.ref b1), (.long ba)])) rfl rfl (hb hby d11_9)) ?_
    show own_Run p e below _ T134 (mkF m 10 #[.val (.ref a1), .val (.int (0 : Int32))] [(.int y0), (.long ba)])
    refine own_go (fun _ k => XS.i2l X134.here hx rfl (hb hby d11_10) rfl k) ?_
    refine own_go (fun _ k => XS.ladd X134.here hx rfl (hb hby d11_11) rfl k) ?_
    show own_Run p e below _ T134 (mkF m 12 #[.val (.ref a1), .val (.int (0 : Int32))] [(.long (ba + (y0.toInt64)))])
    refine own_done (Q := fun v h L => Q11 Z a1 (0 : Int32) b1 k1 ba y0 y1 y2 y0 h0 n0 v h L) (v := (some (.long (ba + (y0.toInt64))))) X134 (fun h => by rw [hret] at h; cases h) hlk (fun fs hr => own_retL X134 hx hret (hb hby d11_12) hr) ?_ (by decide) (by decide)
    show Q11 Z a1 (0 : Int32) b1 k1 ba y0 y1 y2 y0 h0 n0 _ T134.heap _
    rw [e134]
    exact ⟨rfl, N0, rfl⟩
  · show own_Run p e below _ s₁ (mkF m 0 #[.val (.ref a1), .val (.int (1 : Int32))] [])
    refine own_go (fun _ k => XS.aloadN X0.here hx rfl (hb hby d11_0) rfl rfl k) ?_
    show own_Run p e below _ s₁ (mkF m 1 #[.val (.ref a1), .val (.int (1 : Int32))] [(.ref a1)])
    obtain ⟨T136, X136, e136, st136⟩ := getF X0 hx hZ hown (host := "") (Or.inl (W 21 rfl)) Via.refl e0 F_mBaseOffset_a1 (g := (mkF m 1 #[.val (.ref a1), .val (.int (1 : Int32))] [(.ref a1)])) rfl rfl (hb hby d11_1)
    refine own_go st136 ?_
    show own_Run p e below _ T136 (mkF m 4 #[.val (.ref a1), .val (.int (1 : Int32))] [(.long ba)])
    refine own_go (fun _ k => XS.aloadN X136.here hx rfl (hb hby d11_4) rfl rfl k) ?_
    show own_Run p e below _ T136 (mkF m 5 #[.val (.ref a1), .val (.int (1 : Int32))] [(.ref a1), (.long ba)])
    obtain ⟨T137, X137, e137, st137⟩ := getF X136 hx hZ hown (host := "") (Or.inl (W 12 rfl)) Via.refl e136 F_mOffsets_a1 (g := (mkF m 5 #[.val (.ref a1), .val (.int (1 : Int32))] [(.ref a1), (.long ba)])) rfl rfl (hb hby d11_5)
    refine own_go st137 ?_
    show own_Run p e below _ T137 (mkF m 8 #[.val (.ref a1), .val (.int (1 : Int32))] [(.ref b1), (.long ba)])
    refine own_go (fun _ k => XS.iloadN X137.here hx rfl (hb hby d11_8) rfl k) ?_
    show own_Run p e below _ T137 (mkF m 9 #[.val (.ref a1), .val (.int (1 : Int32))] [(.int (1 : Int32)), (.ref b1), (.long ba)])
    obtain ⟨cl138, Ar138, q138, S138, N138, H138, G138⟩ := id V_b1
    have hin138 : ¬ ((1 : Int32) < 0 ∨ cl138.slots.size ≤ ((1 : Int32)).toNatClampNeg) := inb_of S138 ⟨by decide, by decide⟩
    refine own_go (X137.iaload hx (j := (1 : Int32)) (v := (.int y1)) (by rw [e137]; exact Ar138.1) (State.isArrayOf_alike hZ.alike Ar138.2.1) Ar138.2.2 hin138 (H138.at hin138 rfl) (g := (mkF m 9 #[.val (.ref a1), .val (.int (1 : Int32))] [(.int (1 : Int32)), (.ref b1), (.long ba)])) rfl rfl (hb hby d11_9)) ?_
    show own_Run p e below _ T137 (mkF m 10 #[.val (.ref a1), .val (.int (1 : Int32))] [(.int y1), (.long ba)])
    refine own_go (fun _ k => XS.i2l X137.here hx rfl (hb hby d11_10) rfl k) ?_
    refine own_go (fun _ k => XS.ladd X137.here hx rfl (hb hby d11_11) rfl k) ?_
    show own_Run p e below _ T137 (mkF m 12 #[.val (.ref a1), .val (.int (1 : Int32))] [(.long (ba + (y1.toInt64)))])
    refine own_done (Q := fun v h L => Q11 Z a1 (1 : Int32) b1 k1 ba y0 y1 y2 y1 h0 n0 v h L) (v := (some (.long (ba + (y1.toInt64))))) X137 (fun h => by rw [hret] at h; cases h) hlk (fun fs hr => own_retL X137 hx hret (hb hby d11_12) hr) ?_ (by decide) (by decide)
    show Q11 Z a1 (1 : Int32) b1 k1 ba y0 y1 y2 y1 h0 n0 _ T137.heap _
    rw [e137]
    exact ⟨rfl, N0, rfl⟩
  · show own_Run p e below _ s₁ (mkF m 0 #[.val (.ref a1), .val (.int (2 : Int32))] [])
    refine own_go (fun _ k => XS.aloadN X0.here hx rfl (hb hby d11_0) rfl rfl k) ?_
    show own_Run p e below _ s₁ (mkF m 1 #[.val (.ref a1), .val (.int (2 : Int32))] [(.ref a1)])
    obtain ⟨T139, X139, e139, st139⟩ := getF X0 hx hZ hown (host := "") (Or.inl (W 21 rfl)) Via.refl e0 F_mBaseOffset_a1 (g := (mkF m 1 #[.val (.ref a1), .val (.int (2 : Int32))] [(.ref a1)])) rfl rfl (hb hby d11_1)
    refine own_go st139 ?_
    show own_Run p e below _ T139 (mkF m 4 #[.val (.ref a1), .val (.int (2 : Int32))] [(.long ba)])
    refine own_go (fun _ k => XS.aloadN X139.here hx rfl (hb hby d11_4) rfl rfl k) ?_
    show own_Run p e below _ T139 (mkF m 5 #[.val (.ref a1), .val (.int (2 : Int32))] [(.ref a1), (.long ba)])
    obtain ⟨T140, X140, e140, st140⟩ := getF X139 hx hZ hown (host := "") (Or.inl (W 12 rfl)) Via.refl e139 F_mOffsets_a1 (g := (mkF m 5 #[.val (.ref a1), .val (.int (2 : Int32))] [(.ref a1), (.long ba)])) rfl rfl (hb hby d11_5)
    refine own_go st140 ?_
    show own_Run p e below _ T140 (mkF m 8 #[.val (.ref a1), .val (.int (2 : Int32))] [(.ref b1), (.long ba)])
    refine own_go (fun _ k => XS.iloadN X140.here hx rfl (hb hby d11_8) rfl k) ?_
    show own_Run p e below _ T140 (mkF m 9 #[.val (.ref a1), .val (.int (2 : Int32))] [(.int (2 : Int32)), (.ref b1), (.long ba)])
    obtain ⟨cl141, Ar141, q141, S141, N141, H141, G141⟩ := id V_b1
    have hin141 : ¬ ((2 : Int32) < 0 ∨ cl141.slots.size ≤ ((2 : Int32)).toNatClampNeg) := inb_of S141 ⟨by decide, by decide⟩
    refine own_go (X140.iaload hx (j := (2 : Int32)) (v := (.int y2)) (by rw [e140]; exact Ar141.1) (State.isArrayOf_alike hZ.alike Ar141.2.1) Ar141.2.2 hin141 (H141.at hin141 rfl) (g := (mkF m 9 #[.val (.ref a1), .val (.int (2 : Int32))] [(.int (2 : Int32)), (.ref b1), (.long ba)])) rfl rfl (hb hby d11_9)) ?_
    show own_Run p e below _ T140 (mkF m 10 #[.val (.ref a1), .val (.int (2 : Int32))] [(.int y2), (.long ba)])
    refine own_go (fun _ k => XS.i2l X140.here hx rfl (hb hby d11_10) rfl k) ?_
    refine own_go (fun _ k => XS.ladd X140.here hx rfl (hb hby d11_11) rfl k) ?_
    show own_Run p e below _ T140 (mkF m 12 #[.val (.ref a1), .val (.int (2 : Int32))] [(.long (ba + (y2.toInt64)))])
    refine own_done (Q := fun v h L => Q11 Z a1 (2 : Int32) b1 k1 ba y0 y1 y2 y2 h0 n0 v h L) (v := (some (.long (ba + (y2.toInt64))))) X140 (fun h => by rw [hret] at h; cases h) hlk (fun fs hr => own_retL X140 hx hret (hb hby d11_12) hr) ?_ (by decide) (by decide)
    show Q11 Z a1 (2 : Int32) b1 k1 ba y0 y1 y2 y2 h0 n0 _ T140.heap _
    rw [e140]
    exact ⟨rfl, N0, rfl⟩
theorem d8_0 : decode prog_89_method_9_code 0 = .ok (.aload_n 0, 1) := by decide +kernel
theorem d8_1 : decode prog_89_method_9_code 1 = .ok (.getfield 36, 3) := by decide +kernel
theorem d8_4 : decode prog_89_method_9_code 4 = .ok (.ifCond .le 33, 3) := by decide +kernel
theorem d8_7 : decode prog_89_method_9_code 7 = .ok (.aload_n 0, 1) := by decide +kernel
theorem d8_8 : decode prog_89_method_9_code 8 = .ok (.getfield 17, 3) := by decide +kernel
theorem d8_11 : decode prog_89_method_9_code 11 = .ok (.aload_n 0, 1) := by decide +kernel
theorem d8_12 : decode prog_89_method_9_code 12 = .ok (.getfield 36, 3) := by decide +kernel
theorem d8_15 : decode prog_89_method_9_code 15 = .ok (.iconst 1, 1) := by decide +kernel
theorem d8_16 : decode prog_89_method_9_code 16 = .ok (.isub, 1) := by decide +kernel
theorem d8_17 : decode prog_89_method_9_code 17 = .ok (.iaload, 1) := by decide +kernel
theorem d8_18 : decode prog_89_method_9_code 18 = .ok (.i2l, 1) := by decide +kernel
theorem d8_19 : decode prog_89_method_9_code 19 = .ok (.lload_n 1, 1) := by decide +kernel
theorem d8_20 : decode prog_89_method_9_code 20 = .ok (.lcmp, 1) := by decide +kernel
theorem d8_21 : decode prog_89_method_9_code 21 = .ok (.ifCond .lt 16, 3) := by decide +kernel
theorem d8_24 : decode prog_89_method_9_code 24 = .ok (.aload_n 0, 1) := by decide +kernel
theorem d8_25 : decode prog_89_method_9_code 25 = .ok (.dup, 1) := by decide +kernel
theorem d8_26 : decode prog_89_method_9_code 26 = .ok (.getfield 36, 3) := by decide +kernel
theorem d8_29 : decode prog_89_method_9_code 29 = .ok (.iconst 1, 1) := by decide +kernel
theorem d8_30 : decode prog_89_method_9_code 30 = .ok (.isub, 1) := by decide +kernel
theorem d8_31 : decode prog_89_method_9_code 31 = .ok (.putfield 36, 3) := by decide +kernel
theorem d8_34 : decode prog_89_method_9_code 34 = .ok (.goto (-34), 3) := by decide +kernel
theorem d8_37 : decode prog_89_method_9_code 37 = .ok (.return_, 1) := by decide +kernel
theorem pn_8 : plainName "com/example/tote/tote/storage/OffsetIndex" = true := by first | (simp [plainName, overriddenIn]; done) | decide +kernel
theorem ef_8 (m : MethodId) (x0 : Addr) (x1 : Int64) : entryFrame m #[(.ref x0), (.long x1)] 3 = mkF m 0 #[.val (.ref x0), .val (.long x1), .second] [] := by first | (simp [entryFrame, mkF, argsToLocals, Value.category]; done) | rfl
def Q8n0 (Z : State) (a1 : Addr) (q2 : Int64) (b1 : Addr) (b2 : Addr) (k2 : ClassId) (mx : Int64) (ba : Int64) (y0 : Int32) (y1 : Int32) (y2 : Int32) (r : Int32) (h0 : Heap) (n0 : Nat) (v : Option Value) (h : Heap) (L : List Loc) : Prop := v = none ∧ Fr n0 L ∧ Keep h0 h [a1] ∧ Exa Z h a1 "com/example/tote/tote/storage/OffsetIndex" ∧ Fld Z h a1 "com/example/tote/tote/storage/OffsetIndex" "mOffsets" "[I" (.ref b1) ∧ Fld Z h a1 "com/example/tote/tote/storage/OffsetIndex" "mPositions" "[I" (.ref b2) ∧ Fld Z h a1 "com/example/tote/tote/storage/OffsetIndex" "mMaxTimestamp" "J" (.long mx) ∧ Fld Z h a1 "com/example/tote/tote/storage/OffsetIndex" "mBaseOffset" "J" (.long ba) ∧ Fld Z h a1 "com/example/tote/tote/storage/OffsetIndex" "mCount" "I" (.int r)
set_option maxRecDepth 65536 in
set_option maxHeartbeats 40000000 in
theorem rm8n0 (l : Launch) (Z : State) (a0 : Array Value) (hw : ∀ d ∈ tables_1, d.before a0 Z = true) (ws : List Jvm.Cond) (a1 : Addr) (q2 : Int64) (b1 : Addr) (b2 : Addr) (k2 : ClassId) (mx : Int64) (ba : Int64) (y0 : Int32) (y1 : Int32) (y2 : Int32) (r : Int32) (h0 : Heap) (n0 : Nat) (Z0 : n0 ≤ h0.size) (E_a1 : Exa Z h0 a1 "com/example/tote/tote/storage/OffsetIndex") (F_mOffsets_a1 : Fld Z h0 a1 "com/example/tote/tote/storage/OffsetIndex" "mOffsets" "[I" (.ref b1)) (F_mPositions_a1 : Fld Z h0 a1 "com/example/tote/tote/storage/OffsetIndex" "mPositions" "[I" (.ref b2)) (F_mMaxTimestamp_a1 : Fld Z h0 a1 "com/example/tote/tote/storage/OffsetIndex" "mMaxTimestamp" "J" (.long mx)) (F_mBaseOffset_a1 : Fld Z h0 a1 "com/example/tote/tote/storage/OffsetIndex" "mBaseOffset" "J" (.long ba)) (F_mCount_a1 : Fld Z h0 a1 "com/example/tote/tote/storage/OffsetIndex" "mCount" "I" (.int (0 : Int32))) (V_b2 : Arv Z h0 b2 k2 .int (16 : Int32) [(.int y0), (.int y1), (.int y2), (.int (0 : Int32)), (.int (0 : Int32)), (.int (0 : Int32)), (.int (0 : Int32)), (.int (0 : Int32)), (.int (0 : Int32)), (.int (0 : Int32)), (.int (0 : Int32)), (.int (0 : Int32)), (.int (0 : Int32)), (.int (0 : Int32)), (.int (0 : Int32)), (.int (0 : Int32))] (.int (0 : Int32))) (g_a1 : n0 ≤ a1) (ne_a1_b2 : a1 ≠ b2) (hp : (r = (0 : Int32))) :
    MetFree l (⟨"com/example/tote/tote/storage/OffsetIndex", "cutBack", "(J)V"⟩ : MethodName) (head1 (Jvm.Cond.code (⟨"com/example/tote/tote/storage/OffsetIndex", "cutBack", "(J)V"⟩ : MethodName) prog_89_method_9_code 3 none :: ws) ({ frames := 0, cells := 0, slots := 0, locals := 0 } : Room)) (fun a U => a = #[(.ref a1), (.long q2)] ∧ Z.Warmed39 U.vm ∧ U.heap = h0) (fun _ _ _ _ _ => True) (fun _ U o U' => ∃ v L, o = .returned v ∧ Q8n0 Z a1 q2 b1 b2 k2 mx ba y0 y1 y2 r h0 n0 v U'.heap L ∧ FrameEnd U o U' L ({ frames := 0, cells := 0, slots := 0, locals := 0 } : Room).cells ({ frames := 0, cells := 0, slots := 0, locals := 0 } : Room).slots) := by
  refine MetFree.of_bodySF (plainFor_of_name pn_8) hisR ?_
  intro p e s m args below meth c s₁ Bd hml0 hP hK
  obtain ⟨rfl, hZ, hh⟩ := hP
  have hx := Bd.exec
  have hby := Bd.bytes
  have hml : c.maxLocals = 3 := hml0
  have hown : s.vm.findClass "com/example/tote/tote/storage/OffsetIndex" = some m.cls := findClass_of_methodNamed Bd.named
  have hnm := (name_of_methodNamed Bd.named Bd.method).1
  have hret := Bd.returns
  have hlk : meth.locks = false := BodyLoose.notSynchronized Bd
  have X0 : Stand p l e ({ frames := 0, cells := 0, slots := 0, locals := 0 } : Room) s m #[(.ref a1), (.long q2)] below meth c s₁ [] 0 0 := Stand.of_body Bd
  have e0 : s₁.heap = h0 := by rw [← hh, Bd.state]; rfl
  have N0 := Fr.nil n0
  have W := fun (k : Nat) {d : Jvm.Cond} (h : tables_1[k]? = some d) => hw d (List.mem_of_getElem? h)
  have K0 : Keep h0 h0 [a1] := Keep.refl _ _
  refine own_start (ef_8 m a1 q2) ?_
  show own_Run p e below _ s₁ (mkF m 0 #[.val (.ref a1), .val (.long q2), .second] [])
  rcases hp with rfl
  · show own_Run p e below _ s₁ (mkF m 0 #[.val (.ref a1), .val (.long q2), .second] [])
    refine own_go (fun _ k => XS.aloadN X0.here hx rfl (hb hby d8_0) rfl rfl k) ?_
    show own_Run p e below _ s₁ (mkF m 1 #[.val (.ref a1), .val (.long q2), .second] [(.ref a1)])
    obtain ⟨T142, X142, e142, st142⟩ := getF X0 hx hZ hown (host := "") (Or.inl (W 30 rfl)) Via.refl e0 F_mCount_a1 (g := (mkF m 1 #[.val (.ref a1), .val (.long q2), .second] [(.ref a1)])) rfl rfl (hb hby d8_1)
    refine own_go st142 ?_
    show own_Run p e below _ T142 (mkF m 4 #[.val (.ref a1), .val (.long q2), .second] [(.int (0 : Int32))])
    refine own_go (fun _ k => XS.ifYes X142.here hx rfl (pc0 := 4) (pc' := 37) rfl (hb hby d8_4) rfl ((if0 _ _).trans (flt (by decide : ¬ ((0 : Int32) < (0 : Int32)))).2.2.2) (by decide) (by decide) k) ?_
    show own_Run p e below _ T142 (mkF m 37 #[.val (.ref a1), .val (.long q2), .second] [])
    refine own_done (Q := fun v h L => Q8n0 Z a1 q2 b1 b2 k2 mx ba y0 y1 y2 (0 : Int32) h0 n0 v h L) (v := none) X142 (fun _ => rfl) hlk (fun fs hr => X142.returnOut hx hret (hb hby d8_37) hr) ?_ (by decide) (by decide)
    show Q8n0 Z a1 q2 b1 b2 k2 mx ba y0 y1 y2 (0 : Int32) h0 n0 _ T142.heap _
    rw [e142]
    exact ⟨rfl, N0, K0, E_a1, F_mOffsets_a1, F_mPositions_a1, F_mMaxTimestamp_a1, F_mBaseOffset_a1, F_mCount_a1⟩
def Q8n1 (Z : State) (a1 : Addr) (q2 : Int64) (b1 : Addr) (b2 : Addr) (k2 : ClassId) (mx : Int64) (ba : Int64) (y0 : Int32) (y1 : Int32) (y2 : Int32) (r : Int32) (h0 : Heap) (n0 : Nat) (v : Option Value) (h : Heap) (L : List Loc) : Prop := v = none ∧ Fr n0 L ∧ Keep h0 h [a1] ∧ Exa Z h a1 "com/example/tote/tote/storage/OffsetIndex" ∧ Fld Z h a1 "com/example/tote/tote/storage/OffsetIndex" "mOffsets" "[I" (.ref b1) ∧ Fld Z h a1 "com/example/tote/tote/storage/OffsetIndex" "mPositions" "[I" (.ref b2) ∧ Fld Z h a1 "com/example/tote/tote/storage/OffsetIndex" "mMaxTimestamp" "J" (.long mx) ∧ Fld Z h a1 "com/example/tote/tote/storage/OffsetIndex" "mBaseOffset" "J" (.long ba) ∧ Fld Z h a1 "com/example/tote/tote/storage/OffsetIndex" "mCount" "I" (.int r)
set_option maxRecDepth 65536 in
set_option maxHeartbeats 40000000 in
theorem rm8n1 (l : Launch) (Z : State) (a0 : Array Value) (hw : ∀ d ∈ tables_1, d.before a0 Z = true) (ws : List Jvm.Cond) (a1 : Addr) (q2 : Int64) (b1 : Addr) (b2 : Addr) (k2 : ClassId) (mx : Int64) (ba : Int64) (y0 : Int32) (y1 : Int32) (y2 : Int32) (r : Int32) (h0 : Heap) (n0 : Nat) (Z0 : n0 ≤ h0.size) (E_a1 : Exa Z h0 a1 "com/example/tote/tote/storage/OffsetIndex") (F_mOffsets_a1 : Fld Z h0 a1 "com/example/tote/tote/storage/OffsetIndex" "mOffsets" "[I" (.ref b1)) (F_mPositions_a1 : Fld Z h0 a1 "com/example/tote/tote/storage/OffsetIndex" "mPositions" "[I" (.ref b2)) (F_mMaxTimestamp_a1 : Fld Z h0 a1 "com/example/tote/tote/storage/OffsetIndex" "mMaxTimestamp" "J" (.long mx)) (F_mBaseOffset_a1 : Fld Z h0 a1 "com/example/tote/tote/storage/OffsetIndex" "mBaseOffset" "J" (.long ba)) (F_mCount_a1 : Fld Z h0 a1 "com/example/tote/tote/storage/OffsetIndex" "mCount" "I" (.int (1 : Int32))) (V_b2 : Arv Z h0 b2 k2 .int (16 : Int32) [(.int y0), (.int y1), (.int y2), (.int (0 : Int32)), (.int (0 : Int32)), (.int (0 : Int32)), (.int (0 : Int32)), (.int (0 : Int32)), (.int (0 : Int32)), (.int (0 : Int32)), (.int (0 : Int32)), (.int (0 : Int32)), (.int (0 : Int32)), (.int (0 : Int32)), (.int (0 : Int32)), (.int (0 : Int32))] (.int (0 : Int32))) (g_a1 : n0 ≤ a1) (ne_a1_b2 : a1 ≠ b2) (hp : (¬ ((y0.toInt64) < q2) ∧ r = (0 : Int32)) ∨ ((y0.toInt64) < q2 ∧ r = (1 : Int32))) :
    MetFree l (⟨"com/example/tote/tote/storage/OffsetIndex", "cutBack", "(J)V"⟩ : MethodName) (head1 (Jvm.Cond.code (⟨"com/example/tote/tote/storage/OffsetIndex", "cutBack", "(J)V"⟩ : MethodName) prog_89_method_9_code 3 none :: ws) ({ frames := 0, cells := 0, slots := 0, locals := 0 } : Room)) (fun a U => a = #[(.ref a1), (.long q2)] ∧ Z.Warmed39 U.vm ∧ U.heap = h0) (fun _ _ _ _ _ => True) (fun _ U o U' => ∃ v L, o = .returned v ∧ Q8n1 Z a1 q2 b1 b2 k2 mx ba y0 y1 y2 r h0 n0 v U'.heap L ∧ FrameEnd U o U' L ({ frames := 0, cells := 0, slots := 0, locals := 0 } : Room).cells ({ frames := 0, cells := 0, slots := 0, locals := 0 } : Room).slots) := by
  refine MetFree.of_bodySF (plainFor_of_name pn_8) hisR ?_
  intro p e s m args below meth c s₁ Bd hml0 hP hK
  obtain ⟨rfl, hZ, hh⟩ := hP
  have hx := Bd.exec
  have hby := Bd.bytes
  have hml : c.maxLocals = 3 := hml0
  have hown : s.vm.findClass "com/example/tote/tote/storage/OffsetIndex" = some m.cls := findClass_of_methodNamed Bd.named
  have hnm := (name_of_methodNamed Bd.named Bd.method).1
  have hret := Bd.returns
  have hlk : meth.locks = false := BodyLoose.notSynchronized Bd
  have X0 : Stand p l e ({ frames := 0, cells := 0, slots := 0, locals := 0 } : Room) s m #[(.ref a1), (.long q2)] below meth c s₁ [] 0 0 := Stand.of_body Bd
  have e0 : s₁.heap = h0 := by rw [← hh, Bd.state]; rfl
  have N0 := Fr.nil n0
  have W := fun (k : Nat) {d : Jvm.Cond} (h : tables_1[k]? = some d) => hw d (List.mem_of_getElem? h)
  have K0 : Keep h0 h0 [a1] := Keep.refl _ _
  refine own_start (ef_8 m a1 q2) ?_
  show own_Run p e below _ s₁ (mkF m 0 #[.val (.ref a1), .val (.long q2), .second] [])
  rcases hp with ⟨hz0, rfl⟩ | ⟨hz0, rfl⟩
  · show own_Run p e below _ s₁ (mkF m 0 #[.val (.ref a1), .val (.long q2), .second] [])
    refine own_go (fun _ k => XS.aloadN X0.here hx rfl (hb hby d8_0) rfl rfl k) ?_
    show own_Run p e below _ s₁ (mkF m 1 #[.val (.ref a1), .val (.long q2), .second] [(.ref a1)])
    obtain ⟨T143, X143, e143, st143⟩ := getF X0 hx hZ hown (host := "") (Or.inl (W 30 rfl)) Via.refl e0 F_mCount_a1 (g := (mkF m 1 #[.val (.ref a1), .val (.long q2), .second] [(.ref a1)])) rfl rfl (hb hby d8_1)
    refine own_go st143 ?_
    show own_Run p e below _ T143 (mkF m 4 #[.val (.ref a1), .val (.long q2), .second] [(.int (1 : Int32))])
    refine own_go (fun _ k => XS.ifNo X143.here hx rfl (hb hby d8_4) rfl ((if0 _ _).trans (tlt (by decide : (0 : Int32) < (1 : Int32))).2.2.2) k) ?_
    show own_Run p e below _ T143 (mkF m 7 #[.val (.ref a1), .val (.long q2), .second] [])
    refine own_go (fun _ k => XS.aloadN X143.here hx rfl (hb hby d8_7) rfl rfl k) ?_
    show own_Run p e below _ T143 (mkF m 8 #[.val (.ref a1), .val (.long q2), .second] [(.ref a1)])
    obtain ⟨T144, X144, e144, st144⟩ := getF X143 hx hZ hown (host := "") (Or.inl (W 14 rfl)) Via.refl e143 F_mPositions_a1 (g := (mkF m 8 #[.val (.ref a1), .val (.long q2), .second] [(.ref a1)])) rfl rfl (hb hby d8_8)
    refine own_go st144 ?_
    show own_Run p e below _ T144 (mkF m 11 #[.val (.ref a1), .val (.long q2), .second] [(.ref b2)])
    refine own_go (fun _ k => XS.aloadN X144.here hx rfl (hb hby d8_11) rfl rfl k) ?_
    show own_Run p e below _ T144 (mkF m 12 #[.val (.ref a1), .val (.long q2), .second] [(.ref a1), (.ref b2)])
    obtain ⟨T145, X145, e145, st145⟩ := getF X144 hx hZ hown (host := "") (Or.inl (W 30 rfl)) Via.refl e144 F_mCount_a1 (g := (mkF m 12 #[.val (.ref a1), .val (.long q2), .second] [(.ref a1), (.ref b2)])) rfl rfl (hb hby d8_12)
    refine own_go st145 ?_
    show own_Run p e below _ T145 (mkF m 15 #[.val (.ref a1), .val (.long q2), .second] [(.int (1 : Int32)), (.ref b2)])
    refine own_go (fun _ k => XS.iconst X145.here hx rfl (hb hby d8_15) k) ?_
    refine own_go (fun _ k => XS.isub X145.here hx rfl (hb hby d8_16) rfl k) ?_
    show own_Run p e below _ T145 (mkF m 17 #[.val (.ref a1), .val (.long q2), .second] [(.int ((1 : Int32) - (1 : Int32))), (.ref b2)])
    rw [show ((1 : Int32) - (1 : Int32)) = (0 : Int32) by decide]
    show own_Run p e below _ T145 (mkF m 17 #[.val (.ref a1), .val (.long q2), .second] [(.int (0 : Int32)), (.ref b2)])
    obtain ⟨cl146, Ar146, q146, S146, N146, H146, G146⟩ := id V_b2
    have hin146 : ¬ ((0 : Int32) < 0 ∨ cl146.slots.size ≤ ((0 : Int32)).toNatClampNeg) := inb_of S146 ⟨by decide, by decide⟩
    refine own_go (X145.iaload hx (j := (0 : Int32)) (v := (.int y0)) (by rw [e145]; exact Ar146.1) (State.isArrayOf_alike hZ.alike Ar146.2.1) Ar146.2.2 hin146 (H146.at hin146 rfl) (g := (mkF m 17 #[.val (.ref a1), .val (.long q2), .second] [(.int (0 : Int32)), (.ref b2)])) rfl rfl (hb hby d8_17)) ?_
    show own_Run p e below _ T145 (mkF m 18 #[.val (.ref a1), .val (.long q2), .second] [(.int y0)])
    refine own_go (fun _ k => XS.i2l X145.here hx rfl (hb hby d8_18) rfl k) ?_
    refine own_go (fun _ k => XS.lloadN X145.here hx rfl (hb hby d8_19) rfl k) ?_
    refine own_go (fun _ k => XS.lcmp X145.here hx rfl (hb hby d8_20) rfl k) ?_
    show own_Run p e below _ T145 (mkF m 21 #[.val (.ref a1), .val (.long q2), .second] [(.int (lcmpW (y0.toInt64) q2))])
    refine own_go (fun _ k => XS.ifNo X145.here hx rfl (hb hby d8_21) rfl (own_lcF hz0).1 k) ?_
    show own_Run p e below _ T145 (mkF m 24 #[.val (.ref a1), .val (.long q2), .second] [])
    refine own_go (fun _ k => XS.aloadN X145.here hx rfl (hb hby d8_24) rfl rfl k) ?_
    refine own_go (fun _ k => XS.dup X145.here hx rfl (hb hby d8_25) rfl rfl k) ?_
    show own_Run p e below _ T145 (mkF m 26 #[.val (.ref a1), .val (.long q2), .second] [(.ref a1), (.ref a1)])
    obtain ⟨T147, X147, e147, st147⟩ := getF X145 hx hZ hown (host := "") (Or.inl (W 30 rfl)) Via.refl e145 F_mCount_a1 (g := (mkF m 26 #[.val (.ref a1), .val (.long q2), .second] [(.ref a1), (.ref a1)])) rfl rfl (hb hby d8_26)
    refine own_go st147 ?_
    show own_Run p e below _ T147 (mkF m 29 #[.val (.ref a1), .val (.long q2), .second] [(.int (1 : Int32)), (.ref a1)])
    refine own_go (fun _ k => XS.iconst X147.here hx rfl (hb hby d8_29) k) ?_
    refine own_go (fun _ k => XS.isub X147.here hx rfl (hb hby d8_30) rfl k) ?_
    show own_Run p e below _ T147 (mkF m 31 #[.val (.ref a1), .val (.long q2), .second] [(.int ((1 : Int32) - (1 : Int32))), (.ref a1)])
    rw [show ((1 : Int32) - (1 : Int32)) = (0 : Int32) by decide]
    show own_Run p e below _ T147 (mkF m 31 #[.val (.ref a1), .val (.long q2), .second] [(.int (0 : Int32)), (.ref a1)])
    obtain ⟨T148, h148, X148, e148, W148, st148⟩ := putF X147 hx hZ hown (host := "") (Or.inl (W 30 rfl)) Via.refl e147 F_mCount_a1 E_a1 (Or.inl (W 31 rfl)) (W 3 rfl) (ty := .int) (by decide) rfl rfl (g := (mkF m 31 #[.val (.ref a1), .val (.long q2), .second] [(.int (0 : Int32)), (.ref a1)])) rfl rfl (hb hby d8_31)
    refine own_go st148 ?_
    show own_Run p e below _ T148 (mkF m 34 #[.val (.ref a1), .val (.long q2), .second] [])
    have Z0_c149 := Nat.le_trans Z0 (Keep.of_wr W148).1
    have K0_c149 := K0.wr W148 (Or.inl (List.mem_of_getElem? (i := 0) rfl))
    have E_a1_c149 := E_a1.wr W148
    have F_mOffsets_a1_c149 := F_mOffsets_a1.other W148 (Or.inr (slot_ne (Or.inl (W 13 rfl)) (Or.inl (W 31 rfl)) (by decide) (t := (.array .int)) (t' := .int) (by decide) (by decide)))
    have F_mPositions_a1_c149 := F_mPositions_a1.other W148 (Or.inr (slot_ne (Or.inl (W 15 rfl)) (Or.inl (W 31 rfl)) (by decide) (t := (.array .int)) (t' := .int) (by decide) (by decide)))
    have F_mMaxTimestamp_a1_c149 := F_mMaxTimestamp_a1.other W148 (Or.inr (slot_ne (Or.inl (W 20 rfl)) (Or.inl (W 31 rfl)) (by decide) (t := .long) (t' := .int) (by decide) (by decide)))
    have F_mBaseOffset_a1_c149 := F_mBaseOffset_a1.other W148 (Or.inr (slot_ne (Or.inr (W 22 rfl)) (Or.inl (W 31 rfl)) (by decide) (t := .long) (t' := .int) (by decide) (by decide)))
    have V_b2_c149 := V_b2.other W148 (Ne.symm ne_a1_b2)
    have F_mCount_a1_c148 : Fld Z h148 a1 "com/example/tote/tote/storage/OffsetIndex" "mCount" "I" (.int (0 : Int32)) := F_mCount_a1.same W148
    have N148 := Fr.snoc X148 N0 g_a1
    refine own_go (fun _ k => XS.goto X148.here hx rfl (pc0 := 34) (pc' := 0) rfl (hb hby d8_34) (by decide) (by decide) k) ?_
    refine own_go (fun _ k => XS.aloadN X148.here hx rfl (hb hby d8_0) rfl rfl k) ?_
    show own_Run p e below _ T148 (mkF m 1 #[.val (.ref a1), .val (.long q2), .second] [(.ref a1)])
    obtain ⟨T150, X150, e150, st150⟩ := getF X148 hx hZ hown (host := "") (Or.inl (W 30 rfl)) Via.refl e148 F_mCount_a1_c148 (g := (mkF m 1 #[.val (.ref a1), .val (.long q2), .second] [(.ref a1)])) rfl rfl (hb hby d8_1)
    refine own_go st150 ?_
    show own_Run p e below _ T150 (mkF m 4 #[.val (.ref a1), .val (.long q2), .second] [(.int (0 : Int32))])
    refine own_go (fun _ k => XS.ifYes X150.here hx rfl (pc0 := 4) (pc' := 37) rfl (hb hby d8_4) rfl ((if0 _ _).trans (flt (by decide : ¬ ((0 : Int32) < (0 : Int32)))).2.2.2) (by decide) (by decide) k) ?_
    show own_Run p e below _ T150 (mkF m 37 #[.val (.ref a1), .val (.long q2), .second] [])
    refine own_done (Q := fun v h L => Q8n1 Z a1 q2 b1 b2 k2 mx ba y0 y1 y2 (0 : Int32) h0 n0 v h L) (v := none) X150 (fun _ => rfl) hlk (fun fs hr => X150.returnOut hx hret (hb hby d8_37) hr) ?_ (by decide) (by decide)
    show Q8n1 Z a1 q2 b1 b2 k2 mx ba y0 y1 y2 (0 : Int32) h0 n0 _ T150.heap _
    rw [e150]
    exact ⟨rfl, N148, K0_c149, E_a1_c149, F_mOffsets_a1_c149, F_mPositions_a1_c149, F_mMaxTimestamp_a1_c149, F_mBaseOffset_a1_c149, F_mCount_a1_c148⟩
  · show own_Run p e below _ s₁ (mkF m 0 #[.val (.ref a1), .val (.long q2), .second] [])
    refine own_go (fun _ k => XS.aloadN X0.here hx rfl (hb hby d8_0) rfl rfl k) ?_
    show own_Run p e below _ s₁ (mkF m 1 #[.val (.ref a1), .val (.long q2), .second] [(.ref a1)])
    obtain ⟨T151, X151, e151, st151⟩ := getF X0 hx hZ hown (host := "") (Or.inl (W 30 rfl)) Via.refl e0 F_mCount_a1 (g := (mkF m 1 #[.val (.ref a1), .val (.long q2), .second] [(.ref a1)])) rfl rfl (hb hby d8_1)
    refine own_go st151 ?_
    show own_Run p e below _ T151 (mkF m 4 #[.val (.ref a1), .val (.long q2), .second] [(.int (1 : Int32))])
    refine own_go (fun _ k => XS.ifNo X151.here hx rfl (hb hby d8_4) rfl ((if0 _ _).trans (tlt (by decide : (0 : Int32) < (1 : Int32))).2.2.2) k) ?_
    show own_Run p e below _ T151 (mkF m 7 #[.val (.ref a1), .val (.long q2), .second] [])
    refine own_go (fun _ k => XS.aloadN X151.here hx rfl (hb hby d8_7) rfl rfl k) ?_
    show own_Run p e below _ T151 (mkF m 8 #[.val (.ref a1), .val (.long q2), .second] [(.ref a1)])
    obtain ⟨T152, X152, e152, st152⟩ := getF X151 hx hZ hown (host := "") (Or.inl (W 14 rfl)) Via.refl e151 F_mPositions_a1 (g := (mkF m 8 #[.val (.ref a1), .val (.long q2), .second] [(.ref a1)])) rfl rfl (hb hby d8_8)
    refine own_go st152 ?_
    show own_Run p e below _ T152 (mkF m 11 #[.val (.ref a1), .val (.long q2), .second] [(.ref b2)])
    refine own_go (fun _ k => XS.aloadN X152.here hx rfl (hb hby d8_11) rfl rfl k) ?_
    show own_Run p e below _ T152 (mkF m 12 #[.val (.ref a1), .val (.long q2), .second] [(.ref a1), (.ref b2)])
    obtain ⟨T153, X153, e153, st153⟩ := getF X152 hx hZ hown (host := "") (Or.inl (W 30 rfl)) Via.refl e152 F_mCount_a1 (g := (mkF m 12 #[.val (.ref a1), .val (.long q2), .second] [(.ref a1), (.ref b2)])) rfl rfl (hb hby d8_12)
    refine own_go st153 ?_
    show own_Run p e below _ T153 (mkF m 15 #[.val (.ref a1), .val (.long q2), .second] [(.int (1 : Int32)), (.ref b2)])
    refine own_go (fun _ k => XS.iconst X153.here hx rfl (hb hby d8_15) k) ?_
    refine own_go (fun _ k => XS.isub X153.here hx rfl (hb hby d8_16) rfl k) ?_
    show own_Run p e below _ T153 (mkF m 17 #[.val (.ref a1), .val (.long q2), .second] [(.int ((1 : Int32) - (1 : Int32))), (.ref b2)])
    rw [show ((1 : Int32) - (1 : Int32)) = (0 : Int32) by decide]
    show own_Run p e below _ T153 (mkF m 17 #[.val (.ref a1), .val (.long q2), .second] [(.int (0 : Int32)), (.ref b2)])
    obtain ⟨cl154, Ar154, q154, S154, N154, H154, G154⟩ := id V_b2
    have hin154 : ¬ ((0 : Int32) < 0 ∨ cl154.slots.size ≤ ((0 : Int32)).toNatClampNeg) := inb_of S154 ⟨by decide, by decide⟩
    refine own_go (X153.iaload hx (j := (0 : Int32)) (v := (.int y0)) (by rw [e153]; exact Ar154.1) (State.isArrayOf_alike hZ.alike Ar154.2.1) Ar154.2.2 hin154 (H154.at hin154 rfl) (g := (mkF m 17 #[.val (.ref a1), .val (.long q2), .second] [(.int (0 : Int32)), (.ref b2)])) rfl rfl (hb hby d8_17)) ?_
    show own_Run p e below _ T153 (mkF m 18 #[.val (.ref a1), .val (.long q2), .second] [(.int y0)])
    refine own_go (fun _ k => XS.i2l X153.here hx rfl (hb hby d8_18) rfl k) ?_
    refine own_go (fun _ k => XS.lloadN X153.here hx rfl (hb hby d8_19) rfl k) ?_
    refine own_go (fun _ k => XS.lcmp X153.here hx rfl (hb hby d8_20) rfl k) ?_
    show own_Run p e below _ T153 (mkF m 21 #[.val (.ref a1), .val (.long q2), .second] [(.int (lcmpW (y0.toInt64) q2))])
    refine own_go (fun _ k => XS.ifYes X153.here hx rfl (pc0 := 21) (pc' := 37) rfl (hb hby d8_21) rfl (own_lcT hz0).1 (by decide) (by decide) k) ?_
    show own_Run p e below _ T153 (mkF m 37 #[.val (.ref a1), .val (.long q2), .second] [])
    refine own_done (Q := fun v h L => Q8n1 Z a1 q2 b1 b2 k2 mx ba y0 y1 y2 (1 : Int32) h0 n0 v h L) (v := none) X153 (fun _ => rfl) hlk (fun fs hr => X153.returnOut hx hret (hb hby d8_37) hr) ?_ (by decide) (by decide)
    show Q8n1 Z a1 q2 b1 b2 k2 mx ba y0 y1 y2 (1 : Int32) h0 n0 _ T153.heap _
    rw [e153]
    exact ⟨rfl, N0, K0, E_a1, F_mOffsets_a1, F_mPositions_a1, F_mMaxTimestamp_a1, F_mBaseOffset_a1, F_mCount_a1⟩
def Q8n2 (Z : State) (a1 : Addr) (q2 : Int64) (b1 : Addr) (b2 : Addr) (k2 : ClassId) (mx : Int64) (ba : Int64) (y0 : Int32) (y1 : Int32) (y2 : Int32) (r : Int32) (h0 : Heap) (n0 : Nat) (v : Option Value) (h : Heap) (L : List Loc) : Prop := v = none ∧ Fr n0 L ∧ Keep h0 h [a1] ∧ Exa Z h a1 "com/example/tote/tote/storage/OffsetIndex" ∧ Fld Z h a1 "com/example/tote/tote/storage/OffsetIndex" "mOffsets" "[I" (.ref b1) ∧ Fld Z h a1 "com/example/tote/tote/storage/OffsetIndex" "mPositions" "[I" (.ref b2) ∧ Fld Z h a1 "com/example/tote/tote/storage/OffsetIndex" "mMaxTimestamp" "J" (.long mx) ∧ Fld Z h a1 "com/example/tote/tote/storage/OffsetIndex" "mBaseOffset" "J" (.long ba) ∧ Fld Z h a1 "com/example/tote/tote/storage/OffsetIndex" "mCount" "I" (.int r)
set_option maxRecDepth 65536 in
set_option maxHeartbeats 40000000 in
theorem rm8n2 (l : Launch) (Z : State) (a0 : Array Value) (hw : ∀ d ∈ tables_1, d.before a0 Z = true) (ws : List Jvm.Cond) (a1 : Addr) (q2 : Int64) (b1 : Addr) (b2 : Addr) (k2 : ClassId) (mx : Int64) (ba : Int64) (y0 : Int32) (y1 : Int32) (y2 : Int32) (r : Int32) (h0 : Heap) (n0 : Nat) (Z0 : n0 ≤ h0.size) (E_a1 : Exa Z h0 a1 "com/example/tote/tote/storage/OffsetIndex") (F_mOffsets_a1 : Fld Z h0 a1 "com/example/tote/tote/storage/OffsetIndex" "mOffsets" "[I" (.ref b1)) (F_mPositions_a1 : Fld Z h0 a1 "com/example/tote/tote/storage/OffsetIndex" "mPositions" "[I" (.ref b2)) (F_mMaxTimestamp_a1 : Fld Z h0 a1 "com/example/tote/tote/storage/OffsetIndex" "mMaxTimestamp" "J" (.long mx)) (F_mBaseOffset_a1 : Fld Z h0 a1 "com/example/tote/tote/storage/OffsetIndex" "mBaseOffset" "J" (.long ba)) (F_mCount_a1 : Fld Z h0 a1 "com/example/tote/tote/storage/OffsetIndex" "mCount" "I" (.int (2 : Int32))) (V_b2 : Arv Z h0 b2 k2 .int (16 : Int32) [(.int y0), (.int y1), (.int y2), (.int (0 : Int32)), (.int (0 : Int32)), (.int (0 : Int32)), (.int (0 : Int32)), (.int (0 : Int32)), (.int (0 : Int32)), (.int (0 : Int32)), (.int (0 : Int32)), (.int (0 : Int32)), (.int (0 : Int32)), (.int (0 : Int32)), (.int (0 : Int32)), (.int (0 : Int32))] (.int (0 : Int32))) (g_a1 : n0 ≤ a1) (ne_a1_b2 : a1 ≠ b2) (hp : (¬ ((y0.toInt64) < q2) ∧ ¬ ((y1.toInt64) < q2) ∧ r = (0 : Int32)) ∨ ((y0.toInt64) < q2 ∧ ¬ ((y1.toInt64) < q2) ∧ r = (1 : Int32)) ∨ ((y0.toInt64) < q2 ∧ (y1.toInt64) < q2 ∧ r = (2 : Int32))) :
    MetFree l (⟨"com/example/tote/tote/storage/OffsetIndex", "cutBack", "(J)V"⟩ : MethodName) (head1 (Jvm.Cond.code (⟨"com/example/tote/tote/storage/OffsetIndex", "cutBack", "(J)V"⟩ : MethodName) prog_89_method_9_code 3 none :: ws) ({ frames := 0, cells := 0, slots := 0, locals := 0 } : Room)) (fun a U => a = #[(.ref a1), (.long q2)] ∧ Z.Warmed39 U.vm ∧ U.heap = h0) (fun _ _ _ _ _ => True) (fun _ U o U' => ∃ v L, o = .returned v ∧ Q8n2 Z a1 q2 b1 b2 k2 mx ba y0 y1 y2 r h0 n0 v U'.heap L ∧ FrameEnd U o U' L ({ frames := 0, cells := 0, slots := 0, locals := 0 } : Room).cells ({ frames := 0, cells := 0, slots := 0, locals := 0 } : Room).slots) := by
  refine MetFree.of_bodySF (plainFor_of_name pn_8) hisR ?_
  intro p e s m args below meth c s₁ Bd hml0 hP hK
  obtain ⟨rfl, hZ, hh⟩ := hP
  have hx := Bd.exec
  have hby := Bd.bytes
  have hml : c.maxLocals = 3 := hml0
  have hown : s.vm.findClass "com/example/tote/tote/storage/OffsetIndex" = some m.cls := findClass_of_methodNamed Bd.named
  have hnm := (name_of_methodNamed Bd.named Bd.method).1
  have hret := Bd.returns
  have hlk : meth.locks = false := BodyLoose.notSynchronized Bd
  have X0 : Stand p l e ({ frames := 0, cells := 0, slots := 0, locals := 0 } : Room) s m #[(.ref a1), (.long q2)] below meth c s₁ [] 0 0 := Stand.of_body Bd
  have e0 : s₁.heap = h0 := by rw [← hh, Bd.state]; rfl
  have N0 := Fr.nil n0
  have W := fun (k : Nat) {d : Jvm.Cond} (h : tables_1[k]? = some d) => hw d (List.mem_of_getElem? h)
  have K0 : Keep h0 h0 [a1] := Keep.refl _ _
  refine own_start (ef_8 m a1 q2) ?_
  show own_Run p e below _ s₁ (mkF m 0 #[.val (.ref a1), .val (.long q2), .second] [])
  rcases hp with ⟨hz0, hz1, rfl⟩ | ⟨hz0, hz1, rfl⟩ | ⟨hz0, hz1, rfl⟩
  · show own_Run p e below _ s₁ (mkF m 0 #[.val (.ref a1), .val (.long q2), .second] [])
    refine own_go (fun _ k => XS.aloadN X0.here hx rfl (hb hby d8_0) rfl rfl k) ?_
    show own_Run p e below _ s₁ (mkF m 1 #[.val (.ref a1), .val (.long q2), .second] [(.ref a1)])
    obtain ⟨T155, X155, e155, st155⟩ := getF X0 hx hZ hown (host := "") (Or.inl (W 30 rfl)) Via.refl e0 F_mCount_a1 (g := (mkF m 1 #[.val (.ref a1), .val (.long q2), .second] [(.ref a1)])) rfl rfl (hb hby d8_1)
    refine own_go st155 ?_
    show own_Run p e below _ T155 (mkF m 4 #[.val (.ref a1), .val (.long q2), .second] [(.int (2 : Int32))])
    refine own_go (fun _ k => XS.ifNo X155.here hx rfl (hb hby d8_4) rfl ((if0 _ _).trans (tlt (by decide : (0 : Int32) < (2 : Int32))).2.2.2) k) ?_
    show own_Run p e below _ T155 (mkF m 7 #[.val (.ref a1), .val (.long q2), .second] [])
    refine own_go (fun _ k => XS.aloadN X155.here hx rfl (hb hby d8_7) rfl rfl k) ?_
    show own_Run p e below _ T155 (mkF m 8 #[.val (.ref a1), .val (.long q2), .second] [(.ref a1)])
    obtain ⟨T156, X156, e156, st156⟩ := getF X155 hx hZ hown (host := "") (Or.inl (W 14 rfl)) Via.refl e155 F_mPositions_a1 (g := (mkF m 8 #[.val (.ref a1), .val (.long q2), .second] [(.ref a1)])) rfl rfl (hb hby d8_8)
    refine own_go st156 ?_
    show own_Run p e below _ T156 (mkF m 11 #[.val (.ref a1), .val (.long q2), .second] [(.ref b2)])
    refine own_go (fun _ k => XS.aloadN X156.here hx rfl (hb hby d8_11) rfl rfl k) ?_
    show own_Run p e below _ T156 (mkF m 12 #[.val (.ref a1), .val (.long q2), .second] [(.ref a1), (.ref b2)])
    obtain ⟨T157, X157, e157, st157⟩ := getF X156 hx hZ hown (host := "") (Or.inl (W 30 rfl)) Via.refl e156 F_mCount_a1 (g := (mkF m 12 #[.val (.ref a1), .val (.long q2), .second] [(.ref a1), (.ref b2)])) rfl rfl (hb hby d8_12)
    refine own_go st157 ?_
    show own_Run p e below _ T157 (mkF m 15 #[.val (.ref a1), .val (.long q2), .second] [(.int (2 : Int32)), (.ref b2)])
    refine own_go (fun _ k => XS.iconst X157.here hx rfl (hb hby d8_15) k) ?_
    refine own_go (fun _ k => XS.isub X157.here hx rfl (hb hby d8_16) rfl k) ?_
    show own_Run p e below _ T157 (mkF m 17 #[.val (.ref a1), .val (.long q2), .second] [(.int ((2 : Int32) - (1 : Int32))), (.ref b2)])
    rw [show ((2 : Int32) - (1 : Int32)) = (1 : Int32) by decide]
    show own_Run p e below _ T157 (mkF m 17 #[.val (.ref a1), .val (.long q2), .second] [(.int (1 : Int32)), (.ref b2)])
    obtain ⟨cl158, Ar158, q158, S158, N158, H158, G158⟩ := id V_b2
    have hin158 : ¬ ((1 : Int32) < 0 ∨ cl158.slots.size ≤ ((1 : Int32)).toNatClampNeg) := inb_of S158 ⟨by decide, by decide⟩
    refine own_go (X157.iaload hx (j := (1 : Int32)) (v := (.int y1)) (by rw [e157]; exact Ar158.1) (State.isArrayOf_alike hZ.alike Ar158.2.1) Ar158.2.2 hin158 (H158.at hin158 rfl) (g := (mkF m 17 #[.val (.ref a1), .val (.long q2), .second] [(.int (1 : Int32)), (.ref b2)])) rfl rfl (hb hby d8_17)) ?_
    show own_Run p e below _ T157 (mkF m 18 #[.val (.ref a1), .val (.long q2), .second] [(.int y1)])
    refine own_go (fun _ k => XS.i2l X157.here hx rfl (hb hby d8_18) rfl k) ?_
    refine own_go (fun _ k => XS.lloadN X157.here hx rfl (hb hby d8_19) rfl k) ?_
    refine own_go (fun _ k => XS.lcmp X157.here hx rfl (hb hby d8_20) rfl k) ?_
    show own_Run p e below _ T157 (mkF m 21 #[.val (.ref a1), .val (.long q2), .second] [(.int (lcmpW (y1.toInt64) q2))])
    refine own_go (fun _ k => XS.ifNo X157.here hx rfl (hb hby d8_21) rfl (own_lcF hz1).1 k) ?_
    show own_Run p e below _ T157 (mkF m 24 #[.val (.ref a1), .val (.long q2), .second] [])
    refine own_go (fun _ k => XS.aloadN X157.here hx rfl (hb hby d8_24) rfl rfl k) ?_
    refine own_go (fun _ k => XS.dup X157.here hx rfl (hb hby d8_25) rfl rfl k) ?_
    show own_Run p e below _ T157 (mkF m 26 #[.val (.ref a1), .val (.long q2), .second] [(.ref a1), (.ref a1)])
    obtain ⟨T159, X159, e159, st159⟩ := getF X157 hx hZ hown (host := "") (Or.inl (W 30 rfl)) Via.refl e157 F_mCount_a1 (g := (mkF m 26 #[.val (.ref a1), .val (.long q2), .second] [(.ref a1), (.ref a1)])) rfl rfl (hb hby d8_26)
    refine own_go st159 ?_
    show own_Run p e below _ T159 (mkF m 29 #[.val (.ref a1), .val (.long q2), .second] [(.int (2 : Int32)), (.ref a1)])
    refine own_go (fun _ k => XS.iconst X159.here hx rfl (hb hby d8_29) k) ?_
    refine own_go (fun _ k => XS.isub X159.here hx rfl (hb hby d8_30) rfl k) ?_
    show own_Run p e below _ T159 (mkF m 31 #[.val (.ref a1), .val (.long q2), .second] [(.int ((2 : Int32) - (1 : Int32))), (.ref a1)])
    rw [show ((2 : Int32) - (1 : Int32)) = (1 : Int32) by decide]
    show own_Run p e below _ T159 (mkF m 31 #[.val (.ref a1), .val (.long q2), .second] [(.int (1 : Int32)), (.ref a1)])
    obtain ⟨T160, h160, X160, e160, W160, st160⟩ := putF X159 hx hZ hown (host := "") (Or.inl (W 30 rfl)) Via.refl e159 F_mCount_a1 E_a1 (Or.inl (W 31 rfl)) (W 3 rfl) (ty := .int) (by decide) rfl rfl (g := (mkF m 31 #[.val (.ref a1), .val (.long q2), .second] [(.int (1 : Int32)), (.ref a1)])) rfl rfl (hb hby d8_31)
    refine own_go st160 ?_
    show own_Run p e below _ T160 (mkF m 34 #[.val (.ref a1), .val (.long q2), .second] [])
    have Z0_c161 := Nat.le_trans Z0 (Keep.of_wr W160).1
    have K0_c161 := K0.wr W160 (Or.inl (List.mem_of_getElem? (i := 0) rfl))
    have E_a1_c161 := E_a1.wr W160
    have F_mOffsets_a1_c161 := F_mOffsets_a1.other W160 (Or.inr (slot_ne (Or.inl (W 13 rfl)) (Or.inl (W 31 rfl)) (by decide) (t := (.array .int)) (t' := .int) (by decide) (by decide)))
    have F_mPositions_a1_c161 := F_mPositions_a1.other W160 (Or.inr (slot_ne (Or.inl (W 15 rfl)) (Or.inl (W 31 rfl)) (by decide) (t := (.array .int)) (t' := .int) (by decide) (by decide)))
    have F_mMaxTimestamp_a1_c161 := F_mMaxTimestamp_a1.other W160 (Or.inr (slot_ne (Or.inl (W 20 rfl)) (Or.inl (W 31 rfl)) (by decide) (t := .long) (t' := .int) (by decide) (by decide)))
    have F_mBaseOffset_a1_c161 := F_mBaseOffset_a1.other W160 (Or.inr (slot_ne (Or.inr (W 22 rfl)) (Or.inl (W 31 rfl)) (by decide) (t := .long) (t' := .int) (by decide) (by decide)))
    have V_b2_c161 := V_b2.other W160 (Ne.symm ne_a1_b2)
    have F_mCount_a1_c160 : Fld Z h160 a1 "com/example/tote/tote/storage/OffsetIndex" "mCount" "I" (.int (1 : Int32)) := F_mCount_a1.same W160
    have N160 := Fr.snoc X160 N0 g_a1
    refine own_go (fun _ k => XS.goto X160.here hx rfl (pc0 := 34) (pc' := 0) rfl (hb hby d8_34) (by decide) (by decide) k) ?_
    refine own_go (fun _ k => XS.aloadN X160.here hx rfl (hb hby d8_0) rfl rfl k) ?_
    show own_Run p e below _ T160 (mkF m 1 #[.val (.ref a1), .val (.long q2), .second] [(.ref a1)])
    obtain ⟨T162, X162, e162, st162⟩ := getF X160 hx hZ hown (host := "") (Or.inl (W 30 rfl)) Via.refl e160 F_mCount_a1_c160 (g := (mkF m 1 #[.val (.ref a1), .val (.long q2), .second] [(.ref a1)])) rfl rfl (hb hby d8_1)
    refine own_go st162 ?_
    show own_Run p e below _ T162 (mkF m 4 #[.val (.ref a1), .val (.long q2), .second] [(.int (1 : Int32))])
    refine own_go (fun _ k => XS.ifNo X162.here hx rfl (hb hby d8_4) rfl ((if0 _ _).trans (tlt (by decide : (0 : Int32) < (1 : Int32))).2.2.2) k) ?_
    show own_Run p e below _ T162 (mkF m 7 #[.val (.ref a1), .val (.long q2), .second] [])
    refine own_go (fun _ k => XS.aloadN X162.here hx rfl (hb hby d8_7) rfl rfl k) ?_
    show own_Run p e below _ T162 (mkF m 8 #[.val (.ref a1), .val (.long q2), .second] [(.ref a1)])
    obtain ⟨T163, X163, e163, st163⟩ := getF X162 hx hZ hown (host := "") (Or.inl (W 14 rfl)) Via.refl e162 F_mPositions_a1_c161 (g := (mkF m 8 #[.val (.ref a1), .val (.long q2), .second] [(.ref a1)])) rfl rfl (hb hby d8_8)
    refine own_go st163 ?_
    show own_Run p e below _ T163 (mkF m 11 #[.val (.ref a1), .val (.long q2), .second] [(.ref b2)])
    refine own_go (fun _ k => XS.aloadN X163.here hx rfl (hb hby d8_11) rfl rfl k) ?_
    show own_Run p e below _ T163 (mkF m 12 #[.val (.ref a1), .val (.long q2), .second] [(.ref a1), (.ref b2)])
    obtain ⟨T164, X164, e164, st164⟩ := getF X163 hx hZ hown (host := "") (Or.inl (W 30 rfl)) Via.refl e163 F_mCount_a1_c160 (g := (mkF m 12 #[.val (.ref a1), .val (.long q2), .second] [(.ref a1), (.ref b2)])) rfl rfl (hb hby d8_12)
    refine own_go st164 ?_
    show own_Run p e below _ T164 (mkF m 15 #[.val (.ref a1), .val (.long q2), .second] [(.int (1 : Int32)), (.ref b2)])
    refine own_go (fun _ k => XS.iconst X164.here hx rfl (hb hby d8_15) k) ?_
    refine own_go (fun _ k => XS.isub X164.here hx rfl (hb hby d8_16) rfl k) ?_
    show own_Run p e below _ T164 (mkF m 17 #[.val (.ref a1), .val (.long q2), .second] [(.int ((1 : Int32) - (1 : Int32))), (.ref b2)])
    rw [show ((1 : Int32) - (1 : Int32)) = (0 : Int32) by decide]
    show own_Run p e below _ T164 (mkF m 17 #[.val (.ref a1), .val (.long q2), .second] [(.int (0 : Int32)), (.ref b2)])
    obtain ⟨cl165, Ar165, q165, S165, N165, H165, G165⟩ := id V_b2_c161
    have hin165 : ¬ ((0 : Int32) < 0 ∨ cl165.slots.size ≤ ((0 : Int32)).toNatClampNeg) := inb_of S165 ⟨by decide, by decide⟩
    refine own_go (X164.iaload hx (j := (0 : Int32)) (v := (.int y0)) (by rw [e164]; exact Ar165.1) (State.isArrayOf_alike hZ.alike Ar165.2.1) Ar165.2.2 hin165 (H165.at hin165 rfl) (g := (mkF m 17 #[.val (.ref a1), .val (.long q2), .second] [(.int (0 : Int32)), (.ref b2)])) rfl rfl (hb hby d8_17)) ?_
    show own_Run p e below _ T164 (mkF m 18 #[.val (.ref a1), .val (.long q2), .second] [(.int y0)])
    refine own_go (fun _ k => XS.i2l X164.here hx rfl (hb hby d8_18) rfl k) ?_
    refine own_go (fun _ k => XS.lloadN X164.here hx rfl (hb hby d8_19) rfl k) ?_
    refine own_go (fun _ k => XS.lcmp X164.here hx rfl (hb hby d8_20) rfl k) ?_
    show own_Run p e below _ T164 (mkF m 21 #[.val (.ref a1), .val (.long q2), .second] [(.int (lcmpW (y0.toInt64) q2))])
    refine own_go (fun _ k => XS.ifNo X164.here hx rfl (hb hby d8_21) rfl (own_lcF hz0).1 k) ?_
    show own_Run p e below _ T164 (mkF m 24 #[.val (.ref a1), .val (.long q2), .second] [])
    refine own_go (fun _ k => XS.aloadN X164.here hx rfl (hb hby d8_24) rfl rfl k) ?_
    refine own_go (fun _ k => XS.dup X164.here hx rfl (hb hby d8_25) rfl rfl k) ?_
    show own_Run p e below _ T164 (mkF m 26 #[.val (.ref a1), .val (.long q2), .second] [(.ref a1), (.ref a1)])
    obtain ⟨T166, X166, e166, st166⟩ := getF X164 hx hZ hown (host := "") (Or.inl (W 30 rfl)) Via.refl e164 F_mCount_a1_c160 (g := (mkF m 26 #[.val (.ref a1), .val (.long q2), .second] [(.ref a1), (.ref a1)])) rfl rfl (hb hby d8_26)
    refine own_go st166 ?_
    show own_Run p e below _ T166 (mkF m 29 #[.val (.ref a1), .val (.long q2), .second] [(.int (1 : Int32)), (.ref a1)])
    refine own_go (fun _ k => XS.iconst X166.here hx rfl (hb hby d8_29) k) ?_
    refine own_go (fun _ k => XS.isub X166.here hx rfl (hb hby d8_30) rfl k) ?_
    show own_Run p e below _ T166 (mkF m 31 #[.val (.ref a1), .val (.long q2), .second] [(.int ((1 : Int32) - (1 : Int32))), (.ref a1)])
    rw [show ((1 : Int32) - (1 : Int32)) = (0 : Int32) by decide]
    show own_Run p e below _ T166 (mkF m 31 #[.val (.ref a1), .val (.long q2), .second] [(.int (0 : Int32)), (.ref a1)])
    obtain ⟨T167, h167, X167, e167, W167, st167⟩ := putF X166 hx hZ hown (host := "") (Or.inl (W 30 rfl)) Via.refl e166 F_mCount_a1_c160 E_a1_c161 (Or.inl (W 31 rfl)) (W 3 rfl) (ty := .int) (by decide) rfl rfl (g := (mkF m 31 #[.val (.ref a1), .val (.long q2), .second] [(.int (0 : Int32)), (.ref a1)])) rfl rfl (hb hby d8_31)
    refine own_go st167 ?_
    show own_Run p e below _ T167 (mkF m 34 #[.val (.ref a1), .val (.long q2), .second] [])
    have Z0_c168 := Nat.le_trans Z0_c161 (Keep.of_wr W167).1
    have K0_c168 := K0_c161.wr W167 (Or.inl (List.mem_of_getElem? (i := 0) rfl))
    have E_a1_c168 := E_a1_c161.wr W167
    have F_mOffsets_a1_c168 := F_mOffsets_a1_c161.other W167 (Or.inr (slot_ne (Or.inl (W 13 rfl)) (Or.inl (W 31 rfl)) (by decide) (t := (.array .int)) (t' := .int) (by decide) (by decide)))
    have F_mPositions_a1_c168 := F_mPositions_a1_c161.other W167 (Or.inr (slot_ne (Or.inl (W 15 rfl)) (Or.inl (W 31 rfl)) (by decide) (t := (.array .int)) (t' := .int) (by decide) (by decide)))
    have F_mMaxTimestamp_a1_c168 := F_mMaxTimestamp_a1_c161.other W167 (Or.inr (slot_ne (Or.inl (W 20 rfl)) (Or.inl (W 31 rfl)) (by decide) (t := .long) (t' := .int) (by decide) (by decide)))
    have F_mBaseOffset_a1_c168 := F_mBaseOffset_a1_c161.other W167 (Or.inr (slot_ne (Or.inr (W 22 rfl)) (Or.inl (W 31 rfl)) (by decide) (t := .long) (t' := .int) (by decide) (by decide)))
    have V_b2_c168 := V_b2_c161.other W167 (Ne.symm ne_a1_b2)
    have F_mCount_a1_c167 : Fld Z h167 a1 "com/example/tote/tote/storage/OffsetIndex" "mCount" "I" (.int (0 : Int32)) := F_mCount_a1_c160.same W167
    have N167 := Fr.snoc X167 N160 g_a1
    refine own_go (fun _ k => XS.goto X167.here hx rfl (pc0 := 34) (pc' := 0) rfl (hb hby d8_34) (by decide) (by decide) k) ?_
    refine own_go (fun _ k => XS.aloadN X167.here hx rfl (hb hby d8_0) rfl rfl k) ?_
    show own_Run p e below _ T167 (mkF m 1 #[.val (.ref a1), .val (.long q2), .second] [(.ref a1)])
    obtain ⟨T169, X169, e169, st169⟩ := getF X167 hx hZ hown (host := "") (Or.inl (W 30 rfl)) Via.refl e167 F_mCount_a1_c167 (g := (mkF m 1 #[.val (.ref a1), .val (.long q2), .second] [(.ref a1)])) rfl rfl (hb hby d8_1)
    refine own_go st169 ?_
    show own_Run p e below _ T169 (mkF m 4 #[.val (.ref a1), .val (.long q2), .second] [(.int (0 : Int32))])
    refine own_go (fun _ k => XS.ifYes X169.here hx rfl (pc0 := 4) (pc' := 37) rfl (hb hby d8_4) rfl ((if0 _ _).trans (flt (by decide : ¬ ((0 : Int32) < (0 : Int32)))).2.2.2) (by decide) (by decide) k) ?_
    show own_Run p e below _ T169 (mkF m 37 #[.val (.ref a1), .val (.long q2), .second] [])
    refine own_done (Q := fun v h L => Q8n2 Z a1 q2 b1 b2 k2 mx ba y0 y1 y2 (0 : Int32) h0 n0 v h L) (v := none) X169 (fun _ => rfl) hlk (fun fs hr => X169.returnOut hx hret (hb hby d8_37) hr) ?_ (by decide) (by decide)
    show Q8n2 Z a1 q2 b1 b2 k2 mx ba y0 y1 y2 (0 : Int32) h0 n0 _ T169.heap _
    rw [e169]
    exact ⟨rfl, N167, K0_c168, E_a1_c168, F_mOffsets_a1_c168, F_mPositions_a1_c168, F_mMaxTimestamp_a1_c168, F_mBaseOffset_a1_c168, F_mCount_a1_c167⟩
  · show own_Run p e below _ s₁ (mkF m 0 #[.val (.ref a1), .val (.long q2), .second] [])
    refine own_go (fun _ k => XS.aloadN X0.here hx rfl (hb hby d8_0) rfl rfl k) ?_
    show own_Run p e below _ s₁ (mkF m 1 #[.val (.ref a1), .val (.long q2), .second] [(.ref a1)])
    obtain ⟨T170, X170, e170, st170⟩ := getF X0 hx hZ hown (host := "") (Or.inl (W 30 rfl)) Via.refl e0 F_mCount_a1 (g := (mkF m 1 #[.val (.ref a1), .val (.long q2), .second] [(.ref a1)])) rfl rfl (hb hby d8_1)
    refine own_go st170 ?_
    show own_Run p e below _ T170 (mkF m 4 #[.val (.ref a1), .val (.long q2), .second] [(.int (2 : Int32))])
    refine own_go (fun _ k => XS.ifNo X170.here hx rfl (hb hby d8_4) rfl ((if0 _ _).trans (tlt (by decide : (0 : Int32) < (2 : Int32))).2.2.2) k) ?_
    show own_Run p e below _ T170 (mkF m 7 #[.val (.ref a1), .val (.long q2), .second] [])
    refine own_go (fun _ k => XS.aloadN X170.here hx rfl (hb hby d8_7) rfl rfl k) ?_
    show own_Run p e below _ T170 (mkF m 8 #[.val (.ref a1), .val (.long q2), .second] [(.ref a1)])
    obtain ⟨T171, X171, e171, st171⟩ := getF X170 hx hZ hown (host := "") (Or.inl (W 14 rfl)) Via.refl e170 F_mPositions_a1 (g := (mkF m 8 #[.val (.ref a1), .val (.long q2), .second] [(.ref a1)])) rfl rfl (hb hby d8_8)
    refine own_go st171 ?_
    show own_Run p e below _ T171 (mkF m 11 #[.val (.ref a1), .val (.long q2), .second] [(.ref b2)])
    refine own_go (fun _ k => XS.aloadN X171.here hx rfl (hb hby d8_11) rfl rfl k) ?_
    show own_Run p e below _ T171 (mkF m 12 #[.val (.ref a1), .val (.long q2), .second] [(.ref a1), (.ref b2)])
    obtain ⟨T172, X172, e172, st172⟩ := getF X171 hx hZ hown (host := "") (Or.inl (W 30 rfl)) Via.refl e171 F_mCount_a1 (g := (mkF m 12 #[.val (.ref a1), .val (.long q2), .second] [(.ref a1), (.ref b2)])) rfl rfl (hb hby d8_12)
    refine own_go st172 ?_
    show own_Run p e below _ T172 (mkF m 15 #[.val (.ref a1), .val (.long q2), .second] [(.int (2 : Int32)), (.ref b2)])
    refine own_go (fun _ k => XS.iconst X172.here hx rfl (hb hby d8_15) k) ?_
    refine own_go (fun _ k => XS.isub X172.here hx rfl (hb hby d8_16) rfl k) ?_
    show own_Run p e below _ T172 (mkF m 17 #[.val (.ref a1), .val (.long q2), .second] [(.int ((2 : Int32) - (1 : Int32))), (.ref b2)])
    rw [show ((2 : Int32) - (1 : Int32)) = (1 : Int32) by decide]
    show own_Run p e below _ T172 (mkF m 17 #[.val (.ref a1), .val (.long q2), .second] [(.int (1 : Int32)), (.ref b2)])
    obtain ⟨cl173, Ar173, q173, S173, N173, H173, G173⟩ := id V_b2
    have hin173 : ¬ ((1 : Int32) < 0 ∨ cl173.slots.size ≤ ((1 : Int32)).toNatClampNeg) := inb_of S173 ⟨by decide, by decide⟩
    refine own_go (X172.iaload hx (j := (1 : Int32)) (v := (.int y1)) (by rw [e172]; exact Ar173.1) (State.isArrayOf_alike hZ.alike Ar173.2.1) Ar173.2.2 hin173 (H173.at hin173 rfl) (g := (mkF m 17 #[.val (.ref a1), .val (.long q2), .second] [(.int (1 : Int32)), (.ref b2)])) rfl rfl (hb hby d8_17)) ?_
    show own_Run p e below _ T172 (mkF m 18 #[.val (.ref a1), .val (.long q2), .second] [(.int y1)])
    refine own_go (fun _ k => XS.i2l X172.here hx rfl (hb hby d8_18) rfl k) ?_
    refine own_go (fun _ k => XS.lloadN X172.here hx rfl (hb hby d8_19) rfl k) ?_
    refine own_go (fun _ k => XS.lcmp X172.here hx rfl (hb hby d8_20) rfl k) ?_
    show own_Run p e below _ T172 (mkF m 21 #[.val (.ref a1), .val (.long q2), .second] [(.int (lcmpW (y1.toInt64) q2))])
    refine own_go (fun _ k => XS.ifNo X172.here hx rfl (hb hby d8_21) rfl (own_lcF hz1).1 k) ?_
    show own_Run p e below _ T172 (mkF m 24 #[.val (.ref a1), .val (.long q2), .second] [])
    refine own_go (fun _ k => XS.aloadN X172.here hx rfl (hb hby d8_24) rfl rfl k) ?_
    refine own_go (fun _ k => XS.dup X172.here hx rfl (hb hby d8_25) rfl rfl k) ?_
    show own_Run p e below _ T172 (mkF m 26 #[.val (.ref a1), .val (.long q2), .second] [(.ref a1), (.ref a1)])
    obtain ⟨T174, X174, e174, st174⟩ := getF X172 hx hZ hown (host := "") (Or.inl (W 30 rfl)) Via.refl e172 F_mCount_a1 (g := (mkF m 26 #[.val (.ref a1), .val (.long q2), .second] [(.ref a1), (.ref a1)])) rfl rfl (hb hby d8_26)
    refine own_go st174 ?_
    show own_Run p e below _ T174 (mkF m 29 #[.val (.ref a1), .val (.long q2), .second] [(.int (2 : Int32)), (.ref a1)])
    refine own_go (fun _ k => XS.iconst X174.here hx rfl (hb hby d8_29) k) ?_
    refine own_go (fun _ k => XS.isub X174.here hx rfl (hb hby d8_30) rfl k) ?_
    show own_Run p e below _ T174 (mkF m 31 #[.val (.ref a1), .val (.long q2), .second] [(.int ((2 : Int32) - (1 : Int32))), (.ref a1)])
    rw [show ((2 : Int32) - (1 : Int32)) = (1 : Int32) by decide]
    show own_Run p e below _ T174 (mkF m 31 #[.val (.ref a1), .val (.long q2), .second] [(.int (1 : Int32)), (.ref a1)])
    obtain ⟨T175, h175, X175, e175, W175, st175⟩ := putF X174 hx hZ hown (host := "") (Or.inl (W 30 rfl)) Via.refl e174 F_mCount_a1 E_a1 (Or.inl (W 31 rfl)) (W 3 rfl) (ty := .int) (by decide) rfl rfl (g := (mkF m 31 #[.val (.ref a1), .val (.long q2), .second] [(.int (1 : Int32)), (.ref a1)])) rfl rfl (hb hby d8_31)
    refine own_go st175 ?_
    show own_Run p e below _ T175 (mkF m 34 #[.val (.ref a1), .val (.long q2), .second] [])
    have Z0_c176 := Nat.le_trans Z0 (Keep.of_wr W175).1
    have K0_c176 := K0.wr W175 (Or.inl (List.mem_of_getElem? (i := 0) rfl))
    have E_a1_c176 := E_a1.wr W175
    have F_mOffsets_a1_c176 := F_mOffsets_a1.other W175 (Or.inr (slot_ne (Or.inl (W 13 rfl)) (Or.inl (W 31 rfl)) (by decide) (t := (.array .int)) (t' := .int) (by decide) (by decide)))
    have F_mPositions_a1_c176 := F_mPositions_a1.other W175 (Or.inr (slot_ne (Or.inl (W 15 rfl)) (Or.inl (W 31 rfl)) (by decide) (t := (.array .int)) (t' := .int) (by decide) (by decide)))
    have F_mMaxTimestamp_a1_c176 := F_mMaxTimestamp_a1.other W175 (Or.inr (slot_ne (Or.inl (W 20 rfl)) (Or.inl (W 31 rfl)) (by decide) (t := .long) (t' := .int) (by decide) (by decide)))
    have F_mBaseOffset_a1_c176 := F_mBaseOffset_a1.other W175 (Or.inr (slot_ne (Or.inr (W 22 rfl)) (Or.inl (W 31 rfl)) (by decide) (t := .long) (t' := .int) (by decide) (by decide)))
    have V_b2_c176 := V_b2.other W175 (Ne.symm ne_a1_b2)
    have F_mCount_a1_c175 : Fld Z h175 a1 "com/example/tote/tote/storage/OffsetIndex" "mCount" "I" (.int (1 : Int32)) := F_mCount_a1.same W175
    have N175 := Fr.snoc X175 N0 g_a1
    refine own_go (fun _ k => XS.goto X175.here hx rfl (pc0 := 34) (pc' := 0) rfl (hb hby d8_34) (by decide) (by decide) k) ?_
    refine own_go (fun _ k => XS.aloadN X175.here hx rfl (hb hby d8_0) rfl rfl k) ?_
    show own_Run p e below _ T175 (mkF m 1 #[.val (.ref a1), .val (.long q2), .second] [(.ref a1)])
    obtain ⟨T177, X177, e177, st177⟩ := getF X175 hx hZ hown (host := "") (Or.inl (W 30 rfl)) Via.refl e175 F_mCount_a1_c175 (g := (mkF m 1 #[.val (.ref a1), .val (.long q2), .second] [(.ref a1)])) rfl rfl (hb hby d8_1)
    refine own_go st177 ?_
    show own_Run p e below _ T177 (mkF m 4 #[.val (.ref a1), .val (.long q2), .second] [(.int (1 : Int32))])
    refine own_go (fun _ k => XS.ifNo X177.here hx rfl (hb hby d8_4) rfl ((if0 _ _).trans (tlt (by decide : (0 : Int32) < (1 : Int32))).2.2.2) k) ?_
    show own_Run p e below _ T177 (mkF m 7 #[.val (.ref a1), .val (.long q2), .second] [])
    refine own_go (fun _ k => XS.aloadN X177.here hx rfl (hb hby d8_7) rfl rfl k) ?_
    show own_Run p e below _ T177 (mkF m 8 #[.val (.ref a1), .val (.long q2), .second] [(.ref a1)])
    obtain ⟨T178, X178, e178, st178⟩ := getF X177 hx hZ hown (host := "") (Or.inl (W 14 rfl)) Via.refl e177 F_mPositions_a1_c176 (g := (mkF m 8 #[.val (.ref a1), .val (.long q2), .second] [(.ref a1)])) rfl rfl (hb hby d8_8)
    refine own_go st178 ?_
    show own_Run p e below _ T178 (mkF m 11 #[.val (.ref a1), .val (.long q2), .second] [(.ref b2)])
    refine own_go (fun _ k => XS.aloadN X178.here hx rfl (hb hby d8_11) rfl rfl k) ?_
    show own_Run p e below _ T178 (mkF m 12 #[.val (.ref a1), .val (.long q2), .second] [(.ref a1), (.ref b2)])
    obtain ⟨T179, X179, e179, st179⟩ := getF X178 hx hZ hown (host := "") (Or.inl (W 30 rfl)) Via.refl e178 F_mCount_a1_c175 (g := (mkF m 12 #[.val (.ref a1), .val (.long q2), .second] [(.ref a1), (.ref b2)])) rfl rfl (hb hby d8_12)
    refine own_go st179 ?_
    show own_Run p e below _ T179 (mkF m 15 #[.val (.ref a1), .val (.long q2), .second] [(.int (1 : Int32)), (.ref b2)])
    refine own_go (fun _ k => XS.iconst X179.here hx rfl (hb hby d8_15) k) ?_
    refine own_go (fun _ k => XS.isub X179.here hx rfl (hb hby d8_16) rfl k) ?_
    show own_Run p e below _ T179 (mkF m 17 #[.val (.ref a1), .val (.long q2), .second] [(.int ((1 : Int32) - (1 : Int32))), (.ref b2)])
    rw [show ((1 : Int32) - (1 : Int32)) = (0 : Int32) by decide]
    show own_Run p e below _ T179 (mkF m 17 #[.val (.ref a1), .val (.long q2), .second] [(.int (0 : Int32)), (.ref b2)])
    obtain ⟨cl180, Ar180, q180, S180, N180, H180, G180⟩ := id V_b2_c176
    have hin180 : ¬ ((0 : Int32) < 0 ∨ cl180.slots.size ≤ ((0 : Int32)).toNatClampNeg) := inb_of S180 ⟨by decide, by decide⟩
    refine own_go (X179.iaload hx (j := (0 : Int32)) (v := (.int y0)) (by rw [e179]; exact Ar180.1) (State.isArrayOf_alike hZ.alike Ar180.2.1) Ar180.2.2 hin180 (H180.at hin180 rfl) (g := (mkF m 17 #[.val (.ref a1), .val (.long q2), .second] [(.int (0 : Int32)), (.ref b2)])) rfl rfl (hb hby d8_17)) ?_
    show own_Run p e below _ T179 (mkF m 18 #[.val (.ref a1), .val (.long q2), .second] [(.int y0)])
    refine own_go (fun _ k => XS.i2l X179.here hx rfl (hb hby d8_18) rfl k) ?_
    refine own_go (fun _ k => XS.lloadN X179.here hx rfl (hb hby d8_19) rfl k) ?_
    refine own_go (fun _ k => XS.lcmp X179.here hx rfl (hb hby d8_20) rfl k) ?_
    show own_Run p e below _ T179 (mkF m 21 #[.val (.ref a1), .val (.long q2), .second] [(.int (lcmpW (y0.toInt64) q2))])
    refine own_go (fun _ k => XS.ifYes X179.here hx rfl (pc0 := 21) (pc' := 37) rfl (hb hby d8_21) rfl (own_lcT hz0).1 (by decide) (by decide) k) ?_
    show own_Run p e below _ T179 (mkF m 37 #[.val (.ref a1), .val (.long q2), .second] [])
    refine own_done (Q := fun v h L => Q8n2 Z a1 q2 b1 b2 k2 mx ba y0 y1 y2 (1 : Int32) h0 n0 v h L) (v := none) X179 (fun _ => rfl) hlk (fun fs hr => X179.returnOut hx hret (hb hby d8_37) hr) ?_ (by decide) (by decide)
    show Q8n2 Z a1 q2 b1 b2 k2 mx ba y0 y1 y2 (1 : Int32) h0 n0 _ T179.heap _
    rw [e179]
    exact ⟨rfl, N175, K0_c176, E_a1_c176, F_mOffsets_a1_c176, F_mPositions_a1_c176, F_mMaxTimestamp_a1_c176, F_mBaseOffset_a1_c176, F_mCount_a1_c175⟩
  · show own_Run p e below _ s₁ (mkF m 0 #[.val (.ref a1), .val (.long q2), .second] [])
    refine own_go (fun _ k => XS.aloadN X0.here hx rfl (hb hby d8_0) rfl rfl k) ?_
    show own_Run p e below _ s₁ (mkF m 1 #[.val (.ref a1), .val (.long q2), .second] [(.ref a1)])
    obtain ⟨T181, X181, e181, st181⟩ := getF X0 hx hZ hown (host := "") (Or.inl (W 30 rfl)) Via.refl e0 F_mCount_a1 (g := (mkF m 1 #[.val (.ref a1), .val (.long q2), .second] [(.ref a1)])) rfl rfl (hb hby d8_1)
    refine own_go st181 ?_
    show own_Run p e below _ T181 (mkF m 4 #[.val (.ref a1), .val (.long q2), .second] [(.int (2 : Int32))])
    refine own_go (fun _ k => XS.ifNo X181.here hx rfl (hb hby d8_4) rfl ((if0 _ _).trans (tlt (by decide : (0 : Int32) < (2 : Int32))).2.2.2) k) ?_
    show own_Run p e below _ T181 (mkF m 7 #[.val (.ref a1), .val (.long q2), .second] [])
    refine own_go (fun _ k => XS.aloadN X181.here hx rfl (hb hby d8_7) rfl rfl k) ?_
    show own_Run p e below _ T181 (mkF m 8 #[.val (.ref a1), .val (.long q2), .second] [(.ref a1)])
    obtain ⟨T182, X182, e182, st182⟩ := getF X181 hx hZ hown (host := "") (Or.inl (W 14 rfl)) Via.refl e181 F_mPositions_a1 (g := (mkF m 8 #[.val (.ref a1), .val (.long q2), .second] [(.ref a1)])) rfl rfl (hb hby d8_8)
    refine own_go st182 ?_
    show own_Run p e below _ T182 (mkF m 11 #[.val (.ref a1), .val (.long q2), .second] [(.ref b2)])
    refine own_go (fun _ k => XS.aloadN X182.here hx rfl (hb hby d8_11) rfl rfl k) ?_
    show own_Run p e below _ T182 (mkF m 12 #[.val (.ref a1), .val (.long q2), .second] [(.ref a1), (.ref b2)])
    obtain ⟨T183, X183, e183, st183⟩ := getF X182 hx hZ hown (host := "") (Or.inl (W 30 rfl)) Via.refl e182 F_mCount_a1 (g := (mkF m 12 #[.val (.ref a1), .val (.long q2), .second] [(.ref a1), (.ref b2)])) rfl rfl (hb hby d8_12)
    refine own_go st183 ?_
    show own_Run p e below _ T183 (mkF m 15 #[.val (.ref a1), .val (.long q2), .second] [(.int (2 : Int32)), (.ref b2)])
    refine own_go (fun _ k => XS.iconst X183.here hx rfl (hb hby d8_15) k) ?_
    refine own_go (fun _ k => XS.isub X183.here hx rfl (hb hby d8_16) rfl k) ?_
    show own_Run p e below _ T183 (mkF m 17 #[.val (.ref a1), .val (.long q2), .second] [(.int ((2 : Int32) - (1 : Int32))), (.ref b2)])
    rw [show ((2 : Int32) - (1 : Int32)) = (1 : Int32) by decide]
    show own_Run p e below _ T183 (mkF m 17 #[.val (.ref a1), .val (.long q2), .second] [(.int (1 : Int32)), (.ref b2)])
    obtain ⟨cl184, Ar184, q184, S184, N184, H184, G184⟩ := id V_b2
    have hin184 : ¬ ((1 : Int32) < 0 ∨ cl184.slots.size ≤ ((1 : Int32)).toNatClampNeg) := inb_of S184 ⟨by decide, by decide⟩
    refine own_go (X183.iaload hx (j := (1 : Int32)) (v := (.int y1)) (by rw [e183]; exact Ar184.1) (State.isArrayOf_alike hZ.alike Ar184.2.1) Ar184.2.2 hin184 (H184.at hin184 rfl) (g := (mkF m 17 #[.val (.ref a1), .val (.long q2), .second] [(.int (1 : Int32)), (.ref b2)])) rfl rfl (hb hby d8_17)) ?_
    show own_Run p e below _ T183 (mkF m 18 #[.val (.ref a1), .val (.long q2), .second] [(.int y1)])
    refine own_go (fun _ k => XS.i2l X183.here hx rfl (hb hby d8_18) rfl k) ?_
    refine own_go (fun _ k => XS.lloadN X183.here hx rfl (hb hby d8_19) rfl k) ?_
    refine own_go (fun _ k => XS.lcmp X183.here hx rfl (hb hby d8_20) rfl k) ?_
    show own_Run p e below _ T183 (mkF m 21 #[.val (.ref a1), .val (.long q2), .second] [(.int (lcmpW (y1.toInt64) q2))])
    refine own_go (fun _ k => XS.ifYes X183.here hx rfl (pc0 := 21) (pc' := 37) rfl (hb hby d8_21) rfl (own_lcT hz1).1 (by decide) (by decide) k) ?_
    show own_Run p e below _ T183 (mkF m 37 #[.val (.ref a1), .val (.long q2), .second] [])
    refine own_done (Q := fun v h L => Q8n2 Z a1 q2 b1 b2 k2 mx ba y0 y1 y2 (2 : Int32) h0 n0 v h L) (v := none) X183 (fun _ => rfl) hlk (fun fs hr => X183.returnOut hx hret (hb hby d8_37) hr) ?_ (by decide) (by decide)
    show Q8n2 Z a1 q2 b1 b2 k2 mx ba y0 y1 y2 (2 : Int32) h0 n0 _ T183.heap _
    rw [e183]
    exact ⟨rfl, N0, K0, E_a1, F_mOffsets_a1, F_mPositions_a1, F_mMaxTimestamp_a1, F_mBaseOffset_a1, F_mCount_a1⟩
def Q8n3 (Z : State) (a1 : Addr) (q2 : Int64) (b1 : Addr) (b2 : Addr) (k2 : ClassId) (mx : Int64) (ba : Int64) (y0 : Int32) (y1 : Int32) (y2 : Int32) (r : Int32) (h0 : Heap) (n0 : Nat) (v : Option Value) (h : Heap) (L : List Loc) : Prop := v = none ∧ Fr n0 L ∧ Keep h0 h [a1] ∧ Exa Z h a1 "com/example/tote/tote/storage/OffsetIndex" ∧ Fld Z h a1 "com/example/tote/tote/storage/OffsetIndex" "mOffsets" "[I" (.ref b1) ∧ Fld Z h a1 "com/example/tote/tote/storage/OffsetIndex" "mPositions" "[I" (.ref b2) ∧ Fld Z h a1 "com/example/tote/tote/storage/OffsetIndex" "mMaxTimestamp" "J" (.long mx) ∧ Fld Z h a1 "com/example/tote/tote/storage/OffsetIndex" "mBaseOffset" "J" (.long ba) ∧ Fld Z h a1 "com/example/tote/tote/storage/OffsetIndex" "mCount" "I" (.int r)
set_option maxRecDepth 65536 in
set_option maxHeartbeats 40000000 in
theorem rm8n3 (l : Launch) (Z : State) (a0 : Array Value) (hw : ∀ d ∈ tables_1, d.before a0 Z = true) (ws : List Jvm.Cond) (a1 : Addr) (q2 : Int64) (b1 : Addr) (b2 : Addr) (k2 : ClassId) (mx : Int64) (ba : Int64) (y0 : Int32) (y1 : Int32) (y2 : Int32) (r : Int32) (h0 : Heap) (n0 : Nat) (Z0 : n0 ≤ h0.size) (E_a1 : Exa Z h0 a1 "com/example/tote/tote/storage/OffsetIndex") (F_mOffsets_a1 : Fld Z h0 a1 "com/example/tote/tote/storage/OffsetIndex" "mOffsets" "[I" (.ref b1)) (F_mPositions_a1 : Fld Z h0 a1 "com/example/tote/tote/storage/OffsetIndex" "mPositions" "[I" (.ref b2)) (F_mMaxTimestamp_a1 : Fld Z h0 a1 "com/example/tote/tote/storage/OffsetIndex" "mMaxTimestamp" "J" (.long mx)) (F_mBaseOffset_a1 : Fld Z h0 a1 "com/example/tote/tote/storage/OffsetIndex" "mBaseOffset" "J" (.long ba)) (F_mCount_a1 : Fld Z h0 a1 "com/example/tote/tote/storage/OffsetIndex" "mCount" "I" (.int (3 : Int32))) (V_b2 : Arv Z h0 b2 k2 .int (16 : Int32) [(.int y0), (.int y1), (.int y2), (.int (0 : Int32)), (.int (0 : Int32)), (.int (0 : Int32)), (.int (0 : Int32)), (.int (0 : Int32)), (.int (0 : Int32)), (.int (0 : Int32)), (.int (0 : Int32)), (.int (0 : Int32)), (.int (0 : Int32)), (.int (0 : Int32)), (.int (0 : Int32)), (.int (0 : Int32))] (.int (0 : Int32))) (g_a1 : n0 ≤ a1) (ne_a1_b2 : a1 ≠ b2) (hp : (¬ ((y0.toInt64) < q2) ∧ ¬ ((y1.toInt64) < q2) ∧ ¬ ((y2.toInt64) < q2) ∧ r = (0 : Int32)) ∨ ((y0.toInt64) < q2 ∧ ¬ ((y1.toInt64) < q2) ∧ ¬ ((y2.toInt64) < q2) ∧ r = (1 : Int32)) ∨ ((y0.toInt64) < q2 ∧ (y1.toInt64) < q2 ∧ ¬ ((y2.toInt64) < q2) ∧ r = (2 : Int32)) ∨ ((y0.toInt64) < q2 ∧ (y1.toInt64) < q2 ∧ (y2.toInt64) < q2 ∧ r = (3 : Int32))) :
    MetFree l (⟨"com/example/tote/tote/storage/OffsetIndex", "cutBack", "(J)V"⟩ : MethodName) (head1 (Jvm.Cond.code (⟨"com/example/tote/tote/storage/OffsetIndex", "cutBack", "(J)V"⟩ : MethodName) prog_89_method_9_code 3 none :: ws) ({ frames := 0, cells := 0, slots := 0, locals := 0 } : Room)) (fun a U => a = #[(.ref a1), (.long q2)] ∧ Z.Warmed39 U.vm ∧ U.heap = h0) (fun _ _ _ _ _ => True) (fun _ U o U' => ∃ v L, o = .returned v ∧ Q8n3 Z a1 q2 b1 b2 k2 mx ba y0 y1 y2 r h0 n0 v U'.heap L ∧ FrameEnd U o U' L ({ frames := 0, cells := 0, slots := 0, locals := 0 } : Room).cells ({ frames := 0, cells := 0, slots := 0, locals := 0 } : Room).slots) := by
  refine MetFree.of_bodySF (plainFor_of_name pn_8) hisR ?_
  intro p e s m args below meth c s₁ Bd hml0 hP hK
  obtain ⟨rfl, hZ, hh⟩ := hP
  have hx := Bd.exec
  have hby := Bd.bytes
  have hml : c.maxLocals = 3 := hml0
  have hown : s.vm.findClass "com/example/tote/tote/storage/OffsetIndex" = some m.cls := findClass_of_methodNamed Bd.named
  have hnm := (name_of_methodNamed Bd.named Bd.method).1
  have hret := Bd.returns
  have hlk : meth.locks = false := BodyLoose.notSynchronized Bd
  have X0 : Stand p l e ({ frames := 0, cells := 0, slots := 0, locals := 0 } : Room) s m #[(.ref a1), (.long q2)] below meth c s₁ [] 0 0 := Stand.of_body Bd
  have e0 : s₁.heap = h0 := by rw [← hh, Bd.state]; rfl
  have N0 := Fr.nil n0
  have W := fun (k : Nat) {d : Jvm.Cond} (h : tables_1[k]? = some d) => hw d (List.mem_of_getElem? h)
  have K0 : Keep h0 h0 [a1] := Keep.refl _ _
  refine own_start (ef_8 m a1 q2) ?_
  show own_Run p e below _ s₁ (mkF m 0 #[.val (.ref a1), .val (.long q2), .second] [])
  rcases hp with ⟨hz0, hz1, hz2, rfl⟩ | ⟨hz0, hz1, hz2, rfl⟩ | ⟨hz0, hz1, hz2, rfl⟩ | ⟨hz0, hz1, hz2, rfl⟩
  · show own_Run p e below _ s₁ (mkF m 0 #[.val (.ref a1), .val (.long q2), .second] [])
    refine own_go (fun _ k => XS.aloadN X0.here hx rfl (hb hby d8_0) rfl rfl k) ?_
    show own_Run p e below _ s₁ (mkF m 1 #[.val (.ref a1), .val (.long q2), .second] [(.ref a1)])
    obtain ⟨T185, X185, e185, st185⟩ := getF X0 hx hZ hown (host := "") (Or.inl (W 30 rfl)) Via.refl e0 F_mCount_a1 (g := (mkF m 1 #[.val (.ref a1), .val (.long q2), .second] [(.ref a1)])) rfl rfl (hb hby d8_1)
    refine own_go st185 ?_
    show own_Run p e below _ T185 (mkF m 4 #[.val (.ref a1), .val (.long q2), .second] [(.int (3 : Int32))])
    refine own_go (fun _ k => XS.ifNo X185.here hx rfl (hb hby d8_4) rfl ((if0 _ _).trans (tlt (by decide : (0 : Int32) < (3 : Int32))).2.2.2) k) ?_
    show own_Run p e below _ T185 (mkF m 7 #[.val (.ref a1), .val (.long q2), .second] [])
    refine own_go (fun _ k => XS.aloadN X185.here hx rfl (hb hby d8_7) rfl rfl k) ?_
    show own_Run p e below _ T185 (mkF m 8 #[.val (.ref a1), .val (.long q2), .second] [(.ref a1)])
    obtain ⟨T186, X186, e186, st186⟩ := getF X185 hx hZ hown (host := "") (Or.inl (W 14 rfl)) Via.refl e185 F_mPositions_a1 (g := (mkF m 8 #[.val (.ref a1), .val (.long q2), .second] [(.ref a1)])) rfl rfl (hb hby d8_8)
    refine own_go st186 ?_
    show own_Run p e below _ T186 (mkF m 11 #[.val (.ref a1), .val (.long q2), .second] [(.ref b2)])
    refine own_go (fun _ k => XS.aloadN X186.here hx rfl (hb hby d8_11) rfl rfl k) ?_
    show own_Run p e below _ T186 (mkF m 12 #[.val (.ref a1), .val (.long q2), .second] [(.ref a1), (.ref b2)])
    obtain ⟨T187, X187, e187, st187⟩ := getF X186 hx hZ hown (host := "") (Or.inl (W 30 rfl)) Via.refl e186 F_mCount_a1 (g := (mkF m 12 #[.val (.ref a1), .val (.long q2), .second] [(.ref a1), (.ref b2)])) rfl rfl (hb hby d8_12)
    refine own_go st187 ?_
    show own_Run p e below _ T187 (mkF m 15 #[.val (.ref a1), .val (.long q2), .second] [(.int (3 : Int32)), (.ref b2)])
    refine own_go (fun _ k => XS.iconst X187.here hx rfl (hb hby d8_15) k) ?_
    refine own_go (fun _ k => XS.isub X187.here hx rfl (hb hby d8_16) rfl k) ?_
    show own_Run p e below _ T187 (mkF m 17 #[.val (.ref a1), .val (.long q2), .second] [(.int ((3 : Int32) - (1 : Int32))), (.ref b2)])
    rw [show ((3 : Int32) - (1 : Int32)) = (2 : Int32) by decide]
    show own_Run p e below _ T187 (mkF m 17 #[.val (.ref a1), .val (.long q2), .second] [(.int (2 : Int32)), (.ref b2)])
    obtain ⟨cl188, Ar188, q188, S188, N188, H188, G188⟩ := id V_b2
    have hin188 : ¬ ((2 : Int32) < 0 ∨ cl188.slots.size ≤ ((2 : Int32)).toNatClampNeg) := inb_of S188 ⟨by decide, by decide⟩
    refine own_go (X187.iaload hx (j := (2 : Int32)) (v := (.int y2)) (by rw [e187]; exact Ar188.1) (State.isArrayOf_alike hZ.alike Ar188.2.1) Ar188.2.2 hin188 (H188.at hin188 rfl) (g := (mkF m 17 #[.val (.ref a1), .val (.long q2), .second] [(.int (2 : Int32)), (.ref b2)])) rfl rfl (hb hby d8_17)) ?_
    show own_Run p e below _ T187 (mkF m 18 #[.val (.ref a1), .val (.long q2), .second] [(.int y2)])
    refine own_go (fun _ k => XS.i2l X187.here hx rfl (hb hby d8_18) rfl k) ?_
    refine own_go (fun _ k => XS.lloadN X187.here hx rfl (hb hby d8_19) rfl k) ?_
    refine own_go (fun _ k => XS.lcmp X187.here hx rfl (hb hby d8_20) rfl k) ?_
    show own_Run p e below _ T187 (mkF m 21 #[.val (.ref a1), .val (.long q2), .second] [(.int (lcmpW (y2.toInt64) q2))])
    refine own_go (fun _ k => XS.ifNo X187.here hx rfl (hb hby d8_21) rfl (own_lcF hz2).1 k) ?_
    show own_Run p e below _ T187 (mkF m 24 #[.val (.ref a1), .val (.long q2), .second] [])
    refine own_go (fun _ k => XS.aloadN X187.here hx rfl (hb hby d8_24) rfl rfl k) ?_
    refine own_go (fun _ k => XS.dup X187.here hx rfl (hb hby d8_25) rfl rfl k) ?_
    show own_Run p e below _ T187 (mkF m 26 #[.val (.ref a1), .val (.long q2), .second] [(.ref a1), (.ref a1)])
    obtain ⟨T189, X189, e189, st189⟩ := getF X187 hx hZ hown (host := "") (Or.inl (W 30 rfl)) Via.refl e187 F_mCount_a1 (g := (mkF m 26 #[.val (.ref a1), .val (.long q2), .second] [(.ref a1), (.ref a1)])) rfl rfl (hb hby d8_26)
    refine own_go st189 ?_
    show own_Run p e below _ T189 (mkF m 29 #[.val (.ref a1), .val (.long q2), .second] [(.int (3 : Int32)), (.ref a1)])
    refine own_go (fun _ k => XS.iconst X189.here hx rfl (hb hby d8_29) k) ?_
    refine own_go (fun _ k => XS.isub X189.here hx rfl (hb hby d8_30) rfl k) ?_
    show own_Run p e below _ T189 (mkF m 31 #[.val (.ref a1), .val (.long q2), .second] [(.int ((3 : Int32) - (1 : Int32))), (.ref a1)])
    rw [show ((3 : Int32) - (1 : Int32)) = (2 : Int32) by decide]
    show own_Run p e below _ T189 (mkF m 31 #[.val (.ref a1), .val (.long q2), .second] [(.int (2 : Int32)), (.ref a1)])
    obtain ⟨T190, h190, X190, e190, W190, st190⟩ := putF X189 hx hZ hown (host := "") (Or.inl (W 30 rfl)) Via.refl e189 F_mCount_a1 E_a1 (Or.inl (W 31 rfl)) (W 3 rfl) (ty := .int) (by decide) rfl rfl (g := (mkF m 31 #[.val (.ref a1), .val (.long q2), .second] [(.int (2 : Int32)), (.ref a1)])) rfl rfl (hb hby d8_31)
    refine own_go st190 ?_
    show own_Run p e below _ T190 (mkF m 34 #[.val (.ref a1), .val (.long q2), .second] [])
    have Z0_c191 := Nat.le_trans Z0 (Keep.of_wr W190).1
    have K0_c191 := K0.wr W190 (Or.inl (List.mem_of_getElem? (i := 0) rfl))
    have E_a1_c191 := E_a1.wr W190
    have F_mOffsets_a1_c191 := F_mOffsets_a1.other W190 (Or.inr (slot_ne (Or.inl (W 13 rfl)) (Or.inl (W 31 rfl)) (by decide) (t := (.array .int)) (t' := .int) (by decide) (by decide)))
    have F_mPositions_a1_c191 := F_mPositions_a1.other W190 (Or.inr (slot_ne (Or.inl (W 15 rfl)) (Or.inl (W 31 rfl)) (by decide) (t := (.array .int)) (t' := .int) (by decide) (by decide)))
    have F_mMaxTimestamp_a1_c191 := F_mMaxTimestamp_a1.other W190 (Or.inr (slot_ne (Or.inl (W 20 rfl)) (Or.inl (W 31 rfl)) (by decide) (t := .long) (t' := .int) (by decide) (by decide)))
    have F_mBaseOffset_a1_c191 := F_mBaseOffset_a1.other W190 (Or.inr (slot_ne (Or.inr (W 22 rfl)) (Or.inl (W 31 rfl)) (by decide) (t := .long) (t' := .int) (by decide) (by decide)))
    have V_b2_c191 := V_b2.other W190 (Ne.symm ne_a1_b2)
    have F_mCount_a1_c190 : Fld Z h190 a1 "com/example/tote/tote/storage/OffsetIndex" "mCount" "I" (.int (2 : Int32)) := F_mCount_a1.same W190
    have N190 := Fr.snoc X190 N0 g_a1
    refine own_go (fun _ k => XS.goto X190.here hx rfl (pc0 := 34) (pc' := 0) rfl (hb hby d8_34) (by decide) (by decide) k) ?_
    refine own_go (fun _ k => XS.aloadN X190.here hx rfl (hb hby d8_0) rfl rfl k) ?_
    show own_Run p e below _ T190 (mkF m 1 #[.val (.ref a1), .val (.long q2), .second] [(.ref a1)])
    obtain ⟨T192, X192, e192, st192⟩ := getF X190 hx hZ hown (host := "") (Or.inl (W 30 rfl)) Via.refl e190 F_mCount_a1_c190 (g := (mkF m 1 #[.val (.ref a1), .val (.long q2), .second] [(.ref a1)])) rfl rfl (hb hby d8_1)
    refine own_go st192 ?_
    show own_Run p e below _ T192 (mkF m 4 #[.val (.ref a1), .val (.long q2), .second] [(.int (2 : Int32))])
    refine own_go (fun _ k => XS.ifNo X192.here hx rfl (hb hby d8_4) rfl ((if0 _ _).trans (tlt (by decide : (0 : Int32) < (2 : Int32))).2.2.2) k) ?_
    show own_Run p e below _ T192 (mkF m 7 #[.val (.ref a1), .val (.long q2), .second] [])
    refine own_go (fun _ k => XS.aloadN X192.here hx rfl (hb hby d8_7) rfl rfl k) ?_
    show own_Run p e below _ T192 (mkF m 8 #[.val (.ref a1), .val (.long q2), .second] [(.ref a1)])
    obtain ⟨T193, X193, e193, st193⟩ := getF X192 hx hZ hown (host := "") (Or.inl (W 14 rfl)) Via.refl e192 F_mPositions_a1_c191 (g := (mkF m 8 #[.val (.ref a1), .val (.long q2), .second] [(.ref a1)])) rfl rfl (hb hby d8_8)
    refine own_go st193 ?_
    show own_Run p e below _ T193 (mkF m 11 #[.val (.ref a1), .val (.long q2), .second] [(.ref b2)])
    refine own_go (fun _ k => XS.aloadN X193.here hx rfl (hb hby d8_11) rfl rfl k) ?_
    show own_Run p e below _ T193 (mkF m 12 #[.val (.ref a1), .val (.long q2), .second] [(.ref a1), (.ref b2)])
    obtain ⟨T194, X194, e194, st194⟩ := getF X193 hx hZ hown (host := "") (Or.inl (W 30 rfl)) Via.refl e193 F_mCount_a1_c190 (g := (mkF m 12 #[.val (.ref a1), .val (.long q2), .second] [(.ref a1), (.ref b2)])) rfl rfl (hb hby d8_12)
    refine own_go st194 ?_
    show own_Run p e below _ T194 (mkF m 15 #[.val (.ref a1), .val (.long q2), .second] [(.int (2 : Int32)), (.ref b2)])
    refine own_go (fun _ k => XS.iconst X194.here hx rfl (hb hby d8_15) k) ?_
    refine own_go (fun _ k => XS.isub X194.here hx rfl (hb hby d8_16) rfl k) ?_
    show own_Run p e below _ T194 (mkF m 17 #[.val (.ref a1), .val (.long q2), .second] [(.int ((2 : Int32) - (1 : Int32))), (.ref b2)])
    rw [show ((2 : Int32) - (1 : Int32)) = (1 : Int32) by decide]
    show own_Run p e below _ T194 (mkF m 17 #[.val (.ref a1), .val (.long q2), .second] [(.int (1 : Int32)), (.ref b2)])
    obtain ⟨cl195, Ar195, q195, S195, N195, H195, G195⟩ := id V_b2_c191
    have hin195 : ¬ ((1 : Int32) < 0 ∨ cl195.slots.size ≤ ((1 : Int32)).toNatClampNeg) := inb_of S195 ⟨by decide, by decide⟩
    refine own_go (X194.iaload hx (j := (1 : Int32)) (v := (.int y1)) (by rw [e194]; exact Ar195.1) (State.isArrayOf_alike hZ.alike Ar195.2.1) Ar195.2.2 hin195 (H195.at hin195 rfl) (g := (mkF m 17 #[.val (.ref a1), .val (.long q2), .second] [(.int (1 : Int32)), (.ref b2)])) rfl rfl (hb hby d8_17)) ?_
    show own_Run p e below _ T194 (mkF m 18 #[.val (.ref a1), .val (.long q2), .second] [(.int y1)])
    refine own_go (fun _ k => XS.i2l X194.here hx rfl (hb hby d8_18) rfl k) ?_
    refine own_go (fun _ k => XS.lloadN X194.here hx rfl (hb hby d8_19) rfl k) ?_
    refine own_go (fun _ k => XS.lcmp X194.here hx rfl (hb hby d8_20) rfl k) ?_
    show own_Run p e below _ T194 (mkF m 21 #[.val (.ref a1), .val (.long q2), .second] [(.int (lcmpW (y1.toInt64) q2))])
    refine own_go (fun _ k => XS.ifNo X194.here hx rfl (hb hby d8_21) rfl (own_lcF hz1).1 k) ?_
    show own_Run p e below _ T194 (mkF m 24 #[.val (.ref a1), .val (.long q2), .second] [])
    refine own_go (fun _ k => XS.aloadN X194.here hx rfl (hb hby d8_24) rfl rfl k) ?_
    refine own_go (fun _ k => XS.dup X194.here hx rfl (hb hby d8_25) rfl rfl k) ?_
    show own_Run p e below _ T194 (mkF m 26 #[.val (.ref a1), .val (.long q2), .second] [(.ref a1), (.ref a1)])
    obtain ⟨T196, X196, e196, st196⟩ := getF X194 hx hZ hown (host := "") (Or.inl (W 30 rfl)) Via.refl e194 F_mCount_a1_c190 (g := (mkF m 26 #[.val (.ref a1), .val (.long q2), .second] [(.ref a1), (.ref a1)])) rfl rfl (hb hby d8_26)
    refine own_go st196 ?_
    show own_Run p e below _ T196 (mkF m 29 #[.val (.ref a1), .val (.long q2), .second] [(.int (2 : Int32)), (.ref a1)])
    refine own_go (fun _ k => XS.iconst X196.here hx rfl (hb hby d8_29) k) ?_
    refine own_go (fun _ k => XS.isub X196.here hx rfl (hb hby d8_30) rfl k) ?_
    show own_Run p e below _ T196 (mkF m 31 #[.val (.ref a1), .val (.long q2), .second] [(.int ((2 : Int32) - (1 : Int32))), (.ref a1)])
    rw [show ((2 : Int32) - (1 : Int32)) = (1 : Int32) by decide]
    show own_Run p e below _ T196 (mkF m 31 #[.val (.ref a1), .val (.long q2), .second] [(.int (1 : Int32)), (.ref a1)])
    obtain ⟨T197, h197, X197, e197, W197, st197⟩ := putF X196 hx hZ hown (host := "") (Or.inl (W 30 rfl)) Via.refl e196 F_mCount_a1_c190 E_a1_c191 (Or.inl (W 31 rfl)) (W 3 rfl) (ty := .int) (by decide) rfl rfl (g := (mkF m 31 #[.val (.ref a1), .val (.long q2), .second] [(.int (1 : Int32)), (.ref a1)])) rfl rfl (hb hby d8_31)
    refine own_go st197 ?_
    show own_Run p e below _ T197 (mkF m 34 #[.val (.ref a1), .val (.long q2), .second] [])
    have Z0_c198 := Nat.le_trans Z0_c191 (Keep.of_wr W197).1
    have K0_c198 := K0_c191.wr W197 (Or.inl (List.mem_of_getElem? (i := 0) rfl))
    have E_a1_c198 := E_a1_c191.wr W197
    have F_mOffsets_a1_c198 := F_mOffsets_a1_c191.other W197 (Or.inr (slot_ne (Or.inl (W 13 rfl)) (Or.inl (W 31 rfl)) (by decide) (t := (.array .int)) (t' := .int) (by decide) (by decide)))
    have F_mPositions_a1_c198 := F_mPositions_a1_c191.other W197 (Or.inr (slot_ne (Or.inl (W 15 rfl)) (Or.inl (W 31 rfl)) (by decide) (t := (.array .int)) (t' := .int) (by decide) (by decide)))
    have F_mMaxTimestamp_a1_c198 := F_mMaxTimestamp_a1_c191.other W197 (Or.inr (slot_ne (Or.inl (W 20 rfl)) (Or.inl (W 31 rfl)) (by decide) (t := .long) (t' := .int) (by decide) (by decide)))
    have F_mBaseOffset_a1_c198 := F_mBaseOffset_a1_c191.other W197 (Or.inr (slot_ne (Or.inr (W 22 rfl)) (Or.inl (W 31 rfl)) (by decide) (t := .long) (t' := .int) (by decide) (by decide)))
    have V_b2_c198 := V_b2_c191.other W197 (Ne.symm ne_a1_b2)
    have F_mCount_a1_c197 : Fld Z h197 a1 "com/example/tote/tote/storage/OffsetIndex" "mCount" "I" (.int (1 : Int32)) := F_mCount_a1_c190.same W197
    have N197 := Fr.snoc X197 N190 g_a1
    refine own_go (fun _ k => XS.goto X197.here hx rfl (pc0 := 34) (pc' := 0) rfl (hb hby d8_34) (by decide) (by decide) k) ?_
    refine own_go (fun _ k => XS.aloadN X197.here hx rfl (hb hby d8_0) rfl rfl k) ?_
    show own_Run p e below _ T197 (mkF m 1 #[.val (.ref a1), .val (.long q2), .second] [(.ref a1)])
    obtain ⟨T199, X199, e199, st199⟩ := getF X197 hx hZ hown (host := "") (Or.inl (W 30 rfl)) Via.refl e197 F_mCount_a1_c197 (g := (mkF m 1 #[.val (.ref a1), .val (.long q2), .second] [(.ref a1)])) rfl rfl (hb hby d8_1)
    refine own_go st199 ?_
    show own_Run p e below _ T199 (mkF m 4 #[.val (.ref a1), .val (.long q2), .second] [(.int (1 : Int32))])
    refine own_go (fun _ k => XS.ifNo X199.here hx rfl (hb hby d8_4) rfl ((if0 _ _).trans (tlt (by decide : (0 : Int32) < (1 : Int32))).2.2.2) k) ?_
    show own_Run p e below _ T199 (mkF m 7 #[.val (.ref a1), .val (.long q2), .second] [])
    refine own_go (fun _ k => XS.aloadN X199.here hx rfl (hb hby d8_7) rfl rfl k) ?_
    show own_Run p e below _ T199 (mkF m 8 #[.val (.ref a1), .val (.long q2), .second] [(.ref a1)])
    obtain ⟨T200, X200, e200, st200⟩ := getF X199 hx hZ hown (host := "") (Or.inl (W 14 rfl)) Via.refl e199 F_mPositions_a1_c198 (g := (mkF m 8 #[.val (.ref a1), .val (.long q2), .second] [(.ref a1)])) rfl rfl (hb hby d8_8)
    refine own_go st200 ?_
    show own_Run p e below _ T200 (mkF m 11 #[.val (.ref a1), .val (.long q2), .second] [(.ref b2)])
    refine own_go (fun _ k => XS.aloadN X200.here hx rfl (hb hby d8_11) rfl rfl k) ?_
    show own_Run p e below _ T200 (mkF m 12 #[.val (.ref a1), .val (.long q2), .second] [(.ref a1), (.ref b2)])
    obtain ⟨T201, X201, e201, st201⟩ := getF X200 hx hZ hown (host := "") (Or.inl (W 30 rfl)) Via.refl e200 F_mCount_a1_c197 (g := (mkF m 12 #[.val (.ref a1), .val (.long q2), .second] [(.ref a1), (.ref b2)])) rfl rfl (hb hby d8_12)
    refine own_go st201 ?_
    show own_Run p e below _ T201 (mkF m 15 #[.val (.ref a1), .val (.long q2), .second] [(.int (1 : Int32)), (.ref b2)])
    refine own_go (fun _ k => XS.iconst X201.here hx rfl (hb hby d8_15) k) ?_
    refine own_go (fun _ k => XS.isub X201.here hx rfl (hb hby d8_16) rfl k) ?_
    show own_Run p e below _ T201 (mkF m 17 #[.val (.ref a1), .val (.long q2), .second] [(.int ((1 : Int32) - (1 : Int32))), (.ref b2)])
    rw [show ((1 : Int32) - (1 : Int32)) = (0 : Int32) by decide]
    show own_Run p e below _ T201 (mkF m 17 #[.val (.ref a1), .val (.long q2), .second] [(.int (0 : Int32)), (.ref b2)])
    obtain ⟨cl202, Ar202, q202, S202, N202, H202, G202⟩ := id V_b2_c198
    have hin202 : ¬ ((0 : Int32) < 0 ∨ cl202.slots.size ≤ ((0 : Int32)).toNatClampNeg) := inb_of S202 ⟨by decide, by decide⟩
    refine own_go (X201.iaload hx (j := (0 : Int32)) (v := (.int y0)) (by rw [e201]; exact Ar202.1) (State.isArrayOf_alike hZ.alike Ar202.2.1) Ar202.2.2 hin202 (H202.at hin202 rfl) (g := (mkF m 17 #[.val (.ref a1), .val (.long q2), .second] [(.int (0 : Int32)), (.ref b2)])) rfl rfl (hb hby d8_17)) ?_
    show own_Run p e below _ T201 (mkF m 18 #[.val (.ref a1), .val (.long q2), .second] [(.int y0)])
    refine own_go (fun _ k => XS.i2l X201.here hx rfl (hb hby d8_18) rfl k) ?_
    refine own_go (fun _ k => XS.lloadN X201.here hx rfl (hb hby d8_19) rfl k) ?_
    refine own_go (fun _ k => XS.lcmp X201.here hx rfl (hb hby d8_20) rfl k) ?_
    show own_Run p e below _ T201 (mkF m 21 #[.val (.ref a1), .val (.long q2), .second] [(.int (lcmpW (y0.toInt64) q2))])
    refine own_go (fun _ k => XS.ifNo X201.here hx rfl (hb hby d8_21) rfl (own_lcF hz0).1 k) ?_
    show own_Run p e below _ T201 (mkF m 24 #[.val (.ref a1), .val (.long q2), .second] [])
    refine own_go (fun _ k => XS.aloadN X201.here hx rfl (hb hby d8_24) rfl rfl k) ?_
    refine own_go (fun _ k => XS.dup X201.here hx rfl (hb hby d8_25) rfl rfl k) ?_
    show own_Run p e below _ T201 (mkF m 26 #[.val (.ref a1), .val (.long q2), .second] [(.ref a1), (.ref a1)])
    obtain ⟨T203, X203, e203, st203⟩ := getF X201 hx hZ hown (host := "") (Or.inl (W 30 rfl)) Via.refl e201 F_mCount_a1_c197 (g := (mkF m 26 #[.val (.ref a1), .val (.long q2), .second] [(.ref a1), (.ref a1)])) rfl rfl (hb hby d8_26)
    refine own_go st203 ?_
    show own_Run p e below _ T203 (mkF m 29 #[.val (.ref a1), .val (.long q2), .second] [(.int (1 : Int32)), (.ref a1)])
    refine own_go (fun _ k => XS.iconst X203.here hx rfl (hb hby d8_29) k) ?_
    refine own_go (fun _ k => XS.isub X203.here hx rfl (hb hby d8_30) rfl k) ?_
    show own_Run p e below _ T203 (mkF m 31 #[.val (.ref a1), .val (.long q2), .second] [(.int ((1 : Int32) - (1 : Int32))), (.ref a1)])
    rw [show ((1 : Int32) - (1 : Int32)) = (0 : Int32) by decide]
    show own_Run p e below _ T203 (mkF m 31 #[.val (.ref a1), .val (.long q2), .second] [(.int (0 : Int32)), (.ref a1)])
    obtain ⟨T204, h204, X204, e204, W204, st204⟩ := putF X203 hx hZ hown (host := "") (Or.inl (W 30 rfl)) Via.refl e203 F_mCount_a1_c197 E_a1_c198 (Or.inl (W 31 rfl)) (W 3 rfl) (ty := .int) (by decide) rfl rfl (g := (mkF m 31 #[.val (.ref a1), .val (.long q2), .second] [(.int (0 : Int32)), (.ref a1)])) rfl rfl (hb hby d8_31)
    refine own_go st204 ?_
    show own_Run p e below _ T204 (mkF m 34 #[.val (.ref a1), .val (.long q2), .second] [])
    have Z0_c205 := Nat.le_trans Z0_c198 (Keep.of_wr W204).1
    have K0_c205 := K0_c198.wr W204 (Or.inl (List.mem_of_getElem? (i := 0) rfl))
    have E_a1_c205 := E_a1_c198.wr W204
    have F_mOffsets_a1_c205 := F_mOffsets_a1_c198.other W204 (Or.inr (slot_ne (Or.inl (W 13 rfl)) (Or.inl (W 31 rfl)) (by decide) (t := (.array .int)) (t' := .int) (by decide) (by decide)))
    have F_mPositions_a1_c205 := F_mPositions_a1_c198.other W204 (Or.inr (slot_ne (Or.inl (W 15 rfl)) (Or.inl (W 31 rfl)) (by decide) (t := (.array .int)) (t' := .int) (by decide) (by decide)))
    have F_mMaxTimestamp_a1_c205 := F_mMaxTimestamp_a1_c198.other W204 (Or.inr (slot_ne (Or.inl (W 20 rfl)) (Or.inl (W 31 rfl)) (by decide) (t := .long) (t' := .int) (by decide) (by decide)))
    have F_mBaseOffset_a1_c205 := F_mBaseOffset_a1_c198.other W204 (Or.inr (slot_ne (Or.inr (W 22 rfl)) (Or.inl (W 31 rfl)) (by decide) (t := .long) (t' := .int) (by decide) (by decide)))
    have V_b2_c205 := V_b2_c198.other W204 (Ne.symm ne_a1_b2)
    have F_mCount_a1_c204 : Fld Z h204 a1 "com/example/tote/tote/storage/OffsetIndex" "mCount" "I" (.int (0 : Int32)) := F_mCount_a1_c197.same W204
    have N204 := Fr.snoc X204 N197 g_a1
    refine own_go (fun _ k => XS.goto X204.here hx rfl (pc0 := 34) (pc' := 0) rfl (hb hby d8_34) (by decide) (by decide) k) ?_
    refine own_go (fun _ k => XS.aloadN X204.here hx rfl (hb hby d8_0) rfl rfl k) ?_
    show own_Run p e below _ T204 (mkF m 1 #[.val (.ref a1), .val (.long q2), .second] [(.ref a1)])
    obtain ⟨T206, X206, e206, st206⟩ := getF X204 hx hZ hown (host := "") (Or.inl (W 30 rfl)) Via.refl e204 F_mCount_a1_c204 (g := (mkF m 1 #[.val (.ref a1), .val (.long q2), .second] [(.ref a1)])) rfl rfl (hb hby d8_1)
    refine own_go st206 ?_
    show own_Run p e below _ T206 (mkF m 4 #[.val (.ref a1), .val (.long q2), .second] [(.int (0 : Int32))])
    refine own_go (fun _ k => XS.ifYes X206.here hx rfl (pc0 := 4) (pc' := 37) rfl (hb hby d8_4) rfl ((if0 _ _).trans (flt (by decide : ¬ ((0 : Int32) < (0 : Int32)))).2.2.2) (by decide) (by decide) k) ?_
    show own_Run p e below _ T206 (mkF m 37 #[.val (.ref a1), .val (.long q2), .second] [])
    refine own_done (Q := fun v h L => Q8n3 Z a1 q2 b1 b2 k2 mx ba y0 y1 y2 (0 : Int32) h0 n0 v h L) (v := none) X206 (fun _ => rfl) hlk (fun fs hr => X206.returnOut hx hret (hb hby d8_37) hr) ?_ (by decide) (by decide)
    show Q8n3 Z a1 q2 b1 b2 k2 mx ba y0 y1 y2 (0 : Int32) h0 n0 _ T206.heap _
    rw [e206]
    exact ⟨rfl, N204, K0_c205, E_a1_c205, F_mOffsets_a1_c205, F_mPositions_a1_c205, F_mMaxTimestamp_a1_c205, F_mBaseOffset_a1_c205, F_mCount_a1_c204⟩
  · show own_Run p e below _ s₁ (mkF m 0 #[.val (.ref a1), .val (.long q2), .second] [])
    refine own_go (fun _ k => XS.aloadN X0.here hx rfl (hb hby d8_0) rfl rfl k) ?_
    show own_Run p e below _ s₁ (mkF m 1 #[.val (.ref a1), .val (.long q2), .second] [(.ref a1)])
    obtain ⟨T207, X207, e207, st207⟩ := getF X0 hx hZ hown (host := "") (Or.inl (W 30 rfl)) Via.refl e0 F_mCount_a1 (g := (mkF m 1 #[.val (.ref a1), .val (.long q2), .second] [(.ref a1)])) rfl rfl (hb hby d8_1)
    refine own_go st207 ?_
    show own_Run p e below _ T207 (mkF m 4 #[.val (.ref a1), .val (.long q2), .second] [(.int (3 : Int32))])
    refine own_go (fun _ k => XS.ifNo X207.here hx rfl (hb hby d8_4) rfl ((if0 _ _).trans (tlt (by decide : (0 : Int32) < (3 : Int32))).2.2.2) k) ?_
    show own_Run p e below _ T207 (mkF m 7 #[.val (.ref a1), .val (.long q2), .second] [])
    refine own_go (fun _ k => XS.aloadN X207.here hx rfl (hb hby d8_7) rfl rfl k) ?_
    show own_Run p e below _ T207 (mkF m 8 #[.val (.ref a1), .val (.long q2), .second] [(.ref a1)])
    obtain ⟨T208, X208, e208, st208⟩ := getF X207 hx hZ hown (host := "") (Or.inl (W 14 rfl)) Via.refl e207 F_mPositions_a1 (g := (mkF m 8 #[.val (.ref a1), .val (.long q2), .second] [(.ref a1)])) rfl rfl (hb hby d8_8)
    refine own_go st208 ?_
    show own_Run p e below _ T208 (mkF m 11 #[.val (.ref a1), .val (.long q2), .second] [(.ref b2)])
    refine own_go (fun _ k => XS.aloadN X208.here hx rfl (hb hby d8_11) rfl rfl k) ?_
    show own_Run p e below _ T208 (mkF m 12 #[.val (.ref a1), .val (.long q2), .second] [(.ref a1), (.ref b2)])
    obtain ⟨T209, X209, e209, st209⟩ := getF X208 hx hZ hown (host := "") (Or.inl (W 30 rfl)) Via.refl e208 F_mCount_a1 (g := (mkF m 12 #[.val (.ref a1), .val (.long q2), .second] [(.ref a1), (.ref b2)])) rfl rfl (hb hby d8_12)
    refine own_go st209 ?_
    show own_Run p e below _ T209 (mkF m 15 #[.val (.ref a1), .val (.long q2), .second] [(.int (3 : Int32)), (.ref b2)])
    refine own_go (fun _ k => XS.iconst X209.here hx rfl (hb hby d8_15) k) ?_
    refine own_go (fun _ k => XS.isub X209.here hx rfl (hb hby d8_16) rfl k) ?_
    show own_Run p e below _ T209 (mkF m 17 #[.val (.ref a1), .val (.long q2), .second] [(.int ((3 : Int32) - (1 : Int32))), (.ref b2)])
    rw [show ((3 : Int32) - (1 : Int32)) = (2 : Int32) by decide]
    show own_Run p e below _ T209 (mkF m 17 #[.val (.ref a1), .val (.long q2), .second] [(.int (2 : Int32)), (.ref b2)])
    obtain ⟨cl210, Ar210, q210, S210, N210, H210, G210⟩ := id V_b2
    have hin210 : ¬ ((2 : Int32) < 0 ∨ cl210.slots.size ≤ ((2 : Int32)).toNatClampNeg) := inb_of S210 ⟨by decide, by decide⟩
    refine own_go (X209.iaload hx (j := (2 : Int32)) (v := (.int y2)) (by rw [e209]; exact Ar210.1) (State.isArrayOf_alike hZ.alike Ar210.2.1) Ar210.2.2 hin210 (H210.at hin210 rfl) (g := (mkF m 17 #[.val (.ref a1), .val (.long q2), .second] [(.int (2 : Int32)), (.ref b2)])) rfl rfl (hb hby d8_17)) ?_
    show own_Run p e below _ T209 (mkF m 18 #[.val (.ref a1), .val (.long q2), .second] [(.int y2)])
    refine own_go (fun _ k => XS.i2l X209.here hx rfl (hb hby d8_18) rfl k) ?_
    refine own_go (fun _ k => XS.lloadN X209.here hx rfl (hb hby d8_19) rfl k) ?_
    refine own_go (fun _ k => XS.lcmp X209.here hx rfl (hb hby d8_20) rfl k) ?_
    show own_Run p e below _ T209 (mkF m 21 #[.val (.ref a1), .val (.long q2), .second] [(.int (lcmpW (y2.toInt64) q2))])
    refine own_go (fun _ k => XS.ifNo X209.here hx rfl (hb hby d8_21) rfl (own_lcF hz2).1 k) ?_
    show own_Run p e below _ T209 (mkF m 24 #[.val (.ref a1), .val (.long q2), .second] [])
    refine own_go (fun _ k => XS.aloadN X209.here hx rfl (hb hby d8_24) rfl rfl k) ?_
    refine own_go (fun _ k => XS.dup X209.here hx rfl (hb hby d8_25) rfl rfl k) ?_
    show own_Run p e below _ T209 (mkF m 26 #[.val (.ref a1), .val (.long q2), .second] [(.ref a1), (.ref a1)])
    obtain ⟨T211, X211, e211, st211⟩ := getF X209 hx hZ hown (host := "") (Or.inl (W 30 rfl)) Via.refl e209 F_mCount_a1 (g := (mkF m 26 #[.val (.ref a1), .val (.long q2), .second] [(.ref a1), (.ref a1)])) rfl rfl (hb hby d8_26)
    refine own_go st211 ?_
    show own_Run p e below _ T211 (mkF m 29 #[.val (.ref a1), .val (.long q2), .second] [(.int (3 : Int32)), (.ref a1)])
    refine own_go (fun _ k => XS.iconst X211.here hx rfl (hb hby d8_29) k) ?_
    refine own_go (fun _ k => XS.isub X211.here hx rfl (hb hby d8_30) rfl k) ?_
    show own_Run p e below _ T211 (mkF m 31 #[.val (.ref a1), .val (.long q2), .second] [(.int ((3 : Int32) - (1 : Int32))), (.ref a1)])
    rw [show ((3 : Int32) - (1 : Int32)) = (2 : Int32) by decide]
    show own_Run p e below _ T211 (mkF m 31 #[.val (.ref a1), .val (.long q2), .second] [(.int (2 : Int32)), (.ref a1)])
    obtain ⟨T212, h212, X212, e212, W212, st212⟩ := putF X211 hx hZ hown (host := "") (Or.inl (W 30 rfl)) Via.refl e211 F_mCount_a1 E_a1 (Or.inl (W 31 rfl)) (W 3 rfl) (ty := .int) (by decide) rfl rfl (g := (mkF m 31 #[.val (.ref a1), .val (.long q2), .second] [(.int (2 : Int32)), (.ref a1)])) rfl rfl (hb hby d8_31)
    refine own_go st212 ?_
    show own_Run p e below _ T212 (mkF m 34 #[.val (.ref a1), .val (.long q2), .second] [])
    have Z0_c213 := Nat.le_trans Z0 (Keep.of_wr W212).1
    have K0_c213 := K0.wr W212 (Or.inl (List.mem_of_getElem? (i := 0) rfl))
    have E_a1_c213 := E_a1.wr W212
    have F_mOffsets_a1_c213 := F_mOffsets_a1.other W212 (Or.inr (slot_ne (Or.inl (W 13 rfl)) (Or.inl (W 31 rfl)) (by decide) (t := (.array .int)) (t' := .int) (by decide) (by decide)))
    have F_mPositions_a1_c213 := F_mPositions_a1.other W212 (Or.inr (slot_ne (Or.inl (W 15 rfl)) (Or.inl (W 31 rfl)) (by decide) (t := (.array .int)) (t' := .int) (by decide) (by decide)))
    have F_mMaxTimestamp_a1_c213 := F_mMaxTimestamp_a1.other W212 (Or.inr (slot_ne (Or.inl (W 20 rfl)) (Or.inl (W 31 rfl)) (by decide) (t := .long) (t' := .int) (by decide) (by decide)))
    have F_mBaseOffset_a1_c213 := F_mBaseOffset_a1.other W212 (Or.inr (slot_ne (Or.inr (W 22 rfl)) (Or.inl (W 31 rfl)) (by decide) (t := .long) (t' := .int) (by decide) (by decide)))
    have V_b2_c213 := V_b2.other W212 (Ne.symm ne_a1_b2)
    have F_mCount_a1_c212 : Fld Z h212 a1 "com/example/tote/tote/storage/OffsetIndex" "mCount" "I" (.int (2 : Int32)) := F_mCount_a1.same W212
    have N212 := Fr.snoc X212 N0 g_a1
    refine own_go (fun _ k => XS.goto X212.here hx rfl (pc0 := 34) (pc' := 0) rfl (hb hby d8_34) (by decide) (by decide) k) ?_
    refine own_go (fun _ k => XS.aloadN X212.here hx rfl (hb hby d8_0) rfl rfl k) ?_
    show own_Run p e below _ T212 (mkF m 1 #[.val (.ref a1), .val (.long q2), .second] [(.ref a1)])
    obtain ⟨T214, X214, e214, st214⟩ := getF X212 hx hZ hown (host := "") (Or.inl (W 30 rfl)) Via.refl e212 F_mCount_a1_c212 (g := (mkF m 1 #[.val (.ref a1), .val (.long q2), .second] [(.ref a1)])) rfl rfl (hb hby d8_1)
    refine own_go st214 ?_
    show own_Run p e below _ T214 (mkF m 4 #[.val (.ref a1), .val (.long q2), .second] [(.int (2 : Int32))])
    refine own_go (fun _ k => XS.ifNo X214.here hx rfl (hb hby d8_4) rfl ((if0 _ _).trans (tlt (by decide : (0 : Int32) < (2 : Int32))).2.2.2) k) ?_
    show own_Run p e below _ T214 (mkF m 7 #[.val (.ref a1), .val (.long q2), .second] [])
    refine own_go (fun _ k => XS.aloadN X214.here hx rfl (hb hby d8_7) rfl rfl k) ?_
    show own_Run p e below _ T214 (mkF m 8 #[.val (.ref a1), .val (.long q2), .second] [(.ref a1)])
    obtain ⟨T215, X215, e215, st215⟩ := getF X214 hx hZ hown (host := "") (Or.inl (W 14 rfl)) Via.refl e214 F_mPositions_a1_c213 (g := (mkF m 8 #[.val (.ref a1), .val (.long q2), .second] [(.ref a1)])) rfl rfl (hb hby d8_8)
    refine own_go st215 ?_
    show own_Run p e below _ T215 (mkF m 11 #[.val (.ref a1), .val (.long q2), .second] [(.ref b2)])
    refine own_go (fun _ k => XS.aloadN X215.here hx rfl (hb hby d8_11) rfl rfl k) ?_
    show own_Run p e below _ T215 (mkF m 12 #[.val (.ref a1), .val (.long q2), .second] [(.ref a1), (.ref b2)])
    obtain ⟨T216, X216, e216, st216⟩ := getF X215 hx hZ hown (host := "") (Or.inl (W 30 rfl)) Via.refl e215 F_mCount_a1_c212 (g := (mkF m 12 #[.val (.ref a1), .val (.long q2), .second] [(.ref a1), (.ref b2)])) rfl rfl (hb hby d8_12)
    refine own_go st216 ?_
    show own_Run p e below _ T216 (mkF m 15 #[.val (.ref a1), .val (.long q2), .second] [(.int (2 : Int32)), (.ref b2)])
    refine own_go (fun _ k => XS.iconst X216.here hx rfl (hb hby d8_15) k) ?_
    refine own_go (fun _ k => XS.isub X216.here hx rfl (hb hby d8_16) rfl k) ?_
    show own_Run p e below _ T216 (mkF m 17 #[.val (.ref a1), .val (.long q2), .second] [(.int ((2 : Int32) - (1 : Int32))), (.ref b2)])
    rw [show ((2 : Int32) - (1 : Int32)) = (1 : Int32) by decide]
    show own_Run p e below _ T216 (mkF m 17 #[.val (.ref a1), .val (.long q2), .second] [(.int (1 : Int32)), (.ref b2)])
    obtain ⟨cl217, Ar217, q217, S217, N217, H217, G217⟩ := id V_b2_c213
    have hin217 : ¬ ((1 : Int32) < 0 ∨ cl217.slots.size ≤ ((1 : Int32)).toNatClampNeg) := inb_of S217 ⟨by decide, by decide⟩
    refine own_go (X216.iaload hx (j := (1 : Int32)) (v := (.int y1)) (by rw [e216]; exact Ar217.1) (State.isArrayOf_alike hZ.alike Ar217.2.1) Ar217.2.2 hin217 (H217.at hin217 rfl) (g := (mkF m 17 #[.val (.ref a1), .val (.long q2), .second] [(.int (1 : Int32)), (.ref b2)])) rfl rfl (hb hby d8_17)) ?_
    show own_Run p e below _ T216 (mkF m 18 #[.val (.ref a1), .val (.long q2), .second] [(.int y1)])
    refine own_go (fun _ k => XS.i2l X216.here hx rfl (hb hby d8_18) rfl k) ?_
    refine own_go (fun _ k => XS.lloadN X216.here hx rfl (hb hby d8_19) rfl k) ?_
    refine own_go (fun _ k => XS.lcmp X216.here hx rfl (hb hby d8_20) rfl k) ?_
    show own_Run p e below _ T216 (mkF m 21 #[.val (.ref a1), .val (.long q2), .second] [(.int (lcmpW (y1.toInt64) q2))])
    refine own_go (fun _ k => XS.ifNo X216.here hx rfl (hb hby d8_21) rfl (own_lcF hz1).1 k) ?_
    show own_Run p e below _ T216 (mkF m 24 #[.val (.ref a1), .val (.long q2), .second] [])
    refine own_go (fun _ k => XS.aloadN X216.here hx rfl (hb hby d8_24) rfl rfl k) ?_
    refine own_go (fun _ k => XS.dup X216.here hx rfl (hb hby d8_25) rfl rfl k) ?_
    show own_Run p e below _ T216 (mkF m 26 #[.val (.ref a1), .val (.long q2), .second] [(.ref a1), (.ref a1)])
    obtain ⟨T218, X218, e218, st218⟩ := getF X216 hx hZ hown (host := "") (Or.inl (W 30 rfl)) Via.refl e216 F_mCount_a1_c212 (g := (mkF m 26 #[.val (.ref a1), .val (.long q2), .second] [(.ref a1), (.ref a1)])) rfl rfl (hb hby d8_26)
    refine own_go st218 ?_
    show own_Run p e below _ T218 (mkF m 29 #[.val (.ref a1), .val (.long q2), .second] [(.int (2 : Int32)), (.ref a1)])
    refine own_go (fun _ k => XS.iconst X218.here hx rfl (hb hby d8_29) k) ?_
    refine own_go (fun _ k => XS.isub X218.here hx rfl (hb hby d8_30) rfl k) ?_
    show own_Run p e below _ T218 (mkF m 31 #[.val (.ref a1), .val (.long q2), .second] [(.int ((2 : Int32) - (1 : Int32))), (.ref a1)])
    rw [show ((2 : Int32) - (1 : Int32)) = (1 : Int32) by decide]
    show own_Run p e below _ T218 (mkF m 31 #[.val (.ref a1), .val (.long q2), .second] [(.int (1 : Int32)), (.ref a1)])
    obtain ⟨T219, h219, X219, e219, W219, st219⟩ := putF X218 hx hZ hown (host := "") (Or.inl (W 30 rfl)) Via.refl e218 F_mCount_a1_c212 E_a1_c213 (Or.inl (W 31 rfl)) (W 3 rfl) (ty := .int) (by decide) rfl rfl (g := (mkF m 31 #[.val (.ref a1), .val (.long q2), .second] [(.int (1 : Int32)), (.ref a1)])) rfl rfl (hb hby d8_31)
    refine own_go st219 ?_
    show own_Run p e below _ T219 (mkF m 34 #[.val (.ref a1), .val (.long q2), .second] [])
    have Z0_c220 := Nat.le_trans Z0_c213 (Keep.of_wr W219).1
    have K0_c220 := K0_c213.wr W219 (Or.inl (List.mem_of_getElem? (i := 0) rfl))
    have E_a1_c220 := E_a1_c213.wr W219
    have F_mOffsets_a1_c220 := F_mOffsets_a1_c213.other W219 (Or.inr (slot_ne (Or.inl (W 13 rfl)) (Or.inl (W 31 rfl)) (by decide) (t := (.array .int)) (t' := .int) (by decide) (by decide)))
    have F_mPositions_a1_c220 := F_mPositions_a1_c213.other W219 (Or.inr (slot_ne (Or.inl (W 15 rfl)) (Or.inl (W 31 rfl)) (by decide) (t := (.array .int)) (t' := .int) (by decide) (by decide)))
    have F_mMaxTimestamp_a1_c220 := F_mMaxTimestamp_a1_c213.other W219 (Or.inr (slot_ne (Or.inl (W 20 rfl)) (Or.inl (W 31 rfl)) (by decide) (t := .long) (t' := .int) (by decide) (by decide)))
    have F_mBaseOffset_a1_c220 := F_mBaseOffset_a1_c213.other W219 (Or.inr (slot_ne (Or.inr (W 22 rfl)) (Or.inl (W 31 rfl)) (by decide) (t := .long) (t' := .int) (by decide) (by decide)))
    have V_b2_c220 := V_b2_c213.other W219 (Ne.symm ne_a1_b2)
    have F_mCount_a1_c219 : Fld Z h219 a1 "com/example/tote/tote/storage/OffsetIndex" "mCount" "I" (.int (1 : Int32)) := F_mCount_a1_c212.same W219
    have N219 := Fr.snoc X219 N212 g_a1
    refine own_go (fun _ k => XS.goto X219.here hx rfl (pc0 := 34) (pc' := 0) rfl (hb hby d8_34) (by decide) (by decide) k) ?_
    refine own_go (fun _ k => XS.aloadN X219.here hx rfl (hb hby d8_0) rfl rfl k) ?_
    show own_Run p e below _ T219 (mkF m 1 #[.val (.ref a1), .val (.long q2), .second] [(.ref a1)])
    obtain ⟨T221, X221, e221, st221⟩ := getF X219 hx hZ hown (host := "") (Or.inl (W 30 rfl)) Via.refl e219 F_mCount_a1_c219 (g := (mkF m 1 #[.val (.ref a1), .val (.long q2), .second] [(.ref a1)])) rfl rfl (hb hby d8_1)
    refine own_go st221 ?_
    show own_Run p e below _ T221 (mkF m 4 #[.val (.ref a1), .val (.long q2), .second] [(.int (1 : Int32))])
    refine own_go (fun _ k => XS.ifNo X221.here hx rfl (hb hby d8_4) rfl ((if0 _ _).trans (tlt (by decide : (0 : Int32) < (1 : Int32))).2.2.2) k) ?_
    show own_Run p e below _ T221 (mkF m 7 #[.val (.ref a1), .val (.long q2), .second] [])
    refine own_go (fun _ k => XS.aloadN X221.here hx rfl (hb hby d8_7) rfl rfl k) ?_
    show own_Run p e below _ T221 (mkF m 8 #[.val (.ref a1), .val (.long q2), .second] [(.ref a1)])
    obtain ⟨T222, X222, e222, st222⟩ := getF X221 hx hZ hown (host := "") (Or.inl (W 14 rfl)) Via.refl e221 F_mPositions_a1_c220 (g := (mkF m 8 #[.val (.ref a1), .val (.long q2), .second] [(.ref a1)])) rfl rfl (hb hby d8_8)
    refine own_go st222 ?_
    show own_Run p e below _ T222 (mkF m 11 #[.val (.ref a1), .val (.long q2), .second] [(.ref b2)])
    refine own_go (fun _ k => XS.aloadN X222.here hx rfl (hb hby d8_11) rfl rfl k) ?_
    show own_Run p e below _ T222 (mkF m 12 #[.val (.ref a1), .val (.long q2), .second] [(.ref a1), (.ref b2)])
    obtain ⟨T223, X223, e223, st223⟩ := getF X222 hx hZ hown (host := "") (Or.inl (W 30 rfl)) Via.refl e222 F_mCount_a1_c219 (g := (mkF m 12 #[.val (.ref a1), .val (.long q2), .second] [(.ref a1), (.ref b2)])) rfl rfl (hb hby d8_12)
    refine own_go st223 ?_
    show own_Run p e below _ T223 (mkF m 15 #[.val (.ref a1), .val (.long q2), .second] [(.int (1 : Int32)), (.ref b2)])
    refine own_go (fun _ k => XS.iconst X223.here hx rfl (hb hby d8_15) k) ?_
    refine own_go (fun _ k => XS.isub X223.here hx rfl (hb hby d8_16) rfl k) ?_
    show own_Run p e below _ T223 (mkF m 17 #[.val (.ref a1), .val (.long q2), .second] [(.int ((1 : Int32) - (1 : Int32))), (.ref b2)])
    rw [show ((1 : Int32) - (1 : Int32)) = (0 : Int32) by decide]
    show own_Run p e below _ T223 (mkF m 17 #[.val (.ref a1), .val (.long q2), .second] [(.int (0 : Int32)), (.ref b2)])
    obtain ⟨cl224, Ar224, q224, S224, N224, H224, G224⟩ := id V_b2_c220
    have hin224 : ¬ ((0 : Int32) < 0 ∨ cl224.slots.size ≤ ((0 : Int32)).toNatClampNeg) := inb_of S224 ⟨by decide, by decide⟩
    refine own_go (X223.iaload hx (j := (0 : Int32)) (v := (.int y0)) (by rw [e223]; exact Ar224.1) (State.isArrayOf_alike hZ.alike Ar224.2.1) Ar224.2.2 hin224 (H224.at hin224 rfl) (g := (mkF m 17 #[.val (.ref a1), .val (.long q2), .second] [(.int (0 : Int32)), (.ref b2)])) rfl rfl (hb hby d8_17)) ?_
    show own_Run p e below _ T223 (mkF m 18 #[.val (.ref a1), .val (.long q2), .second] [(.int y0)])
    refine own_go (fun _ k => XS.i2l X223.here hx rfl (hb hby d8_18) rfl k) ?_
    refine own_go (fun _ k => XS.lloadN X223.here hx rfl (hb hby d8_19) rfl k) ?_
    refine own_go (fun _ k => XS.lcmp X223.here hx rfl (hb hby d8_20) rfl k) ?_
    show own_Run p e below _ T223 (mkF m 21 #[.val (.ref a1), .val (.long q2), .second] [(.int (lcmpW (y0.toInt64) q2))])
    refine own_go (fun _ k => XS.ifYes X223.here hx rfl (pc0 := 21) (pc' := 37) rfl (hb hby d8_21) rfl (own_lcT hz0).1 (by decide) (by decide) k) ?_
    show own_Run p e below _ T223 (mkF m 37 #[.val (.ref a1), .val (.long q2), .second] [])
    refine own_done (Q := fun v h L => Q8n3 Z a1 q2 b1 b2 k2 mx ba y0 y1 y2 (1 : Int32) h0 n0 v h L) (v := none) X223 (fun _ => rfl) hlk (fun fs hr => X223.returnOut hx hret (hb hby d8_37) hr) ?_ (by decide) (by decide)
    show Q8n3 Z a1 q2 b1 b2 k2 mx ba y0 y1 y2 (1 : Int32) h0 n0 _ T223.heap _
    rw [e223]
    exact ⟨rfl, N219, K0_c220, E_a1_c220, F_mOffsets_a1_c220, F_mPositions_a1_c220, F_mMaxTimestamp_a1_c220, F_mBaseOffset_a1_c220, F_mCount_a1_c219⟩
  · show own_Run p e below _ s₁ (mkF m 0 #[.val (.ref a1), .val (.long q2), .second] [])
    refine own_go (fun _ k => XS.aloadN X0.here hx rfl (hb hby d8_0) rfl rfl k) ?_
    show own_Run p e below _ s₁ (mkF m 1 #[.val (.ref a1), .val (.long q2), .second] [(.ref a1)])
    obtain ⟨T225, X225, e225, st225⟩ := getF X0 hx hZ hown (host := "") (Or.inl (W 30 rfl)) Via.refl e0 F_mCount_a1 (g := (mkF m 1 #[.val (.ref a1), .val (.long q2), .second] [(.ref a1)])) rfl rfl (hb hby d8_1)
    refine own_go st225 ?_
    show own_Run p e below _ T225 (mkF m 4 #[.val (.ref a1), .val (.long q2), .second] [(.int (3 : Int32))])
    refine own_go (fun _ k => XS.ifNo X225.here hx rfl (hb hby d8_4) rfl ((if0 _ _).trans (tlt (by decide : (0 : Int32) < (3 : Int32))).2.2.2) k) ?_
    show own_Run p e below _ T225 (mkF m 7 #[.val (.ref a1), .val (.long q2), .second] [])
    refine own_go (fun _ k => XS.aloadN X225.here hx rfl (hb hby d8_7) rfl rfl k) ?_
    show own_Run p e below _ T225 (mkF m 8 #[.val (.ref a1), .val (.long q2), .second] [(.ref a1)])
    obtain ⟨T226, X226, e226, st226⟩ := getF X225 hx hZ hown (host := "") (Or.inl (W 14 rfl)) Via.refl e225 F_mPositions_a1 (g := (mkF m 8 #[.val (.ref a1), .val (.long q2), .second] [(.ref a1)])) rfl rfl (hb hby d8_8)
    refine own_go st226 ?_
    show own_Run p e below _ T226 (mkF m 11 #[.val (.ref a1), .val (.long q2), .second] [(.ref b2)])
    refine own_go (fun _ k => XS.aloadN X226.here hx rfl (hb hby d8_11) rfl rfl k) ?_
    show own_Run p e below _ T226 (mkF m 12 #[.val (.ref a1), .val (.long q2), .second] [(.ref a1), (.ref b2)])
    obtain ⟨T227, X227, e227, st227⟩ := getF X226 hx hZ hown (host := "") (Or.inl (W 30 rfl)) Via.refl e226 F_mCount_a1 (g := (mkF m 12 #[.val (.ref a1), .val (.long q2), .second] [(.ref a1), (.ref b2)])) rfl rfl (hb hby d8_12)
    refine own_go st227 ?_
    show own_Run p e below _ T227 (mkF m 15 #[.val (.ref a1), .val (.long q2), .second] [(.int (3 : Int32)), (.ref b2)])
    refine own_go (fun _ k => XS.iconst X227.here hx rfl (hb hby d8_15) k) ?_
    refine own_go (fun _ k => XS.isub X227.here hx rfl (hb hby d8_16) rfl k) ?_
    show own_Run p e below _ T227 (mkF m 17 #[.val (.ref a1), .val (.long q2), .second] [(.int ((3 : Int32) - (1 : Int32))), (.ref b2)])
    rw [show ((3 : Int32) - (1 : Int32)) = (2 : Int32) by decide]
    show own_Run p e below _ T227 (mkF m 17 #[.val (.ref a1), .val (.long q2), .second] [(.int (2 : Int32)), (.ref b2)])
    obtain ⟨cl228, Ar228, q228, S228, N228, H228, G228⟩ := id V_b2
    have hin228 : ¬ ((2 : Int32) < 0 ∨ cl228.slots.size ≤ ((2 : Int32)).toNatClampNeg) := inb_of S228 ⟨by decide, by decide⟩
    refine own_go (X227.iaload hx (j := (2 : Int32)) (v := (.int y2)) (by rw [e227]; exact Ar228.1) (State.isArrayOf_alike hZ.alike Ar228.2.1) Ar228.2.2 hin228 (H228.at hin228 rfl) (g := (mkF m 17 #[.val (.ref a1), .val (.long q2), .second] [(.int (2 : Int32)), (.ref b2)])) rfl rfl (hb hby d8_17)) ?_
    show own_Run p e below _ T227 (mkF m 18 #[.val (.ref a1), .val (.long q2), .second] [(.int y2)])
    refine own_go (fun _ k => XS.i2l X227.here hx rfl (hb hby d8_18) rfl k) ?_
    refine own_go (fun _ k => XS.lloadN X227.here hx rfl (hb hby d8_19) rfl k) ?_
    refine own_go (fun _ k => XS.lcmp X227.here hx rfl (hb hby d8_20) rfl k) ?_
    show own_Run p e below _ T227 (mkF m 21 #[.val (.ref a1), .val (.long q2), .second] [(.int (lcmpW (y2.toInt64) q2))])
    refine own_go (fun _ k => XS.ifNo X227.here hx rfl (hb hby d8_21) rfl (own_lcF hz2).1 k) ?_
    show own_Run p e below _ T227 (mkF m 24 #[.val (.ref a1), .val (.long q2), .second] [])
    refine own_go (fun _ k => XS.aloadN X227.here hx rfl (hb hby d8_24) rfl rfl k) ?_
    refine own_go (fun _ k => XS.dup X227.here hx rfl (hb hby d8_25) rfl rfl k) ?_
    show own_Run p e below _ T227 (mkF m 26 #[.val (.ref a1), .val (.long q2), .second] [(.ref a1), (.ref a1)])
    obtain ⟨T229, X229, e229, st229⟩ := getF X227 hx hZ hown (host := "") (Or.inl (W 30 rfl)) Via.refl e227 F_mCount_a1 (g := (mkF m 26 #[.val (.ref a1), .val (.long q2), .second] [(.ref a1), (.ref a1)])) rfl rfl (hb hby d8_26)
    refine own_go st229 ?_
    show own_Run p e below _ T229 (mkF m 29 #[.val (.ref a1), .val (.long q2), .second] [(.int (3 : Int32)), (.ref a1)])
    refine own_go (fun _ k => XS.iconst X229.here hx rfl (hb hby d8_29) k) ?_
    refine own_go (fun _ k => XS.isub X229.here hx rfl (hb hby d8_30) rfl k) ?_
    show own_Run p e below _ T229 (mkF m 31 #[.val (.ref a1), .val (.long q2), .second] [(.int ((3 : Int32) - (1 : Int32))), (.ref a1)])
    rw [show ((3 : Int32) - (1 : Int32)) = (2 : Int32) by decide]
    show own_Run p e below _ T229 (mkF m 31 #[.val (.ref a1), .val (.long q2), .second] [(.int (2 : Int32)), (.ref a1)])
    obtain ⟨T230, h230, X230, e230, W230, st230⟩ := putF X229 hx hZ hown (host := "") (Or.inl (W 30 rfl)) Via.refl e229 F_mCount_a1 E_a1 (Or.inl (W 31 rfl)) (W 3 rfl) (ty := .int) (by decide) rfl rfl (g := (mkF m 31 #[.val (.ref a1), .val (.long q2), .second] [(.int (2 : Int32)), (.ref a1)])) rfl rfl (hb hby d8_31)
    refine own_go st230 ?_
    show own_Run p e below _ T230 (mkF m 34 #[.val (.ref a1), .val (.long q2), .second] [])
    have Z0_c231 := Nat.le_trans Z0 (Keep.of_wr W230).1
    have K0_c231 := K0.wr W230 (Or.inl (List.mem_of_getElem? (i := 0) rfl))
    have E_a1_c231 := E_a1.wr W230
    have F_mOffsets_a1_c231 := F_mOffsets_a1.other W230 (Or.inr (slot_ne (Or.inl (W 13 rfl)) (Or.inl (W 31 rfl)) (by decide) (t := (.array .int)) (t' := .int) (by decide) (by decide)))
    have F_mPositions_a1_c231 := F_mPositions_a1.other W230 (Or.inr (slot_ne (Or.inl (W 15 rfl)) (Or.inl (W 31 rfl)) (by decide) (t := (.array .int)) (t' := .int) (by decide) (by decide)))
    have F_mMaxTimestamp_a1_c231 := F_mMaxTimestamp_a1.other W230 (Or.inr (slot_ne (Or.inl (W 20 rfl)) (Or.inl (W 31 rfl)) (by decide) (t := .long) (t' := .int) (by decide) (by decide)))
    have F_mBaseOffset_a1_c231 := F_mBaseOffset_a1.other W230 (Or.inr (slot_ne (Or.inr (W 22 rfl)) (Or.inl (W 31 rfl)) (by decide) (t := .long) (t' := .int) (by decide) (by decide)))
    have V_b2_c231 := V_b2.other W230 (Ne.symm ne_a1_b2)
    have F_mCount_a1_c230 : Fld Z h230 a1 "com/example/tote/tote/storage/OffsetIndex" "mCount" "I" (.int (2 : Int32)) := F_mCount_a1.same W230
    have N230 := Fr.snoc X230 N0 g_a1
    refine own_go (fun _ k => XS.goto X230.here hx rfl (pc0 := 34) (pc' := 0) rfl (hb hby d8_34) (by decide) (by decide) k) ?_
    refine own_go (fun _ k => XS.aloadN X230.here hx rfl (hb hby d8_0) rfl rfl k) ?_
    show own_Run p e below _ T230 (mkF m 1 #[.val (.ref a1), .val (.long q2), .second] [(.ref a1)])
    obtain ⟨T232, X232, e232, st232⟩ := getF X230 hx hZ hown (host := "") (Or.inl (W 30 rfl)) Via.refl e230 F_mCount_a1_c230 (g := (mkF m 1 #[.val (.ref a1), .val (.long q2), .second] [(.ref a1)])) rfl rfl (hb hby d8_1)
    refine own_go st232 ?_
    show own_Run p e below _ T232 (mkF m 4 #[.val (.ref a1), .val (.long q2), .second] [(.int (2 : Int32))])
    refine own_go (fun _ k => XS.ifNo X232.here hx rfl (hb hby d8_4) rfl ((if0 _ _).trans (tlt (by decide : (0 : Int32) < (2 : Int32))).2.2.2) k) ?_
    show own_Run p e below _ T232 (mkF m 7 #[.val (.ref a1), .val (.long q2), .second] [])
    refine own_go (fun _ k => XS.aloadN X232.here hx rfl (hb hby d8_7) rfl rfl k) ?_
    show own_Run p e below _ T232 (mkF m 8 #[.val (.ref a1), .val (.long q2), .second] [(.ref a1)])
    obtain ⟨T233, X233, e233, st233⟩ := getF X232 hx hZ hown (host := "") (Or.inl (W 14 rfl)) Via.refl e232 F_mPositions_a1_c231 (g := (mkF m 8 #[.val (.ref a1), .val (.long q2), .second] [(.ref a1)])) rfl rfl (hb hby d8_8)
    refine own_go st233 ?_
    show own_Run p e below _ T233 (mkF m 11 #[.val (.ref a1), .val (.long q2), .second] [(.ref b2)])
    refine own_go (fun _ k => XS.aloadN X233.here hx rfl (hb hby d8_11) rfl rfl k) ?_
    show own_Run p e below _ T233 (mkF m 12 #[.val (.ref a1), .val (.long q2), .second] [(.ref a1), (.ref b2)])
    obtain ⟨T234, X234, e234, st234⟩ := getF X233 hx hZ hown (host := "") (Or.inl (W 30 rfl)) Via.refl e233 F_mCount_a1_c230 (g := (mkF m 12 #[.val (.ref a1), .val (.long q2), .second] [(.ref a1), (.ref b2)])) rfl rfl (hb hby d8_12)
    refine own_go st234 ?_
    show own_Run p e below _ T234 (mkF m 15 #[.val (.ref a1), .val (.long q2), .second] [(.int (2 : Int32)), (.ref b2)])
    refine own_go (fun _ k => XS.iconst X234.here hx rfl (hb hby d8_15) k) ?_
    refine own_go (fun _ k => XS.isub X234.here hx rfl (hb hby d8_16) rfl k) ?_
    show own_Run p e below _ T234 (mkF m 17 #[.val (.ref a1), .val (.long q2), .second] [(.int ((2 : Int32) - (1 : Int32))), (.ref b2)])
    rw [show ((2 : Int32) - (1 : Int32)) = (1 : Int32) by decide]
    show own_Run p e below _ T234 (mkF m 17 #[.val (.ref a1), .val (.long q2), .second] [(.int (1 : Int32)), (.ref b2)])
    obtain ⟨cl235, Ar235, q235, S235, N235, H235, G235⟩ := id V_b2_c231
    have hin235 : ¬ ((1 : Int32) < 0 ∨ cl235.slots.size ≤ ((1 : Int32)).toNatClampNeg) := inb_of S235 ⟨by decide, by decide⟩
    refine own_go (X234.iaload hx (j := (1 : Int32)) (v := (.int y1)) (by rw [e234]; exact Ar235.1) (State.isArrayOf_alike hZ.alike Ar235.2.1) Ar235.2.2 hin235 (H235.at hin235 rfl) (g := (mkF m 17 #[.val (.ref a1), .val (.long q2), .second] [(.int (1 : Int32)), (.ref b2)])) rfl rfl (hb hby d8_17)) ?_
    show own_Run p e below _ T234 (mkF m 18 #[.val (.ref a1), .val (.long q2), .second] [(.int y1)])
    refine own_go (fun _ k => XS.i2l X234.here hx rfl (hb hby d8_18) rfl k) ?_
    refine own_go (fun _ k => XS.lloadN X234.here hx rfl (hb hby d8_19) rfl k) ?_
    refine own_go (fun _ k => XS.lcmp X234.here hx rfl (hb hby d8_20) rfl k) ?_
    show own_Run p e below _ T234 (mkF m 21 #[.val (.ref a1), .val (.long q2), .second] [(.int (lcmpW (y1.toInt64) q2))])
    refine own_go (fun _ k => XS.ifYes X234.here hx rfl (pc0 := 21) (pc' := 37) rfl (hb hby d8_21) rfl (own_lcT hz1).1 (by decide) (by decide) k) ?_
    show own_Run p e below _ T234 (mkF m 37 #[.val (.ref a1), .val (.long q2), .second] [])
    refine own_done (Q := fun v h L => Q8n3 Z a1 q2 b1 b2 k2 mx ba y0 y1 y2 (2 : Int32) h0 n0 v h L) (v := none) X234 (fun _ => rfl) hlk (fun fs hr => X234.returnOut hx hret (hb hby d8_37) hr) ?_ (by decide) (by decide)
    show Q8n3 Z a1 q2 b1 b2 k2 mx ba y0 y1 y2 (2 : Int32) h0 n0 _ T234.heap _
    rw [e234]
    exact ⟨rfl, N230, K0_c231, E_a1_c231, F_mOffsets_a1_c231, F_mPositions_a1_c231, F_mMaxTimestamp_a1_c231, F_mBaseOffset_a1_c231, F_mCount_a1_c230⟩
  · show own_Run p e below _ s₁ (mkF m 0 #[.val (.ref a1), .val (.long q2), .second] [])
    refine own_go (fun _ k => XS.aloadN X0.here hx rfl (hb hby d8_0) rfl rfl k) ?_
    show own_Run p e below _ s₁ (mkF m 1 #[.val (.ref a1), .val (.long q2), .second] [(.ref a1)])
    obtain ⟨T236, X236, e236, st236⟩ := getF X0 hx hZ hown (host := "") (Or.inl (W 30 rfl)) Via.refl e0 F_mCount_a1 (g := (mkF m 1 #[.val (.ref a1), .val (.long q2), .second] [(.ref a1)])) rfl rfl (hb hby d8_1)
    refine own_go st236 ?_
    show own_Run p e below _ T236 (mkF m 4 #[.val (.ref a1), .val (.long q2), .second] [(.int (3 : Int32))])
    refine own_go (fun _ k => XS.ifNo X236.here hx rfl (hb hby d8_4) rfl ((if0 _ _).trans (tlt (by decide : (0 : Int32) < (3 : Int32))).2.2.2) k) ?_
    show own_Run p e below _ T236 (mkF m 7 #[.val (.ref a1), .val (.long q2), .second] [])
    refine own_go (fun _ k => XS.aloadN X236.here hx rfl (hb hby d8_7) rfl rfl k) ?_
    show own_Run p e below _ T236 (mkF m 8 #[.val (.ref a1), .val (.long q2), .second] [(.ref a1)])
    obtain ⟨T237, X237, e237, st237⟩ := getF X236 hx hZ hown (host := "") (Or.inl (W 14 rfl)) Via.refl e236 F_mPositions_a1 (g := (mkF m 8 #[.val (.ref a1), .val (.long q2), .second] [(.ref a1)])) rfl rfl (hb hby d8_8)
    refine own_go st237 ?_
    show own_Run p e below _ T237 (mkF m 11 #[.val (.ref a1), .val (.long q2), .second] [(.ref b2)])
    refine own_go (fun _ k => XS.aloadN X237.here hx rfl (hb hby d8_11) rfl rfl k) ?_
    show own_Run p e below _ T237 (mkF m 12 #[.val (.ref a1), .val (.long q2), .second] [(.ref a1), (.ref b2)])
    obtain ⟨T238, X238, e238, st238⟩ := getF X237 hx hZ hown (host := "") (Or.inl (W 30 rfl)) Via.refl e237 F_mCount_a1 (g := (mkF m 12 #[.val (.ref a1), .val (.long q2), .second] [(.ref a1), (.ref b2)])) rfl rfl (hb hby d8_12)
    refine own_go st238 ?_
    show own_Run p e below _ T238 (mkF m 15 #[.val (.ref a1), .val (.long q2), .second] [(.int (3 : Int32)), (.ref b2)])
    refine own_go (fun _ k => XS.iconst X238.here hx rfl (hb hby d8_15) k) ?_
    refine own_go (fun _ k => XS.isub X238.here hx rfl (hb hby d8_16) rfl k) ?_
    show own_Run p e below _ T238 (mkF m 17 #[.val (.ref a1), .val (.long q2), .second] [(.int ((3 : Int32) - (1 : Int32))), (.ref b2)])
    rw [show ((3 : Int32) - (1 : Int32)) = (2 : Int32) by decide]
    show own_Run p e below _ T238 (mkF m 17 #[.val (.ref a1), .val (.long q2), .second] [(.int (2 : Int32)), (.ref b2)])
    obtain ⟨cl239, Ar239, q239, S239, N239, H239, G239⟩ := id V_b2
    have hin239 : ¬ ((2 : Int32) < 0 ∨ cl239.slots.size ≤ ((2 : Int32)).toNatClampNeg) := inb_of S239 ⟨by decide, by decide⟩
    refine own_go (X238.iaload hx (j := (2 : Int32)) (v := (.int y2)) (by rw [e238]; exact Ar239.1) (State.isArrayOf_alike hZ.alike Ar239.2.1) Ar239.2.2 hin239 (H239.at hin239 rfl) (g := (mkF m 17 #[.val (.ref a1), .val (.long q2), .second] [(.int (2 : Int32)), (.ref b2)])) rfl rfl (hb hby d8_17)) ?_
    show own_Run p e below _ T238 (mkF m 18 #[.val (.ref a1), .val (.long q2), .second] [(.int y2)])
    refine own_go (fun _ k => XS.i2l X238.here hx rfl (hb hby d8_18) rfl k) ?_
    refine own_go (fun _ k => XS.lloadN X238.here hx rfl (hb hby d8_19) rfl k) ?_
    refine own_go (fun _ k => XS.lcmp X238.here hx rfl (hb hby d8_20) rfl k) ?_
    show own_Run p e below _ T238 (mkF m 21 #[.val (.ref a1), .val (.long q2), .second] [(.int (lcmpW (y2.toInt64) q2))])
    refine own_go (fun _ k => XS.ifYes X238.here hx rfl (pc0 := 21) (pc' := 37) rfl (hb hby d8_21) rfl (own_lcT hz2).1 (by decide) (by decide) k) ?_
    show own_Run p e below _ T238 (mkF m 37 #[.val (.ref a1), .val (.long q2), .second] [])
    refine own_done (Q := fun v h L => Q8n3 Z a1 q2 b1 b2 k2 mx ba y0 y1 y2 (3 : Int32) h0 n0 v h L) (v := none) X238 (fun _ => rfl) hlk (fun fs hr => X238.returnOut hx hret (hb hby d8_37) hr) ?_ (by decide) (by decide)
    show Q8n3 Z a1 q2 b1 b2 k2 mx ba y0 y1 y2 (3 : Int32) h0 n0 _ T238.heap _
    rw [e238]
    exact ⟨rfl, N0, K0, E_a1, F_mOffsets_a1, F_mPositions_a1, F_mMaxTimestamp_a1, F_mBaseOffset_a1, F_mCount_a1⟩
def Q0 (Z : State) (q1 : Int64) (p2 : Int32) (p3 : Int32) (p4 : Int32) (q5 : Int64) (p6 : Int32) (h0 : Heap) (n0 : Nat) (v : Option Value) (h : Heap) (L : List Loc) : Prop := v = some (.int (1 : Int32)) ∧ Fr n0 L
theorem pn_0 : plainName "com/example/tote/tote/storage/OffsetIndexCutBackPinLaw" = true := by first | (simp [plainName, overriddenIn]; done) | decide +kernel
theorem pd_4 : parseMethodDescriptor "(JJ)V" = some ⟨[.long, .long], none⟩ := by decide +kernel
theorem pd_5 : parseMethodDescriptor "()J" = some ⟨[], some .long⟩ := by decide +kernel
theorem pd_6 : parseMethodDescriptor "(J)V" = some ⟨[.long], none⟩ := by decide +kernel
theorem pd_7 : parseMethodDescriptor "()I" = some ⟨[], some .int⟩ := by decide +kernel
theorem pd_8 : parseMethodDescriptor "(JJJ)V" = some ⟨[.long, .long, .long], none⟩ := by decide +kernel
theorem pd_9 : parseMethodDescriptor "(I)J" = some ⟨[.int], some .long⟩ := by decide +kernel
set_option maxRecDepth 65536 in
set_option maxHeartbeats 40000000 in
theorem tail0 {p : Program} {l : Launch} {e : Env} {s : State} {m : MethodId} {args : Array Value} {below : List Frame} {meth : Method} {c : Code} {Z : State} {a0 : Array Value} (q1 : Int64) (p2 : Int32) (p3 : Int32) (p4 : Int32) (q5 : Int64) (p6 : Int32) (h0 : Heap) (n0 : Nat) (hx : p.tables.exec = Jvm.exec) (hZ : Z.Warmed39 s.vm) (hw : ∀ d ∈ tables_1, d.before a0 Z = true) (hby : c.code = code) (hml : c.maxLocals = 23) (hown : s.vm.findClass "com/example/tote/tote/storage/OffsetIndexCutBackPinLaw" = some m.cls) (hnm : meth.name = "law") (hret : meth.sig.returnType = some .boolean) (hlk : meth.locks = false)
    (x8 : Int32) (x9 : Int32) (x10 : Int64) (x12 : Int64) (x14 : Int64) (o16 : Addr) (k16 : ClassId) (tm : Int64) (s19 : Slot) (T0 : State) (hh : Heap) (locs : List Loc) (X0 : Stand p l e room_1 s m args below meth c T0 locs 1 3) (e0 : T0.heap = hh) (N0 : Fr n0 locs) (Z0 : n0 ≤ hh.size) (K0 : Keep h0 hh []) (V_o16 : Arv Z hh o16 k16 .long (3 : Int32) [(.long x10), (.long x12), (.long x14)] (.long (0 : Int64))) (hx8 : x8 = (p6 &&& (3 : Int32))) (hB0 : 0 ≤ x10.toInt ∧ x10.toInt < 2147483648) (hB1 : x10.toInt < x12.toInt ∧ 0 ≤ x12.toInt ∧ x12.toInt < 2147483648) (hB2 : x12.toInt < x14.toInt ∧ 0 ≤ x14.toInt ∧ x14.toInt < 2147483648) (hs19 : One s19) (g_o16 : n0 ≤ o16) (sz_o16 : h0.size ≤ o16) :
    own_Run p e below (fun o U' => ∃ v L, o = .returned v ∧ Q0 Z q1 p2 p3 p4 q5 p6 h0 n0 v U'.heap L ∧ FrameEnd s o U' L room_1.cells room_1.slots) T0 (mkF m 112 #[.val (.long q1), .second, .val (.int p2), .val (.int p3), .val (.int p4), .val (.long q5), .second, .val (.int p6), .val (.int x8), .val (.int x9), .val (.long x10), .second, .val (.long x12), .second, .val (.long x14), .second, .val (.ref o16), .val (.long tm), .second, s19, .unset, .unset, .unset] []) := by
  have W := fun (k : Nat) {d : Jvm.Cond} (h : tables_1[k]? = some d) => hw d (List.mem_of_getElem? h)
  show own_Run p e below _ T0 (mkF m 112 #[.val (.long q1), .second, .val (.int p2), .val (.int p3), .val (.int p4), .val (.long q5), .second, .val (.int p6), .val (.int x8), .val (.int x9), .val (.long x10), .second, .val (.long x12), .second, .val (.long x14), .second, .val (.ref o16), .val (.long tm), .second, s19, .unset, .unset, .unset] [])
  have ht0 := own_tie x10 hB0.1 hB0.2
  have ht1 := own_tie x12 hB1.2.1 hB1.2.2
  have ht2 := own_tie x14 hB2.2.1 hB2.2.2
  show own_Run p e below _ T0 (mkF m 112 #[.val (.long q1), .second, .val (.int p2), .val (.int p3), .val (.int p4), .val (.long q5), .second, .val (.int p6), .val (.int x8), .val (.int x9), .val (.long x10), .second, .val (.long x12), .second, .val (.long x14), .second, .val (.ref o16), .val (.long tm), .second, s19, .unset, .unset, .unset] [])
  obtain ⟨T240, h240, X240, e240, E240, A240, D240, -, st240⟩ := newO X0 hx hZ hown (W 2 rfl) (W 3 rfl) (W 4 rfl) e0 (g := (mkF m 112 #[.val (.long q1), .second, .val (.int p2), .val (.int p3), .val (.int p4), .val (.long q5), .second, .val (.int p6), .val (.int x8), .val (.int x9), .val (.long x10), .second, .val (.long x12), .second, .val (.long x14), .second, .val (.ref o16), .val (.long tm), .second, s19, .unset, .unset, .unset] [])) rfl (hb hby at_112) (by decide) (by decide)
  refine own_go st240 ?_
  obtain ⟨b240, g240⟩ : ∃ z, z = hh.size := ⟨_, rfl⟩
  rw [← g240] at A240 D240
  rw [← g240]
  show own_Run p e below _ T240 (mkF m 115 #[.val (.long q1), .second, .val (.int p2), .val (.int p3), .val (.int p4), .val (.long q5), .second, .val (.int p6), .val (.int x8), .val (.int x9), .val (.long x10), .second, .val (.long x12), .second, .val (.long x14), .second, .val (.ref o16), .val (.long tm), .second, s19, .unset, .unset, .unset] [(.ref b240)])
  have ne_o16_b240 : o16 ≠ b240 := Nat.ne_of_lt (Nat.lt_of_lt_of_eq V_o16.lt g240.symm)
  have g_b240 : n0 ≤ b240 := Nat.le_trans Z0 (Nat.le_of_eq g240.symm)
  have sz_b240 : h0.size ≤ b240 := Nat.le_trans K0.1 (Nat.le_of_eq g240.symm)
  have Z0_c241 := Nat.le_trans Z0 E240.1
  have K0_c241 := K0.ext E240
  have V_o16_c241 := V_o16.ext E240
  have F_mOffsets_b240 : Fld Z h240 b240 "com/example/tote/tote/storage/OffsetIndex" "mOffsets" "[I" .null := D240 (Or.inl (W 13 rfl)) (ty := (.array .int)) (by decide)
  have F_mPositions_b240 : Fld Z h240 b240 "com/example/tote/tote/storage/OffsetIndex" "mPositions" "[I" .null := D240 (Or.inl (W 15 rfl)) (ty := (.array .int)) (by decide)
  have F_mTimestamps_b240 : Fld Z h240 b240 "com/example/tote/tote/storage/OffsetIndex" "mTimestamps" "[J" .null := D240 (Or.inl (W 17 rfl)) (ty := (.array .long)) (by decide)
  have F_mMaxTimestamp_b240 : Fld Z h240 b240 "com/example/tote/tote/storage/OffsetIndex" "mMaxTimestamp" "J" (.long (0 : Int64)) := D240 (Or.inl (W 20 rfl)) (ty := .long) (by decide)
  have F_mBaseOffset_b240 : Fld Z h240 b240 "com/example/tote/tote/storage/OffsetIndex" "mBaseOffset" "J" (.long (0 : Int64)) := D240 (Or.inr (W 22 rfl)) (ty := .long) (by decide)
  have F_mIntervalBytes_b240 : Fld Z h240 b240 "com/example/tote/tote/storage/OffsetIndex" "mIntervalBytes" "J" (.long (0 : Int64)) := D240 (Or.inr (W 24 rfl)) (ty := .long) (by decide)
  have F_mCount_b240 : Fld Z h240 b240 "com/example/tote/tote/storage/OffsetIndex" "mCount" "I" (.int (0 : Int32)) := D240 (Or.inl (W 31 rfl)) (ty := .int) (by decide)
  refine own_go (fun _ k => XS.dup X240.here hx rfl (hb hby at_115) rfl rfl k) ?_
  refine own_go (fun _ k => XS.lloadN X240.here hx rfl (hb hby at_116) rfl k) ?_
  refine own_go (fun _ k => XS.lconst X240.here hx rfl (hb hby at_117) k) ?_
  show own_Run p e below _ T240 (mkF m 118 #[.val (.long q1), .second, .val (.int p2), .val (.int p3), .val (.int p4), .val (.long q5), .second, .val (.int p6), .val (.int x8), .val (.int x9), .val (.long x10), .second, .val (.long x12), .second, .val (.long x14), .second, .val (.ref o16), .val (.long tm), .second, s19, .unset, .unset, .unset] [(.long (0 : Int64)), (.long q1), (.ref b240), (.ref b240)])
  obtain ⟨_, _, ⟨T242, L242, k242, n242⟩, -, X242, ⟨Lc242, hQ242, l242, y242, z242⟩, st242⟩ := X240.specialBack hx (y := (⟨"com/example/tote/tote/storage/OffsetIndex", "<init>", "(JJ)V"⟩ : MethodName)) rfl hown (mvT hZ (W 5 rfl)) (mvT hZ (W 6 rfl)) (mvT hZ (W 7 rfl)) (by decide) (backOf (W := 1) (rm1 l Z a0 hw [] b240 q1 (0 : Int64) .null .null .null (.long (0 : Int64)) (.long (0 : Int64)) (.long (0 : Int64)) h240 n0 Z0_c241 A240 F_mOffsets_b240 F_mPositions_b240 F_mTimestamps_b240 F_mMaxTimestamp_b240 F_mBaseOffset_b240 F_mIntervalBytes_b240 F_mCount_b240 g_b240) hZ (W 7 rfl) (W 4 rfl) (by decide) (by decide)) (g := (mkF m 118 #[.val (.long q1), .second, .val (.int p2), .val (.int p3), .val (.int p4), .val (.long q5), .second, .val (.int p6), .val (.int x8), .val (.int x9), .val (.long x10), .second, .val (.long x12), .second, .val (.long x14), .second, .val (.ref o16), .val (.long tm), .second, s19, .unset, .unset, .unset] [(.long (0 : Int64)), (.long q1), (.ref b240), (.ref b240)])) rfl (by rw [hml]; rfl) (Steps.refl _) (a := b240) (argsL := [(.long q1), (.long (0 : Int64))]) (rest := [(.ref b240)]) (lenOf pd_4 rfl) rfl (by show 2 * 0 + _ ≤ _; exact Nat.le_of_eq rfl) (hb hby at_118) (fun _ _ => ⟨rfl, e240, (by decide : 2 + 3 ≤ _), (by decide : 10 + 48 ≤ _)⟩)
  dsimp only [Pt.U, Pt.locs, Pt.cells, Pt.slots] at X242 l242 y242 z242 st242 hQ242
  subst l242 y242 z242
  obtain ⟨b1_242, b2_242, b3_242, k1_242, k2_242, k3_242, rfl, N242q, K242, P242_0, P242_1, P242_2, P242_3, P242_4, P242_5, P242_6, P242_7, P242_8, P242_9, P242_10, P242_11, P242_12, P242_13, P242_14, P242_15, P242_16, P242_17, P242_18, P242_19⟩ := hQ242
  have ne_o16_b1_242 : o16 ≠ b1_242 := Nat.ne_of_lt (Nat.lt_of_lt_of_le V_o16_c241.lt P242_11)
  have ne_b240_b1_242 : b240 ≠ b1_242 := Nat.ne_of_lt (Nat.lt_of_lt_of_le A240.lt P242_11)
  have g_b1_242 : n0 ≤ b1_242 := Nat.le_trans Z0_c241 P242_11
  have sz_b1_242 : h0.size ≤ b1_242 := Nat.le_trans K0_c241.1 P242_11
  have ne_o16_b2_242 : o16 ≠ b2_242 := Nat.ne_of_lt (Nat.lt_of_lt_of_le V_o16_c241.lt P242_12)
  have ne_b240_b2_242 : b240 ≠ b2_242 := Nat.ne_of_lt (Nat.lt_of_lt_of_le A240.lt P242_12)
  have g_b2_242 : n0 ≤ b2_242 := Nat.le_trans Z0_c241 P242_12
  have sz_b2_242 : h0.size ≤ b2_242 := Nat.le_trans K0_c241.1 P242_12
  have ne_o16_b3_242 : o16 ≠ b3_242 := Nat.ne_of_lt (Nat.lt_of_lt_of_le V_o16_c241.lt P242_13)
  have ne_b240_b3_242 : b240 ≠ b3_242 := Nat.ne_of_lt (Nat.lt_of_lt_of_le A240.lt P242_13)
  have g_b3_242 : n0 ≤ b3_242 := Nat.le_trans Z0_c241 P242_13
  have sz_b3_242 : h0.size ≤ b3_242 := Nat.le_trans K0_c241.1 P242_13
  have N242 := Fr.app N0 N242q
  refine own_goT st242 ?_
  show own_Run p e below _ T242 (mkF m 121 #[.val (.long q1), .second, .val (.int p2), .val (.int p3), .val (.int p4), .val (.long q5), .second, .val (.int p6), .val (.int x8), .val (.int x9), .val (.long x10), .second, .val (.long x12), .second, .val (.long x14), .second, .val (.ref o16), .val (.long tm), .second, s19, .unset, .unset, .unset] [(.ref b240)])
  have Z0_c243 := Nat.le_trans Z0_c241 K242.1
  have K0_c243 := K0_c241.trans K242 (allS (Or.inr sz_b240) all0)
  have V_o16_c243 := V_o16_c241.keep K242 (ninS ne_o16_b240 nin0)
  have A240_c243 := A240.keep K242
  refine own_go (fun _ k => XS.astore X242.here hx rfl (hb hby at_121) rfl rfl (l' := #[.val (.long q1), .second, .val (.int p2), .val (.int p3), .val (.int p4), .val (.long q5), .second, .val (.int p6), .val (.int x8), .val (.int x9), .val (.long x10), .second, .val (.long x12), .second, .val (.long x14), .second, .val (.ref o16), .val (.long tm), .second, .val (.ref b240), .unset, .unset, .unset]) ((XS.store1 (o := s19) rfl hs19 rfl).trans rfl) k) ?_
  show own_Run p e below _ T242 (mkF m 123 #[.val (.long q1), .second, .val (.int p2), .val (.int p3), .val (.int p4), .val (.long q5), .second, .val (.int p6), .val (.int x8), .val (.int x9), .val (.long x10), .second, .val (.long x12), .second, .val (.long x14), .second, .val (.ref o16), .val (.long tm), .second, .val (.ref b240), .unset, .unset, .unset] [])
  rcases own_and3 p6 x8 hx8 with rfl | rfl | rfl | rfl
  · show own_Run p e below _ T242 (mkF m 123 #[.val (.long q1), .second, .val (.int p2), .val (.int p3), .val (.int p4), .val (.long q5), .second, .val (.int p6), .val (.int (0 : Int32)), .val (.int x9), .val (.long x10), .second, .val (.long x12), .second, .val (.long x14), .second, .val (.ref o16), .val (.long tm), .second, .val (.ref b240), .unset, .unset, .unset] [])
    refine own_go (fun _ k => XS.iload X242.here hx rfl (hb hby at_123) rfl k) ?_
    refine own_go (fun _ k => XS.iconst X242.here hx rfl (hb hby at_125) k) ?_
    show own_Run p e below _ T242 (mkF m 126 #[.val (.long q1), .second, .val (.int p2), .val (.int p3), .val (.int p4), .val (.long q5), .second, .val (.int p6), .val (.int (0 : Int32)), .val (.int x9), .val (.long x10), .second, .val (.long x12), .second, .val (.long x14), .second, .val (.ref o16), .val (.long tm), .second, .val (.ref b240), .unset, .unset, .unset] [(.int (1 : Int32)), (.int (0 : Int32))])
    refine own_go (fun _ k => XS.icmpYes X242.here hx rfl (pc0 := 126) (pc' := 139) rfl (hb hby at_126) rfl (tlt (by decide : (0 : Int32) < (1 : Int32))).1 (by decide) (by decide) k) ?_
    show own_Run p e below _ T242 (mkF m 139 #[.val (.long q1), .second, .val (.int p2), .val (.int p3), .val (.int p4), .val (.long q5), .second, .val (.int p6), .val (.int (0 : Int32)), .val (.int x9), .val (.long x10), .second, .val (.long x12), .second, .val (.long x14), .second, .val (.ref o16), .val (.long tm), .second, .val (.ref b240), .unset, .unset, .unset] [])
    refine own_go (fun _ k => XS.iload X242.here hx rfl (hb hby at_139) rfl k) ?_
    refine own_go (fun _ k => XS.iconst X242.here hx rfl (hb hby at_141) k) ?_
    show own_Run p e below _ T242 (mkF m 142 #[.val (.long q1), .second, .val (.int p2), .val (.int p3), .val (.int p4), .val (.long q5), .second, .val (.int p6), .val (.int (0 : Int32)), .val (.int x9), .val (.long x10), .second, .val (.long x12), .second, .val (.long x14), .second, .val (.ref o16), .val (.long tm), .second, .val (.ref b240), .unset, .unset, .unset] [(.int (2 : Int32)), (.int (0 : Int32))])
    refine own_go (fun _ k => XS.icmpYes X242.here hx rfl (pc0 := 142) (pc' := 157) rfl (hb hby at_142) rfl (tlt (by decide : (0 : Int32) < (2 : Int32))).1 (by decide) (by decide) k) ?_
    show own_Run p e below _ T242 (mkF m 157 #[.val (.long q1), .second, .val (.int p2), .val (.int p3), .val (.int p4), .val (.long q5), .second, .val (.int p6), .val (.int (0 : Int32)), .val (.int x9), .val (.long x10), .second, .val (.long x12), .second, .val (.long x14), .second, .val (.ref o16), .val (.long tm), .second, .val (.ref b240), .unset, .unset, .unset] [])
    refine own_go (fun _ k => XS.iload X242.here hx rfl (hb hby at_157) rfl k) ?_
    refine own_go (fun _ k => XS.iconst X242.here hx rfl (hb hby at_159) k) ?_
    show own_Run p e below _ T242 (mkF m 160 #[.val (.long q1), .second, .val (.int p2), .val (.int p3), .val (.int p4), .val (.long q5), .second, .val (.int p6), .val (.int (0 : Int32)), .val (.int x9), .val (.long x10), .second, .val (.long x12), .second, .val (.long x14), .second, .val (.ref o16), .val (.long tm), .second, .val (.ref b240), .unset, .unset, .unset] [(.int (3 : Int32)), (.int (0 : Int32))])
    refine own_go (fun _ k => XS.icmpYes X242.here hx rfl (pc0 := 160) (pc' := 176) rfl (hb hby at_160) rfl (tlt (by decide : (0 : Int32) < (3 : Int32))).1 (by decide) (by decide) k) ?_
    show own_Run p e below _ T242 (mkF m 176 #[.val (.long q1), .second, .val (.int p2), .val (.int p3), .val (.int p4), .val (.long q5), .second, .val (.int p6), .val (.int (0 : Int32)), .val (.int x9), .val (.long x10), .second, .val (.long x12), .second, .val (.long x14), .second, .val (.ref o16), .val (.long tm), .second, .val (.ref b240), .unset, .unset, .unset] [])
    refine own_go (fun _ k => XS.aload X242.here hx rfl (hb hby at_176) rfl rfl k) ?_
    show own_Run p e below _ T242 (mkF m 178 #[.val (.long q1), .second, .val (.int p2), .val (.int p3), .val (.int p4), .val (.long q5), .second, .val (.int p6), .val (.int (0 : Int32)), .val (.int x9), .val (.long x10), .second, .val (.long x12), .second, .val (.long x14), .second, .val (.ref o16), .val (.long tm), .second, .val (.ref b240), .unset, .unset, .unset] [(.ref b240)])
    obtain ⟨cq244, kq244, q244a, q244b, q244c⟩ := isOf hZ rfl P242_0
    obtain ⟨_, _, ⟨T244, L244, k244, n244⟩, -, X244, ⟨Lc244, hQ244, l244, y244, z244⟩, st244⟩ := X242.virtualBack hx (y := (⟨"com/example/tote/tote/storage/OffsetIndex", "maxTimestamp", "()J"⟩ : MethodName)) (z := (⟨"com/example/tote/tote/storage/OffsetIndex", "maxTimestamp", "()J"⟩ : MethodName)) hown (mvT hZ (W 43 rfl)) (mvT hZ (W 44 rfl)) (notFace_of_selects (args := #[]) (mvT hZ (W 46 rfl))) (mvT hZ (W 46 rfl)) (mvT hZ (W 45 rfl)) (by decide) (backOf (W := 0) (rm7 l Z a0 hw [] b240 (-9223372036854775808 : Int64) T242.heap n0 Z0_c243 P242_4) hZ (W 47 rfl) (W 4 rfl) (by decide) (by decide)) q244a q244c (g := (mkF m 178 #[.val (.long q1), .second, .val (.int p2), .val (.int p3), .val (.int p4), .val (.long q5), .second, .val (.int p6), .val (.int (0 : Int32)), .val (.int x9), .val (.long x10), .second, .val (.long x12), .second, .val (.long x14), .second, .val (.ref o16), .val (.long tm), .second, .val (.ref b240), .unset, .unset, .unset] [(.ref b240)])) rfl (by rw [hml]; rfl) (Steps.refl _) (argsL := []) (rest := []) (lenOf pd_5 rfl) rfl (by show 2 * 0 + _ ≤ _; exact Nat.le_of_eq rfl) (hb hby at_178) (fun _ _ => ⟨rfl, rfl, (by decide : 5 + 0 ≤ _), (by decide : 58 + 0 ≤ _)⟩)
    dsimp only [Pt.U, Pt.locs, Pt.cells, Pt.slots] at X244 l244 y244 z244 st244 hQ244
    subst l244 y244 z244
    obtain ⟨rfl, N244q, e244⟩ := hQ244
    have N244 := Fr.app N242 N244q
    refine own_goT st244 ?_
    show own_Run p e below _ T244 (mkF m 181 #[.val (.long q1), .second, .val (.int p2), .val (.int p3), .val (.int p4), .val (.long q5), .second, .val (.int p6), .val (.int (0 : Int32)), .val (.int x9), .val (.long x10), .second, .val (.long x12), .second, .val (.long x14), .second, .val (.ref o16), .val (.long tm), .second, .val (.ref b240), .unset, .unset, .unset] [(.long (-9223372036854775808 : Int64))])
    refine own_go (fun _ k => XS.lstore X244.here hx rfl (hb hby at_181) rfl (l' := #[.val (.long q1), .second, .val (.int p2), .val (.int p3), .val (.int p4), .val (.long q5), .second, .val (.int p6), .val (.int (0 : Int32)), .val (.int x9), .val (.long x10), .second, .val (.long x12), .second, .val (.long x14), .second, .val (.ref o16), .val (.long tm), .second, .val (.ref b240), .val (.long (-9223372036854775808 : Int64)), .second, .unset]) rfl k) ?_
    refine own_go (fun _ k => XS.aload X244.here hx rfl (hb hby at_183) rfl rfl k) ?_
    refine own_go (fun _ k => XS.lload X244.here hx rfl (hb hby at_185) rfl k) ?_
    show own_Run p e below _ T244 (mkF m 187 #[.val (.long q1), .second, .val (.int p2), .val (.int p3), .val (.int p4), .val (.long q5), .second, .val (.int p6), .val (.int (0 : Int32)), .val (.int x9), .val (.long x10), .second, .val (.long x12), .second, .val (.long x14), .second, .val (.ref o16), .val (.long tm), .second, .val (.ref b240), .val (.long (-9223372036854775808 : Int64)), .second, .unset] [(.long tm), (.ref b240)])
    obtain ⟨cq245, kq245, q245a, q245b, q245c⟩ := isOf hZ e244 P242_0
    obtain ⟨_, _, ⟨T245, L245, k245, n245⟩, -, X245, ⟨Lc245, hQ245, l245, y245, z245⟩, st245⟩ := X244.virtualBack hx (y := (⟨"com/example/tote/tote/storage/OffsetIndex", "cutBack", "(J)V"⟩ : MethodName)) (z := (⟨"com/example/tote/tote/storage/OffsetIndex", "cutBack", "(J)V"⟩ : MethodName)) hown (mvT hZ (W 48 rfl)) (mvT hZ (W 49 rfl)) (notFace_of_selects (args := #[]) (mvT hZ (W 51 rfl))) (mvT hZ (W 51 rfl)) (mvT hZ (W 50 rfl)) (by decide) (backOf (W := 0) (rm8n0 l Z a0 hw [] b240 tm b1_242 b2_242 k2_242 (-9223372036854775808 : Int64) q1 (0 : Int32) (0 : Int32) (0 : Int32) (0 : Int32) T242.heap n0 Z0_c243 P242_0 P242_1 P242_2 P242_4 P242_5 P242_7 P242_9 g_b240 P242_15 (rfl)) hZ (W 52 rfl) (W 4 rfl) (by decide) (by decide)) q245a q245c (g := (mkF m 187 #[.val (.long q1), .second, .val (.int p2), .val (.int p3), .val (.int p4), .val (.long q5), .second, .val (.int p6), .val (.int (0 : Int32)), .val (.int x9), .val (.long x10), .second, .val (.long x12), .second, .val (.long x14), .second, .val (.ref o16), .val (.long tm), .second, .val (.ref b240), .val (.long (-9223372036854775808 : Int64)), .second, .unset] [(.long tm), (.ref b240)])) rfl (by rw [hml]; rfl) (Steps.refl _) (argsL := [(.long tm)]) (rest := []) (lenOf pd_6 rfl) rfl (by show 2 * 0 + _ ≤ _; exact Nat.le_of_eq rfl) (hb hby at_187) (fun _ _ => ⟨rfl, e244, (by decide : 5 + 0 ≤ _), (by decide : 58 + 0 ≤ _)⟩)
    dsimp only [Pt.U, Pt.locs, Pt.cells, Pt.slots] at X245 l245 y245 z245 st245 hQ245
    subst l245 y245 z245
    obtain ⟨rfl, N245q, K245, P245_0, P245_1, P245_2, P245_3, P245_4, P245_5⟩ := hQ245
    have N245 := Fr.app N244 N245q
    refine own_goT st245 ?_
    show own_Run p e below _ T245 (mkF m 190 #[.val (.long q1), .second, .val (.int p2), .val (.int p3), .val (.int p4), .val (.long q5), .second, .val (.int p6), .val (.int (0 : Int32)), .val (.int x9), .val (.long x10), .second, .val (.long x12), .second, .val (.long x14), .second, .val (.ref o16), .val (.long tm), .second, .val (.ref b240), .val (.long (-9223372036854775808 : Int64)), .second, .unset] [])
    have Z0_c246 := Nat.le_trans Z0_c243 K245.1
    have K0_c246 := K0_c243.trans K245 (allS (Or.inr sz_b240) all0)
    have V_o16_c246 := V_o16_c243.keep K245 (ninS ne_o16_b240 nin0)
    have P242_0_c246 := P242_0.keep K245
    have P242_8_c246 := P242_8.keep K245 (ninS (Ne.symm P242_14) nin0)
    have P242_9_c246 := P242_9.keep K245 (ninS (Ne.symm P242_15) nin0)
    have P242_10_c246 := P242_10.keep K245 (ninS (Ne.symm P242_16) nin0)
    refine own_go (fun _ k => XS.iconst X245.here hx rfl (hb hby at_190) k) ?_
    refine own_go (fun _ k => XS.istore X245.here hx rfl (hb hby at_191) rfl (l' := #[.val (.long q1), .second, .val (.int p2), .val (.int p3), .val (.int p4), .val (.long q5), .second, .val (.int p6), .val (.int (0 : Int32)), .val (.int x9), .val (.long x10), .second, .val (.long x12), .second, .val (.long x14), .second, .val (.ref o16), .val (.long tm), .second, .val (.ref b240), .val (.long (-9223372036854775808 : Int64)), .second, .val (.int (0 : Int32))]) rfl k) ?_
    refine own_go (fun _ k => XS.iload X245.here hx rfl (hb hby at_193) rfl k) ?_
    refine own_go (fun _ k => XS.iconst X245.here hx rfl (hb hby at_195) k) ?_
    show own_Run p e below _ T245 (mkF m 196 #[.val (.long q1), .second, .val (.int p2), .val (.int p3), .val (.int p4), .val (.long q5), .second, .val (.int p6), .val (.int (0 : Int32)), .val (.int x9), .val (.long x10), .second, .val (.long x12), .second, .val (.long x14), .second, .val (.ref o16), .val (.long tm), .second, .val (.ref b240), .val (.long (-9223372036854775808 : Int64)), .second, .val (.int (0 : Int32))] [(.int (1 : Int32)), (.int (0 : Int32))])
    refine own_go (fun _ k => XS.icmpYes X245.here hx rfl (pc0 := 196) (pc' := 210) rfl (hb hby at_196) rfl (tlt (by decide : (0 : Int32) < (1 : Int32))).1 (by decide) (by decide) k) ?_
    show own_Run p e below _ T245 (mkF m 210 #[.val (.long q1), .second, .val (.int p2), .val (.int p3), .val (.int p4), .val (.long q5), .second, .val (.int p6), .val (.int (0 : Int32)), .val (.int x9), .val (.long x10), .second, .val (.long x12), .second, .val (.long x14), .second, .val (.ref o16), .val (.long tm), .second, .val (.ref b240), .val (.long (-9223372036854775808 : Int64)), .second, .val (.int (0 : Int32))] [])
    refine own_go (fun _ k => XS.iload X245.here hx rfl (hb hby at_210) rfl k) ?_
    refine own_go (fun _ k => XS.iconst X245.here hx rfl (hb hby at_212) k) ?_
    show own_Run p e below _ T245 (mkF m 213 #[.val (.long q1), .second, .val (.int p2), .val (.int p3), .val (.int p4), .val (.long q5), .second, .val (.int p6), .val (.int (0 : Int32)), .val (.int x9), .val (.long x10), .second, .val (.long x12), .second, .val (.long x14), .second, .val (.ref o16), .val (.long tm), .second, .val (.ref b240), .val (.long (-9223372036854775808 : Int64)), .second, .val (.int (0 : Int32))] [(.int (2 : Int32)), (.int (0 : Int32))])
    refine own_go (fun _ k => XS.icmpYes X245.here hx rfl (pc0 := 213) (pc' := 227) rfl (hb hby at_213) rfl (tlt (by decide : (0 : Int32) < (2 : Int32))).1 (by decide) (by decide) k) ?_
    show own_Run p e below _ T245 (mkF m 227 #[.val (.long q1), .second, .val (.int p2), .val (.int p3), .val (.int p4), .val (.long q5), .second, .val (.int p6), .val (.int (0 : Int32)), .val (.int x9), .val (.long x10), .second, .val (.long x12), .second, .val (.long x14), .second, .val (.ref o16), .val (.long tm), .second, .val (.ref b240), .val (.long (-9223372036854775808 : Int64)), .second, .val (.int (0 : Int32))] [])
    refine own_go (fun _ k => XS.iload X245.here hx rfl (hb hby at_227) rfl k) ?_
    refine own_go (fun _ k => XS.iconst X245.here hx rfl (hb hby at_229) k) ?_
    show own_Run p e below _ T245 (mkF m 230 #[.val (.long q1), .second, .val (.int p2), .val (.int p3), .val (.int p4), .val (.long q5), .second, .val (.int p6), .val (.int (0 : Int32)), .val (.int x9), .val (.long x10), .second, .val (.long x12), .second, .val (.long x14), .second, .val (.ref o16), .val (.long tm), .second, .val (.ref b240), .val (.long (-9223372036854775808 : Int64)), .second, .val (.int (0 : Int32))] [(.int (3 : Int32)), (.int (0 : Int32))])
    refine own_go (fun _ k => XS.icmpYes X245.here hx rfl (pc0 := 230) (pc' := 244) rfl (hb hby at_230) rfl (tlt (by decide : (0 : Int32) < (3 : Int32))).1 (by decide) (by decide) k) ?_
    show own_Run p e below _ T245 (mkF m 244 #[.val (.long q1), .second, .val (.int p2), .val (.int p3), .val (.int p4), .val (.long q5), .second, .val (.int p6), .val (.int (0 : Int32)), .val (.int x9), .val (.long x10), .second, .val (.long x12), .second, .val (.long x14), .second, .val (.ref o16), .val (.long tm), .second, .val (.ref b240), .val (.long (-9223372036854775808 : Int64)), .second, .val (.int (0 : Int32))] [])
    refine own_go (fun _ k => XS.aload X245.here hx rfl (hb hby at_244) rfl rfl k) ?_
    show own_Run p e below _ T245 (mkF m 246 #[.val (.long q1), .second, .val (.int p2), .val (.int p3), .val (.int p4), .val (.long q5), .second, .val (.int p6), .val (.int (0 : Int32)), .val (.int x9), .val (.long x10), .second, .val (.long x12), .second, .val (.long x14), .second, .val (.ref o16), .val (.long tm), .second, .val (.ref b240), .val (.long (-9223372036854775808 : Int64)), .second, .val (.int (0 : Int32))] [(.ref b240)])
    obtain ⟨cq247, kq247, q247a, q247b, q247c⟩ := isOf hZ rfl P245_0
    obtain ⟨_, _, ⟨T247, L247, k247, n247⟩, -, X247, ⟨Lc247, hQ247, l247, y247, z247⟩, st247⟩ := X245.virtualBack hx (y := (⟨"com/example/tote/tote/storage/OffsetIndex", "count", "()I"⟩ : MethodName)) (z := (⟨"com/example/tote/tote/storage/OffsetIndex", "count", "()I"⟩ : MethodName)) hown (mvT hZ (W 53 rfl)) (mvT hZ (W 54 rfl)) (notFace_of_selects (args := #[]) (mvT hZ (W 56 rfl))) (mvT hZ (W 56 rfl)) (mvT hZ (W 55 rfl)) (by decide) (backOf (W := 0) (rm9 l Z a0 hw [] b240 (0 : Int32) T245.heap n0 Z0_c246 P245_5) hZ (W 57 rfl) (W 4 rfl) (by decide) (by decide)) q247a q247c (g := (mkF m 246 #[.val (.long q1), .second, .val (.int p2), .val (.int p3), .val (.int p4), .val (.long q5), .second, .val (.int p6), .val (.int (0 : Int32)), .val (.int x9), .val (.long x10), .second, .val (.long x12), .second, .val (.long x14), .second, .val (.ref o16), .val (.long tm), .second, .val (.ref b240), .val (.long (-9223372036854775808 : Int64)), .second, .val (.int (0 : Int32))] [(.ref b240)])) rfl (by rw [hml]; rfl) (Steps.refl _) (argsL := []) (rest := []) (lenOf pd_7 rfl) rfl (by show 2 * 0 + _ ≤ _; exact Nat.le_of_eq rfl) (hb hby at_246) (fun _ _ => ⟨rfl, rfl, (by decide : 5 + 0 ≤ _), (by decide : 58 + 0 ≤ _)⟩)
    dsimp only [Pt.U, Pt.locs, Pt.cells, Pt.slots] at X247 l247 y247 z247 st247 hQ247
    subst l247 y247 z247
    obtain ⟨rfl, N247q, e247⟩ := hQ247
    have N247 := Fr.app N245 N247q
    refine own_goT st247 ?_
    show own_Run p e below _ T247 (mkF m 249 #[.val (.long q1), .second, .val (.int p2), .val (.int p3), .val (.int p4), .val (.long q5), .second, .val (.int p6), .val (.int (0 : Int32)), .val (.int x9), .val (.long x10), .second, .val (.long x12), .second, .val (.long x14), .second, .val (.ref o16), .val (.long tm), .second, .val (.ref b240), .val (.long (-9223372036854775808 : Int64)), .second, .val (.int (0 : Int32))] [(.int (0 : Int32))])
    refine own_go (fun _ k => XS.iload X247.here hx rfl (hb hby at_249) rfl k) ?_
    show own_Run p e below _ T247 (mkF m 251 #[.val (.long q1), .second, .val (.int p2), .val (.int p3), .val (.int p4), .val (.long q5), .second, .val (.int p6), .val (.int (0 : Int32)), .val (.int x9), .val (.long x10), .second, .val (.long x12), .second, .val (.long x14), .second, .val (.ref o16), .val (.long tm), .second, .val (.ref b240), .val (.long (-9223372036854775808 : Int64)), .second, .val (.int (0 : Int32))] [(.int (0 : Int32)), (.int (0 : Int32))])
    refine own_go (fun _ k => XS.icmpYes X247.here hx rfl (pc0 := 251) (pc' := 256) rfl (hb hby at_251) rfl (teq (by decide : (0 : Int32) = (0 : Int32))).1 (by decide) (by decide) k) ?_
    show own_Run p e below _ T247 (mkF m 256 #[.val (.long q1), .second, .val (.int p2), .val (.int p3), .val (.int p4), .val (.long q5), .second, .val (.int p6), .val (.int (0 : Int32)), .val (.int x9), .val (.long x10), .second, .val (.long x12), .second, .val (.long x14), .second, .val (.ref o16), .val (.long tm), .second, .val (.ref b240), .val (.long (-9223372036854775808 : Int64)), .second, .val (.int (0 : Int32))] [])
    refine own_go (fun _ k => XS.aload X247.here hx rfl (hb hby at_256) rfl rfl k) ?_
    show own_Run p e below _ T247 (mkF m 258 #[.val (.long q1), .second, .val (.int p2), .val (.int p3), .val (.int p4), .val (.long q5), .second, .val (.int p6), .val (.int (0 : Int32)), .val (.int x9), .val (.long x10), .second, .val (.long x12), .second, .val (.long x14), .second, .val (.ref o16), .val (.long tm), .second, .val (.ref b240), .val (.long (-9223372036854775808 : Int64)), .second, .val (.int (0 : Int32))] [(.ref b240)])
    obtain ⟨cq248, kq248, q248a, q248b, q248c⟩ := isOf hZ e247 P245_0
    obtain ⟨_, _, ⟨T248, L248, k248, n248⟩, -, X248, ⟨Lc248, hQ248, l248, y248, z248⟩, st248⟩ := X247.virtualBack hx (y := (⟨"com/example/tote/tote/storage/OffsetIndex", "maxTimestamp", "()J"⟩ : MethodName)) (z := (⟨"com/example/tote/tote/storage/OffsetIndex", "maxTimestamp", "()J"⟩ : MethodName)) hown (mvT hZ (W 43 rfl)) (mvT hZ (W 44 rfl)) (notFace_of_selects (args := #[]) (mvT hZ (W 46 rfl))) (mvT hZ (W 46 rfl)) (mvT hZ (W 45 rfl)) (by decide) (backOf (W := 0) (rm7 l Z a0 hw [] b240 (-9223372036854775808 : Int64) T245.heap n0 Z0_c246 P245_3) hZ (W 47 rfl) (W 4 rfl) (by decide) (by decide)) q248a q248c (g := (mkF m 258 #[.val (.long q1), .second, .val (.int p2), .val (.int p3), .val (.int p4), .val (.long q5), .second, .val (.int p6), .val (.int (0 : Int32)), .val (.int x9), .val (.long x10), .second, .val (.long x12), .second, .val (.long x14), .second, .val (.ref o16), .val (.long tm), .second, .val (.ref b240), .val (.long (-9223372036854775808 : Int64)), .second, .val (.int (0 : Int32))] [(.ref b240)])) rfl (by rw [hml]; rfl) (Steps.refl _) (argsL := []) (rest := []) (lenOf pd_5 rfl) rfl (by show 2 * 0 + _ ≤ _; exact Nat.le_of_eq rfl) (hb hby at_258) (fun _ _ => ⟨rfl, e247, (by decide : 5 + 0 ≤ _), (by decide : 58 + 0 ≤ _)⟩)
    dsimp only [Pt.U, Pt.locs, Pt.cells, Pt.slots] at X248 l248 y248 z248 st248 hQ248
    subst l248 y248 z248
    obtain ⟨rfl, N248q, e248⟩ := hQ248
    have N248 := Fr.app N247 N248q
    refine own_goT st248 ?_
    show own_Run p e below _ T248 (mkF m 261 #[.val (.long q1), .second, .val (.int p2), .val (.int p3), .val (.int p4), .val (.long q5), .second, .val (.int p6), .val (.int (0 : Int32)), .val (.int x9), .val (.long x10), .second, .val (.long x12), .second, .val (.long x14), .second, .val (.ref o16), .val (.long tm), .second, .val (.ref b240), .val (.long (-9223372036854775808 : Int64)), .second, .val (.int (0 : Int32))] [(.long (-9223372036854775808 : Int64))])
    refine own_go (fun _ k => XS.lload X248.here hx rfl (hb hby at_261) rfl k) ?_
    refine own_go (fun _ k => XS.lcmp X248.here hx rfl (hb hby at_263) rfl k) ?_
    show own_Run p e below _ T248 (mkF m 264 #[.val (.long q1), .second, .val (.int p2), .val (.int p3), .val (.int p4), .val (.long q5), .second, .val (.int p6), .val (.int (0 : Int32)), .val (.int x9), .val (.long x10), .second, .val (.long x12), .second, .val (.long x14), .second, .val (.ref o16), .val (.long tm), .second, .val (.ref b240), .val (.long (-9223372036854775808 : Int64)), .second, .val (.int (0 : Int32))] [(.int (lcmpW (-9223372036854775808 : Int64) (-9223372036854775808 : Int64)))])
    refine own_go (fun _ k => XS.ifYes X248.here hx rfl (pc0 := 264) (pc' := 269) rfl (hb hby at_264) rfl (own_lcTe (by decide : (-9223372036854775808 : Int64) = (-9223372036854775808 : Int64))).1 (by decide) (by decide) k) ?_
    show own_Run p e below _ T248 (mkF m 269 #[.val (.long q1), .second, .val (.int p2), .val (.int p3), .val (.int p4), .val (.long q5), .second, .val (.int p6), .val (.int (0 : Int32)), .val (.int x9), .val (.long x10), .second, .val (.long x12), .second, .val (.long x14), .second, .val (.ref o16), .val (.long tm), .second, .val (.ref b240), .val (.long (-9223372036854775808 : Int64)), .second, .val (.int (0 : Int32))] [])
    refine own_go (fun _ k => XS.iload X248.here hx rfl (hb hby at_269) rfl k) ?_
    show own_Run p e below _ T248 (mkF m 271 #[.val (.long q1), .second, .val (.int p2), .val (.int p3), .val (.int p4), .val (.long q5), .second, .val (.int p6), .val (.int (0 : Int32)), .val (.int x9), .val (.long x10), .second, .val (.long x12), .second, .val (.long x14), .second, .val (.ref o16), .val (.long tm), .second, .val (.ref b240), .val (.long (-9223372036854775808 : Int64)), .second, .val (.int (0 : Int32))] [(.int (0 : Int32))])
    refine own_go (fun _ k => XS.ifYes X248.here hx rfl (pc0 := 271) (pc' := 318) rfl (hb hby at_271) rfl ((if0 _ _).trans (flt (by decide : ¬ ((0 : Int32) < (0 : Int32)))).2.2.2) (by decide) (by decide) k) ?_
    show own_Run p e below _ T248 (mkF m 318 #[.val (.long q1), .second, .val (.int p2), .val (.int p3), .val (.int p4), .val (.long q5), .second, .val (.int p6), .val (.int (0 : Int32)), .val (.int x9), .val (.long x10), .second, .val (.long x12), .second, .val (.long x14), .second, .val (.ref o16), .val (.long tm), .second, .val (.ref b240), .val (.long (-9223372036854775808 : Int64)), .second, .val (.int (0 : Int32))] [])
    refine own_go (fun _ k => XS.iconst X248.here hx rfl (hb hby at_318) k) ?_
    show own_Run p e below _ T248 (mkF m 319 #[.val (.long q1), .second, .val (.int p2), .val (.int p3), .val (.int p4), .val (.long q5), .second, .val (.int p6), .val (.int (0 : Int32)), .val (.int x9), .val (.long x10), .second, .val (.long x12), .second, .val (.long x14), .second, .val (.ref o16), .val (.long tm), .second, .val (.ref b240), .val (.long (-9223372036854775808 : Int64)), .second, .val (.int (0 : Int32))] [(.int (1 : Int32))])
    refine own_done (Q := fun v h L => Q0 Z q1 p2 p3 p4 q5 p6 h0 n0 v h L) (v := (some (.int (1 : Int32)))) X248 (fun h => by rw [hret] at h; cases h) hlk (fun fs hr => retN X248 hx (t := .boolean) hret (by simp) (hb hby at_319) hr) ?_ (by decide) (by decide)
    show Q0 Z q1 p2 p3 p4 q5 p6 h0 n0 _ T248.heap _
    rw [e248]
    exact ⟨rfl, N248⟩
  · show own_Run p e below _ T242 (mkF m 123 #[.val (.long q1), .second, .val (.int p2), .val (.int p3), .val (.int p4), .val (.long q5), .second, .val (.int p6), .val (.int (1 : Int32)), .val (.int x9), .val (.long x10), .second, .val (.long x12), .second, .val (.long x14), .second, .val (.ref o16), .val (.long tm), .second, .val (.ref b240), .unset, .unset, .unset] [])
    refine own_go (fun _ k => XS.iload X242.here hx rfl (hb hby at_123) rfl k) ?_
    refine own_go (fun _ k => XS.iconst X242.here hx rfl (hb hby at_125) k) ?_
    show own_Run p e below _ T242 (mkF m 126 #[.val (.long q1), .second, .val (.int p2), .val (.int p3), .val (.int p4), .val (.long q5), .second, .val (.int p6), .val (.int (1 : Int32)), .val (.int x9), .val (.long x10), .second, .val (.long x12), .second, .val (.long x14), .second, .val (.ref o16), .val (.long tm), .second, .val (.ref b240), .unset, .unset, .unset] [(.int (1 : Int32)), (.int (1 : Int32))])
    refine own_go (fun _ k => XS.icmpNo X242.here hx rfl (hb hby at_126) rfl (flt (by decide : ¬ ((1 : Int32) < (1 : Int32)))).1 k) ?_
    show own_Run p e below _ T242 (mkF m 129 #[.val (.long q1), .second, .val (.int p2), .val (.int p3), .val (.int p4), .val (.long q5), .second, .val (.int p6), .val (.int (1 : Int32)), .val (.int x9), .val (.long x10), .second, .val (.long x12), .second, .val (.long x14), .second, .val (.ref o16), .val (.long tm), .second, .val (.ref b240), .unset, .unset, .unset] [])
    refine own_go (fun _ k => XS.aload X242.here hx rfl (hb hby at_129) rfl rfl k) ?_
    refine own_go (fun _ k => XS.lloadN X242.here hx rfl (hb hby at_131) rfl k) ?_
    refine own_go (fun _ k => XS.lload X242.here hx rfl (hb hby at_132) rfl k) ?_
    refine own_go (fun _ k => XS.lload X242.here hx rfl (hb hby at_134) rfl k) ?_
    show own_Run p e below _ T242 (mkF m 136 #[.val (.long q1), .second, .val (.int p2), .val (.int p3), .val (.int p4), .val (.long q5), .second, .val (.int p6), .val (.int (1 : Int32)), .val (.int x9), .val (.long x10), .second, .val (.long x12), .second, .val (.long x14), .second, .val (.ref o16), .val (.long tm), .second, .val (.ref b240), .unset, .unset, .unset] [(.long q5), (.long x10), (.long q1), (.ref b240)])
    obtain ⟨cq249, kq249, q249a, q249b, q249c⟩ := isOf hZ rfl P242_0
    obtain ⟨_, _, ⟨T249, L249, k249, n249⟩, -, X249, ⟨Lc249, hQ249, l249, y249, z249⟩, st249⟩ := X242.virtualBack hx (y := (⟨"com/example/tote/tote/storage/OffsetIndex", "add", "(JJJ)V"⟩ : MethodName)) (z := (⟨"com/example/tote/tote/storage/OffsetIndex", "add", "(JJJ)V"⟩ : MethodName)) hown (mvT hZ (W 25 rfl)) (mvT hZ (W 26 rfl)) (notFace_of_selects (args := #[]) (mvT hZ (W 28 rfl))) (mvT hZ (W 28 rfl)) (mvT hZ (W 27 rfl)) (by decide) (backOf (W := 0) (rm3c0 l Z a0 hw [] b240 q1 x10 q5 b1_242 b2_242 b3_242 k1_242 k2_242 k3_242 (-9223372036854775808 : Int64) q1 (0 : Int64) T242.heap n0 Z0_c243 P242_0 P242_1 P242_2 P242_3 P242_4 P242_5 P242_6 P242_7 P242_8 P242_9 P242_10 g_b240 g_b1_242 g_b2_242 g_b3_242 P242_14 P242_15 P242_16 P242_17 P242_18 P242_19 (by rw [own_o0]; decide) (ht0)) hZ (W 29 rfl) (W 4 rfl) (by decide) (by decide)) q249a q249c (g := (mkF m 136 #[.val (.long q1), .second, .val (.int p2), .val (.int p3), .val (.int p4), .val (.long q5), .second, .val (.int p6), .val (.int (1 : Int32)), .val (.int x9), .val (.long x10), .second, .val (.long x12), .second, .val (.long x14), .second, .val (.ref o16), .val (.long tm), .second, .val (.ref b240), .unset, .unset, .unset] [(.long q5), (.long x10), (.long q1), (.ref b240)])) rfl (by rw [hml]; rfl) (Steps.refl _) (argsL := [(.long q1), (.long x10), (.long q5)]) (rest := []) (lenOf pd_8 rfl) rfl (by show 2 * 0 + _ ≤ _; exact Nat.le_of_eq rfl) (hb hby at_136) (fun _ _ => ⟨rfl, rfl, (by decide : 5 + 0 ≤ _), (by decide : 58 + 0 ≤ _)⟩)
    dsimp only [Pt.U, Pt.locs, Pt.cells, Pt.slots] at X249 l249 y249 z249 st249 hQ249
    subst l249 y249 z249
    obtain ⟨rfl, N249q, K249, P249_0, P249_1, P249_2, P249_3, P249_4, P249_5, P249_6, P249_7, P249_8, P249_9, P249_10⟩ := hQ249
    have N249 := Fr.app N242 N249q
    refine own_goT st249 ?_
    show own_Run p e below _ T249 (mkF m 139 #[.val (.long q1), .second, .val (.int p2), .val (.int p3), .val (.int p4), .val (.long q5), .second, .val (.int p6), .val (.int (1 : Int32)), .val (.int x9), .val (.long x10), .second, .val (.long x12), .second, .val (.long x14), .second, .val (.ref o16), .val (.long tm), .second, .val (.ref b240), .unset, .unset, .unset] [])
    have Z0_c250 := Nat.le_trans Z0_c243 K249.1
    have K0_c250 := K0_c243.trans K249 (allS (Or.inr sz_b240) (allS (Or.inr sz_b1_242) (allS (Or.inr sz_b2_242) (allS (Or.inr sz_b3_242) all0))))
    have V_o16_c250 := V_o16_c243.keep K249 (ninS ne_o16_b240 (ninS ne_o16_b1_242 (ninS ne_o16_b2_242 (ninS ne_o16_b3_242 nin0))))
    have P242_0_c250 := P242_0.keep K249
    have Vo251 : Arv Z T249.heap b1_242 k1_242 .int (16 : Int32) [(.int (0 : Int32)), (.int (0 : Int32)), (.int (0 : Int32)), (.int (0 : Int32)), (.int (0 : Int32)), (.int (0 : Int32)), (.int (0 : Int32)), (.int (0 : Int32)), (.int (0 : Int32)), (.int (0 : Int32)), (.int (0 : Int32)), (.int (0 : Int32)), (.int (0 : Int32)), (.int (0 : Int32)), (.int (0 : Int32)), (.int (0 : Int32))] (.int (0 : Int32)) := by
      have q := P249_8
      rw [own_o0] at q
      exact q
    refine own_go (fun _ k => XS.iload X249.here hx rfl (hb hby at_139) rfl k) ?_
    refine own_go (fun _ k => XS.iconst X249.here hx rfl (hb hby at_141) k) ?_
    show own_Run p e below _ T249 (mkF m 142 #[.val (.long q1), .second, .val (.int p2), .val (.int p3), .val (.int p4), .val (.long q5), .second, .val (.int p6), .val (.int (1 : Int32)), .val (.int x9), .val (.long x10), .second, .val (.long x12), .second, .val (.long x14), .second, .val (.ref o16), .val (.long tm), .second, .val (.ref b240), .unset, .unset, .unset] [(.int (2 : Int32)), (.int (1 : Int32))])
    refine own_go (fun _ k => XS.icmpYes X249.here hx rfl (pc0 := 142) (pc' := 157) rfl (hb hby at_142) rfl (tlt (by decide : (1 : Int32) < (2 : Int32))).1 (by decide) (by decide) k) ?_
    show own_Run p e below _ T249 (mkF m 157 #[.val (.long q1), .second, .val (.int p2), .val (.int p3), .val (.int p4), .val (.long q5), .second, .val (.int p6), .val (.int (1 : Int32)), .val (.int x9), .val (.long x10), .second, .val (.long x12), .second, .val (.long x14), .second, .val (.ref o16), .val (.long tm), .second, .val (.ref b240), .unset, .unset, .unset] [])
    refine own_go (fun _ k => XS.iload X249.here hx rfl (hb hby at_157) rfl k) ?_
    refine own_go (fun _ k => XS.iconst X249.here hx rfl (hb hby at_159) k) ?_
    show own_Run p e below _ T249 (mkF m 160 #[.val (.long q1), .second, .val (.int p2), .val (.int p3), .val (.int p4), .val (.long q5), .second, .val (.int p6), .val (.int (1 : Int32)), .val (.int x9), .val (.long x10), .second, .val (.long x12), .second, .val (.long x14), .second, .val (.ref o16), .val (.long tm), .second, .val (.ref b240), .unset, .unset, .unset] [(.int (3 : Int32)), (.int (1 : Int32))])
    refine own_go (fun _ k => XS.icmpYes X249.here hx rfl (pc0 := 160) (pc' := 176) rfl (hb hby at_160) rfl (tlt (by decide : (1 : Int32) < (3 : Int32))).1 (by decide) (by decide) k) ?_
    show own_Run p e below _ T249 (mkF m 176 #[.val (.long q1), .second, .val (.int p2), .val (.int p3), .val (.int p4), .val (.long q5), .second, .val (.int p6), .val (.int (1 : Int32)), .val (.int x9), .val (.long x10), .second, .val (.long x12), .second, .val (.long x14), .second, .val (.ref o16), .val (.long tm), .second, .val (.ref b240), .unset, .unset, .unset] [])
    refine own_go (fun _ k => XS.aload X249.here hx rfl (hb hby at_176) rfl rfl k) ?_
    show own_Run p e below _ T249 (mkF m 178 #[.val (.long q1), .second, .val (.int p2), .val (.int p3), .val (.int p4), .val (.long q5), .second, .val (.int p6), .val (.int (1 : Int32)), .val (.int x9), .val (.long x10), .second, .val (.long x12), .second, .val (.long x14), .second, .val (.ref o16), .val (.long tm), .second, .val (.ref b240), .unset, .unset, .unset] [(.ref b240)])
    obtain ⟨cq252, kq252, q252a, q252b, q252c⟩ := isOf hZ rfl P249_0
    obtain ⟨_, _, ⟨T252, L252, k252, n252⟩, -, X252, ⟨Lc252, hQ252, l252, y252, z252⟩, st252⟩ := X249.virtualBack hx (y := (⟨"com/example/tote/tote/storage/OffsetIndex", "maxTimestamp", "()J"⟩ : MethodName)) (z := (⟨"com/example/tote/tote/storage/OffsetIndex", "maxTimestamp", "()J"⟩ : MethodName)) hown (mvT hZ (W 43 rfl)) (mvT hZ (W 44 rfl)) (notFace_of_selects (args := #[]) (mvT hZ (W 46 rfl))) (mvT hZ (W 46 rfl)) (mvT hZ (W 45 rfl)) (by decide) (backOf (W := 0) (rm7 l Z a0 hw [] b240 (own_max (-9223372036854775808 : Int64) q5) T249.heap n0 Z0_c250 P249_4) hZ (W 47 rfl) (W 4 rfl) (by decide) (by decide)) q252a q252c (g := (mkF m 178 #[.val (.long q1), .second, .val (.int p2), .val (.int p3), .val (.int p4), .val (.long q5), .second, .val (.int p6), .val (.int (1 : Int32)), .val (.int x9), .val (.long x10), .second, .val (.long x12), .second, .val (.long x14), .second, .val (.ref o16), .val (.long tm), .second, .val (.ref b240), .unset, .unset, .unset] [(.ref b240)])) rfl (by rw [hml]; rfl) (Steps.refl _) (argsL := []) (rest := []) (lenOf pd_5 rfl) rfl (by show 2 * 0 + _ ≤ _; exact Nat.le_of_eq rfl) (hb hby at_178) (fun _ _ => ⟨rfl, rfl, (by decide : 5 + 0 ≤ _), (by decide : 58 + 0 ≤ _)⟩)
    dsimp only [Pt.U, Pt.locs, Pt.cells, Pt.slots] at X252 l252 y252 z252 st252 hQ252
    subst l252 y252 z252
    obtain ⟨rfl, N252q, e252⟩ := hQ252
    have N252 := Fr.app N249 N252q
    refine own_goT st252 ?_
    show own_Run p e below _ T252 (mkF m 181 #[.val (.long q1), .second, .val (.int p2), .val (.int p3), .val (.int p4), .val (.long q5), .second, .val (.int p6), .val (.int (1 : Int32)), .val (.int x9), .val (.long x10), .second, .val (.long x12), .second, .val (.long x14), .second, .val (.ref o16), .val (.long tm), .second, .val (.ref b240), .unset, .unset, .unset] [(.long (own_max (-9223372036854775808 : Int64) q5))])
    refine own_go (fun _ k => XS.lstore X252.here hx rfl (hb hby at_181) rfl (l' := #[.val (.long q1), .second, .val (.int p2), .val (.int p3), .val (.int p4), .val (.long q5), .second, .val (.int p6), .val (.int (1 : Int32)), .val (.int x9), .val (.long x10), .second, .val (.long x12), .second, .val (.long x14), .second, .val (.ref o16), .val (.long tm), .second, .val (.ref b240), .val (.long (own_max (-9223372036854775808 : Int64) q5)), .second, .unset]) rfl k) ?_
    refine own_go (fun _ k => XS.aload X252.here hx rfl (hb hby at_183) rfl rfl k) ?_
    refine own_go (fun _ k => XS.lload X252.here hx rfl (hb hby at_185) rfl k) ?_
    show own_Run p e below _ T252 (mkF m 187 #[.val (.long q1), .second, .val (.int p2), .val (.int p3), .val (.int p4), .val (.long q5), .second, .val (.int p6), .val (.int (1 : Int32)), .val (.int x9), .val (.long x10), .second, .val (.long x12), .second, .val (.long x14), .second, .val (.ref o16), .val (.long tm), .second, .val (.ref b240), .val (.long (own_max (-9223372036854775808 : Int64) q5)), .second, .unset] [(.long tm), (.ref b240)])
    rcases own_k1 tm x10 with hz0 | hz0
    · obtain ⟨cq253, kq253, q253a, q253b, q253c⟩ := isOf hZ e252 P249_0
      obtain ⟨_, _, ⟨T253, L253, k253, n253⟩, -, X253, ⟨Lc253, hQ253, l253, y253, z253⟩, st253⟩ := X252.virtualBack hx (y := (⟨"com/example/tote/tote/storage/OffsetIndex", "cutBack", "(J)V"⟩ : MethodName)) (z := (⟨"com/example/tote/tote/storage/OffsetIndex", "cutBack", "(J)V"⟩ : MethodName)) hown (mvT hZ (W 48 rfl)) (mvT hZ (W 49 rfl)) (notFace_of_selects (args := #[]) (mvT hZ (W 51 rfl))) (mvT hZ (W 51 rfl)) (mvT hZ (W 50 rfl)) (by decide) (backOf (W := 0) (rm8n1 l Z a0 hw [] b240 tm b1_242 b2_242 k2_242 (own_max (-9223372036854775808 : Int64) q5) q1 (x10.toInt32) (0 : Int32) (0 : Int32) (0 : Int32) T249.heap n0 Z0_c250 P249_0 P249_1 P249_2 P249_4 P249_5 P249_7 P249_9 g_b240 P242_15 (Or.inl ⟨(by rw [ht0]; exact hz0), rfl⟩)) hZ (W 52 rfl) (W 4 rfl) (by decide) (by decide)) q253a q253c (g := (mkF m 187 #[.val (.long q1), .second, .val (.int p2), .val (.int p3), .val (.int p4), .val (.long q5), .second, .val (.int p6), .val (.int (1 : Int32)), .val (.int x9), .val (.long x10), .second, .val (.long x12), .second, .val (.long x14), .second, .val (.ref o16), .val (.long tm), .second, .val (.ref b240), .val (.long (own_max (-9223372036854775808 : Int64) q5)), .second, .unset] [(.long tm), (.ref b240)])) rfl (by rw [hml]; rfl) (Steps.refl _) (argsL := [(.long tm)]) (rest := []) (lenOf pd_6 rfl) rfl (by show 2 * 0 + _ ≤ _; exact Nat.le_of_eq rfl) (hb hby at_187) (fun _ _ => ⟨rfl, e252, (by decide : 5 + 0 ≤ _), (by decide : 58 + 0 ≤ _)⟩)
      dsimp only [Pt.U, Pt.locs, Pt.cells, Pt.slots] at X253 l253 y253 z253 st253 hQ253
      subst l253 y253 z253
      obtain ⟨rfl, N253q, K253, P253_0, P253_1, P253_2, P253_3, P253_4, P253_5⟩ := hQ253
      have N253 := Fr.app N252 N253q
      refine own_goT st253 ?_
      show own_Run p e below _ T253 (mkF m 190 #[.val (.long q1), .second, .val (.int p2), .val (.int p3), .val (.int p4), .val (.long q5), .second, .val (.int p6), .val (.int (1 : Int32)), .val (.int x9), .val (.long x10), .second, .val (.long x12), .second, .val (.long x14), .second, .val (.ref o16), .val (.long tm), .second, .val (.ref b240), .val (.long (own_max (-9223372036854775808 : Int64) q5)), .second, .unset] [])
      have Z0_c254 := Nat.le_trans Z0_c250 K253.1
      have K0_c254 := K0_c250.trans K253 (allS (Or.inr sz_b240) all0)
      have V_o16_c254 := V_o16_c250.keep K253 (ninS ne_o16_b240 nin0)
      have P249_0_c254 := P249_0.keep K253
      have Vo251_c254 := Vo251.keep K253 (ninS (Ne.symm P242_14) nin0)
      have P249_9_c254 := P249_9.keep K253 (ninS (Ne.symm P242_15) nin0)
      have P249_10_c254 := P249_10.keep K253 (ninS (Ne.symm P242_16) nin0)
      refine own_go (fun _ k => XS.iconst X253.here hx rfl (hb hby at_190) k) ?_
      refine own_go (fun _ k => XS.istore X253.here hx rfl (hb hby at_191) rfl (l' := #[.val (.long q1), .second, .val (.int p2), .val (.int p3), .val (.int p4), .val (.long q5), .second, .val (.int p6), .val (.int (1 : Int32)), .val (.int x9), .val (.long x10), .second, .val (.long x12), .second, .val (.long x14), .second, .val (.ref o16), .val (.long tm), .second, .val (.ref b240), .val (.long (own_max (-9223372036854775808 : Int64) q5)), .second, .val (.int (0 : Int32))]) rfl k) ?_
      refine own_go (fun _ k => XS.iload X253.here hx rfl (hb hby at_193) rfl k) ?_
      refine own_go (fun _ k => XS.iconst X253.here hx rfl (hb hby at_195) k) ?_
      show own_Run p e below _ T253 (mkF m 196 #[.val (.long q1), .second, .val (.int p2), .val (.int p3), .val (.int p4), .val (.long q5), .second, .val (.int p6), .val (.int (1 : Int32)), .val (.int x9), .val (.long x10), .second, .val (.long x12), .second, .val (.long x14), .second, .val (.ref o16), .val (.long tm), .second, .val (.ref b240), .val (.long (own_max (-9223372036854775808 : Int64) q5)), .second, .val (.int (0 : Int32))] [(.int (1 : Int32)), (.int (1 : Int32))])
      refine own_go (fun _ k => XS.icmpNo X253.here hx rfl (hb hby at_196) rfl (flt (by decide : ¬ ((1 : Int32) < (1 : Int32)))).1 k) ?_
      show own_Run p e below _ T253 (mkF m 199 #[.val (.long q1), .second, .val (.int p2), .val (.int p3), .val (.int p4), .val (.long q5), .second, .val (.int p6), .val (.int (1 : Int32)), .val (.int x9), .val (.long x10), .second, .val (.long x12), .second, .val (.long x14), .second, .val (.ref o16), .val (.long tm), .second, .val (.ref b240), .val (.long (own_max (-9223372036854775808 : Int64) q5)), .second, .val (.int (0 : Int32))] [])
      refine own_go (fun _ k => XS.lload X253.here hx rfl (hb hby at_199) rfl k) ?_
      refine own_go (fun _ k => XS.lload X253.here hx rfl (hb hby at_201) rfl k) ?_
      refine own_go (fun _ k => XS.lcmp X253.here hx rfl (hb hby at_203) rfl k) ?_
      show own_Run p e below _ T253 (mkF m 204 #[.val (.long q1), .second, .val (.int p2), .val (.int p3), .val (.int p4), .val (.long q5), .second, .val (.int p6), .val (.int (1 : Int32)), .val (.int x9), .val (.long x10), .second, .val (.long x12), .second, .val (.long x14), .second, .val (.ref o16), .val (.long tm), .second, .val (.ref b240), .val (.long (own_max (-9223372036854775808 : Int64) q5)), .second, .val (.int (0 : Int32))] [(.int (lcmpW x10 tm))])
      refine own_go (fun _ k => XS.ifYes X253.here hx rfl (pc0 := 204) (pc' := 210) rfl (hb hby at_204) rfl (own_lcF hz0).2.1 (by decide) (by decide) k) ?_
      show own_Run p e below _ T253 (mkF m 210 #[.val (.long q1), .second, .val (.int p2), .val (.int p3), .val (.int p4), .val (.long q5), .second, .val (.int p6), .val (.int (1 : Int32)), .val (.int x9), .val (.long x10), .second, .val (.long x12), .second, .val (.long x14), .second, .val (.ref o16), .val (.long tm), .second, .val (.ref b240), .val (.long (own_max (-9223372036854775808 : Int64) q5)), .second, .val (.int (0 : Int32))] [])
      refine own_go (fun _ k => XS.iload X253.here hx rfl (hb hby at_210) rfl k) ?_
      refine own_go (fun _ k => XS.iconst X253.here hx rfl (hb hby at_212) k) ?_
      show own_Run p e below _ T253 (mkF m 213 #[.val (.long q1), .second, .val (.int p2), .val (.int p3), .val (.int p4), .val (.long q5), .second, .val (.int p6), .val (.int (1 : Int32)), .val (.int x9), .val (.long x10), .second, .val (.long x12), .second, .val (.long x14), .second, .val (.ref o16), .val (.long tm), .second, .val (.ref b240), .val (.long (own_max (-9223372036854775808 : Int64) q5)), .second, .val (.int (0 : Int32))] [(.int (2 : Int32)), (.int (1 : Int32))])
      refine own_go (fun _ k => XS.icmpYes X253.here hx rfl (pc0 := 213) (pc' := 227) rfl (hb hby at_213) rfl (tlt (by decide : (1 : Int32) < (2 : Int32))).1 (by decide) (by decide) k) ?_
      show own_Run p e below _ T253 (mkF m 227 #[.val (.long q1), .second, .val (.int p2), .val (.int p3), .val (.int p4), .val (.long q5), .second, .val (.int p6), .val (.int (1 : Int32)), .val (.int x9), .val (.long x10), .second, .val (.long x12), .second, .val (.long x14), .second, .val (.ref o16), .val (.long tm), .second, .val (.ref b240), .val (.long (own_max (-9223372036854775808 : Int64) q5)), .second, .val (.int (0 : Int32))] [])
      refine own_go (fun _ k => XS.iload X253.here hx rfl (hb hby at_227) rfl k) ?_
      refine own_go (fun _ k => XS.iconst X253.here hx rfl (hb hby at_229) k) ?_
      show own_Run p e below _ T253 (mkF m 230 #[.val (.long q1), .second, .val (.int p2), .val (.int p3), .val (.int p4), .val (.long q5), .second, .val (.int p6), .val (.int (1 : Int32)), .val (.int x9), .val (.long x10), .second, .val (.long x12), .second, .val (.long x14), .second, .val (.ref o16), .val (.long tm), .second, .val (.ref b240), .val (.long (own_max (-9223372036854775808 : Int64) q5)), .second, .val (.int (0 : Int32))] [(.int (3 : Int32)), (.int (1 : Int32))])
      refine own_go (fun _ k => XS.icmpYes X253.here hx rfl (pc0 := 230) (pc' := 244) rfl (hb hby at_230) rfl (tlt (by decide : (1 : Int32) < (3 : Int32))).1 (by decide) (by decide) k) ?_
      show own_Run p e below _ T253 (mkF m 244 #[.val (.long q1), .second, .val (.int p2), .val (.int p3), .val (.int p4), .val (.long q5), .second, .val (.int p6), .val (.int (1 : Int32)), .val (.int x9), .val (.long x10), .second, .val (.long x12), .second, .val (.long x14), .second, .val (.ref o16), .val (.long tm), .second, .val (.ref b240), .val (.long (own_max (-9223372036854775808 : Int64) q5)), .second, .val (.int (0 : Int32))] [])
      refine own_go (fun _ k => XS.aload X253.here hx rfl (hb hby at_244) rfl rfl k) ?_
      show own_Run p e below _ T253 (mkF m 246 #[.val (.long q1), .second, .val (.int p2), .val (.int p3), .val (.int p4), .val (.long q5), .second, .val (.int p6), .val (.int (1 : Int32)), .val (.int x9), .val (.long x10), .second, .val (.long x12), .second, .val (.long x14), .second, .val (.ref o16), .val (.long tm), .second, .val (.ref b240), .val (.long (own_max (-9223372036854775808 : Int64) q5)), .second, .val (.int (0 : Int32))] [(.ref b240)])
      obtain ⟨cq255, kq255, q255a, q255b, q255c⟩ := isOf hZ rfl P253_0
      obtain ⟨_, _, ⟨T255, L255, k255, n255⟩, -, X255, ⟨Lc255, hQ255, l255, y255, z255⟩, st255⟩ := X253.virtualBack hx (y := (⟨"com/example/tote/tote/storage/OffsetIndex", "count", "()I"⟩ : MethodName)) (z := (⟨"com/example/tote/tote/storage/OffsetIndex", "count", "()I"⟩ : MethodName)) hown (mvT hZ (W 53 rfl)) (mvT hZ (W 54 rfl)) (notFace_of_selects (args := #[]) (mvT hZ (W 56 rfl))) (mvT hZ (W 56 rfl)) (mvT hZ (W 55 rfl)) (by decide) (backOf (W := 0) (rm9 l Z a0 hw [] b240 (0 : Int32) T253.heap n0 Z0_c254 P253_5) hZ (W 57 rfl) (W 4 rfl) (by decide) (by decide)) q255a q255c (g := (mkF m 246 #[.val (.long q1), .second, .val (.int p2), .val (.int p3), .val (.int p4), .val (.long q5), .second, .val (.int p6), .val (.int (1 : Int32)), .val (.int x9), .val (.long x10), .second, .val (.long x12), .second, .val (.long x14), .second, .val (.ref o16), .val (.long tm), .second, .val (.ref b240), .val (.long (own_max (-9223372036854775808 : Int64) q5)), .second, .val (.int (0 : Int32))] [(.ref b240)])) rfl (by rw [hml]; rfl) (Steps.refl _) (argsL := []) (rest := []) (lenOf pd_7 rfl) rfl (by show 2 * 0 + _ ≤ _; exact Nat.le_of_eq rfl) (hb hby at_246) (fun _ _ => ⟨rfl, rfl, (by decide : 5 + 0 ≤ _), (by decide : 58 + 0 ≤ _)⟩)
      dsimp only [Pt.U, Pt.locs, Pt.cells, Pt.slots] at X255 l255 y255 z255 st255 hQ255
      subst l255 y255 z255
      obtain ⟨rfl, N255q, e255⟩ := hQ255
      have N255 := Fr.app N253 N255q
      refine own_goT st255 ?_
      show own_Run p e below _ T255 (mkF m 249 #[.val (.long q1), .second, .val (.int p2), .val (.int p3), .val (.int p4), .val (.long q5), .second, .val (.int p6), .val (.int (1 : Int32)), .val (.int x9), .val (.long x10), .second, .val (.long x12), .second, .val (.long x14), .second, .val (.ref o16), .val (.long tm), .second, .val (.ref b240), .val (.long (own_max (-9223372036854775808 : Int64) q5)), .second, .val (.int (0 : Int32))] [(.int (0 : Int32))])
      refine own_go (fun _ k => XS.iload X255.here hx rfl (hb hby at_249) rfl k) ?_
      show own_Run p e below _ T255 (mkF m 251 #[.val (.long q1), .second, .val (.int p2), .val (.int p3), .val (.int p4), .val (.long q5), .second, .val (.int p6), .val (.int (1 : Int32)), .val (.int x9), .val (.long x10), .second, .val (.long x12), .second, .val (.long x14), .second, .val (.ref o16), .val (.long tm), .second, .val (.ref b240), .val (.long (own_max (-9223372036854775808 : Int64) q5)), .second, .val (.int (0 : Int32))] [(.int (0 : Int32)), (.int (0 : Int32))])
      refine own_go (fun _ k => XS.icmpYes X255.here hx rfl (pc0 := 251) (pc' := 256) rfl (hb hby at_251) rfl (teq (by decide : (0 : Int32) = (0 : Int32))).1 (by decide) (by decide) k) ?_
      show own_Run p e below _ T255 (mkF m 256 #[.val (.long q1), .second, .val (.int p2), .val (.int p3), .val (.int p4), .val (.long q5), .second, .val (.int p6), .val (.int (1 : Int32)), .val (.int x9), .val (.long x10), .second, .val (.long x12), .second, .val (.long x14), .second, .val (.ref o16), .val (.long tm), .second, .val (.ref b240), .val (.long (own_max (-9223372036854775808 : Int64) q5)), .second, .val (.int (0 : Int32))] [])
      refine own_go (fun _ k => XS.aload X255.here hx rfl (hb hby at_256) rfl rfl k) ?_
      show own_Run p e below _ T255 (mkF m 258 #[.val (.long q1), .second, .val (.int p2), .val (.int p3), .val (.int p4), .val (.long q5), .second, .val (.int p6), .val (.int (1 : Int32)), .val (.int x9), .val (.long x10), .second, .val (.long x12), .second, .val (.long x14), .second, .val (.ref o16), .val (.long tm), .second, .val (.ref b240), .val (.long (own_max (-9223372036854775808 : Int64) q5)), .second, .val (.int (0 : Int32))] [(.ref b240)])
      obtain ⟨cq256, kq256, q256a, q256b, q256c⟩ := isOf hZ e255 P253_0
      obtain ⟨_, _, ⟨T256, L256, k256, n256⟩, -, X256, ⟨Lc256, hQ256, l256, y256, z256⟩, st256⟩ := X255.virtualBack hx (y := (⟨"com/example/tote/tote/storage/OffsetIndex", "maxTimestamp", "()J"⟩ : MethodName)) (z := (⟨"com/example/tote/tote/storage/OffsetIndex", "maxTimestamp", "()J"⟩ : MethodName)) hown (mvT hZ (W 43 rfl)) (mvT hZ (W 44 rfl)) (notFace_of_selects (args := #[]) (mvT hZ (W 46 rfl))) (mvT hZ (W 46 rfl)) (mvT hZ (W 45 rfl)) (by decide) (backOf (W := 0) (rm7 l Z a0 hw [] b240 (own_max (-9223372036854775808 : Int64) q5) T253.heap n0 Z0_c254 P253_3) hZ (W 47 rfl) (W 4 rfl) (by decide) (by decide)) q256a q256c (g := (mkF m 258 #[.val (.long q1), .second, .val (.int p2), .val (.int p3), .val (.int p4), .val (.long q5), .second, .val (.int p6), .val (.int (1 : Int32)), .val (.int x9), .val (.long x10), .second, .val (.long x12), .second, .val (.long x14), .second, .val (.ref o16), .val (.long tm), .second, .val (.ref b240), .val (.long (own_max (-9223372036854775808 : Int64) q5)), .second, .val (.int (0 : Int32))] [(.ref b240)])) rfl (by rw [hml]; rfl) (Steps.refl _) (argsL := []) (rest := []) (lenOf pd_5 rfl) rfl (by show 2 * 0 + _ ≤ _; exact Nat.le_of_eq rfl) (hb hby at_258) (fun _ _ => ⟨rfl, e255, (by decide : 5 + 0 ≤ _), (by decide : 58 + 0 ≤ _)⟩)
      dsimp only [Pt.U, Pt.locs, Pt.cells, Pt.slots] at X256 l256 y256 z256 st256 hQ256
      subst l256 y256 z256
      obtain ⟨rfl, N256q, e256⟩ := hQ256
      have N256 := Fr.app N255 N256q
      refine own_goT st256 ?_
      show own_Run p e below _ T256 (mkF m 261 #[.val (.long q1), .second, .val (.int p2), .val (.int p3), .val (.int p4), .val (.long q5), .second, .val (.int p6), .val (.int (1 : Int32)), .val (.int x9), .val (.long x10), .second, .val (.long x12), .second, .val (.long x14), .second, .val (.ref o16), .val (.long tm), .second, .val (.ref b240), .val (.long (own_max (-9223372036854775808 : Int64) q5)), .second, .val (.int (0 : Int32))] [(.long (own_max (-9223372036854775808 : Int64) q5))])
      refine own_go (fun _ k => XS.lload X256.here hx rfl (hb hby at_261) rfl k) ?_
      refine own_go (fun _ k => XS.lcmp X256.here hx rfl (hb hby at_263) rfl k) ?_
      show own_Run p e below _ T256 (mkF m 264 #[.val (.long q1), .second, .val (.int p2), .val (.int p3), .val (.int p4), .val (.long q5), .second, .val (.int p6), .val (.int (1 : Int32)), .val (.int x9), .val (.long x10), .second, .val (.long x12), .second, .val (.long x14), .second, .val (.ref o16), .val (.long tm), .second, .val (.ref b240), .val (.long (own_max (-9223372036854775808 : Int64) q5)), .second, .val (.int (0 : Int32))] [(.int (lcmpW (own_max (-9223372036854775808 : Int64) q5) (own_max (-9223372036854775808 : Int64) q5)))])
      refine own_go (fun _ k => XS.ifYes X256.here hx rfl (pc0 := 264) (pc' := 269) rfl (hb hby at_264) rfl (own_lcTe rfl).1 (by decide) (by decide) k) ?_
      show own_Run p e below _ T256 (mkF m 269 #[.val (.long q1), .second, .val (.int p2), .val (.int p3), .val (.int p4), .val (.long q5), .second, .val (.int p6), .val (.int (1 : Int32)), .val (.int x9), .val (.long x10), .second, .val (.long x12), .second, .val (.long x14), .second, .val (.ref o16), .val (.long tm), .second, .val (.ref b240), .val (.long (own_max (-9223372036854775808 : Int64) q5)), .second, .val (.int (0 : Int32))] [])
      refine own_go (fun _ k => XS.iload X256.here hx rfl (hb hby at_269) rfl k) ?_
      show own_Run p e below _ T256 (mkF m 271 #[.val (.long q1), .second, .val (.int p2), .val (.int p3), .val (.int p4), .val (.long q5), .second, .val (.int p6), .val (.int (1 : Int32)), .val (.int x9), .val (.long x10), .second, .val (.long x12), .second, .val (.long x14), .second, .val (.ref o16), .val (.long tm), .second, .val (.ref b240), .val (.long (own_max (-9223372036854775808 : Int64) q5)), .second, .val (.int (0 : Int32))] [(.int (0 : Int32))])
      refine own_go (fun _ k => XS.ifYes X256.here hx rfl (pc0 := 271) (pc' := 318) rfl (hb hby at_271) rfl ((if0 _ _).trans (flt (by decide : ¬ ((0 : Int32) < (0 : Int32)))).2.2.2) (by decide) (by decide) k) ?_
      show own_Run p e below _ T256 (mkF m 318 #[.val (.long q1), .second, .val (.int p2), .val (.int p3), .val (.int p4), .val (.long q5), .second, .val (.int p6), .val (.int (1 : Int32)), .val (.int x9), .val (.long x10), .second, .val (.long x12), .second, .val (.long x14), .second, .val (.ref o16), .val (.long tm), .second, .val (.ref b240), .val (.long (own_max (-9223372036854775808 : Int64) q5)), .second, .val (.int (0 : Int32))] [])
      refine own_go (fun _ k => XS.iconst X256.here hx rfl (hb hby at_318) k) ?_
      show own_Run p e below _ T256 (mkF m 319 #[.val (.long q1), .second, .val (.int p2), .val (.int p3), .val (.int p4), .val (.long q5), .second, .val (.int p6), .val (.int (1 : Int32)), .val (.int x9), .val (.long x10), .second, .val (.long x12), .second, .val (.long x14), .second, .val (.ref o16), .val (.long tm), .second, .val (.ref b240), .val (.long (own_max (-9223372036854775808 : Int64) q5)), .second, .val (.int (0 : Int32))] [(.int (1 : Int32))])
      refine own_done (Q := fun v h L => Q0 Z q1 p2 p3 p4 q5 p6 h0 n0 v h L) (v := (some (.int (1 : Int32)))) X256 (fun h => by rw [hret] at h; cases h) hlk (fun fs hr => retN X256 hx (t := .boolean) hret (by simp) (hb hby at_319) hr) ?_ (by decide) (by decide)
      show Q0 Z q1 p2 p3 p4 q5 p6 h0 n0 _ T256.heap _
      rw [e256]
      exact ⟨rfl, N256⟩
    · obtain ⟨cq257, kq257, q257a, q257b, q257c⟩ := isOf hZ e252 P249_0
      obtain ⟨_, _, ⟨T257, L257, k257, n257⟩, -, X257, ⟨Lc257, hQ257, l257, y257, z257⟩, st257⟩ := X252.virtualBack hx (y := (⟨"com/example/tote/tote/storage/OffsetIndex", "cutBack", "(J)V"⟩ : MethodName)) (z := (⟨"com/example/tote/tote/storage/OffsetIndex", "cutBack", "(J)V"⟩ : MethodName)) hown (mvT hZ (W 48 rfl)) (mvT hZ (W 49 rfl)) (notFace_of_selects (args := #[]) (mvT hZ (W 51 rfl))) (mvT hZ (W 51 rfl)) (mvT hZ (W 50 rfl)) (by decide) (backOf (W := 0) (rm8n1 l Z a0 hw [] b240 tm b1_242 b2_242 k2_242 (own_max (-9223372036854775808 : Int64) q5) q1 (x10.toInt32) (0 : Int32) (0 : Int32) (1 : Int32) T249.heap n0 Z0_c250 P249_0 P249_1 P249_2 P249_4 P249_5 P249_7 P249_9 g_b240 P242_15 (Or.inr (⟨(by rw [ht0]; exact hz0), rfl⟩))) hZ (W 52 rfl) (W 4 rfl) (by decide) (by decide)) q257a q257c (g := (mkF m 187 #[.val (.long q1), .second, .val (.int p2), .val (.int p3), .val (.int p4), .val (.long q5), .second, .val (.int p6), .val (.int (1 : Int32)), .val (.int x9), .val (.long x10), .second, .val (.long x12), .second, .val (.long x14), .second, .val (.ref o16), .val (.long tm), .second, .val (.ref b240), .val (.long (own_max (-9223372036854775808 : Int64) q5)), .second, .unset] [(.long tm), (.ref b240)])) rfl (by rw [hml]; rfl) (Steps.refl _) (argsL := [(.long tm)]) (rest := []) (lenOf pd_6 rfl) rfl (by show 2 * 0 + _ ≤ _; exact Nat.le_of_eq rfl) (hb hby at_187) (fun _ _ => ⟨rfl, e252, (by decide : 5 + 0 ≤ _), (by decide : 58 + 0 ≤ _)⟩)
      dsimp only [Pt.U, Pt.locs, Pt.cells, Pt.slots] at X257 l257 y257 z257 st257 hQ257
      subst l257 y257 z257
      obtain ⟨rfl, N257q, K257, P257_0, P257_1, P257_2, P257_3, P257_4, P257_5⟩ := hQ257
      have N257 := Fr.app N252 N257q
      refine own_goT st257 ?_
      show own_Run p e below _ T257 (mkF m 190 #[.val (.long q1), .second, .val (.int p2), .val (.int p3), .val (.int p4), .val (.long q5), .second, .val (.int p6), .val (.int (1 : Int32)), .val (.int x9), .val (.long x10), .second, .val (.long x12), .second, .val (.long x14), .second, .val (.ref o16), .val (.long tm), .second, .val (.ref b240), .val (.long (own_max (-9223372036854775808 : Int64) q5)), .second, .unset] [])
      have Z0_c258 := Nat.le_trans Z0_c250 K257.1
      have K0_c258 := K0_c250.trans K257 (allS (Or.inr sz_b240) all0)
      have V_o16_c258 := V_o16_c250.keep K257 (ninS ne_o16_b240 nin0)
      have P249_0_c258 := P249_0.keep K257
      have Vo251_c258 := Vo251.keep K257 (ninS (Ne.symm P242_14) nin0)
      have P249_9_c258 := P249_9.keep K257 (ninS (Ne.symm P242_15) nin0)
      have P249_10_c258 := P249_10.keep K257 (ninS (Ne.symm P242_16) nin0)
      refine own_go (fun _ k => XS.iconst X257.here hx rfl (hb hby at_190) k) ?_
      refine own_go (fun _ k => XS.istore X257.here hx rfl (hb hby at_191) rfl (l' := #[.val (.long q1), .second, .val (.int p2), .val (.int p3), .val (.int p4), .val (.long q5), .second, .val (.int p6), .val (.int (1 : Int32)), .val (.int x9), .val (.long x10), .second, .val (.long x12), .second, .val (.long x14), .second, .val (.ref o16), .val (.long tm), .second, .val (.ref b240), .val (.long (own_max (-9223372036854775808 : Int64) q5)), .second, .val (.int (0 : Int32))]) rfl k) ?_
      refine own_go (fun _ k => XS.iload X257.here hx rfl (hb hby at_193) rfl k) ?_
      refine own_go (fun _ k => XS.iconst X257.here hx rfl (hb hby at_195) k) ?_
      show own_Run p e below _ T257 (mkF m 196 #[.val (.long q1), .second, .val (.int p2), .val (.int p3), .val (.int p4), .val (.long q5), .second, .val (.int p6), .val (.int (1 : Int32)), .val (.int x9), .val (.long x10), .second, .val (.long x12), .second, .val (.long x14), .second, .val (.ref o16), .val (.long tm), .second, .val (.ref b240), .val (.long (own_max (-9223372036854775808 : Int64) q5)), .second, .val (.int (0 : Int32))] [(.int (1 : Int32)), (.int (1 : Int32))])
      refine own_go (fun _ k => XS.icmpNo X257.here hx rfl (hb hby at_196) rfl (flt (by decide : ¬ ((1 : Int32) < (1 : Int32)))).1 k) ?_
      show own_Run p e below _ T257 (mkF m 199 #[.val (.long q1), .second, .val (.int p2), .val (.int p3), .val (.int p4), .val (.long q5), .second, .val (.int p6), .val (.int (1 : Int32)), .val (.int x9), .val (.long x10), .second, .val (.long x12), .second, .val (.long x14), .second, .val (.ref o16), .val (.long tm), .second, .val (.ref b240), .val (.long (own_max (-9223372036854775808 : Int64) q5)), .second, .val (.int (0 : Int32))] [])
      refine own_go (fun _ k => XS.lload X257.here hx rfl (hb hby at_199) rfl k) ?_
      refine own_go (fun _ k => XS.lload X257.here hx rfl (hb hby at_201) rfl k) ?_
      refine own_go (fun _ k => XS.lcmp X257.here hx rfl (hb hby at_203) rfl k) ?_
      show own_Run p e below _ T257 (mkF m 204 #[.val (.long q1), .second, .val (.int p2), .val (.int p3), .val (.int p4), .val (.long q5), .second, .val (.int p6), .val (.int (1 : Int32)), .val (.int x9), .val (.long x10), .second, .val (.long x12), .second, .val (.long x14), .second, .val (.ref o16), .val (.long tm), .second, .val (.ref b240), .val (.long (own_max (-9223372036854775808 : Int64) q5)), .second, .val (.int (0 : Int32))] [(.int (lcmpW x10 tm))])
      refine own_go (fun _ k => XS.ifNo X257.here hx rfl (hb hby at_204) rfl (own_lcT hz0).2.1 k) ?_
      show own_Run p e below _ T257 (mkF m 207 #[.val (.long q1), .second, .val (.int p2), .val (.int p3), .val (.int p4), .val (.long q5), .second, .val (.int p6), .val (.int (1 : Int32)), .val (.int x9), .val (.long x10), .second, .val (.long x12), .second, .val (.long x14), .second, .val (.ref o16), .val (.long tm), .second, .val (.ref b240), .val (.long (own_max (-9223372036854775808 : Int64) q5)), .second, .val (.int (0 : Int32))] [])
      refine own_go (fun _ k => XS.iconst X257.here hx rfl (hb hby at_207) k) ?_
      refine own_go (fun _ k => XS.istore X257.here hx rfl (hb hby at_208) rfl (l' := #[.val (.long q1), .second, .val (.int p2), .val (.int p3), .val (.int p4), .val (.long q5), .second, .val (.int p6), .val (.int (1 : Int32)), .val (.int x9), .val (.long x10), .second, .val (.long x12), .second, .val (.long x14), .second, .val (.ref o16), .val (.long tm), .second, .val (.ref b240), .val (.long (own_max (-9223372036854775808 : Int64) q5)), .second, .val (.int (1 : Int32))]) rfl k) ?_
      refine own_go (fun _ k => XS.iload X257.here hx rfl (hb hby at_210) rfl k) ?_
      refine own_go (fun _ k => XS.iconst X257.here hx rfl (hb hby at_212) k) ?_
      show own_Run p e below _ T257 (mkF m 213 #[.val (.long q1), .second, .val (.int p2), .val (.int p3), .val (.int p4), .val (.long q5), .second, .val (.int p6), .val (.int (1 : Int32)), .val (.int x9), .val (.long x10), .second, .val (.long x12), .second, .val (.long x14), .second, .val (.ref o16), .val (.long tm), .second, .val (.ref b240), .val (.long (own_max (-9223372036854775808 : Int64) q5)), .second, .val (.int (1 : Int32))] [(.int (2 : Int32)), (.int (1 : Int32))])
      refine own_go (fun _ k => XS.icmpYes X257.here hx rfl (pc0 := 213) (pc' := 227) rfl (hb hby at_213) rfl (tlt (by decide : (1 : Int32) < (2 : Int32))).1 (by decide) (by decide) k) ?_
      show own_Run p e below _ T257 (mkF m 227 #[.val (.long q1), .second, .val (.int p2), .val (.int p3), .val (.int p4), .val (.long q5), .second, .val (.int p6), .val (.int (1 : Int32)), .val (.int x9), .val (.long x10), .second, .val (.long x12), .second, .val (.long x14), .second, .val (.ref o16), .val (.long tm), .second, .val (.ref b240), .val (.long (own_max (-9223372036854775808 : Int64) q5)), .second, .val (.int (1 : Int32))] [])
      refine own_go (fun _ k => XS.iload X257.here hx rfl (hb hby at_227) rfl k) ?_
      refine own_go (fun _ k => XS.iconst X257.here hx rfl (hb hby at_229) k) ?_
      show own_Run p e below _ T257 (mkF m 230 #[.val (.long q1), .second, .val (.int p2), .val (.int p3), .val (.int p4), .val (.long q5), .second, .val (.int p6), .val (.int (1 : Int32)), .val (.int x9), .val (.long x10), .second, .val (.long x12), .second, .val (.long x14), .second, .val (.ref o16), .val (.long tm), .second, .val (.ref b240), .val (.long (own_max (-9223372036854775808 : Int64) q5)), .second, .val (.int (1 : Int32))] [(.int (3 : Int32)), (.int (1 : Int32))])
      refine own_go (fun _ k => XS.icmpYes X257.here hx rfl (pc0 := 230) (pc' := 244) rfl (hb hby at_230) rfl (tlt (by decide : (1 : Int32) < (3 : Int32))).1 (by decide) (by decide) k) ?_
      show own_Run p e below _ T257 (mkF m 244 #[.val (.long q1), .second, .val (.int p2), .val (.int p3), .val (.int p4), .val (.long q5), .second, .val (.int p6), .val (.int (1 : Int32)), .val (.int x9), .val (.long x10), .second, .val (.long x12), .second, .val (.long x14), .second, .val (.ref o16), .val (.long tm), .second, .val (.ref b240), .val (.long (own_max (-9223372036854775808 : Int64) q5)), .second, .val (.int (1 : Int32))] [])
      refine own_go (fun _ k => XS.aload X257.here hx rfl (hb hby at_244) rfl rfl k) ?_
      show own_Run p e below _ T257 (mkF m 246 #[.val (.long q1), .second, .val (.int p2), .val (.int p3), .val (.int p4), .val (.long q5), .second, .val (.int p6), .val (.int (1 : Int32)), .val (.int x9), .val (.long x10), .second, .val (.long x12), .second, .val (.long x14), .second, .val (.ref o16), .val (.long tm), .second, .val (.ref b240), .val (.long (own_max (-9223372036854775808 : Int64) q5)), .second, .val (.int (1 : Int32))] [(.ref b240)])
      obtain ⟨cq259, kq259, q259a, q259b, q259c⟩ := isOf hZ rfl P257_0
      obtain ⟨_, _, ⟨T259, L259, k259, n259⟩, -, X259, ⟨Lc259, hQ259, l259, y259, z259⟩, st259⟩ := X257.virtualBack hx (y := (⟨"com/example/tote/tote/storage/OffsetIndex", "count", "()I"⟩ : MethodName)) (z := (⟨"com/example/tote/tote/storage/OffsetIndex", "count", "()I"⟩ : MethodName)) hown (mvT hZ (W 53 rfl)) (mvT hZ (W 54 rfl)) (notFace_of_selects (args := #[]) (mvT hZ (W 56 rfl))) (mvT hZ (W 56 rfl)) (mvT hZ (W 55 rfl)) (by decide) (backOf (W := 0) (rm9 l Z a0 hw [] b240 (1 : Int32) T257.heap n0 Z0_c258 P257_5) hZ (W 57 rfl) (W 4 rfl) (by decide) (by decide)) q259a q259c (g := (mkF m 246 #[.val (.long q1), .second, .val (.int p2), .val (.int p3), .val (.int p4), .val (.long q5), .second, .val (.int p6), .val (.int (1 : Int32)), .val (.int x9), .val (.long x10), .second, .val (.long x12), .second, .val (.long x14), .second, .val (.ref o16), .val (.long tm), .second, .val (.ref b240), .val (.long (own_max (-9223372036854775808 : Int64) q5)), .second, .val (.int (1 : Int32))] [(.ref b240)])) rfl (by rw [hml]; rfl) (Steps.refl _) (argsL := []) (rest := []) (lenOf pd_7 rfl) rfl (by show 2 * 0 + _ ≤ _; exact Nat.le_of_eq rfl) (hb hby at_246) (fun _ _ => ⟨rfl, rfl, (by decide : 5 + 0 ≤ _), (by decide : 58 + 0 ≤ _)⟩)
      dsimp only [Pt.U, Pt.locs, Pt.cells, Pt.slots] at X259 l259 y259 z259 st259 hQ259
      subst l259 y259 z259
      obtain ⟨rfl, N259q, e259⟩ := hQ259
      have N259 := Fr.app N257 N259q
      refine own_goT st259 ?_
      show own_Run p e below _ T259 (mkF m 249 #[.val (.long q1), .second, .val (.int p2), .val (.int p3), .val (.int p4), .val (.long q5), .second, .val (.int p6), .val (.int (1 : Int32)), .val (.int x9), .val (.long x10), .second, .val (.long x12), .second, .val (.long x14), .second, .val (.ref o16), .val (.long tm), .second, .val (.ref b240), .val (.long (own_max (-9223372036854775808 : Int64) q5)), .second, .val (.int (1 : Int32))] [(.int (1 : Int32))])
      refine own_go (fun _ k => XS.iload X259.here hx rfl (hb hby at_249) rfl k) ?_
      show own_Run p e below _ T259 (mkF m 251 #[.val (.long q1), .second, .val (.int p2), .val (.int p3), .val (.int p4), .val (.long q5), .second, .val (.int p6), .val (.int (1 : Int32)), .val (.int x9), .val (.long x10), .second, .val (.long x12), .second, .val (.long x14), .second, .val (.ref o16), .val (.long tm), .second, .val (.ref b240), .val (.long (own_max (-9223372036854775808 : Int64) q5)), .second, .val (.int (1 : Int32))] [(.int (1 : Int32)), (.int (1 : Int32))])
      refine own_go (fun _ k => XS.icmpYes X259.here hx rfl (pc0 := 251) (pc' := 256) rfl (hb hby at_251) rfl (teq (by decide : (1 : Int32) = (1 : Int32))).1 (by decide) (by decide) k) ?_
      show own_Run p e below _ T259 (mkF m 256 #[.val (.long q1), .second, .val (.int p2), .val (.int p3), .val (.int p4), .val (.long q5), .second, .val (.int p6), .val (.int (1 : Int32)), .val (.int x9), .val (.long x10), .second, .val (.long x12), .second, .val (.long x14), .second, .val (.ref o16), .val (.long tm), .second, .val (.ref b240), .val (.long (own_max (-9223372036854775808 : Int64) q5)), .second, .val (.int (1 : Int32))] [])
      refine own_go (fun _ k => XS.aload X259.here hx rfl (hb hby at_256) rfl rfl k) ?_
      show own_Run p e below _ T259 (mkF m 258 #[.val (.long q1), .second, .val (.int p2), .val (.int p3), .val (.int p4), .val (.long q5), .second, .val (.int p6), .val (.int (1 : Int32)), .val (.int x9), .val (.long x10), .second, .val (.long x12), .second, .val (.long x14), .second, .val (.ref o16), .val (.long tm), .second, .val (.ref b240), .val (.long (own_max (-9223372036854775808 : Int64) q5)), .second, .val (.int (1 : Int32))] [(.ref b240)])
      obtain ⟨cq260, kq260, q260a, q260b, q260c⟩ := isOf hZ e259 P257_0
      obtain ⟨_, _, ⟨T260, L260, k260, n260⟩, -, X260, ⟨Lc260, hQ260, l260, y260, z260⟩, st260⟩ := X259.virtualBack hx (y := (⟨"com/example/tote/tote/storage/OffsetIndex", "maxTimestamp", "()J"⟩ : MethodName)) (z := (⟨"com/example/tote/tote/storage/OffsetIndex", "maxTimestamp", "()J"⟩ : MethodName)) hown (mvT hZ (W 43 rfl)) (mvT hZ (W 44 rfl)) (notFace_of_selects (args := #[]) (mvT hZ (W 46 rfl))) (mvT hZ (W 46 rfl)) (mvT hZ (W 45 rfl)) (by decide) (backOf (W := 0) (rm7 l Z a0 hw [] b240 (own_max (-9223372036854775808 : Int64) q5) T257.heap n0 Z0_c258 P257_3) hZ (W 47 rfl) (W 4 rfl) (by decide) (by decide)) q260a q260c (g := (mkF m 258 #[.val (.long q1), .second, .val (.int p2), .val (.int p3), .val (.int p4), .val (.long q5), .second, .val (.int p6), .val (.int (1 : Int32)), .val (.int x9), .val (.long x10), .second, .val (.long x12), .second, .val (.long x14), .second, .val (.ref o16), .val (.long tm), .second, .val (.ref b240), .val (.long (own_max (-9223372036854775808 : Int64) q5)), .second, .val (.int (1 : Int32))] [(.ref b240)])) rfl (by rw [hml]; rfl) (Steps.refl _) (argsL := []) (rest := []) (lenOf pd_5 rfl) rfl (by show 2 * 0 + _ ≤ _; exact Nat.le_of_eq rfl) (hb hby at_258) (fun _ _ => ⟨rfl, e259, (by decide : 5 + 0 ≤ _), (by decide : 58 + 0 ≤ _)⟩)
      dsimp only [Pt.U, Pt.locs, Pt.cells, Pt.slots] at X260 l260 y260 z260 st260 hQ260
      subst l260 y260 z260
      obtain ⟨rfl, N260q, e260⟩ := hQ260
      have N260 := Fr.app N259 N260q
      refine own_goT st260 ?_
      show own_Run p e below _ T260 (mkF m 261 #[.val (.long q1), .second, .val (.int p2), .val (.int p3), .val (.int p4), .val (.long q5), .second, .val (.int p6), .val (.int (1 : Int32)), .val (.int x9), .val (.long x10), .second, .val (.long x12), .second, .val (.long x14), .second, .val (.ref o16), .val (.long tm), .second, .val (.ref b240), .val (.long (own_max (-9223372036854775808 : Int64) q5)), .second, .val (.int (1 : Int32))] [(.long (own_max (-9223372036854775808 : Int64) q5))])
      refine own_go (fun _ k => XS.lload X260.here hx rfl (hb hby at_261) rfl k) ?_
      refine own_go (fun _ k => XS.lcmp X260.here hx rfl (hb hby at_263) rfl k) ?_
      show own_Run p e below _ T260 (mkF m 264 #[.val (.long q1), .second, .val (.int p2), .val (.int p3), .val (.int p4), .val (.long q5), .second, .val (.int p6), .val (.int (1 : Int32)), .val (.int x9), .val (.long x10), .second, .val (.long x12), .second, .val (.long x14), .second, .val (.ref o16), .val (.long tm), .second, .val (.ref b240), .val (.long (own_max (-9223372036854775808 : Int64) q5)), .second, .val (.int (1 : Int32))] [(.int (lcmpW (own_max (-9223372036854775808 : Int64) q5) (own_max (-9223372036854775808 : Int64) q5)))])
      refine own_go (fun _ k => XS.ifYes X260.here hx rfl (pc0 := 264) (pc' := 269) rfl (hb hby at_264) rfl (own_lcTe rfl).1 (by decide) (by decide) k) ?_
      show own_Run p e below _ T260 (mkF m 269 #[.val (.long q1), .second, .val (.int p2), .val (.int p3), .val (.int p4), .val (.long q5), .second, .val (.int p6), .val (.int (1 : Int32)), .val (.int x9), .val (.long x10), .second, .val (.long x12), .second, .val (.long x14), .second, .val (.ref o16), .val (.long tm), .second, .val (.ref b240), .val (.long (own_max (-9223372036854775808 : Int64) q5)), .second, .val (.int (1 : Int32))] [])
      refine own_go (fun _ k => XS.iload X260.here hx rfl (hb hby at_269) rfl k) ?_
      show own_Run p e below _ T260 (mkF m 271 #[.val (.long q1), .second, .val (.int p2), .val (.int p3), .val (.int p4), .val (.long q5), .second, .val (.int p6), .val (.int (1 : Int32)), .val (.int x9), .val (.long x10), .second, .val (.long x12), .second, .val (.long x14), .second, .val (.ref o16), .val (.long tm), .second, .val (.ref b240), .val (.long (own_max (-9223372036854775808 : Int64) q5)), .second, .val (.int (1 : Int32))] [(.int (1 : Int32))])
      refine own_go (fun _ k => XS.ifNo X260.here hx rfl (hb hby at_271) rfl ((if0 _ _).trans (tlt (by decide : (0 : Int32) < (1 : Int32))).2.2.2) k) ?_
      show own_Run p e below _ T260 (mkF m 274 #[.val (.long q1), .second, .val (.int p2), .val (.int p3), .val (.int p4), .val (.long q5), .second, .val (.int p6), .val (.int (1 : Int32)), .val (.int x9), .val (.long x10), .second, .val (.long x12), .second, .val (.long x14), .second, .val (.ref o16), .val (.long tm), .second, .val (.ref b240), .val (.long (own_max (-9223372036854775808 : Int64) q5)), .second, .val (.int (1 : Int32))] [])
      refine own_go (fun _ k => XS.aload X260.here hx rfl (hb hby at_274) rfl rfl k) ?_
      refine own_go (fun _ k => XS.iload X260.here hx rfl (hb hby at_276) rfl k) ?_
      refine own_go (fun _ k => XS.iconst X260.here hx rfl (hb hby at_278) k) ?_
      refine own_go (fun _ k => XS.isub X260.here hx rfl (hb hby at_279) rfl k) ?_
      show own_Run p e below _ T260 (mkF m 280 #[.val (.long q1), .second, .val (.int p2), .val (.int p3), .val (.int p4), .val (.long q5), .second, .val (.int p6), .val (.int (1 : Int32)), .val (.int x9), .val (.long x10), .second, .val (.long x12), .second, .val (.long x14), .second, .val (.ref o16), .val (.long tm), .second, .val (.ref b240), .val (.long (own_max (-9223372036854775808 : Int64) q5)), .second, .val (.int (1 : Int32))] [(.int ((1 : Int32) - (1 : Int32))), (.ref b240)])
      rw [show ((1 : Int32) - (1 : Int32)) = (0 : Int32) by decide]
      show own_Run p e below _ T260 (mkF m 280 #[.val (.long q1), .second, .val (.int p2), .val (.int p3), .val (.int p4), .val (.long q5), .second, .val (.int p6), .val (.int (1 : Int32)), .val (.int x9), .val (.long x10), .second, .val (.long x12), .second, .val (.long x14), .second, .val (.ref o16), .val (.long tm), .second, .val (.ref b240), .val (.long (own_max (-9223372036854775808 : Int64) q5)), .second, .val (.int (1 : Int32))] [(.int (0 : Int32)), (.ref b240)])
      obtain ⟨cq261, kq261, q261a, q261b, q261c⟩ := isOf hZ e260 P257_0
      obtain ⟨_, _, ⟨T261, L261, k261, n261⟩, -, X261, ⟨Lc261, hQ261, l261, y261, z261⟩, st261⟩ := X260.virtualBack hx (y := (⟨"com/example/tote/tote/storage/OffsetIndex", "position", "(I)J"⟩ : MethodName)) (z := (⟨"com/example/tote/tote/storage/OffsetIndex", "position", "(I)J"⟩ : MethodName)) hown (mvT hZ (W 58 rfl)) (mvT hZ (W 59 rfl)) (notFace_of_selects (args := #[]) (mvT hZ (W 61 rfl))) (mvT hZ (W 61 rfl)) (mvT hZ (W 60 rfl)) (by decide) (backOf (W := 0) (rm10 l Z a0 hw [] b240 (0 : Int32) b2_242 k2_242 (x10.toInt32) (0 : Int32) (0 : Int32) (x10.toInt32) T257.heap n0 Z0_c258 P257_2 P249_9_c258 (Or.inl ⟨rfl, rfl⟩)) hZ (W 62 rfl) (W 4 rfl) (by decide) (by decide)) q261a q261c (g := (mkF m 280 #[.val (.long q1), .second, .val (.int p2), .val (.int p3), .val (.int p4), .val (.long q5), .second, .val (.int p6), .val (.int (1 : Int32)), .val (.int x9), .val (.long x10), .second, .val (.long x12), .second, .val (.long x14), .second, .val (.ref o16), .val (.long tm), .second, .val (.ref b240), .val (.long (own_max (-9223372036854775808 : Int64) q5)), .second, .val (.int (1 : Int32))] [(.int (0 : Int32)), (.ref b240)])) rfl (by rw [hml]; rfl) (Steps.refl _) (argsL := [(.int (0 : Int32))]) (rest := []) (lenOf pd_9 rfl) rfl (by show 2 * 0 + _ ≤ _; exact Nat.le_of_eq rfl) (hb hby at_280) (fun _ _ => ⟨rfl, e260, (by decide : 5 + 0 ≤ _), (by decide : 58 + 0 ≤ _)⟩)
      dsimp only [Pt.U, Pt.locs, Pt.cells, Pt.slots] at X261 l261 y261 z261 st261 hQ261
      subst l261 y261 z261
      obtain ⟨rfl, N261q, e261⟩ := hQ261
      have N261 := Fr.app N260 N261q
      refine own_goT st261 ?_
      show own_Run p e below _ T261 (mkF m 283 #[.val (.long q1), .second, .val (.int p2), .val (.int p3), .val (.int p4), .val (.long q5), .second, .val (.int p6), .val (.int (1 : Int32)), .val (.int x9), .val (.long x10), .second, .val (.long x12), .second, .val (.long x14), .second, .val (.ref o16), .val (.long tm), .second, .val (.ref b240), .val (.long (own_max (-9223372036854775808 : Int64) q5)), .second, .val (.int (1 : Int32))] [(.long ((x10.toInt32).toInt64))])
      refine own_go (fun _ k => XS.aload X261.here hx rfl (hb hby at_283) rfl rfl k) ?_
      refine own_go (fun _ k => XS.iload X261.here hx rfl (hb hby at_285) rfl k) ?_
      refine own_go (fun _ k => XS.iconst X261.here hx rfl (hb hby at_287) k) ?_
      refine own_go (fun _ k => XS.isub X261.here hx rfl (hb hby at_288) rfl k) ?_
      show own_Run p e below _ T261 (mkF m 289 #[.val (.long q1), .second, .val (.int p2), .val (.int p3), .val (.int p4), .val (.long q5), .second, .val (.int p6), .val (.int (1 : Int32)), .val (.int x9), .val (.long x10), .second, .val (.long x12), .second, .val (.long x14), .second, .val (.ref o16), .val (.long tm), .second, .val (.ref b240), .val (.long (own_max (-9223372036854775808 : Int64) q5)), .second, .val (.int (1 : Int32))] [(.int ((1 : Int32) - (1 : Int32))), (.ref o16), (.long ((x10.toInt32).toInt64))])
      rw [show ((1 : Int32) - (1 : Int32)) = (0 : Int32) by decide]
      show own_Run p e below _ T261 (mkF m 289 #[.val (.long q1), .second, .val (.int p2), .val (.int p3), .val (.int p4), .val (.long q5), .second, .val (.int p6), .val (.int (1 : Int32)), .val (.int x9), .val (.long x10), .second, .val (.long x12), .second, .val (.long x14), .second, .val (.ref o16), .val (.long tm), .second, .val (.ref b240), .val (.long (own_max (-9223372036854775808 : Int64) q5)), .second, .val (.int (1 : Int32))] [(.int (0 : Int32)), (.ref o16), (.long ((x10.toInt32).toInt64))])
      obtain ⟨cl262, Ar262, q262, S262, N262, H262, G262⟩ := id V_o16_c258
      have hin262 : ¬ ((0 : Int32) < 0 ∨ cl262.slots.size ≤ ((0 : Int32)).toNatClampNeg) := inb_of S262 ⟨by decide, by decide⟩
      refine own_go (X261.laload hx (j := (0 : Int32)) (v := (.long x10)) (by rw [e261]; exact Ar262.1) (State.isArrayOf_alike hZ.alike Ar262.2.1) Ar262.2.2 hin262 (H262.at hin262 rfl) (g := (mkF m 289 #[.val (.long q1), .second, .val (.int p2), .val (.int p3), .val (.int p4), .val (.long q5), .second, .val (.int p6), .val (.int (1 : Int32)), .val (.int x9), .val (.long x10), .second, .val (.long x12), .second, .val (.long x14), .second, .val (.ref o16), .val (.long tm), .second, .val (.ref b240), .val (.long (own_max (-9223372036854775808 : Int64) q5)), .second, .val (.int (1 : Int32))] [(.int (0 : Int32)), (.ref o16), (.long ((x10.toInt32).toInt64))])) rfl rfl (hb hby at_289)) ?_
      show own_Run p e below _ T261 (mkF m 290 #[.val (.long q1), .second, .val (.int p2), .val (.int p3), .val (.int p4), .val (.long q5), .second, .val (.int p6), .val (.int (1 : Int32)), .val (.int x9), .val (.long x10), .second, .val (.long x12), .second, .val (.long x14), .second, .val (.ref o16), .val (.long tm), .second, .val (.ref b240), .val (.long (own_max (-9223372036854775808 : Int64) q5)), .second, .val (.int (1 : Int32))] [(.long x10), (.long ((x10.toInt32).toInt64))])
      refine own_go (fun _ k => XS.lcmp X261.here hx rfl (hb hby at_290) rfl k) ?_
      show own_Run p e below _ T261 (mkF m 291 #[.val (.long q1), .second, .val (.int p2), .val (.int p3), .val (.int p4), .val (.long q5), .second, .val (.int p6), .val (.int (1 : Int32)), .val (.int x9), .val (.long x10), .second, .val (.long x12), .second, .val (.long x14), .second, .val (.ref o16), .val (.long tm), .second, .val (.ref b240), .val (.long (own_max (-9223372036854775808 : Int64) q5)), .second, .val (.int (1 : Int32))] [(.int (lcmpW ((x10.toInt32).toInt64) x10))])
      refine own_go (fun _ k => XS.ifYes X261.here hx rfl (pc0 := 291) (pc' := 296) rfl (hb hby at_291) rfl (own_lcTe ht0).1 (by decide) (by decide) k) ?_
      show own_Run p e below _ T261 (mkF m 296 #[.val (.long q1), .second, .val (.int p2), .val (.int p3), .val (.int p4), .val (.long q5), .second, .val (.int p6), .val (.int (1 : Int32)), .val (.int x9), .val (.long x10), .second, .val (.long x12), .second, .val (.long x14), .second, .val (.ref o16), .val (.long tm), .second, .val (.ref b240), .val (.long (own_max (-9223372036854775808 : Int64) q5)), .second, .val (.int (1 : Int32))] [])
      refine own_go (fun _ k => XS.aload X261.here hx rfl (hb hby at_296) rfl rfl k) ?_
      refine own_go (fun _ k => XS.iload X261.here hx rfl (hb hby at_298) rfl k) ?_
      refine own_go (fun _ k => XS.iconst X261.here hx rfl (hb hby at_300) k) ?_
      refine own_go (fun _ k => XS.isub X261.here hx rfl (hb hby at_301) rfl k) ?_
      show own_Run p e below _ T261 (mkF m 302 #[.val (.long q1), .second, .val (.int p2), .val (.int p3), .val (.int p4), .val (.long q5), .second, .val (.int p6), .val (.int (1 : Int32)), .val (.int x9), .val (.long x10), .second, .val (.long x12), .second, .val (.long x14), .second, .val (.ref o16), .val (.long tm), .second, .val (.ref b240), .val (.long (own_max (-9223372036854775808 : Int64) q5)), .second, .val (.int (1 : Int32))] [(.int ((1 : Int32) - (1 : Int32))), (.ref b240)])
      rw [show ((1 : Int32) - (1 : Int32)) = (0 : Int32) by decide]
      show own_Run p e below _ T261 (mkF m 302 #[.val (.long q1), .second, .val (.int p2), .val (.int p3), .val (.int p4), .val (.long q5), .second, .val (.int p6), .val (.int (1 : Int32)), .val (.int x9), .val (.long x10), .second, .val (.long x12), .second, .val (.long x14), .second, .val (.ref o16), .val (.long tm), .second, .val (.ref b240), .val (.long (own_max (-9223372036854775808 : Int64) q5)), .second, .val (.int (1 : Int32))] [(.int (0 : Int32)), (.ref b240)])
      obtain ⟨cq263, kq263, q263a, q263b, q263c⟩ := isOf hZ e261 P257_0
      obtain ⟨_, _, ⟨T263, L263, k263, n263⟩, -, X263, ⟨Lc263, hQ263, l263, y263, z263⟩, st263⟩ := X261.virtualBack hx (y := (⟨"com/example/tote/tote/storage/OffsetIndex", "offset", "(I)J"⟩ : MethodName)) (z := (⟨"com/example/tote/tote/storage/OffsetIndex", "offset", "(I)J"⟩ : MethodName)) hown (mvT hZ (W 63 rfl)) (mvT hZ (W 64 rfl)) (notFace_of_selects (args := #[]) (mvT hZ (W 66 rfl))) (mvT hZ (W 66 rfl)) (mvT hZ (W 65 rfl)) (by decide) (backOf (W := 0) (rm11 l Z a0 hw [] b240 (0 : Int32) b1_242 k1_242 q1 (0 : Int32) (0 : Int32) (0 : Int32) (0 : Int32) T257.heap n0 Z0_c258 P257_1 P257_4 Vo251_c258 (Or.inl ⟨rfl, rfl⟩)) hZ (W 67 rfl) (W 4 rfl) (by decide) (by decide)) q263a q263c (g := (mkF m 302 #[.val (.long q1), .second, .val (.int p2), .val (.int p3), .val (.int p4), .val (.long q5), .second, .val (.int p6), .val (.int (1 : Int32)), .val (.int x9), .val (.long x10), .second, .val (.long x12), .second, .val (.long x14), .second, .val (.ref o16), .val (.long tm), .second, .val (.ref b240), .val (.long (own_max (-9223372036854775808 : Int64) q5)), .second, .val (.int (1 : Int32))] [(.int (0 : Int32)), (.ref b240)])) rfl (by rw [hml]; rfl) (Steps.refl _) (argsL := [(.int (0 : Int32))]) (rest := []) (lenOf pd_9 rfl) rfl (by show 2 * 0 + _ ≤ _; exact Nat.le_of_eq rfl) (hb hby at_302) (fun _ _ => ⟨rfl, e261, (by decide : 5 + 0 ≤ _), (by decide : 58 + 0 ≤ _)⟩)
      dsimp only [Pt.U, Pt.locs, Pt.cells, Pt.slots] at X263 l263 y263 z263 st263 hQ263
      subst l263 y263 z263
      obtain ⟨rfl, N263q, e263⟩ := hQ263
      have N263 := Fr.app N261 N263q
      refine own_goT st263 ?_
      show own_Run p e below _ T263 (mkF m 305 #[.val (.long q1), .second, .val (.int p2), .val (.int p3), .val (.int p4), .val (.long q5), .second, .val (.int p6), .val (.int (1 : Int32)), .val (.int x9), .val (.long x10), .second, .val (.long x12), .second, .val (.long x14), .second, .val (.ref o16), .val (.long tm), .second, .val (.ref b240), .val (.long (own_max (-9223372036854775808 : Int64) q5)), .second, .val (.int (1 : Int32))] [(.long (q1 + ((0 : Int32).toInt64)))])
      refine own_go (fun _ k => XS.lloadN X263.here hx rfl (hb hby at_305) rfl k) ?_
      refine own_go (fun _ k => XS.iload X263.here hx rfl (hb hby at_306) rfl k) ?_
      refine own_go (fun _ k => XS.iconst X263.here hx rfl (hb hby at_308) k) ?_
      refine own_go (fun _ k => XS.isub X263.here hx rfl (hb hby at_309) rfl k) ?_
      show own_Run p e below _ T263 (mkF m 310 #[.val (.long q1), .second, .val (.int p2), .val (.int p3), .val (.int p4), .val (.long q5), .second, .val (.int p6), .val (.int (1 : Int32)), .val (.int x9), .val (.long x10), .second, .val (.long x12), .second, .val (.long x14), .second, .val (.ref o16), .val (.long tm), .second, .val (.ref b240), .val (.long (own_max (-9223372036854775808 : Int64) q5)), .second, .val (.int (1 : Int32))] [(.int ((1 : Int32) - (1 : Int32))), (.long q1), (.long (q1 + ((0 : Int32).toInt64)))])
      rw [show ((1 : Int32) - (1 : Int32)) = (0 : Int32) by decide]
      show own_Run p e below _ T263 (mkF m 310 #[.val (.long q1), .second, .val (.int p2), .val (.int p3), .val (.int p4), .val (.long q5), .second, .val (.int p6), .val (.int (1 : Int32)), .val (.int x9), .val (.long x10), .second, .val (.long x12), .second, .val (.long x14), .second, .val (.ref o16), .val (.long tm), .second, .val (.ref b240), .val (.long (own_max (-9223372036854775808 : Int64) q5)), .second, .val (.int (1 : Int32))] [(.int (0 : Int32)), (.long q1), (.long (q1 + ((0 : Int32).toInt64)))])
      refine own_go (fun _ k => XS.i2l X263.here hx rfl (hb hby at_310) rfl k) ?_
      show own_Run p e below _ T263 (mkF m 311 #[.val (.long q1), .second, .val (.int p2), .val (.int p3), .val (.int p4), .val (.long q5), .second, .val (.int p6), .val (.int (1 : Int32)), .val (.int x9), .val (.long x10), .second, .val (.long x12), .second, .val (.long x14), .second, .val (.ref o16), .val (.long tm), .second, .val (.ref b240), .val (.long (own_max (-9223372036854775808 : Int64) q5)), .second, .val (.int (1 : Int32))] [(.long ((0 : Int32).toInt64)), (.long q1), (.long (q1 + ((0 : Int32).toInt64)))])
      rw [show ((0 : Int32).toInt64) = (0 : Int64) by decide]
      show own_Run p e below _ T263 (mkF m 311 #[.val (.long q1), .second, .val (.int p2), .val (.int p3), .val (.int p4), .val (.long q5), .second, .val (.int p6), .val (.int (1 : Int32)), .val (.int x9), .val (.long x10), .second, .val (.long x12), .second, .val (.long x14), .second, .val (.ref o16), .val (.long tm), .second, .val (.ref b240), .val (.long (own_max (-9223372036854775808 : Int64) q5)), .second, .val (.int (1 : Int32))] [(.long (0 : Int64)), (.long q1), (.long (q1 + ((0 : Int32).toInt64)))])
      refine own_go (fun _ k => XS.ladd X263.here hx rfl (hb hby at_311) rfl k) ?_
      refine own_go (fun _ k => XS.lcmp X263.here hx rfl (hb hby at_312) rfl k) ?_
      show own_Run p e below _ T263 (mkF m 313 #[.val (.long q1), .second, .val (.int p2), .val (.int p3), .val (.int p4), .val (.long q5), .second, .val (.int p6), .val (.int (1 : Int32)), .val (.int x9), .val (.long x10), .second, .val (.long x12), .second, .val (.long x14), .second, .val (.ref o16), .val (.long tm), .second, .val (.ref b240), .val (.long (own_max (-9223372036854775808 : Int64) q5)), .second, .val (.int (1 : Int32))] [(.int (lcmpW (q1 + ((0 : Int32).toInt64)) (q1 + (0 : Int64))))])
      refine own_go (fun _ k => XS.ifYes X263.here hx rfl (pc0 := 313) (pc' := 318) rfl (hb hby at_313) rfl (own_lcTe (by rw [show ((0 : Int32)).toInt64 = (0 : Int64) by decide] : (q1 + ((0 : Int32).toInt64)) = (q1 + (0 : Int64)))).1 (by decide) (by decide) k) ?_
      show own_Run p e below _ T263 (mkF m 318 #[.val (.long q1), .second, .val (.int p2), .val (.int p3), .val (.int p4), .val (.long q5), .second, .val (.int p6), .val (.int (1 : Int32)), .val (.int x9), .val (.long x10), .second, .val (.long x12), .second, .val (.long x14), .second, .val (.ref o16), .val (.long tm), .second, .val (.ref b240), .val (.long (own_max (-9223372036854775808 : Int64) q5)), .second, .val (.int (1 : Int32))] [])
      refine own_go (fun _ k => XS.iconst X263.here hx rfl (hb hby at_318) k) ?_
      show own_Run p e below _ T263 (mkF m 319 #[.val (.long q1), .second, .val (.int p2), .val (.int p3), .val (.int p4), .val (.long q5), .second, .val (.int p6), .val (.int (1 : Int32)), .val (.int x9), .val (.long x10), .second, .val (.long x12), .second, .val (.long x14), .second, .val (.ref o16), .val (.long tm), .second, .val (.ref b240), .val (.long (own_max (-9223372036854775808 : Int64) q5)), .second, .val (.int (1 : Int32))] [(.int (1 : Int32))])
      refine own_done (Q := fun v h L => Q0 Z q1 p2 p3 p4 q5 p6 h0 n0 v h L) (v := (some (.int (1 : Int32)))) X263 (fun h => by rw [hret] at h; cases h) hlk (fun fs hr => retN X263 hx (t := .boolean) hret (by simp) (hb hby at_319) hr) ?_ (by decide) (by decide)
      show Q0 Z q1 p2 p3 p4 q5 p6 h0 n0 _ T263.heap _
      rw [e263]
      exact ⟨rfl, N263⟩
  · show own_Run p e below _ T242 (mkF m 123 #[.val (.long q1), .second, .val (.int p2), .val (.int p3), .val (.int p4), .val (.long q5), .second, .val (.int p6), .val (.int (2 : Int32)), .val (.int x9), .val (.long x10), .second, .val (.long x12), .second, .val (.long x14), .second, .val (.ref o16), .val (.long tm), .second, .val (.ref b240), .unset, .unset, .unset] [])
    refine own_go (fun _ k => XS.iload X242.here hx rfl (hb hby at_123) rfl k) ?_
    refine own_go (fun _ k => XS.iconst X242.here hx rfl (hb hby at_125) k) ?_
    show own_Run p e below _ T242 (mkF m 126 #[.val (.long q1), .second, .val (.int p2), .val (.int p3), .val (.int p4), .val (.long q5), .second, .val (.int p6), .val (.int (2 : Int32)), .val (.int x9), .val (.long x10), .second, .val (.long x12), .second, .val (.long x14), .second, .val (.ref o16), .val (.long tm), .second, .val (.ref b240), .unset, .unset, .unset] [(.int (1 : Int32)), (.int (2 : Int32))])
    refine own_go (fun _ k => XS.icmpNo X242.here hx rfl (hb hby at_126) rfl (flt (by decide : ¬ ((2 : Int32) < (1 : Int32)))).1 k) ?_
    show own_Run p e below _ T242 (mkF m 129 #[.val (.long q1), .second, .val (.int p2), .val (.int p3), .val (.int p4), .val (.long q5), .second, .val (.int p6), .val (.int (2 : Int32)), .val (.int x9), .val (.long x10), .second, .val (.long x12), .second, .val (.long x14), .second, .val (.ref o16), .val (.long tm), .second, .val (.ref b240), .unset, .unset, .unset] [])
    refine own_go (fun _ k => XS.aload X242.here hx rfl (hb hby at_129) rfl rfl k) ?_
    refine own_go (fun _ k => XS.lloadN X242.here hx rfl (hb hby at_131) rfl k) ?_
    refine own_go (fun _ k => XS.lload X242.here hx rfl (hb hby at_132) rfl k) ?_
    refine own_go (fun _ k => XS.lload X242.here hx rfl (hb hby at_134) rfl k) ?_
    show own_Run p e below _ T242 (mkF m 136 #[.val (.long q1), .second, .val (.int p2), .val (.int p3), .val (.int p4), .val (.long q5), .second, .val (.int p6), .val (.int (2 : Int32)), .val (.int x9), .val (.long x10), .second, .val (.long x12), .second, .val (.long x14), .second, .val (.ref o16), .val (.long tm), .second, .val (.ref b240), .unset, .unset, .unset] [(.long q5), (.long x10), (.long q1), (.ref b240)])
    obtain ⟨cq264, kq264, q264a, q264b, q264c⟩ := isOf hZ rfl P242_0
    obtain ⟨_, _, ⟨T264, L264, k264, n264⟩, -, X264, ⟨Lc264, hQ264, l264, y264, z264⟩, st264⟩ := X242.virtualBack hx (y := (⟨"com/example/tote/tote/storage/OffsetIndex", "add", "(JJJ)V"⟩ : MethodName)) (z := (⟨"com/example/tote/tote/storage/OffsetIndex", "add", "(JJJ)V"⟩ : MethodName)) hown (mvT hZ (W 25 rfl)) (mvT hZ (W 26 rfl)) (notFace_of_selects (args := #[]) (mvT hZ (W 28 rfl))) (mvT hZ (W 28 rfl)) (mvT hZ (W 27 rfl)) (by decide) (backOf (W := 0) (rm3c0 l Z a0 hw [] b240 q1 x10 q5 b1_242 b2_242 b3_242 k1_242 k2_242 k3_242 (-9223372036854775808 : Int64) q1 (0 : Int64) T242.heap n0 Z0_c243 P242_0 P242_1 P242_2 P242_3 P242_4 P242_5 P242_6 P242_7 P242_8 P242_9 P242_10 g_b240 g_b1_242 g_b2_242 g_b3_242 P242_14 P242_15 P242_16 P242_17 P242_18 P242_19 (by rw [own_o0]; decide) (ht0)) hZ (W 29 rfl) (W 4 rfl) (by decide) (by decide)) q264a q264c (g := (mkF m 136 #[.val (.long q1), .second, .val (.int p2), .val (.int p3), .val (.int p4), .val (.long q5), .second, .val (.int p6), .val (.int (2 : Int32)), .val (.int x9), .val (.long x10), .second, .val (.long x12), .second, .val (.long x14), .second, .val (.ref o16), .val (.long tm), .second, .val (.ref b240), .unset, .unset, .unset] [(.long q5), (.long x10), (.long q1), (.ref b240)])) rfl (by rw [hml]; rfl) (Steps.refl _) (argsL := [(.long q1), (.long x10), (.long q5)]) (rest := []) (lenOf pd_8 rfl) rfl (by show 2 * 0 + _ ≤ _; exact Nat.le_of_eq rfl) (hb hby at_136) (fun _ _ => ⟨rfl, rfl, (by decide : 5 + 0 ≤ _), (by decide : 58 + 0 ≤ _)⟩)
    dsimp only [Pt.U, Pt.locs, Pt.cells, Pt.slots] at X264 l264 y264 z264 st264 hQ264
    subst l264 y264 z264
    obtain ⟨rfl, N264q, K264, P264_0, P264_1, P264_2, P264_3, P264_4, P264_5, P264_6, P264_7, P264_8, P264_9, P264_10⟩ := hQ264
    have N264 := Fr.app N242 N264q
    refine own_goT st264 ?_
    show own_Run p e below _ T264 (mkF m 139 #[.val (.long q1), .second, .val (.int p2), .val (.int p3), .val (.int p4), .val (.long q5), .second, .val (.int p6), .val (.int (2 : Int32)), .val (.int x9), .val (.long x10), .second, .val (.long x12), .second, .val (.long x14), .second, .val (.ref o16), .val (.long tm), .second, .val (.ref b240), .unset, .unset, .unset] [])
    have Z0_c265 := Nat.le_trans Z0_c243 K264.1
    have K0_c265 := K0_c243.trans K264 (allS (Or.inr sz_b240) (allS (Or.inr sz_b1_242) (allS (Or.inr sz_b2_242) (allS (Or.inr sz_b3_242) all0))))
    have V_o16_c265 := V_o16_c243.keep K264 (ninS ne_o16_b240 (ninS ne_o16_b1_242 (ninS ne_o16_b2_242 (ninS ne_o16_b3_242 nin0))))
    have P242_0_c265 := P242_0.keep K264
    have Vo266 : Arv Z T264.heap b1_242 k1_242 .int (16 : Int32) [(.int (0 : Int32)), (.int (0 : Int32)), (.int (0 : Int32)), (.int (0 : Int32)), (.int (0 : Int32)), (.int (0 : Int32)), (.int (0 : Int32)), (.int (0 : Int32)), (.int (0 : Int32)), (.int (0 : Int32)), (.int (0 : Int32)), (.int (0 : Int32)), (.int (0 : Int32)), (.int (0 : Int32)), (.int (0 : Int32)), (.int (0 : Int32))] (.int (0 : Int32)) := by
      have q := P264_8
      rw [own_o0] at q
      exact q
    refine own_go (fun _ k => XS.iload X264.here hx rfl (hb hby at_139) rfl k) ?_
    refine own_go (fun _ k => XS.iconst X264.here hx rfl (hb hby at_141) k) ?_
    show own_Run p e below _ T264 (mkF m 142 #[.val (.long q1), .second, .val (.int p2), .val (.int p3), .val (.int p4), .val (.long q5), .second, .val (.int p6), .val (.int (2 : Int32)), .val (.int x9), .val (.long x10), .second, .val (.long x12), .second, .val (.long x14), .second, .val (.ref o16), .val (.long tm), .second, .val (.ref b240), .unset, .unset, .unset] [(.int (2 : Int32)), (.int (2 : Int32))])
    refine own_go (fun _ k => XS.icmpNo X264.here hx rfl (hb hby at_142) rfl (flt (by decide : ¬ ((2 : Int32) < (2 : Int32)))).1 k) ?_
    show own_Run p e below _ T264 (mkF m 145 #[.val (.long q1), .second, .val (.int p2), .val (.int p3), .val (.int p4), .val (.long q5), .second, .val (.int p6), .val (.int (2 : Int32)), .val (.int x9), .val (.long x10), .second, .val (.long x12), .second, .val (.long x14), .second, .val (.ref o16), .val (.long tm), .second, .val (.ref b240), .unset, .unset, .unset] [])
    refine own_go (fun _ k => XS.aload X264.here hx rfl (hb hby at_145) rfl rfl k) ?_
    refine own_go (fun _ k => XS.lloadN X264.here hx rfl (hb hby at_147) rfl k) ?_
    refine own_go (fun _ k => XS.lconst X264.here hx rfl (hb hby at_148) k) ?_
    refine own_go (fun _ k => XS.ladd X264.here hx rfl (hb hby at_149) rfl k) ?_
    show own_Run p e below _ T264 (mkF m 150 #[.val (.long q1), .second, .val (.int p2), .val (.int p3), .val (.int p4), .val (.long q5), .second, .val (.int p6), .val (.int (2 : Int32)), .val (.int x9), .val (.long x10), .second, .val (.long x12), .second, .val (.long x14), .second, .val (.ref o16), .val (.long tm), .second, .val (.ref b240), .unset, .unset, .unset] [(.long (q1 + (1 : Int64))), (.ref b240)])
    refine own_go (fun _ k => XS.lload X264.here hx rfl (hb hby at_150) rfl k) ?_
    refine own_go (fun _ k => XS.iloadN X264.here hx rfl (hb hby at_152) rfl k) ?_
    refine own_go (fun _ k => XS.i2l X264.here hx rfl (hb hby at_153) rfl k) ?_
    show own_Run p e below _ T264 (mkF m 154 #[.val (.long q1), .second, .val (.int p2), .val (.int p3), .val (.int p4), .val (.long q5), .second, .val (.int p6), .val (.int (2 : Int32)), .val (.int x9), .val (.long x10), .second, .val (.long x12), .second, .val (.long x14), .second, .val (.ref o16), .val (.long tm), .second, .val (.ref b240), .unset, .unset, .unset] [(.long (p2.toInt64)), (.long x12), (.long (q1 + (1 : Int64))), (.ref b240)])
    obtain ⟨cq267, kq267, q267a, q267b, q267c⟩ := isOf hZ rfl P264_0
    obtain ⟨_, _, ⟨T267, L267, k267, n267⟩, -, X267, ⟨Lc267, hQ267, l267, y267, z267⟩, st267⟩ := X264.virtualBack hx (y := (⟨"com/example/tote/tote/storage/OffsetIndex", "add", "(JJJ)V"⟩ : MethodName)) (z := (⟨"com/example/tote/tote/storage/OffsetIndex", "add", "(JJJ)V"⟩ : MethodName)) hown (mvT hZ (W 25 rfl)) (mvT hZ (W 26 rfl)) (notFace_of_selects (args := #[]) (mvT hZ (W 28 rfl))) (mvT hZ (W 28 rfl)) (mvT hZ (W 27 rfl)) (by decide) (backOf (W := 0) (rm3c1 l Z a0 hw [] b240 (q1 + (1 : Int64)) x12 (p2.toInt64) b1_242 b2_242 b3_242 k1_242 k2_242 k3_242 (own_max (-9223372036854775808 : Int64) q5) q1 (0 : Int64) (0 : Int32) (x10.toInt32) (-9223372036854775808 : Int64) T264.heap n0 Z0_c265 P264_0 P264_1 P264_2 P264_3 P264_4 P264_5 P264_6 P264_7 Vo266 P264_9 P264_10 g_b240 g_b1_242 g_b2_242 g_b3_242 P242_14 P242_15 P242_16 P242_17 P242_18 P242_19 (by rw [own_o1]; decide) (ht1) (own_gt x10 x12 ⟨hB0.1, hB0.2⟩ hB1.1 hB1.2.2)) hZ (W 29 rfl) (W 4 rfl) (by decide) (by decide)) q267a q267c (g := (mkF m 154 #[.val (.long q1), .second, .val (.int p2), .val (.int p3), .val (.int p4), .val (.long q5), .second, .val (.int p6), .val (.int (2 : Int32)), .val (.int x9), .val (.long x10), .second, .val (.long x12), .second, .val (.long x14), .second, .val (.ref o16), .val (.long tm), .second, .val (.ref b240), .unset, .unset, .unset] [(.long (p2.toInt64)), (.long x12), (.long (q1 + (1 : Int64))), (.ref b240)])) rfl (by rw [hml]; rfl) (Steps.refl _) (argsL := [(.long (q1 + (1 : Int64))), (.long x12), (.long (p2.toInt64))]) (rest := []) (lenOf pd_8 rfl) rfl (by show 2 * 0 + _ ≤ _; exact Nat.le_of_eq rfl) (hb hby at_154) (fun _ _ => ⟨rfl, rfl, (by decide : 5 + 0 ≤ _), (by decide : 58 + 0 ≤ _)⟩)
    dsimp only [Pt.U, Pt.locs, Pt.cells, Pt.slots] at X267 l267 y267 z267 st267 hQ267
    subst l267 y267 z267
    obtain ⟨rfl, N267q, K267, P267_0, P267_1, P267_2, P267_3, P267_4, P267_5, P267_6, P267_7, P267_8, P267_9, P267_10⟩ := hQ267
    have N267 := Fr.app N264 N267q
    refine own_goT st267 ?_
    show own_Run p e below _ T267 (mkF m 157 #[.val (.long q1), .second, .val (.int p2), .val (.int p3), .val (.int p4), .val (.long q5), .second, .val (.int p6), .val (.int (2 : Int32)), .val (.int x9), .val (.long x10), .second, .val (.long x12), .second, .val (.long x14), .second, .val (.ref o16), .val (.long tm), .second, .val (.ref b240), .unset, .unset, .unset] [])
    have Z0_c268 := Nat.le_trans Z0_c265 K267.1
    have K0_c268 := K0_c265.trans K267 (allS (Or.inr sz_b240) (allS (Or.inr sz_b1_242) (allS (Or.inr sz_b2_242) (allS (Or.inr sz_b3_242) all0))))
    have V_o16_c268 := V_o16_c265.keep K267 (ninS ne_o16_b240 (ninS ne_o16_b1_242 (ninS ne_o16_b2_242 (ninS ne_o16_b3_242 nin0))))
    have P264_0_c268 := P264_0.keep K267
    have Vo269 : Arv Z T267.heap b1_242 k1_242 .int (16 : Int32) [(.int (0 : Int32)), (.int (1 : Int32)), (.int (0 : Int32)), (.int (0 : Int32)), (.int (0 : Int32)), (.int (0 : Int32)), (.int (0 : Int32)), (.int (0 : Int32)), (.int (0 : Int32)), (.int (0 : Int32)), (.int (0 : Int32)), (.int (0 : Int32)), (.int (0 : Int32)), (.int (0 : Int32)), (.int (0 : Int32)), (.int (0 : Int32))] (.int (0 : Int32)) := by
      have q := P267_8
      rw [own_o1] at q
      exact q
    refine own_go (fun _ k => XS.iload X267.here hx rfl (hb hby at_157) rfl k) ?_
    refine own_go (fun _ k => XS.iconst X267.here hx rfl (hb hby at_159) k) ?_
    show own_Run p e below _ T267 (mkF m 160 #[.val (.long q1), .second, .val (.int p2), .val (.int p3), .val (.int p4), .val (.long q5), .second, .val (.int p6), .val (.int (2 : Int32)), .val (.int x9), .val (.long x10), .second, .val (.long x12), .second, .val (.long x14), .second, .val (.ref o16), .val (.long tm), .second, .val (.ref b240), .unset, .unset, .unset] [(.int (3 : Int32)), (.int (2 : Int32))])
    refine own_go (fun _ k => XS.icmpYes X267.here hx rfl (pc0 := 160) (pc' := 176) rfl (hb hby at_160) rfl (tlt (by decide : (2 : Int32) < (3 : Int32))).1 (by decide) (by decide) k) ?_
    show own_Run p e below _ T267 (mkF m 176 #[.val (.long q1), .second, .val (.int p2), .val (.int p3), .val (.int p4), .val (.long q5), .second, .val (.int p6), .val (.int (2 : Int32)), .val (.int x9), .val (.long x10), .second, .val (.long x12), .second, .val (.long x14), .second, .val (.ref o16), .val (.long tm), .second, .val (.ref b240), .unset, .unset, .unset] [])
    refine own_go (fun _ k => XS.aload X267.here hx rfl (hb hby at_176) rfl rfl k) ?_
    show own_Run p e below _ T267 (mkF m 178 #[.val (.long q1), .second, .val (.int p2), .val (.int p3), .val (.int p4), .val (.long q5), .second, .val (.int p6), .val (.int (2 : Int32)), .val (.int x9), .val (.long x10), .second, .val (.long x12), .second, .val (.long x14), .second, .val (.ref o16), .val (.long tm), .second, .val (.ref b240), .unset, .unset, .unset] [(.ref b240)])
    obtain ⟨cq270, kq270, q270a, q270b, q270c⟩ := isOf hZ rfl P267_0
    obtain ⟨_, _, ⟨T270, L270, k270, n270⟩, -, X270, ⟨Lc270, hQ270, l270, y270, z270⟩, st270⟩ := X267.virtualBack hx (y := (⟨"com/example/tote/tote/storage/OffsetIndex", "maxTimestamp", "()J"⟩ : MethodName)) (z := (⟨"com/example/tote/tote/storage/OffsetIndex", "maxTimestamp", "()J"⟩ : MethodName)) hown (mvT hZ (W 43 rfl)) (mvT hZ (W 44 rfl)) (notFace_of_selects (args := #[]) (mvT hZ (W 46 rfl))) (mvT hZ (W 46 rfl)) (mvT hZ (W 45 rfl)) (by decide) (backOf (W := 0) (rm7 l Z a0 hw [] b240 (own_max (own_max (-9223372036854775808 : Int64) q5) (p2.toInt64)) T267.heap n0 Z0_c268 P267_4) hZ (W 47 rfl) (W 4 rfl) (by decide) (by decide)) q270a q270c (g := (mkF m 178 #[.val (.long q1), .second, .val (.int p2), .val (.int p3), .val (.int p4), .val (.long q5), .second, .val (.int p6), .val (.int (2 : Int32)), .val (.int x9), .val (.long x10), .second, .val (.long x12), .second, .val (.long x14), .second, .val (.ref o16), .val (.long tm), .second, .val (.ref b240), .unset, .unset, .unset] [(.ref b240)])) rfl (by rw [hml]; rfl) (Steps.refl _) (argsL := []) (rest := []) (lenOf pd_5 rfl) rfl (by show 2 * 0 + _ ≤ _; exact Nat.le_of_eq rfl) (hb hby at_178) (fun _ _ => ⟨rfl, rfl, (by decide : 5 + 0 ≤ _), (by decide : 58 + 0 ≤ _)⟩)
    dsimp only [Pt.U, Pt.locs, Pt.cells, Pt.slots] at X270 l270 y270 z270 st270 hQ270
    subst l270 y270 z270
    obtain ⟨rfl, N270q, e270⟩ := hQ270
    have N270 := Fr.app N267 N270q
    refine own_goT st270 ?_
    show own_Run p e below _ T270 (mkF m 181 #[.val (.long q1), .second, .val (.int p2), .val (.int p3), .val (.int p4), .val (.long q5), .second, .val (.int p6), .val (.int (2 : Int32)), .val (.int x9), .val (.long x10), .second, .val (.long x12), .second, .val (.long x14), .second, .val (.ref o16), .val (.long tm), .second, .val (.ref b240), .unset, .unset, .unset] [(.long (own_max (own_max (-9223372036854775808 : Int64) q5) (p2.toInt64)))])
    refine own_go (fun _ k => XS.lstore X270.here hx rfl (hb hby at_181) rfl (l' := #[.val (.long q1), .second, .val (.int p2), .val (.int p3), .val (.int p4), .val (.long q5), .second, .val (.int p6), .val (.int (2 : Int32)), .val (.int x9), .val (.long x10), .second, .val (.long x12), .second, .val (.long x14), .second, .val (.ref o16), .val (.long tm), .second, .val (.ref b240), .val (.long (own_max (own_max (-9223372036854775808 : Int64) q5) (p2.toInt64))), .second, .unset]) rfl k) ?_
    refine own_go (fun _ k => XS.aload X270.here hx rfl (hb hby at_183) rfl rfl k) ?_
    refine own_go (fun _ k => XS.lload X270.here hx rfl (hb hby at_185) rfl k) ?_
    show own_Run p e below _ T270 (mkF m 187 #[.val (.long q1), .second, .val (.int p2), .val (.int p3), .val (.int p4), .val (.long q5), .second, .val (.int p6), .val (.int (2 : Int32)), .val (.int x9), .val (.long x10), .second, .val (.long x12), .second, .val (.long x14), .second, .val (.ref o16), .val (.long tm), .second, .val (.ref b240), .val (.long (own_max (own_max (-9223372036854775808 : Int64) q5) (p2.toInt64))), .second, .unset] [(.long tm), (.ref b240)])
    rcases own_k2 tm x10 x12 hB1.1 with ⟨hz0, hz1⟩ | ⟨hz0, hz1⟩ | ⟨hz0, hz1⟩
    · obtain ⟨cq271, kq271, q271a, q271b, q271c⟩ := isOf hZ e270 P267_0
      obtain ⟨_, _, ⟨T271, L271, k271, n271⟩, -, X271, ⟨Lc271, hQ271, l271, y271, z271⟩, st271⟩ := X270.virtualBack hx (y := (⟨"com/example/tote/tote/storage/OffsetIndex", "cutBack", "(J)V"⟩ : MethodName)) (z := (⟨"com/example/tote/tote/storage/OffsetIndex", "cutBack", "(J)V"⟩ : MethodName)) hown (mvT hZ (W 48 rfl)) (mvT hZ (W 49 rfl)) (notFace_of_selects (args := #[]) (mvT hZ (W 51 rfl))) (mvT hZ (W 51 rfl)) (mvT hZ (W 50 rfl)) (by decide) (backOf (W := 0) (rm8n2 l Z a0 hw [] b240 tm b1_242 b2_242 k2_242 (own_max (own_max (-9223372036854775808 : Int64) q5) (p2.toInt64)) q1 (x10.toInt32) (x12.toInt32) (0 : Int32) (0 : Int32) T267.heap n0 Z0_c268 P267_0 P267_1 P267_2 P267_4 P267_5 P267_7 P267_9 g_b240 P242_15 (Or.inl ⟨(by rw [ht0]; exact hz0), (by rw [ht1]; exact hz1), rfl⟩)) hZ (W 52 rfl) (W 4 rfl) (by decide) (by decide)) q271a q271c (g := (mkF m 187 #[.val (.long q1), .second, .val (.int p2), .val (.int p3), .val (.int p4), .val (.long q5), .second, .val (.int p6), .val (.int (2 : Int32)), .val (.int x9), .val (.long x10), .second, .val (.long x12), .second, .val (.long x14), .second, .val (.ref o16), .val (.long tm), .second, .val (.ref b240), .val (.long (own_max (own_max (-9223372036854775808 : Int64) q5) (p2.toInt64))), .second, .unset] [(.long tm), (.ref b240)])) rfl (by rw [hml]; rfl) (Steps.refl _) (argsL := [(.long tm)]) (rest := []) (lenOf pd_6 rfl) rfl (by show 2 * 0 + _ ≤ _; exact Nat.le_of_eq rfl) (hb hby at_187) (fun _ _ => ⟨rfl, e270, (by decide : 5 + 0 ≤ _), (by decide : 58 + 0 ≤ _)⟩)
      dsimp only [Pt.U, Pt.locs, Pt.cells, Pt.slots] at X271 l271 y271 z271 st271 hQ271
      subst l271 y271 z271
      obtain ⟨rfl, N271q, K271, P271_0, P271_1, P271_2, P271_3, P271_4, P271_5⟩ := hQ271
      have N271 := Fr.app N270 N271q
      refine own_goT st271 ?_
      show own_Run p e below _ T271 (mkF m 190 #[.val (.long q1), .second, .val (.int p2), .val (.int p3), .val (.int p4), .val (.long q5), .second, .val (.int p6), .val (.int (2 : Int32)), .val (.int x9), .val (.long x10), .second, .val (.long x12), .second, .val (.long x14), .second, .val (.ref o16), .val (.long tm), .second, .val (.ref b240), .val (.long (own_max (own_max (-9223372036854775808 : Int64) q5) (p2.toInt64))), .second, .unset] [])
      have Z0_c272 := Nat.le_trans Z0_c268 K271.1
      have K0_c272 := K0_c268.trans K271 (allS (Or.inr sz_b240) all0)
      have V_o16_c272 := V_o16_c268.keep K271 (ninS ne_o16_b240 nin0)
      have P267_0_c272 := P267_0.keep K271
      have Vo269_c272 := Vo269.keep K271 (ninS (Ne.symm P242_14) nin0)
      have P267_9_c272 := P267_9.keep K271 (ninS (Ne.symm P242_15) nin0)
      have P267_10_c272 := P267_10.keep K271 (ninS (Ne.symm P242_16) nin0)
      refine own_go (fun _ k => XS.iconst X271.here hx rfl (hb hby at_190) k) ?_
      refine own_go (fun _ k => XS.istore X271.here hx rfl (hb hby at_191) rfl (l' := #[.val (.long q1), .second, .val (.int p2), .val (.int p3), .val (.int p4), .val (.long q5), .second, .val (.int p6), .val (.int (2 : Int32)), .val (.int x9), .val (.long x10), .second, .val (.long x12), .second, .val (.long x14), .second, .val (.ref o16), .val (.long tm), .second, .val (.ref b240), .val (.long (own_max (own_max (-9223372036854775808 : Int64) q5) (p2.toInt64))), .second, .val (.int (0 : Int32))]) rfl k) ?_
      refine own_go (fun _ k => XS.iload X271.here hx rfl (hb hby at_193) rfl k) ?_
      refine own_go (fun _ k => XS.iconst X271.here hx rfl (hb hby at_195) k) ?_
      show own_Run p e below _ T271 (mkF m 196 #[.val (.long q1), .second, .val (.int p2), .val (.int p3), .val (.int p4), .val (.long q5), .second, .val (.int p6), .val (.int (2 : Int32)), .val (.int x9), .val (.long x10), .second, .val (.long x12), .second, .val (.long x14), .second, .val (.ref o16), .val (.long tm), .second, .val (.ref b240), .val (.long (own_max (own_max (-9223372036854775808 : Int64) q5) (p2.toInt64))), .second, .val (.int (0 : Int32))] [(.int (1 : Int32)), (.int (2 : Int32))])
      refine own_go (fun _ k => XS.icmpNo X271.here hx rfl (hb hby at_196) rfl (flt (by decide : ¬ ((2 : Int32) < (1 : Int32)))).1 k) ?_
      show own_Run p e below _ T271 (mkF m 199 #[.val (.long q1), .second, .val (.int p2), .val (.int p3), .val (.int p4), .val (.long q5), .second, .val (.int p6), .val (.int (2 : Int32)), .val (.int x9), .val (.long x10), .second, .val (.long x12), .second, .val (.long x14), .second, .val (.ref o16), .val (.long tm), .second, .val (.ref b240), .val (.long (own_max (own_max (-9223372036854775808 : Int64) q5) (p2.toInt64))), .second, .val (.int (0 : Int32))] [])
      refine own_go (fun _ k => XS.lload X271.here hx rfl (hb hby at_199) rfl k) ?_
      refine own_go (fun _ k => XS.lload X271.here hx rfl (hb hby at_201) rfl k) ?_
      refine own_go (fun _ k => XS.lcmp X271.here hx rfl (hb hby at_203) rfl k) ?_
      show own_Run p e below _ T271 (mkF m 204 #[.val (.long q1), .second, .val (.int p2), .val (.int p3), .val (.int p4), .val (.long q5), .second, .val (.int p6), .val (.int (2 : Int32)), .val (.int x9), .val (.long x10), .second, .val (.long x12), .second, .val (.long x14), .second, .val (.ref o16), .val (.long tm), .second, .val (.ref b240), .val (.long (own_max (own_max (-9223372036854775808 : Int64) q5) (p2.toInt64))), .second, .val (.int (0 : Int32))] [(.int (lcmpW x10 tm))])
      refine own_go (fun _ k => XS.ifYes X271.here hx rfl (pc0 := 204) (pc' := 210) rfl (hb hby at_204) rfl (own_lcF hz0).2.1 (by decide) (by decide) k) ?_
      show own_Run p e below _ T271 (mkF m 210 #[.val (.long q1), .second, .val (.int p2), .val (.int p3), .val (.int p4), .val (.long q5), .second, .val (.int p6), .val (.int (2 : Int32)), .val (.int x9), .val (.long x10), .second, .val (.long x12), .second, .val (.long x14), .second, .val (.ref o16), .val (.long tm), .second, .val (.ref b240), .val (.long (own_max (own_max (-9223372036854775808 : Int64) q5) (p2.toInt64))), .second, .val (.int (0 : Int32))] [])
      refine own_go (fun _ k => XS.iload X271.here hx rfl (hb hby at_210) rfl k) ?_
      refine own_go (fun _ k => XS.iconst X271.here hx rfl (hb hby at_212) k) ?_
      show own_Run p e below _ T271 (mkF m 213 #[.val (.long q1), .second, .val (.int p2), .val (.int p3), .val (.int p4), .val (.long q5), .second, .val (.int p6), .val (.int (2 : Int32)), .val (.int x9), .val (.long x10), .second, .val (.long x12), .second, .val (.long x14), .second, .val (.ref o16), .val (.long tm), .second, .val (.ref b240), .val (.long (own_max (own_max (-9223372036854775808 : Int64) q5) (p2.toInt64))), .second, .val (.int (0 : Int32))] [(.int (2 : Int32)), (.int (2 : Int32))])
      refine own_go (fun _ k => XS.icmpNo X271.here hx rfl (hb hby at_213) rfl (flt (by decide : ¬ ((2 : Int32) < (2 : Int32)))).1 k) ?_
      show own_Run p e below _ T271 (mkF m 216 #[.val (.long q1), .second, .val (.int p2), .val (.int p3), .val (.int p4), .val (.long q5), .second, .val (.int p6), .val (.int (2 : Int32)), .val (.int x9), .val (.long x10), .second, .val (.long x12), .second, .val (.long x14), .second, .val (.ref o16), .val (.long tm), .second, .val (.ref b240), .val (.long (own_max (own_max (-9223372036854775808 : Int64) q5) (p2.toInt64))), .second, .val (.int (0 : Int32))] [])
      refine own_go (fun _ k => XS.lload X271.here hx rfl (hb hby at_216) rfl k) ?_
      refine own_go (fun _ k => XS.lload X271.here hx rfl (hb hby at_218) rfl k) ?_
      refine own_go (fun _ k => XS.lcmp X271.here hx rfl (hb hby at_220) rfl k) ?_
      show own_Run p e below _ T271 (mkF m 221 #[.val (.long q1), .second, .val (.int p2), .val (.int p3), .val (.int p4), .val (.long q5), .second, .val (.int p6), .val (.int (2 : Int32)), .val (.int x9), .val (.long x10), .second, .val (.long x12), .second, .val (.long x14), .second, .val (.ref o16), .val (.long tm), .second, .val (.ref b240), .val (.long (own_max (own_max (-9223372036854775808 : Int64) q5) (p2.toInt64))), .second, .val (.int (0 : Int32))] [(.int (lcmpW x12 tm))])
      refine own_go (fun _ k => XS.ifYes X271.here hx rfl (pc0 := 221) (pc' := 227) rfl (hb hby at_221) rfl (own_lcF hz1).2.1 (by decide) (by decide) k) ?_
      show own_Run p e below _ T271 (mkF m 227 #[.val (.long q1), .second, .val (.int p2), .val (.int p3), .val (.int p4), .val (.long q5), .second, .val (.int p6), .val (.int (2 : Int32)), .val (.int x9), .val (.long x10), .second, .val (.long x12), .second, .val (.long x14), .second, .val (.ref o16), .val (.long tm), .second, .val (.ref b240), .val (.long (own_max (own_max (-9223372036854775808 : Int64) q5) (p2.toInt64))), .second, .val (.int (0 : Int32))] [])
      refine own_go (fun _ k => XS.iload X271.here hx rfl (hb hby at_227) rfl k) ?_
      refine own_go (fun _ k => XS.iconst X271.here hx rfl (hb hby at_229) k) ?_
      show own_Run p e below _ T271 (mkF m 230 #[.val (.long q1), .second, .val (.int p2), .val (.int p3), .val (.int p4), .val (.long q5), .second, .val (.int p6), .val (.int (2 : Int32)), .val (.int x9), .val (.long x10), .second, .val (.long x12), .second, .val (.long x14), .second, .val (.ref o16), .val (.long tm), .second, .val (.ref b240), .val (.long (own_max (own_max (-9223372036854775808 : Int64) q5) (p2.toInt64))), .second, .val (.int (0 : Int32))] [(.int (3 : Int32)), (.int (2 : Int32))])
      refine own_go (fun _ k => XS.icmpYes X271.here hx rfl (pc0 := 230) (pc' := 244) rfl (hb hby at_230) rfl (tlt (by decide : (2 : Int32) < (3 : Int32))).1 (by decide) (by decide) k) ?_
      show own_Run p e below _ T271 (mkF m 244 #[.val (.long q1), .second, .val (.int p2), .val (.int p3), .val (.int p4), .val (.long q5), .second, .val (.int p6), .val (.int (2 : Int32)), .val (.int x9), .val (.long x10), .second, .val (.long x12), .second, .val (.long x14), .second, .val (.ref o16), .val (.long tm), .second, .val (.ref b240), .val (.long (own_max (own_max (-9223372036854775808 : Int64) q5) (p2.toInt64))), .second, .val (.int (0 : Int32))] [])
      refine own_go (fun _ k => XS.aload X271.here hx rfl (hb hby at_244) rfl rfl k) ?_
      show own_Run p e below _ T271 (mkF m 246 #[.val (.long q1), .second, .val (.int p2), .val (.int p3), .val (.int p4), .val (.long q5), .second, .val (.int p6), .val (.int (2 : Int32)), .val (.int x9), .val (.long x10), .second, .val (.long x12), .second, .val (.long x14), .second, .val (.ref o16), .val (.long tm), .second, .val (.ref b240), .val (.long (own_max (own_max (-9223372036854775808 : Int64) q5) (p2.toInt64))), .second, .val (.int (0 : Int32))] [(.ref b240)])
      obtain ⟨cq273, kq273, q273a, q273b, q273c⟩ := isOf hZ rfl P271_0
      obtain ⟨_, _, ⟨T273, L273, k273, n273⟩, -, X273, ⟨Lc273, hQ273, l273, y273, z273⟩, st273⟩ := X271.virtualBack hx (y := (⟨"com/example/tote/tote/storage/OffsetIndex", "count", "()I"⟩ : MethodName)) (z := (⟨"com/example/tote/tote/storage/OffsetIndex", "count", "()I"⟩ : MethodName)) hown (mvT hZ (W 53 rfl)) (mvT hZ (W 54 rfl)) (notFace_of_selects (args := #[]) (mvT hZ (W 56 rfl))) (mvT hZ (W 56 rfl)) (mvT hZ (W 55 rfl)) (by decide) (backOf (W := 0) (rm9 l Z a0 hw [] b240 (0 : Int32) T271.heap n0 Z0_c272 P271_5) hZ (W 57 rfl) (W 4 rfl) (by decide) (by decide)) q273a q273c (g := (mkF m 246 #[.val (.long q1), .second, .val (.int p2), .val (.int p3), .val (.int p4), .val (.long q5), .second, .val (.int p6), .val (.int (2 : Int32)), .val (.int x9), .val (.long x10), .second, .val (.long x12), .second, .val (.long x14), .second, .val (.ref o16), .val (.long tm), .second, .val (.ref b240), .val (.long (own_max (own_max (-9223372036854775808 : Int64) q5) (p2.toInt64))), .second, .val (.int (0 : Int32))] [(.ref b240)])) rfl (by rw [hml]; rfl) (Steps.refl _) (argsL := []) (rest := []) (lenOf pd_7 rfl) rfl (by show 2 * 0 + _ ≤ _; exact Nat.le_of_eq rfl) (hb hby at_246) (fun _ _ => ⟨rfl, rfl, (by decide : 5 + 0 ≤ _), (by decide : 58 + 0 ≤ _)⟩)
      dsimp only [Pt.U, Pt.locs, Pt.cells, Pt.slots] at X273 l273 y273 z273 st273 hQ273
      subst l273 y273 z273
      obtain ⟨rfl, N273q, e273⟩ := hQ273
      have N273 := Fr.app N271 N273q
      refine own_goT st273 ?_
      show own_Run p e below _ T273 (mkF m 249 #[.val (.long q1), .second, .val (.int p2), .val (.int p3), .val (.int p4), .val (.long q5), .second, .val (.int p6), .val (.int (2 : Int32)), .val (.int x9), .val (.long x10), .second, .val (.long x12), .second, .val (.long x14), .second, .val (.ref o16), .val (.long tm), .second, .val (.ref b240), .val (.long (own_max (own_max (-9223372036854775808 : Int64) q5) (p2.toInt64))), .second, .val (.int (0 : Int32))] [(.int (0 : Int32))])
      refine own_go (fun _ k => XS.iload X273.here hx rfl (hb hby at_249) rfl k) ?_
      show own_Run p e below _ T273 (mkF m 251 #[.val (.long q1), .second, .val (.int p2), .val (.int p3), .val (.int p4), .val (.long q5), .second, .val (.int p6), .val (.int (2 : Int32)), .val (.int x9), .val (.long x10), .second, .val (.long x12), .second, .val (.long x14), .second, .val (.ref o16), .val (.long tm), .second, .val (.ref b240), .val (.long (own_max (own_max (-9223372036854775808 : Int64) q5) (p2.toInt64))), .second, .val (.int (0 : Int32))] [(.int (0 : Int32)), (.int (0 : Int32))])
      refine own_go (fun _ k => XS.icmpYes X273.here hx rfl (pc0 := 251) (pc' := 256) rfl (hb hby at_251) rfl (teq (by decide : (0 : Int32) = (0 : Int32))).1 (by decide) (by decide) k) ?_
      show own_Run p e below _ T273 (mkF m 256 #[.val (.long q1), .second, .val (.int p2), .val (.int p3), .val (.int p4), .val (.long q5), .second, .val (.int p6), .val (.int (2 : Int32)), .val (.int x9), .val (.long x10), .second, .val (.long x12), .second, .val (.long x14), .second, .val (.ref o16), .val (.long tm), .second, .val (.ref b240), .val (.long (own_max (own_max (-9223372036854775808 : Int64) q5) (p2.toInt64))), .second, .val (.int (0 : Int32))] [])
      refine own_go (fun _ k => XS.aload X273.here hx rfl (hb hby at_256) rfl rfl k) ?_
      show own_Run p e below _ T273 (mkF m 258 #[.val (.long q1), .second, .val (.int p2), .val (.int p3), .val (.int p4), .val (.long q5), .second, .val (.int p6), .val (.int (2 : Int32)), .val (.int x9), .val (.long x10), .second, .val (.long x12), .second, .val (.long x14), .second, .val (.ref o16), .val (.long tm), .second, .val (.ref b240), .val (.long (own_max (own_max (-9223372036854775808 : Int64) q5) (p2.toInt64))), .second, .val (.int (0 : Int32))] [(.ref b240)])
      obtain ⟨cq274, kq274, q274a, q274b, q274c⟩ := isOf hZ e273 P271_0
      obtain ⟨_, _, ⟨T274, L274, k274, n274⟩, -, X274, ⟨Lc274, hQ274, l274, y274, z274⟩, st274⟩ := X273.virtualBack hx (y := (⟨"com/example/tote/tote/storage/OffsetIndex", "maxTimestamp", "()J"⟩ : MethodName)) (z := (⟨"com/example/tote/tote/storage/OffsetIndex", "maxTimestamp", "()J"⟩ : MethodName)) hown (mvT hZ (W 43 rfl)) (mvT hZ (W 44 rfl)) (notFace_of_selects (args := #[]) (mvT hZ (W 46 rfl))) (mvT hZ (W 46 rfl)) (mvT hZ (W 45 rfl)) (by decide) (backOf (W := 0) (rm7 l Z a0 hw [] b240 (own_max (own_max (-9223372036854775808 : Int64) q5) (p2.toInt64)) T271.heap n0 Z0_c272 P271_3) hZ (W 47 rfl) (W 4 rfl) (by decide) (by decide)) q274a q274c (g := (mkF m 258 #[.val (.long q1), .second, .val (.int p2), .val (.int p3), .val (.int p4), .val (.long q5), .second, .val (.int p6), .val (.int (2 : Int32)), .val (.int x9), .val (.long x10), .second, .val (.long x12), .second, .val (.long x14), .second, .val (.ref o16), .val (.long tm), .second, .val (.ref b240), .val (.long (own_max (own_max (-9223372036854775808 : Int64) q5) (p2.toInt64))), .second, .val (.int (0 : Int32))] [(.ref b240)])) rfl (by rw [hml]; rfl) (Steps.refl _) (argsL := []) (rest := []) (lenOf pd_5 rfl) rfl (by show 2 * 0 + _ ≤ _; exact Nat.le_of_eq rfl) (hb hby at_258) (fun _ _ => ⟨rfl, e273, (by decide : 5 + 0 ≤ _), (by decide : 58 + 0 ≤ _)⟩)
      dsimp only [Pt.U, Pt.locs, Pt.cells, Pt.slots] at X274 l274 y274 z274 st274 hQ274
      subst l274 y274 z274
      obtain ⟨rfl, N274q, e274⟩ := hQ274
      have N274 := Fr.app N273 N274q
      refine own_goT st274 ?_
      show own_Run p e below _ T274 (mkF m 261 #[.val (.long q1), .second, .val (.int p2), .val (.int p3), .val (.int p4), .val (.long q5), .second, .val (.int p6), .val (.int (2 : Int32)), .val (.int x9), .val (.long x10), .second, .val (.long x12), .second, .val (.long x14), .second, .val (.ref o16), .val (.long tm), .second, .val (.ref b240), .val (.long (own_max (own_max (-9223372036854775808 : Int64) q5) (p2.toInt64))), .second, .val (.int (0 : Int32))] [(.long (own_max (own_max (-9223372036854775808 : Int64) q5) (p2.toInt64)))])
      refine own_go (fun _ k => XS.lload X274.here hx rfl (hb hby at_261) rfl k) ?_
      refine own_go (fun _ k => XS.lcmp X274.here hx rfl (hb hby at_263) rfl k) ?_
      show own_Run p e below _ T274 (mkF m 264 #[.val (.long q1), .second, .val (.int p2), .val (.int p3), .val (.int p4), .val (.long q5), .second, .val (.int p6), .val (.int (2 : Int32)), .val (.int x9), .val (.long x10), .second, .val (.long x12), .second, .val (.long x14), .second, .val (.ref o16), .val (.long tm), .second, .val (.ref b240), .val (.long (own_max (own_max (-9223372036854775808 : Int64) q5) (p2.toInt64))), .second, .val (.int (0 : Int32))] [(.int (lcmpW (own_max (own_max (-9223372036854775808 : Int64) q5) (p2.toInt64)) (own_max (own_max (-9223372036854775808 : Int64) q5) (p2.toInt64))))])
      refine own_go (fun _ k => XS.ifYes X274.here hx rfl (pc0 := 264) (pc' := 269) rfl (hb hby at_264) rfl (own_lcTe rfl).1 (by decide) (by decide) k) ?_
      show own_Run p e below _ T274 (mkF m 269 #[.val (.long q1), .second, .val (.int p2), .val (.int p3), .val (.int p4), .val (.long q5), .second, .val (.int p6), .val (.int (2 : Int32)), .val (.int x9), .val (.long x10), .second, .val (.long x12), .second, .val (.long x14), .second, .val (.ref o16), .val (.long tm), .second, .val (.ref b240), .val (.long (own_max (own_max (-9223372036854775808 : Int64) q5) (p2.toInt64))), .second, .val (.int (0 : Int32))] [])
      refine own_go (fun _ k => XS.iload X274.here hx rfl (hb hby at_269) rfl k) ?_
      show own_Run p e below _ T274 (mkF m 271 #[.val (.long q1), .second, .val (.int p2), .val (.int p3), .val (.int p4), .val (.long q5), .second, .val (.int p6), .val (.int (2 : Int32)), .val (.int x9), .val (.long x10), .second, .val (.long x12), .second, .val (.long x14), .second, .val (.ref o16), .val (.long tm), .second, .val (.ref b240), .val (.long (own_max (own_max (-9223372036854775808 : Int64) q5) (p2.toInt64))), .second, .val (.int (0 : Int32))] [(.int (0 : Int32))])
      refine own_go (fun _ k => XS.ifYes X274.here hx rfl (pc0 := 271) (pc' := 318) rfl (hb hby at_271) rfl ((if0 _ _).trans (flt (by decide : ¬ ((0 : Int32) < (0 : Int32)))).2.2.2) (by decide) (by decide) k) ?_
      show own_Run p e below _ T274 (mkF m 318 #[.val (.long q1), .second, .val (.int p2), .val (.int p3), .val (.int p4), .val (.long q5), .second, .val (.int p6), .val (.int (2 : Int32)), .val (.int x9), .val (.long x10), .second, .val (.long x12), .second, .val (.long x14), .second, .val (.ref o16), .val (.long tm), .second, .val (.ref b240), .val (.long (own_max (own_max (-9223372036854775808 : Int64) q5) (p2.toInt64))), .second, .val (.int (0 : Int32))] [])
      refine own_go (fun _ k => XS.iconst X274.here hx rfl (hb hby at_318) k) ?_
      show own_Run p e below _ T274 (mkF m 319 #[.val (.long q1), .second, .val (.int p2), .val (.int p3), .val (.int p4), .val (.long q5), .second, .val (.int p6), .val (.int (2 : Int32)), .val (.int x9), .val (.long x10), .second, .val (.long x12), .second, .val (.long x14), .second, .val (.ref o16), .val (.long tm), .second, .val (.ref b240), .val (.long (own_max (own_max (-9223372036854775808 : Int64) q5) (p2.toInt64))), .second, .val (.int (0 : Int32))] [(.int (1 : Int32))])
      refine own_done (Q := fun v h L => Q0 Z q1 p2 p3 p4 q5 p6 h0 n0 v h L) (v := (some (.int (1 : Int32)))) X274 (fun h => by rw [hret] at h; cases h) hlk (fun fs hr => retN X274 hx (t := .boolean) hret (by simp) (hb hby at_319) hr) ?_ (by decide) (by decide)
      show Q0 Z q1 p2 p3 p4 q5 p6 h0 n0 _ T274.heap _
      rw [e274]
      exact ⟨rfl, N274⟩
    · obtain ⟨cq275, kq275, q275a, q275b, q275c⟩ := isOf hZ e270 P267_0
      obtain ⟨_, _, ⟨T275, L275, k275, n275⟩, -, X275, ⟨Lc275, hQ275, l275, y275, z275⟩, st275⟩ := X270.virtualBack hx (y := (⟨"com/example/tote/tote/storage/OffsetIndex", "cutBack", "(J)V"⟩ : MethodName)) (z := (⟨"com/example/tote/tote/storage/OffsetIndex", "cutBack", "(J)V"⟩ : MethodName)) hown (mvT hZ (W 48 rfl)) (mvT hZ (W 49 rfl)) (notFace_of_selects (args := #[]) (mvT hZ (W 51 rfl))) (mvT hZ (W 51 rfl)) (mvT hZ (W 50 rfl)) (by decide) (backOf (W := 0) (rm8n2 l Z a0 hw [] b240 tm b1_242 b2_242 k2_242 (own_max (own_max (-9223372036854775808 : Int64) q5) (p2.toInt64)) q1 (x10.toInt32) (x12.toInt32) (0 : Int32) (1 : Int32) T267.heap n0 Z0_c268 P267_0 P267_1 P267_2 P267_4 P267_5 P267_7 P267_9 g_b240 P242_15 (Or.inr (Or.inl ⟨(by rw [ht0]; exact hz0), (by rw [ht1]; exact hz1), rfl⟩))) hZ (W 52 rfl) (W 4 rfl) (by decide) (by decide)) q275a q275c (g := (mkF m 187 #[.val (.long q1), .second, .val (.int p2), .val (.int p3), .val (.int p4), .val (.long q5), .second, .val (.int p6), .val (.int (2 : Int32)), .val (.int x9), .val (.long x10), .second, .val (.long x12), .second, .val (.long x14), .second, .val (.ref o16), .val (.long tm), .second, .val (.ref b240), .val (.long (own_max (own_max (-9223372036854775808 : Int64) q5) (p2.toInt64))), .second, .unset] [(.long tm), (.ref b240)])) rfl (by rw [hml]; rfl) (Steps.refl _) (argsL := [(.long tm)]) (rest := []) (lenOf pd_6 rfl) rfl (by show 2 * 0 + _ ≤ _; exact Nat.le_of_eq rfl) (hb hby at_187) (fun _ _ => ⟨rfl, e270, (by decide : 5 + 0 ≤ _), (by decide : 58 + 0 ≤ _)⟩)
      dsimp only [Pt.U, Pt.locs, Pt.cells, Pt.slots] at X275 l275 y275 z275 st275 hQ275
      subst l275 y275 z275
      obtain ⟨rfl, N275q, K275, P275_0, P275_1, P275_2, P275_3, P275_4, P275_5⟩ := hQ275
      have N275 := Fr.app N270 N275q
      refine own_goT st275 ?_
      show own_Run p e below _ T275 (mkF m 190 #[.val (.long q1), .second, .val (.int p2), .val (.int p3), .val (.int p4), .val (.long q5), .second, .val (.int p6), .val (.int (2 : Int32)), .val (.int x9), .val (.long x10), .second, .val (.long x12), .second, .val (.long x14), .second, .val (.ref o16), .val (.long tm), .second, .val (.ref b240), .val (.long (own_max (own_max (-9223372036854775808 : Int64) q5) (p2.toInt64))), .second, .unset] [])
      have Z0_c276 := Nat.le_trans Z0_c268 K275.1
      have K0_c276 := K0_c268.trans K275 (allS (Or.inr sz_b240) all0)
      have V_o16_c276 := V_o16_c268.keep K275 (ninS ne_o16_b240 nin0)
      have P267_0_c276 := P267_0.keep K275
      have Vo269_c276 := Vo269.keep K275 (ninS (Ne.symm P242_14) nin0)
      have P267_9_c276 := P267_9.keep K275 (ninS (Ne.symm P242_15) nin0)
      have P267_10_c276 := P267_10.keep K275 (ninS (Ne.symm P242_16) nin0)
      refine own_go (fun _ k => XS.iconst X275.here hx rfl (hb hby at_190) k) ?_
      refine own_go (fun _ k => XS.istore X275.here hx rfl (hb hby at_191) rfl (l' := #[.val (.long q1), .second, .val (.int p2), .val (.int p3), .val (.int p4), .val (.long q5), .second, .val (.int p6), .val (.int (2 : Int32)), .val (.int x9), .val (.long x10), .second, .val (.long x12), .second, .val (.long x14), .second, .val (.ref o16), .val (.long tm), .second, .val (.ref b240), .val (.long (own_max (own_max (-9223372036854775808 : Int64) q5) (p2.toInt64))), .second, .val (.int (0 : Int32))]) rfl k) ?_
      refine own_go (fun _ k => XS.iload X275.here hx rfl (hb hby at_193) rfl k) ?_
      refine own_go (fun _ k => XS.iconst X275.here hx rfl (hb hby at_195) k) ?_
      show own_Run p e below _ T275 (mkF m 196 #[.val (.long q1), .second, .val (.int p2), .val (.int p3), .val (.int p4), .val (.long q5), .second, .val (.int p6), .val (.int (2 : Int32)), .val (.int x9), .val (.long x10), .second, .val (.long x12), .second, .val (.long x14), .second, .val (.ref o16), .val (.long tm), .second, .val (.ref b240), .val (.long (own_max (own_max (-9223372036854775808 : Int64) q5) (p2.toInt64))), .second, .val (.int (0 : Int32))] [(.int (1 : Int32)), (.int (2 : Int32))])
      refine own_go (fun _ k => XS.icmpNo X275.here hx rfl (hb hby at_196) rfl (flt (by decide : ¬ ((2 : Int32) < (1 : Int32)))).1 k) ?_
      show own_Run p e below _ T275 (mkF m 199 #[.val (.long q1), .second, .val (.int p2), .val (.int p3), .val (.int p4), .val (.long q5), .second, .val (.int p6), .val (.int (2 : Int32)), .val (.int x9), .val (.long x10), .second, .val (.long x12), .second, .val (.long x14), .second, .val (.ref o16), .val (.long tm), .second, .val (.ref b240), .val (.long (own_max (own_max (-9223372036854775808 : Int64) q5) (p2.toInt64))), .second, .val (.int (0 : Int32))] [])
      refine own_go (fun _ k => XS.lload X275.here hx rfl (hb hby at_199) rfl k) ?_
      refine own_go (fun _ k => XS.lload X275.here hx rfl (hb hby at_201) rfl k) ?_
      refine own_go (fun _ k => XS.lcmp X275.here hx rfl (hb hby at_203) rfl k) ?_
      show own_Run p e below _ T275 (mkF m 204 #[.val (.long q1), .second, .val (.int p2), .val (.int p3), .val (.int p4), .val (.long q5), .second, .val (.int p6), .val (.int (2 : Int32)), .val (.int x9), .val (.long x10), .second, .val (.long x12), .second, .val (.long x14), .second, .val (.ref o16), .val (.long tm), .second, .val (.ref b240), .val (.long (own_max (own_max (-9223372036854775808 : Int64) q5) (p2.toInt64))), .second, .val (.int (0 : Int32))] [(.int (lcmpW x10 tm))])
      refine own_go (fun _ k => XS.ifNo X275.here hx rfl (hb hby at_204) rfl (own_lcT hz0).2.1 k) ?_
      show own_Run p e below _ T275 (mkF m 207 #[.val (.long q1), .second, .val (.int p2), .val (.int p3), .val (.int p4), .val (.long q5), .second, .val (.int p6), .val (.int (2 : Int32)), .val (.int x9), .val (.long x10), .second, .val (.long x12), .second, .val (.long x14), .second, .val (.ref o16), .val (.long tm), .second, .val (.ref b240), .val (.long (own_max (own_max (-9223372036854775808 : Int64) q5) (p2.toInt64))), .second, .val (.int (0 : Int32))] [])
      refine own_go (fun _ k => XS.iconst X275.here hx rfl (hb hby at_207) k) ?_
      refine own_go (fun _ k => XS.istore X275.here hx rfl (hb hby at_208) rfl (l' := #[.val (.long q1), .second, .val (.int p2), .val (.int p3), .val (.int p4), .val (.long q5), .second, .val (.int p6), .val (.int (2 : Int32)), .val (.int x9), .val (.long x10), .second, .val (.long x12), .second, .val (.long x14), .second, .val (.ref o16), .val (.long tm), .second, .val (.ref b240), .val (.long (own_max (own_max (-9223372036854775808 : Int64) q5) (p2.toInt64))), .second, .val (.int (1 : Int32))]) rfl k) ?_
      refine own_go (fun _ k => XS.iload X275.here hx rfl (hb hby at_210) rfl k) ?_
      refine own_go (fun _ k => XS.iconst X275.here hx rfl (hb hby at_212) k) ?_
      show own_Run p e below _ T275 (mkF m 213 #[.val (.long q1), .second, .val (.int p2), .val (.int p3), .val (.int p4), .val (.long q5), .second, .val (.int p6), .val (.int (2 : Int32)), .val (.int x9), .val (.long x10), .second, .val (.long x12), .second, .val (.long x14), .second, .val (.ref o16), .val (.long tm), .second, .val (.ref b240), .val (.long (own_max (own_max (-9223372036854775808 : Int64) q5) (p2.toInt64))), .second, .val (.int (1 : Int32))] [(.int (2 : Int32)), (.int (2 : Int32))])
      refine own_go (fun _ k => XS.icmpNo X275.here hx rfl (hb hby at_213) rfl (flt (by decide : ¬ ((2 : Int32) < (2 : Int32)))).1 k) ?_
      show own_Run p e below _ T275 (mkF m 216 #[.val (.long q1), .second, .val (.int p2), .val (.int p3), .val (.int p4), .val (.long q5), .second, .val (.int p6), .val (.int (2 : Int32)), .val (.int x9), .val (.long x10), .second, .val (.long x12), .second, .val (.long x14), .second, .val (.ref o16), .val (.long tm), .second, .val (.ref b240), .val (.long (own_max (own_max (-9223372036854775808 : Int64) q5) (p2.toInt64))), .second, .val (.int (1 : Int32))] [])
      refine own_go (fun _ k => XS.lload X275.here hx rfl (hb hby at_216) rfl k) ?_
      refine own_go (fun _ k => XS.lload X275.here hx rfl (hb hby at_218) rfl k) ?_
      refine own_go (fun _ k => XS.lcmp X275.here hx rfl (hb hby at_220) rfl k) ?_
      show own_Run p e below _ T275 (mkF m 221 #[.val (.long q1), .second, .val (.int p2), .val (.int p3), .val (.int p4), .val (.long q5), .second, .val (.int p6), .val (.int (2 : Int32)), .val (.int x9), .val (.long x10), .second, .val (.long x12), .second, .val (.long x14), .second, .val (.ref o16), .val (.long tm), .second, .val (.ref b240), .val (.long (own_max (own_max (-9223372036854775808 : Int64) q5) (p2.toInt64))), .second, .val (.int (1 : Int32))] [(.int (lcmpW x12 tm))])
      refine own_go (fun _ k => XS.ifYes X275.here hx rfl (pc0 := 221) (pc' := 227) rfl (hb hby at_221) rfl (own_lcF hz1).2.1 (by decide) (by decide) k) ?_
      show own_Run p e below _ T275 (mkF m 227 #[.val (.long q1), .second, .val (.int p2), .val (.int p3), .val (.int p4), .val (.long q5), .second, .val (.int p6), .val (.int (2 : Int32)), .val (.int x9), .val (.long x10), .second, .val (.long x12), .second, .val (.long x14), .second, .val (.ref o16), .val (.long tm), .second, .val (.ref b240), .val (.long (own_max (own_max (-9223372036854775808 : Int64) q5) (p2.toInt64))), .second, .val (.int (1 : Int32))] [])
      refine own_go (fun _ k => XS.iload X275.here hx rfl (hb hby at_227) rfl k) ?_
      refine own_go (fun _ k => XS.iconst X275.here hx rfl (hb hby at_229) k) ?_
      show own_Run p e below _ T275 (mkF m 230 #[.val (.long q1), .second, .val (.int p2), .val (.int p3), .val (.int p4), .val (.long q5), .second, .val (.int p6), .val (.int (2 : Int32)), .val (.int x9), .val (.long x10), .second, .val (.long x12), .second, .val (.long x14), .second, .val (.ref o16), .val (.long tm), .second, .val (.ref b240), .val (.long (own_max (own_max (-9223372036854775808 : Int64) q5) (p2.toInt64))), .second, .val (.int (1 : Int32))] [(.int (3 : Int32)), (.int (2 : Int32))])
      refine own_go (fun _ k => XS.icmpYes X275.here hx rfl (pc0 := 230) (pc' := 244) rfl (hb hby at_230) rfl (tlt (by decide : (2 : Int32) < (3 : Int32))).1 (by decide) (by decide) k) ?_
      show own_Run p e below _ T275 (mkF m 244 #[.val (.long q1), .second, .val (.int p2), .val (.int p3), .val (.int p4), .val (.long q5), .second, .val (.int p6), .val (.int (2 : Int32)), .val (.int x9), .val (.long x10), .second, .val (.long x12), .second, .val (.long x14), .second, .val (.ref o16), .val (.long tm), .second, .val (.ref b240), .val (.long (own_max (own_max (-9223372036854775808 : Int64) q5) (p2.toInt64))), .second, .val (.int (1 : Int32))] [])
      refine own_go (fun _ k => XS.aload X275.here hx rfl (hb hby at_244) rfl rfl k) ?_
      show own_Run p e below _ T275 (mkF m 246 #[.val (.long q1), .second, .val (.int p2), .val (.int p3), .val (.int p4), .val (.long q5), .second, .val (.int p6), .val (.int (2 : Int32)), .val (.int x9), .val (.long x10), .second, .val (.long x12), .second, .val (.long x14), .second, .val (.ref o16), .val (.long tm), .second, .val (.ref b240), .val (.long (own_max (own_max (-9223372036854775808 : Int64) q5) (p2.toInt64))), .second, .val (.int (1 : Int32))] [(.ref b240)])
      obtain ⟨cq277, kq277, q277a, q277b, q277c⟩ := isOf hZ rfl P275_0
      obtain ⟨_, _, ⟨T277, L277, k277, n277⟩, -, X277, ⟨Lc277, hQ277, l277, y277, z277⟩, st277⟩ := X275.virtualBack hx (y := (⟨"com/example/tote/tote/storage/OffsetIndex", "count", "()I"⟩ : MethodName)) (z := (⟨"com/example/tote/tote/storage/OffsetIndex", "count", "()I"⟩ : MethodName)) hown (mvT hZ (W 53 rfl)) (mvT hZ (W 54 rfl)) (notFace_of_selects (args := #[]) (mvT hZ (W 56 rfl))) (mvT hZ (W 56 rfl)) (mvT hZ (W 55 rfl)) (by decide) (backOf (W := 0) (rm9 l Z a0 hw [] b240 (1 : Int32) T275.heap n0 Z0_c276 P275_5) hZ (W 57 rfl) (W 4 rfl) (by decide) (by decide)) q277a q277c (g := (mkF m 246 #[.val (.long q1), .second, .val (.int p2), .val (.int p3), .val (.int p4), .val (.long q5), .second, .val (.int p6), .val (.int (2 : Int32)), .val (.int x9), .val (.long x10), .second, .val (.long x12), .second, .val (.long x14), .second, .val (.ref o16), .val (.long tm), .second, .val (.ref b240), .val (.long (own_max (own_max (-9223372036854775808 : Int64) q5) (p2.toInt64))), .second, .val (.int (1 : Int32))] [(.ref b240)])) rfl (by rw [hml]; rfl) (Steps.refl _) (argsL := []) (rest := []) (lenOf pd_7 rfl) rfl (by show 2 * 0 + _ ≤ _; exact Nat.le_of_eq rfl) (hb hby at_246) (fun _ _ => ⟨rfl, rfl, (by decide : 5 + 0 ≤ _), (by decide : 58 + 0 ≤ _)⟩)
      dsimp only [Pt.U, Pt.locs, Pt.cells, Pt.slots] at X277 l277 y277 z277 st277 hQ277
      subst l277 y277 z277
      obtain ⟨rfl, N277q, e277⟩ := hQ277
      have N277 := Fr.app N275 N277q
      refine own_goT st277 ?_
      show own_Run p e below _ T277 (mkF m 249 #[.val (.long q1), .second, .val (.int p2), .val (.int p3), .val (.int p4), .val (.long q5), .second, .val (.int p6), .val (.int (2 : Int32)), .val (.int x9), .val (.long x10), .second, .val (.long x12), .second, .val (.long x14), .second, .val (.ref o16), .val (.long tm), .second, .val (.ref b240), .val (.long (own_max (own_max (-9223372036854775808 : Int64) q5) (p2.toInt64))), .second, .val (.int (1 : Int32))] [(.int (1 : Int32))])
      refine own_go (fun _ k => XS.iload X277.here hx rfl (hb hby at_249) rfl k) ?_
      show own_Run p e below _ T277 (mkF m 251 #[.val (.long q1), .second, .val (.int p2), .val (.int p3), .val (.int p4), .val (.long q5), .second, .val (.int p6), .val (.int (2 : Int32)), .val (.int x9), .val (.long x10), .second, .val (.long x12), .second, .val (.long x14), .second, .val (.ref o16), .val (.long tm), .second, .val (.ref b240), .val (.long (own_max (own_max (-9223372036854775808 : Int64) q5) (p2.toInt64))), .second, .val (.int (1 : Int32))] [(.int (1 : Int32)), (.int (1 : Int32))])
      refine own_go (fun _ k => XS.icmpYes X277.here hx rfl (pc0 := 251) (pc' := 256) rfl (hb hby at_251) rfl (teq (by decide : (1 : Int32) = (1 : Int32))).1 (by decide) (by decide) k) ?_
      show own_Run p e below _ T277 (mkF m 256 #[.val (.long q1), .second, .val (.int p2), .val (.int p3), .val (.int p4), .val (.long q5), .second, .val (.int p6), .val (.int (2 : Int32)), .val (.int x9), .val (.long x10), .second, .val (.long x12), .second, .val (.long x14), .second, .val (.ref o16), .val (.long tm), .second, .val (.ref b240), .val (.long (own_max (own_max (-9223372036854775808 : Int64) q5) (p2.toInt64))), .second, .val (.int (1 : Int32))] [])
      refine own_go (fun _ k => XS.aload X277.here hx rfl (hb hby at_256) rfl rfl k) ?_
      show own_Run p e below _ T277 (mkF m 258 #[.val (.long q1), .second, .val (.int p2), .val (.int p3), .val (.int p4), .val (.long q5), .second, .val (.int p6), .val (.int (2 : Int32)), .val (.int x9), .val (.long x10), .second, .val (.long x12), .second, .val (.long x14), .second, .val (.ref o16), .val (.long tm), .second, .val (.ref b240), .val (.long (own_max (own_max (-9223372036854775808 : Int64) q5) (p2.toInt64))), .second, .val (.int (1 : Int32))] [(.ref b240)])
      obtain ⟨cq278, kq278, q278a, q278b, q278c⟩ := isOf hZ e277 P275_0
      obtain ⟨_, _, ⟨T278, L278, k278, n278⟩, -, X278, ⟨Lc278, hQ278, l278, y278, z278⟩, st278⟩ := X277.virtualBack hx (y := (⟨"com/example/tote/tote/storage/OffsetIndex", "maxTimestamp", "()J"⟩ : MethodName)) (z := (⟨"com/example/tote/tote/storage/OffsetIndex", "maxTimestamp", "()J"⟩ : MethodName)) hown (mvT hZ (W 43 rfl)) (mvT hZ (W 44 rfl)) (notFace_of_selects (args := #[]) (mvT hZ (W 46 rfl))) (mvT hZ (W 46 rfl)) (mvT hZ (W 45 rfl)) (by decide) (backOf (W := 0) (rm7 l Z a0 hw [] b240 (own_max (own_max (-9223372036854775808 : Int64) q5) (p2.toInt64)) T275.heap n0 Z0_c276 P275_3) hZ (W 47 rfl) (W 4 rfl) (by decide) (by decide)) q278a q278c (g := (mkF m 258 #[.val (.long q1), .second, .val (.int p2), .val (.int p3), .val (.int p4), .val (.long q5), .second, .val (.int p6), .val (.int (2 : Int32)), .val (.int x9), .val (.long x10), .second, .val (.long x12), .second, .val (.long x14), .second, .val (.ref o16), .val (.long tm), .second, .val (.ref b240), .val (.long (own_max (own_max (-9223372036854775808 : Int64) q5) (p2.toInt64))), .second, .val (.int (1 : Int32))] [(.ref b240)])) rfl (by rw [hml]; rfl) (Steps.refl _) (argsL := []) (rest := []) (lenOf pd_5 rfl) rfl (by show 2 * 0 + _ ≤ _; exact Nat.le_of_eq rfl) (hb hby at_258) (fun _ _ => ⟨rfl, e277, (by decide : 5 + 0 ≤ _), (by decide : 58 + 0 ≤ _)⟩)
      dsimp only [Pt.U, Pt.locs, Pt.cells, Pt.slots] at X278 l278 y278 z278 st278 hQ278
      subst l278 y278 z278
      obtain ⟨rfl, N278q, e278⟩ := hQ278
      have N278 := Fr.app N277 N278q
      refine own_goT st278 ?_
      show own_Run p e below _ T278 (mkF m 261 #[.val (.long q1), .second, .val (.int p2), .val (.int p3), .val (.int p4), .val (.long q5), .second, .val (.int p6), .val (.int (2 : Int32)), .val (.int x9), .val (.long x10), .second, .val (.long x12), .second, .val (.long x14), .second, .val (.ref o16), .val (.long tm), .second, .val (.ref b240), .val (.long (own_max (own_max (-9223372036854775808 : Int64) q5) (p2.toInt64))), .second, .val (.int (1 : Int32))] [(.long (own_max (own_max (-9223372036854775808 : Int64) q5) (p2.toInt64)))])
      refine own_go (fun _ k => XS.lload X278.here hx rfl (hb hby at_261) rfl k) ?_
      refine own_go (fun _ k => XS.lcmp X278.here hx rfl (hb hby at_263) rfl k) ?_
      show own_Run p e below _ T278 (mkF m 264 #[.val (.long q1), .second, .val (.int p2), .val (.int p3), .val (.int p4), .val (.long q5), .second, .val (.int p6), .val (.int (2 : Int32)), .val (.int x9), .val (.long x10), .second, .val (.long x12), .second, .val (.long x14), .second, .val (.ref o16), .val (.long tm), .second, .val (.ref b240), .val (.long (own_max (own_max (-9223372036854775808 : Int64) q5) (p2.toInt64))), .second, .val (.int (1 : Int32))] [(.int (lcmpW (own_max (own_max (-9223372036854775808 : Int64) q5) (p2.toInt64)) (own_max (own_max (-9223372036854775808 : Int64) q5) (p2.toInt64))))])
      refine own_go (fun _ k => XS.ifYes X278.here hx rfl (pc0 := 264) (pc' := 269) rfl (hb hby at_264) rfl (own_lcTe rfl).1 (by decide) (by decide) k) ?_
      show own_Run p e below _ T278 (mkF m 269 #[.val (.long q1), .second, .val (.int p2), .val (.int p3), .val (.int p4), .val (.long q5), .second, .val (.int p6), .val (.int (2 : Int32)), .val (.int x9), .val (.long x10), .second, .val (.long x12), .second, .val (.long x14), .second, .val (.ref o16), .val (.long tm), .second, .val (.ref b240), .val (.long (own_max (own_max (-9223372036854775808 : Int64) q5) (p2.toInt64))), .second, .val (.int (1 : Int32))] [])
      refine own_go (fun _ k => XS.iload X278.here hx rfl (hb hby at_269) rfl k) ?_
      show own_Run p e below _ T278 (mkF m 271 #[.val (.long q1), .second, .val (.int p2), .val (.int p3), .val (.int p4), .val (.long q5), .second, .val (.int p6), .val (.int (2 : Int32)), .val (.int x9), .val (.long x10), .second, .val (.long x12), .second, .val (.long x14), .second, .val (.ref o16), .val (.long tm), .second, .val (.ref b240), .val (.long (own_max (own_max (-9223372036854775808 : Int64) q5) (p2.toInt64))), .second, .val (.int (1 : Int32))] [(.int (1 : Int32))])
      refine own_go (fun _ k => XS.ifNo X278.here hx rfl (hb hby at_271) rfl ((if0 _ _).trans (tlt (by decide : (0 : Int32) < (1 : Int32))).2.2.2) k) ?_
      show own_Run p e below _ T278 (mkF m 274 #[.val (.long q1), .second, .val (.int p2), .val (.int p3), .val (.int p4), .val (.long q5), .second, .val (.int p6), .val (.int (2 : Int32)), .val (.int x9), .val (.long x10), .second, .val (.long x12), .second, .val (.long x14), .second, .val (.ref o16), .val (.long tm), .second, .val (.ref b240), .val (.long (own_max (own_max (-9223372036854775808 : Int64) q5) (p2.toInt64))), .second, .val (.int (1 : Int32))] [])
      refine own_go (fun _ k => XS.aload X278.here hx rfl (hb hby at_274) rfl rfl k) ?_
      refine own_go (fun _ k => XS.iload X278.here hx rfl (hb hby at_276) rfl k) ?_
      refine own_go (fun _ k => XS.iconst X278.here hx rfl (hb hby at_278) k) ?_
      refine own_go (fun _ k => XS.isub X278.here hx rfl (hb hby at_279) rfl k) ?_
      show own_Run p e below _ T278 (mkF m 280 #[.val (.long q1), .second, .val (.int p2), .val (.int p3), .val (.int p4), .val (.long q5), .second, .val (.int p6), .val (.int (2 : Int32)), .val (.int x9), .val (.long x10), .second, .val (.long x12), .second, .val (.long x14), .second, .val (.ref o16), .val (.long tm), .second, .val (.ref b240), .val (.long (own_max (own_max (-9223372036854775808 : Int64) q5) (p2.toInt64))), .second, .val (.int (1 : Int32))] [(.int ((1 : Int32) - (1 : Int32))), (.ref b240)])
      rw [show ((1 : Int32) - (1 : Int32)) = (0 : Int32) by decide]
      show own_Run p e below _ T278 (mkF m 280 #[.val (.long q1), .second, .val (.int p2), .val (.int p3), .val (.int p4), .val (.long q5), .second, .val (.int p6), .val (.int (2 : Int32)), .val (.int x9), .val (.long x10), .second, .val (.long x12), .second, .val (.long x14), .second, .val (.ref o16), .val (.long tm), .second, .val (.ref b240), .val (.long (own_max (own_max (-9223372036854775808 : Int64) q5) (p2.toInt64))), .second, .val (.int (1 : Int32))] [(.int (0 : Int32)), (.ref b240)])
      obtain ⟨cq279, kq279, q279a, q279b, q279c⟩ := isOf hZ e278 P275_0
      obtain ⟨_, _, ⟨T279, L279, k279, n279⟩, -, X279, ⟨Lc279, hQ279, l279, y279, z279⟩, st279⟩ := X278.virtualBack hx (y := (⟨"com/example/tote/tote/storage/OffsetIndex", "position", "(I)J"⟩ : MethodName)) (z := (⟨"com/example/tote/tote/storage/OffsetIndex", "position", "(I)J"⟩ : MethodName)) hown (mvT hZ (W 58 rfl)) (mvT hZ (W 59 rfl)) (notFace_of_selects (args := #[]) (mvT hZ (W 61 rfl))) (mvT hZ (W 61 rfl)) (mvT hZ (W 60 rfl)) (by decide) (backOf (W := 0) (rm10 l Z a0 hw [] b240 (0 : Int32) b2_242 k2_242 (x10.toInt32) (x12.toInt32) (0 : Int32) (x10.toInt32) T275.heap n0 Z0_c276 P275_2 P267_9_c276 (Or.inl ⟨rfl, rfl⟩)) hZ (W 62 rfl) (W 4 rfl) (by decide) (by decide)) q279a q279c (g := (mkF m 280 #[.val (.long q1), .second, .val (.int p2), .val (.int p3), .val (.int p4), .val (.long q5), .second, .val (.int p6), .val (.int (2 : Int32)), .val (.int x9), .val (.long x10), .second, .val (.long x12), .second, .val (.long x14), .second, .val (.ref o16), .val (.long tm), .second, .val (.ref b240), .val (.long (own_max (own_max (-9223372036854775808 : Int64) q5) (p2.toInt64))), .second, .val (.int (1 : Int32))] [(.int (0 : Int32)), (.ref b240)])) rfl (by rw [hml]; rfl) (Steps.refl _) (argsL := [(.int (0 : Int32))]) (rest := []) (lenOf pd_9 rfl) rfl (by show 2 * 0 + _ ≤ _; exact Nat.le_of_eq rfl) (hb hby at_280) (fun _ _ => ⟨rfl, e278, (by decide : 5 + 0 ≤ _), (by decide : 58 + 0 ≤ _)⟩)
      dsimp only [Pt.U, Pt.locs, Pt.cells, Pt.slots] at X279 l279 y279 z279 st279 hQ279
      subst l279 y279 z279
      obtain ⟨rfl, N279q, e279⟩ := hQ279
      have N279 := Fr.app N278 N279q
      refine own_goT st279 ?_
      show own_Run p e below _ T279 (mkF m 283 #[.val (.long q1), .second, .val (.int p2), .val (.int p3), .val (.int p4), .val (.long q5), .second, .val (.int p6), .val (.int (2 : Int32)), .val (.int x9), .val (.long x10), .second, .val (.long x12), .second, .val (.long x14), .second, .val (.ref o16), .val (.long tm), .second, .val (.ref b240), .val (.long (own_max (own_max (-9223372036854775808 : Int64) q5) (p2.toInt64))), .second, .val (.int (1 : Int32))] [(.long ((x10.toInt32).toInt64))])
      refine own_go (fun _ k => XS.aload X279.here hx rfl (hb hby at_283) rfl rfl k) ?_
      refine own_go (fun _ k => XS.iload X279.here hx rfl (hb hby at_285) rfl k) ?_
      refine own_go (fun _ k => XS.iconst X279.here hx rfl (hb hby at_287) k) ?_
      refine own_go (fun _ k => XS.isub X279.here hx rfl (hb hby at_288) rfl k) ?_
      show own_Run p e below _ T279 (mkF m 289 #[.val (.long q1), .second, .val (.int p2), .val (.int p3), .val (.int p4), .val (.long q5), .second, .val (.int p6), .val (.int (2 : Int32)), .val (.int x9), .val (.long x10), .second, .val (.long x12), .second, .val (.long x14), .second, .val (.ref o16), .val (.long tm), .second, .val (.ref b240), .val (.long (own_max (own_max (-9223372036854775808 : Int64) q5) (p2.toInt64))), .second, .val (.int (1 : Int32))] [(.int ((1 : Int32) - (1 : Int32))), (.ref o16), (.long ((x10.toInt32).toInt64))])
      rw [show ((1 : Int32) - (1 : Int32)) = (0 : Int32) by decide]
      show own_Run p e below _ T279 (mkF m 289 #[.val (.long q1), .second, .val (.int p2), .val (.int p3), .val (.int p4), .val (.long q5), .second, .val (.int p6), .val (.int (2 : Int32)), .val (.int x9), .val (.long x10), .second, .val (.long x12), .second, .val (.long x14), .second, .val (.ref o16), .val (.long tm), .second, .val (.ref b240), .val (.long (own_max (own_max (-9223372036854775808 : Int64) q5) (p2.toInt64))), .second, .val (.int (1 : Int32))] [(.int (0 : Int32)), (.ref o16), (.long ((x10.toInt32).toInt64))])
      obtain ⟨cl280, Ar280, q280, S280, N280, H280, G280⟩ := id V_o16_c276
      have hin280 : ¬ ((0 : Int32) < 0 ∨ cl280.slots.size ≤ ((0 : Int32)).toNatClampNeg) := inb_of S280 ⟨by decide, by decide⟩
      refine own_go (X279.laload hx (j := (0 : Int32)) (v := (.long x10)) (by rw [e279]; exact Ar280.1) (State.isArrayOf_alike hZ.alike Ar280.2.1) Ar280.2.2 hin280 (H280.at hin280 rfl) (g := (mkF m 289 #[.val (.long q1), .second, .val (.int p2), .val (.int p3), .val (.int p4), .val (.long q5), .second, .val (.int p6), .val (.int (2 : Int32)), .val (.int x9), .val (.long x10), .second, .val (.long x12), .second, .val (.long x14), .second, .val (.ref o16), .val (.long tm), .second, .val (.ref b240), .val (.long (own_max (own_max (-9223372036854775808 : Int64) q5) (p2.toInt64))), .second, .val (.int (1 : Int32))] [(.int (0 : Int32)), (.ref o16), (.long ((x10.toInt32).toInt64))])) rfl rfl (hb hby at_289)) ?_
      show own_Run p e below _ T279 (mkF m 290 #[.val (.long q1), .second, .val (.int p2), .val (.int p3), .val (.int p4), .val (.long q5), .second, .val (.int p6), .val (.int (2 : Int32)), .val (.int x9), .val (.long x10), .second, .val (.long x12), .second, .val (.long x14), .second, .val (.ref o16), .val (.long tm), .second, .val (.ref b240), .val (.long (own_max (own_max (-9223372036854775808 : Int64) q5) (p2.toInt64))), .second, .val (.int (1 : Int32))] [(.long x10), (.long ((x10.toInt32).toInt64))])
      refine own_go (fun _ k => XS.lcmp X279.here hx rfl (hb hby at_290) rfl k) ?_
      show own_Run p e below _ T279 (mkF m 291 #[.val (.long q1), .second, .val (.int p2), .val (.int p3), .val (.int p4), .val (.long q5), .second, .val (.int p6), .val (.int (2 : Int32)), .val (.int x9), .val (.long x10), .second, .val (.long x12), .second, .val (.long x14), .second, .val (.ref o16), .val (.long tm), .second, .val (.ref b240), .val (.long (own_max (own_max (-9223372036854775808 : Int64) q5) (p2.toInt64))), .second, .val (.int (1 : Int32))] [(.int (lcmpW ((x10.toInt32).toInt64) x10))])
      refine own_go (fun _ k => XS.ifYes X279.here hx rfl (pc0 := 291) (pc' := 296) rfl (hb hby at_291) rfl (own_lcTe ht0).1 (by decide) (by decide) k) ?_
      show own_Run p e below _ T279 (mkF m 296 #[.val (.long q1), .second, .val (.int p2), .val (.int p3), .val (.int p4), .val (.long q5), .second, .val (.int p6), .val (.int (2 : Int32)), .val (.int x9), .val (.long x10), .second, .val (.long x12), .second, .val (.long x14), .second, .val (.ref o16), .val (.long tm), .second, .val (.ref b240), .val (.long (own_max (own_max (-9223372036854775808 : Int64) q5) (p2.toInt64))), .second, .val (.int (1 : Int32))] [])
      refine own_go (fun _ k => XS.aload X279.here hx rfl (hb hby at_296) rfl rfl k) ?_
      refine own_go (fun _ k => XS.iload X279.here hx rfl (hb hby at_298) rfl k) ?_
      refine own_go (fun _ k => XS.iconst X279.here hx rfl (hb hby at_300) k) ?_
      refine own_go (fun _ k => XS.isub X279.here hx rfl (hb hby at_301) rfl k) ?_
      show own_Run p e below _ T279 (mkF m 302 #[.val (.long q1), .second, .val (.int p2), .val (.int p3), .val (.int p4), .val (.long q5), .second, .val (.int p6), .val (.int (2 : Int32)), .val (.int x9), .val (.long x10), .second, .val (.long x12), .second, .val (.long x14), .second, .val (.ref o16), .val (.long tm), .second, .val (.ref b240), .val (.long (own_max (own_max (-9223372036854775808 : Int64) q5) (p2.toInt64))), .second, .val (.int (1 : Int32))] [(.int ((1 : Int32) - (1 : Int32))), (.ref b240)])
      rw [show ((1 : Int32) - (1 : Int32)) = (0 : Int32) by decide]
      show own_Run p e below _ T279 (mkF m 302 #[.val (.long q1), .second, .val (.int p2), .val (.int p3), .val (.int p4), .val (.long q5), .second, .val (.int p6), .val (.int (2 : Int32)), .val (.int x9), .val (.long x10), .second, .val (.long x12), .second, .val (.long x14), .second, .val (.ref o16), .val (.long tm), .second, .val (.ref b240), .val (.long (own_max (own_max (-9223372036854775808 : Int64) q5) (p2.toInt64))), .second, .val (.int (1 : Int32))] [(.int (0 : Int32)), (.ref b240)])
      obtain ⟨cq281, kq281, q281a, q281b, q281c⟩ := isOf hZ e279 P275_0
      obtain ⟨_, _, ⟨T281, L281, k281, n281⟩, -, X281, ⟨Lc281, hQ281, l281, y281, z281⟩, st281⟩ := X279.virtualBack hx (y := (⟨"com/example/tote/tote/storage/OffsetIndex", "offset", "(I)J"⟩ : MethodName)) (z := (⟨"com/example/tote/tote/storage/OffsetIndex", "offset", "(I)J"⟩ : MethodName)) hown (mvT hZ (W 63 rfl)) (mvT hZ (W 64 rfl)) (notFace_of_selects (args := #[]) (mvT hZ (W 66 rfl))) (mvT hZ (W 66 rfl)) (mvT hZ (W 65 rfl)) (by decide) (backOf (W := 0) (rm11 l Z a0 hw [] b240 (0 : Int32) b1_242 k1_242 q1 (0 : Int32) (1 : Int32) (0 : Int32) (0 : Int32) T275.heap n0 Z0_c276 P275_1 P275_4 Vo269_c276 (Or.inl ⟨rfl, rfl⟩)) hZ (W 67 rfl) (W 4 rfl) (by decide) (by decide)) q281a q281c (g := (mkF m 302 #[.val (.long q1), .second, .val (.int p2), .val (.int p3), .val (.int p4), .val (.long q5), .second, .val (.int p6), .val (.int (2 : Int32)), .val (.int x9), .val (.long x10), .second, .val (.long x12), .second, .val (.long x14), .second, .val (.ref o16), .val (.long tm), .second, .val (.ref b240), .val (.long (own_max (own_max (-9223372036854775808 : Int64) q5) (p2.toInt64))), .second, .val (.int (1 : Int32))] [(.int (0 : Int32)), (.ref b240)])) rfl (by rw [hml]; rfl) (Steps.refl _) (argsL := [(.int (0 : Int32))]) (rest := []) (lenOf pd_9 rfl) rfl (by show 2 * 0 + _ ≤ _; exact Nat.le_of_eq rfl) (hb hby at_302) (fun _ _ => ⟨rfl, e279, (by decide : 5 + 0 ≤ _), (by decide : 58 + 0 ≤ _)⟩)
      dsimp only [Pt.U, Pt.locs, Pt.cells, Pt.slots] at X281 l281 y281 z281 st281 hQ281
      subst l281 y281 z281
      obtain ⟨rfl, N281q, e281⟩ := hQ281
      have N281 := Fr.app N279 N281q
      refine own_goT st281 ?_
      show own_Run p e below _ T281 (mkF m 305 #[.val (.long q1), .second, .val (.int p2), .val (.int p3), .val (.int p4), .val (.long q5), .second, .val (.int p6), .val (.int (2 : Int32)), .val (.int x9), .val (.long x10), .second, .val (.long x12), .second, .val (.long x14), .second, .val (.ref o16), .val (.long tm), .second, .val (.ref b240), .val (.long (own_max (own_max (-9223372036854775808 : Int64) q5) (p2.toInt64))), .second, .val (.int (1 : Int32))] [(.long (q1 + ((0 : Int32).toInt64)))])
      refine own_go (fun _ k => XS.lloadN X281.here hx rfl (hb hby at_305) rfl k) ?_
      refine own_go (fun _ k => XS.iload X281.here hx rfl (hb hby at_306) rfl k) ?_
      refine own_go (fun _ k => XS.iconst X281.here hx rfl (hb hby at_308) k) ?_
      refine own_go (fun _ k => XS.isub X281.here hx rfl (hb hby at_309) rfl k) ?_
      show own_Run p e below _ T281 (mkF m 310 #[.val (.long q1), .second, .val (.int p2), .val (.int p3), .val (.int p4), .val (.long q5), .second, .val (.int p6), .val (.int (2 : Int32)), .val (.int x9), .val (.long x10), .second, .val (.long x12), .second, .val (.long x14), .second, .val (.ref o16), .val (.long tm), .second, .val (.ref b240), .val (.long (own_max (own_max (-9223372036854775808 : Int64) q5) (p2.toInt64))), .second, .val (.int (1 : Int32))] [(.int ((1 : Int32) - (1 : Int32))), (.long q1), (.long (q1 + ((0 : Int32).toInt64)))])
      rw [show ((1 : Int32) - (1 : Int32)) = (0 : Int32) by decide]
      show own_Run p e below _ T281 (mkF m 310 #[.val (.long q1), .second, .val (.int p2), .val (.int p3), .val (.int p4), .val (.long q5), .second, .val (.int p6), .val (.int (2 : Int32)), .val (.int x9), .val (.long x10), .second, .val (.long x12), .second, .val (.long x14), .second, .val (.ref o16), .val (.long tm), .second, .val (.ref b240), .val (.long (own_max (own_max (-9223372036854775808 : Int64) q5) (p2.toInt64))), .second, .val (.int (1 : Int32))] [(.int (0 : Int32)), (.long q1), (.long (q1 + ((0 : Int32).toInt64)))])
      refine own_go (fun _ k => XS.i2l X281.here hx rfl (hb hby at_310) rfl k) ?_
      show own_Run p e below _ T281 (mkF m 311 #[.val (.long q1), .second, .val (.int p2), .val (.int p3), .val (.int p4), .val (.long q5), .second, .val (.int p6), .val (.int (2 : Int32)), .val (.int x9), .val (.long x10), .second, .val (.long x12), .second, .val (.long x14), .second, .val (.ref o16), .val (.long tm), .second, .val (.ref b240), .val (.long (own_max (own_max (-9223372036854775808 : Int64) q5) (p2.toInt64))), .second, .val (.int (1 : Int32))] [(.long ((0 : Int32).toInt64)), (.long q1), (.long (q1 + ((0 : Int32).toInt64)))])
      rw [show ((0 : Int32).toInt64) = (0 : Int64) by decide]
      show own_Run p e below _ T281 (mkF m 311 #[.val (.long q1), .second, .val (.int p2), .val (.int p3), .val (.int p4), .val (.long q5), .second, .val (.int p6), .val (.int (2 : Int32)), .val (.int x9), .val (.long x10), .second, .val (.long x12), .second, .val (.long x14), .second, .val (.ref o16), .val (.long tm), .second, .val (.ref b240), .val (.long (own_max (own_max (-9223372036854775808 : Int64) q5) (p2.toInt64))), .second, .val (.int (1 : Int32))] [(.long (0 : Int64)), (.long q1), (.long (q1 + ((0 : Int32).toInt64)))])
      refine own_go (fun _ k => XS.ladd X281.here hx rfl (hb hby at_311) rfl k) ?_
      refine own_go (fun _ k => XS.lcmp X281.here hx rfl (hb hby at_312) rfl k) ?_
      show own_Run p e below _ T281 (mkF m 313 #[.val (.long q1), .second, .val (.int p2), .val (.int p3), .val (.int p4), .val (.long q5), .second, .val (.int p6), .val (.int (2 : Int32)), .val (.int x9), .val (.long x10), .second, .val (.long x12), .second, .val (.long x14), .second, .val (.ref o16), .val (.long tm), .second, .val (.ref b240), .val (.long (own_max (own_max (-9223372036854775808 : Int64) q5) (p2.toInt64))), .second, .val (.int (1 : Int32))] [(.int (lcmpW (q1 + ((0 : Int32).toInt64)) (q1 + (0 : Int64))))])
      refine own_go (fun _ k => XS.ifYes X281.here hx rfl (pc0 := 313) (pc' := 318) rfl (hb hby at_313) rfl (own_lcTe (by rw [show ((0 : Int32)).toInt64 = (0 : Int64) by decide] : (q1 + ((0 : Int32).toInt64)) = (q1 + (0 : Int64)))).1 (by decide) (by decide) k) ?_
      show own_Run p e below _ T281 (mkF m 318 #[.val (.long q1), .second, .val (.int p2), .val (.int p3), .val (.int p4), .val (.long q5), .second, .val (.int p6), .val (.int (2 : Int32)), .val (.int x9), .val (.long x10), .second, .val (.long x12), .second, .val (.long x14), .second, .val (.ref o16), .val (.long tm), .second, .val (.ref b240), .val (.long (own_max (own_max (-9223372036854775808 : Int64) q5) (p2.toInt64))), .second, .val (.int (1 : Int32))] [])
      refine own_go (fun _ k => XS.iconst X281.here hx rfl (hb hby at_318) k) ?_
      show own_Run p e below _ T281 (mkF m 319 #[.val (.long q1), .second, .val (.int p2), .val (.int p3), .val (.int p4), .val (.long q5), .second, .val (.int p6), .val (.int (2 : Int32)), .val (.int x9), .val (.long x10), .second, .val (.long x12), .second, .val (.long x14), .second, .val (.ref o16), .val (.long tm), .second, .val (.ref b240), .val (.long (own_max (own_max (-9223372036854775808 : Int64) q5) (p2.toInt64))), .second, .val (.int (1 : Int32))] [(.int (1 : Int32))])
      refine own_done (Q := fun v h L => Q0 Z q1 p2 p3 p4 q5 p6 h0 n0 v h L) (v := (some (.int (1 : Int32)))) X281 (fun h => by rw [hret] at h; cases h) hlk (fun fs hr => retN X281 hx (t := .boolean) hret (by simp) (hb hby at_319) hr) ?_ (by decide) (by decide)
      show Q0 Z q1 p2 p3 p4 q5 p6 h0 n0 _ T281.heap _
      rw [e281]
      exact ⟨rfl, N281⟩
    · obtain ⟨cq282, kq282, q282a, q282b, q282c⟩ := isOf hZ e270 P267_0
      obtain ⟨_, _, ⟨T282, L282, k282, n282⟩, -, X282, ⟨Lc282, hQ282, l282, y282, z282⟩, st282⟩ := X270.virtualBack hx (y := (⟨"com/example/tote/tote/storage/OffsetIndex", "cutBack", "(J)V"⟩ : MethodName)) (z := (⟨"com/example/tote/tote/storage/OffsetIndex", "cutBack", "(J)V"⟩ : MethodName)) hown (mvT hZ (W 48 rfl)) (mvT hZ (W 49 rfl)) (notFace_of_selects (args := #[]) (mvT hZ (W 51 rfl))) (mvT hZ (W 51 rfl)) (mvT hZ (W 50 rfl)) (by decide) (backOf (W := 0) (rm8n2 l Z a0 hw [] b240 tm b1_242 b2_242 k2_242 (own_max (own_max (-9223372036854775808 : Int64) q5) (p2.toInt64)) q1 (x10.toInt32) (x12.toInt32) (0 : Int32) (2 : Int32) T267.heap n0 Z0_c268 P267_0 P267_1 P267_2 P267_4 P267_5 P267_7 P267_9 g_b240 P242_15 (Or.inr (Or.inr (⟨(by rw [ht0]; exact hz0), (by rw [ht1]; exact hz1), rfl⟩)))) hZ (W 52 rfl) (W 4 rfl) (by decide) (by decide)) q282a q282c (g := (mkF m 187 #[.val (.long q1), .second, .val (.int p2), .val (.int p3), .val (.int p4), .val (.long q5), .second, .val (.int p6), .val (.int (2 : Int32)), .val (.int x9), .val (.long x10), .second, .val (.long x12), .second, .val (.long x14), .second, .val (.ref o16), .val (.long tm), .second, .val (.ref b240), .val (.long (own_max (own_max (-9223372036854775808 : Int64) q5) (p2.toInt64))), .second, .unset] [(.long tm), (.ref b240)])) rfl (by rw [hml]; rfl) (Steps.refl _) (argsL := [(.long tm)]) (rest := []) (lenOf pd_6 rfl) rfl (by show 2 * 0 + _ ≤ _; exact Nat.le_of_eq rfl) (hb hby at_187) (fun _ _ => ⟨rfl, e270, (by decide : 5 + 0 ≤ _), (by decide : 58 + 0 ≤ _)⟩)
      dsimp only [Pt.U, Pt.locs, Pt.cells, Pt.slots] at X282 l282 y282 z282 st282 hQ282
      subst l282 y282 z282
      obtain ⟨rfl, N282q, K282, P282_0, P282_1, P282_2, P282_3, P282_4, P282_5⟩ := hQ282
      have N282 := Fr.app N270 N282q
      refine own_goT st282 ?_
      show own_Run p e below _ T282 (mkF m 190 #[.val (.long q1), .second, .val (.int p2), .val (.int p3), .val (.int p4), .val (.long q5), .second, .val (.int p6), .val (.int (2 : Int32)), .val (.int x9), .val (.long x10), .second, .val (.long x12), .second, .val (.long x14), .second, .val (.ref o16), .val (.long tm), .second, .val (.ref b240), .val (.long (own_max (own_max (-9223372036854775808 : Int64) q5) (p2.toInt64))), .second, .unset] [])
      have Z0_c283 := Nat.le_trans Z0_c268 K282.1
      have K0_c283 := K0_c268.trans K282 (allS (Or.inr sz_b240) all0)
      have V_o16_c283 := V_o16_c268.keep K282 (ninS ne_o16_b240 nin0)
      have P267_0_c283 := P267_0.keep K282
      have Vo269_c283 := Vo269.keep K282 (ninS (Ne.symm P242_14) nin0)
      have P267_9_c283 := P267_9.keep K282 (ninS (Ne.symm P242_15) nin0)
      have P267_10_c283 := P267_10.keep K282 (ninS (Ne.symm P242_16) nin0)
      refine own_go (fun _ k => XS.iconst X282.here hx rfl (hb hby at_190) k) ?_
      refine own_go (fun _ k => XS.istore X282.here hx rfl (hb hby at_191) rfl (l' := #[.val (.long q1), .second, .val (.int p2), .val (.int p3), .val (.int p4), .val (.long q5), .second, .val (.int p6), .val (.int (2 : Int32)), .val (.int x9), .val (.long x10), .second, .val (.long x12), .second, .val (.long x14), .second, .val (.ref o16), .val (.long tm), .second, .val (.ref b240), .val (.long (own_max (own_max (-9223372036854775808 : Int64) q5) (p2.toInt64))), .second, .val (.int (0 : Int32))]) rfl k) ?_
      refine own_go (fun _ k => XS.iload X282.here hx rfl (hb hby at_193) rfl k) ?_
      refine own_go (fun _ k => XS.iconst X282.here hx rfl (hb hby at_195) k) ?_
      show own_Run p e below _ T282 (mkF m 196 #[.val (.long q1), .second, .val (.int p2), .val (.int p3), .val (.int p4), .val (.long q5), .second, .val (.int p6), .val (.int (2 : Int32)), .val (.int x9), .val (.long x10), .second, .val (.long x12), .second, .val (.long x14), .second, .val (.ref o16), .val (.long tm), .second, .val (.ref b240), .val (.long (own_max (own_max (-9223372036854775808 : Int64) q5) (p2.toInt64))), .second, .val (.int (0 : Int32))] [(.int (1 : Int32)), (.int (2 : Int32))])
      refine own_go (fun _ k => XS.icmpNo X282.here hx rfl (hb hby at_196) rfl (flt (by decide : ¬ ((2 : Int32) < (1 : Int32)))).1 k) ?_
      show own_Run p e below _ T282 (mkF m 199 #[.val (.long q1), .second, .val (.int p2), .val (.int p3), .val (.int p4), .val (.long q5), .second, .val (.int p6), .val (.int (2 : Int32)), .val (.int x9), .val (.long x10), .second, .val (.long x12), .second, .val (.long x14), .second, .val (.ref o16), .val (.long tm), .second, .val (.ref b240), .val (.long (own_max (own_max (-9223372036854775808 : Int64) q5) (p2.toInt64))), .second, .val (.int (0 : Int32))] [])
      refine own_go (fun _ k => XS.lload X282.here hx rfl (hb hby at_199) rfl k) ?_
      refine own_go (fun _ k => XS.lload X282.here hx rfl (hb hby at_201) rfl k) ?_
      refine own_go (fun _ k => XS.lcmp X282.here hx rfl (hb hby at_203) rfl k) ?_
      show own_Run p e below _ T282 (mkF m 204 #[.val (.long q1), .second, .val (.int p2), .val (.int p3), .val (.int p4), .val (.long q5), .second, .val (.int p6), .val (.int (2 : Int32)), .val (.int x9), .val (.long x10), .second, .val (.long x12), .second, .val (.long x14), .second, .val (.ref o16), .val (.long tm), .second, .val (.ref b240), .val (.long (own_max (own_max (-9223372036854775808 : Int64) q5) (p2.toInt64))), .second, .val (.int (0 : Int32))] [(.int (lcmpW x10 tm))])
      refine own_go (fun _ k => XS.ifNo X282.here hx rfl (hb hby at_204) rfl (own_lcT hz0).2.1 k) ?_
      show own_Run p e below _ T282 (mkF m 207 #[.val (.long q1), .second, .val (.int p2), .val (.int p3), .val (.int p4), .val (.long q5), .second, .val (.int p6), .val (.int (2 : Int32)), .val (.int x9), .val (.long x10), .second, .val (.long x12), .second, .val (.long x14), .second, .val (.ref o16), .val (.long tm), .second, .val (.ref b240), .val (.long (own_max (own_max (-9223372036854775808 : Int64) q5) (p2.toInt64))), .second, .val (.int (0 : Int32))] [])
      refine own_go (fun _ k => XS.iconst X282.here hx rfl (hb hby at_207) k) ?_
      refine own_go (fun _ k => XS.istore X282.here hx rfl (hb hby at_208) rfl (l' := #[.val (.long q1), .second, .val (.int p2), .val (.int p3), .val (.int p4), .val (.long q5), .second, .val (.int p6), .val (.int (2 : Int32)), .val (.int x9), .val (.long x10), .second, .val (.long x12), .second, .val (.long x14), .second, .val (.ref o16), .val (.long tm), .second, .val (.ref b240), .val (.long (own_max (own_max (-9223372036854775808 : Int64) q5) (p2.toInt64))), .second, .val (.int (1 : Int32))]) rfl k) ?_
      refine own_go (fun _ k => XS.iload X282.here hx rfl (hb hby at_210) rfl k) ?_
      refine own_go (fun _ k => XS.iconst X282.here hx rfl (hb hby at_212) k) ?_
      show own_Run p e below _ T282 (mkF m 213 #[.val (.long q1), .second, .val (.int p2), .val (.int p3), .val (.int p4), .val (.long q5), .second, .val (.int p6), .val (.int (2 : Int32)), .val (.int x9), .val (.long x10), .second, .val (.long x12), .second, .val (.long x14), .second, .val (.ref o16), .val (.long tm), .second, .val (.ref b240), .val (.long (own_max (own_max (-9223372036854775808 : Int64) q5) (p2.toInt64))), .second, .val (.int (1 : Int32))] [(.int (2 : Int32)), (.int (2 : Int32))])
      refine own_go (fun _ k => XS.icmpNo X282.here hx rfl (hb hby at_213) rfl (flt (by decide : ¬ ((2 : Int32) < (2 : Int32)))).1 k) ?_
      show own_Run p e below _ T282 (mkF m 216 #[.val (.long q1), .second, .val (.int p2), .val (.int p3), .val (.int p4), .val (.long q5), .second, .val (.int p6), .val (.int (2 : Int32)), .val (.int x9), .val (.long x10), .second, .val (.long x12), .second, .val (.long x14), .second, .val (.ref o16), .val (.long tm), .second, .val (.ref b240), .val (.long (own_max (own_max (-9223372036854775808 : Int64) q5) (p2.toInt64))), .second, .val (.int (1 : Int32))] [])
      refine own_go (fun _ k => XS.lload X282.here hx rfl (hb hby at_216) rfl k) ?_
      refine own_go (fun _ k => XS.lload X282.here hx rfl (hb hby at_218) rfl k) ?_
      refine own_go (fun _ k => XS.lcmp X282.here hx rfl (hb hby at_220) rfl k) ?_
      show own_Run p e below _ T282 (mkF m 221 #[.val (.long q1), .second, .val (.int p2), .val (.int p3), .val (.int p4), .val (.long q5), .second, .val (.int p6), .val (.int (2 : Int32)), .val (.int x9), .val (.long x10), .second, .val (.long x12), .second, .val (.long x14), .second, .val (.ref o16), .val (.long tm), .second, .val (.ref b240), .val (.long (own_max (own_max (-9223372036854775808 : Int64) q5) (p2.toInt64))), .second, .val (.int (1 : Int32))] [(.int (lcmpW x12 tm))])
      refine own_go (fun _ k => XS.ifNo X282.here hx rfl (hb hby at_221) rfl (own_lcT hz1).2.1 k) ?_
      show own_Run p e below _ T282 (mkF m 224 #[.val (.long q1), .second, .val (.int p2), .val (.int p3), .val (.int p4), .val (.long q5), .second, .val (.int p6), .val (.int (2 : Int32)), .val (.int x9), .val (.long x10), .second, .val (.long x12), .second, .val (.long x14), .second, .val (.ref o16), .val (.long tm), .second, .val (.ref b240), .val (.long (own_max (own_max (-9223372036854775808 : Int64) q5) (p2.toInt64))), .second, .val (.int (1 : Int32))] [])
      refine own_go (fun _ k => XS.iconst X282.here hx rfl (hb hby at_224) k) ?_
      refine own_go (fun _ k => XS.istore X282.here hx rfl (hb hby at_225) rfl (l' := #[.val (.long q1), .second, .val (.int p2), .val (.int p3), .val (.int p4), .val (.long q5), .second, .val (.int p6), .val (.int (2 : Int32)), .val (.int x9), .val (.long x10), .second, .val (.long x12), .second, .val (.long x14), .second, .val (.ref o16), .val (.long tm), .second, .val (.ref b240), .val (.long (own_max (own_max (-9223372036854775808 : Int64) q5) (p2.toInt64))), .second, .val (.int (2 : Int32))]) rfl k) ?_
      refine own_go (fun _ k => XS.iload X282.here hx rfl (hb hby at_227) rfl k) ?_
      refine own_go (fun _ k => XS.iconst X282.here hx rfl (hb hby at_229) k) ?_
      show own_Run p e below _ T282 (mkF m 230 #[.val (.long q1), .second, .val (.int p2), .val (.int p3), .val (.int p4), .val (.long q5), .second, .val (.int p6), .val (.int (2 : Int32)), .val (.int x9), .val (.long x10), .second, .val (.long x12), .second, .val (.long x14), .second, .val (.ref o16), .val (.long tm), .second, .val (.ref b240), .val (.long (own_max (own_max (-9223372036854775808 : Int64) q5) (p2.toInt64))), .second, .val (.int (2 : Int32))] [(.int (3 : Int32)), (.int (2 : Int32))])
      refine own_go (fun _ k => XS.icmpYes X282.here hx rfl (pc0 := 230) (pc' := 244) rfl (hb hby at_230) rfl (tlt (by decide : (2 : Int32) < (3 : Int32))).1 (by decide) (by decide) k) ?_
      show own_Run p e below _ T282 (mkF m 244 #[.val (.long q1), .second, .val (.int p2), .val (.int p3), .val (.int p4), .val (.long q5), .second, .val (.int p6), .val (.int (2 : Int32)), .val (.int x9), .val (.long x10), .second, .val (.long x12), .second, .val (.long x14), .second, .val (.ref o16), .val (.long tm), .second, .val (.ref b240), .val (.long (own_max (own_max (-9223372036854775808 : Int64) q5) (p2.toInt64))), .second, .val (.int (2 : Int32))] [])
      refine own_go (fun _ k => XS.aload X282.here hx rfl (hb hby at_244) rfl rfl k) ?_
      show own_Run p e below _ T282 (mkF m 246 #[.val (.long q1), .second, .val (.int p2), .val (.int p3), .val (.int p4), .val (.long q5), .second, .val (.int p6), .val (.int (2 : Int32)), .val (.int x9), .val (.long x10), .second, .val (.long x12), .second, .val (.long x14), .second, .val (.ref o16), .val (.long tm), .second, .val (.ref b240), .val (.long (own_max (own_max (-9223372036854775808 : Int64) q5) (p2.toInt64))), .second, .val (.int (2 : Int32))] [(.ref b240)])
      obtain ⟨cq284, kq284, q284a, q284b, q284c⟩ := isOf hZ rfl P282_0
      obtain ⟨_, _, ⟨T284, L284, k284, n284⟩, -, X284, ⟨Lc284, hQ284, l284, y284, z284⟩, st284⟩ := X282.virtualBack hx (y := (⟨"com/example/tote/tote/storage/OffsetIndex", "count", "()I"⟩ : MethodName)) (z := (⟨"com/example/tote/tote/storage/OffsetIndex", "count", "()I"⟩ : MethodName)) hown (mvT hZ (W 53 rfl)) (mvT hZ (W 54 rfl)) (notFace_of_selects (args := #[]) (mvT hZ (W 56 rfl))) (mvT hZ (W 56 rfl)) (mvT hZ (W 55 rfl)) (by decide) (backOf (W := 0) (rm9 l Z a0 hw [] b240 (2 : Int32) T282.heap n0 Z0_c283 P282_5) hZ (W 57 rfl) (W 4 rfl) (by decide) (by decide)) q284a q284c (g := (mkF m 246 #[.val (.long q1), .second, .val (.int p2), .val (.int p3), .val (.int p4), .val (.long q5), .second, .val (.int p6), .val (.int (2 : Int32)), .val (.int x9), .val (.long x10), .second, .val (.long x12), .second, .val (.long x14), .second, .val (.ref o16), .val (.long tm), .second, .val (.ref b240), .val (.long (own_max (own_max (-9223372036854775808 : Int64) q5) (p2.toInt64))), .second, .val (.int (2 : Int32))] [(.ref b240)])) rfl (by rw [hml]; rfl) (Steps.refl _) (argsL := []) (rest := []) (lenOf pd_7 rfl) rfl (by show 2 * 0 + _ ≤ _; exact Nat.le_of_eq rfl) (hb hby at_246) (fun _ _ => ⟨rfl, rfl, (by decide : 5 + 0 ≤ _), (by decide : 58 + 0 ≤ _)⟩)
      dsimp only [Pt.U, Pt.locs, Pt.cells, Pt.slots] at X284 l284 y284 z284 st284 hQ284
      subst l284 y284 z284
      obtain ⟨rfl, N284q, e284⟩ := hQ284
      have N284 := Fr.app N282 N284q
      refine own_goT st284 ?_
      show own_Run p e below _ T284 (mkF m 249 #[.val (.long q1), .second, .val (.int p2), .val (.int p3), .val (.int p4), .val (.long q5), .second, .val (.int p6), .val (.int (2 : Int32)), .val (.int x9), .val (.long x10), .second, .val (.long x12), .second, .val (.long x14), .second, .val (.ref o16), .val (.long tm), .second, .val (.ref b240), .val (.long (own_max (own_max (-9223372036854775808 : Int64) q5) (p2.toInt64))), .second, .val (.int (2 : Int32))] [(.int (2 : Int32))])
      refine own_go (fun _ k => XS.iload X284.here hx rfl (hb hby at_249) rfl k) ?_
      show own_Run p e below _ T284 (mkF m 251 #[.val (.long q1), .second, .val (.int p2), .val (.int p3), .val (.int p4), .val (.long q5), .second, .val (.int p6), .val (.int (2 : Int32)), .val (.int x9), .val (.long x10), .second, .val (.long x12), .second, .val (.long x14), .second, .val (.ref o16), .val (.long tm), .second, .val (.ref b240), .val (.long (own_max (own_max (-9223372036854775808 : Int64) q5) (p2.toInt64))), .second, .val (.int (2 : Int32))] [(.int (2 : Int32)), (.int (2 : Int32))])
      refine own_go (fun _ k => XS.icmpYes X284.here hx rfl (pc0 := 251) (pc' := 256) rfl (hb hby at_251) rfl (teq (by decide : (2 : Int32) = (2 : Int32))).1 (by decide) (by decide) k) ?_
      show own_Run p e below _ T284 (mkF m 256 #[.val (.long q1), .second, .val (.int p2), .val (.int p3), .val (.int p4), .val (.long q5), .second, .val (.int p6), .val (.int (2 : Int32)), .val (.int x9), .val (.long x10), .second, .val (.long x12), .second, .val (.long x14), .second, .val (.ref o16), .val (.long tm), .second, .val (.ref b240), .val (.long (own_max (own_max (-9223372036854775808 : Int64) q5) (p2.toInt64))), .second, .val (.int (2 : Int32))] [])
      refine own_go (fun _ k => XS.aload X284.here hx rfl (hb hby at_256) rfl rfl k) ?_
      show own_Run p e below _ T284 (mkF m 258 #[.val (.long q1), .second, .val (.int p2), .val (.int p3), .val (.int p4), .val (.long q5), .second, .val (.int p6), .val (.int (2 : Int32)), .val (.int x9), .val (.long x10), .second, .val (.long x12), .second, .val (.long x14), .second, .val (.ref o16), .val (.long tm), .second, .val (.ref b240), .val (.long (own_max (own_max (-9223372036854775808 : Int64) q5) (p2.toInt64))), .second, .val (.int (2 : Int32))] [(.ref b240)])
      obtain ⟨cq285, kq285, q285a, q285b, q285c⟩ := isOf hZ e284 P282_0
      obtain ⟨_, _, ⟨T285, L285, k285, n285⟩, -, X285, ⟨Lc285, hQ285, l285, y285, z285⟩, st285⟩ := X284.virtualBack hx (y := (⟨"com/example/tote/tote/storage/OffsetIndex", "maxTimestamp", "()J"⟩ : MethodName)) (z := (⟨"com/example/tote/tote/storage/OffsetIndex", "maxTimestamp", "()J"⟩ : MethodName)) hown (mvT hZ (W 43 rfl)) (mvT hZ (W 44 rfl)) (notFace_of_selects (args := #[]) (mvT hZ (W 46 rfl))) (mvT hZ (W 46 rfl)) (mvT hZ (W 45 rfl)) (by decide) (backOf (W := 0) (rm7 l Z a0 hw [] b240 (own_max (own_max (-9223372036854775808 : Int64) q5) (p2.toInt64)) T282.heap n0 Z0_c283 P282_3) hZ (W 47 rfl) (W 4 rfl) (by decide) (by decide)) q285a q285c (g := (mkF m 258 #[.val (.long q1), .second, .val (.int p2), .val (.int p3), .val (.int p4), .val (.long q5), .second, .val (.int p6), .val (.int (2 : Int32)), .val (.int x9), .val (.long x10), .second, .val (.long x12), .second, .val (.long x14), .second, .val (.ref o16), .val (.long tm), .second, .val (.ref b240), .val (.long (own_max (own_max (-9223372036854775808 : Int64) q5) (p2.toInt64))), .second, .val (.int (2 : Int32))] [(.ref b240)])) rfl (by rw [hml]; rfl) (Steps.refl _) (argsL := []) (rest := []) (lenOf pd_5 rfl) rfl (by show 2 * 0 + _ ≤ _; exact Nat.le_of_eq rfl) (hb hby at_258) (fun _ _ => ⟨rfl, e284, (by decide : 5 + 0 ≤ _), (by decide : 58 + 0 ≤ _)⟩)
      dsimp only [Pt.U, Pt.locs, Pt.cells, Pt.slots] at X285 l285 y285 z285 st285 hQ285
      subst l285 y285 z285
      obtain ⟨rfl, N285q, e285⟩ := hQ285
      have N285 := Fr.app N284 N285q
      refine own_goT st285 ?_
      show own_Run p e below _ T285 (mkF m 261 #[.val (.long q1), .second, .val (.int p2), .val (.int p3), .val (.int p4), .val (.long q5), .second, .val (.int p6), .val (.int (2 : Int32)), .val (.int x9), .val (.long x10), .second, .val (.long x12), .second, .val (.long x14), .second, .val (.ref o16), .val (.long tm), .second, .val (.ref b240), .val (.long (own_max (own_max (-9223372036854775808 : Int64) q5) (p2.toInt64))), .second, .val (.int (2 : Int32))] [(.long (own_max (own_max (-9223372036854775808 : Int64) q5) (p2.toInt64)))])
      refine own_go (fun _ k => XS.lload X285.here hx rfl (hb hby at_261) rfl k) ?_
      refine own_go (fun _ k => XS.lcmp X285.here hx rfl (hb hby at_263) rfl k) ?_
      show own_Run p e below _ T285 (mkF m 264 #[.val (.long q1), .second, .val (.int p2), .val (.int p3), .val (.int p4), .val (.long q5), .second, .val (.int p6), .val (.int (2 : Int32)), .val (.int x9), .val (.long x10), .second, .val (.long x12), .second, .val (.long x14), .second, .val (.ref o16), .val (.long tm), .second, .val (.ref b240), .val (.long (own_max (own_max (-9223372036854775808 : Int64) q5) (p2.toInt64))), .second, .val (.int (2 : Int32))] [(.int (lcmpW (own_max (own_max (-9223372036854775808 : Int64) q5) (p2.toInt64)) (own_max (own_max (-9223372036854775808 : Int64) q5) (p2.toInt64))))])
      refine own_go (fun _ k => XS.ifYes X285.here hx rfl (pc0 := 264) (pc' := 269) rfl (hb hby at_264) rfl (own_lcTe rfl).1 (by decide) (by decide) k) ?_
      show own_Run p e below _ T285 (mkF m 269 #[.val (.long q1), .second, .val (.int p2), .val (.int p3), .val (.int p4), .val (.long q5), .second, .val (.int p6), .val (.int (2 : Int32)), .val (.int x9), .val (.long x10), .second, .val (.long x12), .second, .val (.long x14), .second, .val (.ref o16), .val (.long tm), .second, .val (.ref b240), .val (.long (own_max (own_max (-9223372036854775808 : Int64) q5) (p2.toInt64))), .second, .val (.int (2 : Int32))] [])
      refine own_go (fun _ k => XS.iload X285.here hx rfl (hb hby at_269) rfl k) ?_
      show own_Run p e below _ T285 (mkF m 271 #[.val (.long q1), .second, .val (.int p2), .val (.int p3), .val (.int p4), .val (.long q5), .second, .val (.int p6), .val (.int (2 : Int32)), .val (.int x9), .val (.long x10), .second, .val (.long x12), .second, .val (.long x14), .second, .val (.ref o16), .val (.long tm), .second, .val (.ref b240), .val (.long (own_max (own_max (-9223372036854775808 : Int64) q5) (p2.toInt64))), .second, .val (.int (2 : Int32))] [(.int (2 : Int32))])
      refine own_go (fun _ k => XS.ifNo X285.here hx rfl (hb hby at_271) rfl ((if0 _ _).trans (tlt (by decide : (0 : Int32) < (2 : Int32))).2.2.2) k) ?_
      show own_Run p e below _ T285 (mkF m 274 #[.val (.long q1), .second, .val (.int p2), .val (.int p3), .val (.int p4), .val (.long q5), .second, .val (.int p6), .val (.int (2 : Int32)), .val (.int x9), .val (.long x10), .second, .val (.long x12), .second, .val (.long x14), .second, .val (.ref o16), .val (.long tm), .second, .val (.ref b240), .val (.long (own_max (own_max (-9223372036854775808 : Int64) q5) (p2.toInt64))), .second, .val (.int (2 : Int32))] [])
      refine own_go (fun _ k => XS.aload X285.here hx rfl (hb hby at_274) rfl rfl k) ?_
      refine own_go (fun _ k => XS.iload X285.here hx rfl (hb hby at_276) rfl k) ?_
      refine own_go (fun _ k => XS.iconst X285.here hx rfl (hb hby at_278) k) ?_
      refine own_go (fun _ k => XS.isub X285.here hx rfl (hb hby at_279) rfl k) ?_
      show own_Run p e below _ T285 (mkF m 280 #[.val (.long q1), .second, .val (.int p2), .val (.int p3), .val (.int p4), .val (.long q5), .second, .val (.int p6), .val (.int (2 : Int32)), .val (.int x9), .val (.long x10), .second, .val (.long x12), .second, .val (.long x14), .second, .val (.ref o16), .val (.long tm), .second, .val (.ref b240), .val (.long (own_max (own_max (-9223372036854775808 : Int64) q5) (p2.toInt64))), .second, .val (.int (2 : Int32))] [(.int ((2 : Int32) - (1 : Int32))), (.ref b240)])
      rw [show ((2 : Int32) - (1 : Int32)) = (1 : Int32) by decide]
      show own_Run p e below _ T285 (mkF m 280 #[.val (.long q1), .second, .val (.int p2), .val (.int p3), .val (.int p4), .val (.long q5), .second, .val (.int p6), .val (.int (2 : Int32)), .val (.int x9), .val (.long x10), .second, .val (.long x12), .second, .val (.long x14), .second, .val (.ref o16), .val (.long tm), .second, .val (.ref b240), .val (.long (own_max (own_max (-9223372036854775808 : Int64) q5) (p2.toInt64))), .second, .val (.int (2 : Int32))] [(.int (1 : Int32)), (.ref b240)])
      obtain ⟨cq286, kq286, q286a, q286b, q286c⟩ := isOf hZ e285 P282_0
      obtain ⟨_, _, ⟨T286, L286, k286, n286⟩, -, X286, ⟨Lc286, hQ286, l286, y286, z286⟩, st286⟩ := X285.virtualBack hx (y := (⟨"com/example/tote/tote/storage/OffsetIndex", "position", "(I)J"⟩ : MethodName)) (z := (⟨"com/example/tote/tote/storage/OffsetIndex", "position", "(I)J"⟩ : MethodName)) hown (mvT hZ (W 58 rfl)) (mvT hZ (W 59 rfl)) (notFace_of_selects (args := #[]) (mvT hZ (W 61 rfl))) (mvT hZ (W 61 rfl)) (mvT hZ (W 60 rfl)) (by decide) (backOf (W := 0) (rm10 l Z a0 hw [] b240 (1 : Int32) b2_242 k2_242 (x10.toInt32) (x12.toInt32) (0 : Int32) (x12.toInt32) T282.heap n0 Z0_c283 P282_2 P267_9_c283 (Or.inr (Or.inl ⟨rfl, rfl⟩))) hZ (W 62 rfl) (W 4 rfl) (by decide) (by decide)) q286a q286c (g := (mkF m 280 #[.val (.long q1), .second, .val (.int p2), .val (.int p3), .val (.int p4), .val (.long q5), .second, .val (.int p6), .val (.int (2 : Int32)), .val (.int x9), .val (.long x10), .second, .val (.long x12), .second, .val (.long x14), .second, .val (.ref o16), .val (.long tm), .second, .val (.ref b240), .val (.long (own_max (own_max (-9223372036854775808 : Int64) q5) (p2.toInt64))), .second, .val (.int (2 : Int32))] [(.int (1 : Int32)), (.ref b240)])) rfl (by rw [hml]; rfl) (Steps.refl _) (argsL := [(.int (1 : Int32))]) (rest := []) (lenOf pd_9 rfl) rfl (by show 2 * 0 + _ ≤ _; exact Nat.le_of_eq rfl) (hb hby at_280) (fun _ _ => ⟨rfl, e285, (by decide : 5 + 0 ≤ _), (by decide : 58 + 0 ≤ _)⟩)
      dsimp only [Pt.U, Pt.locs, Pt.cells, Pt.slots] at X286 l286 y286 z286 st286 hQ286
      subst l286 y286 z286
      obtain ⟨rfl, N286q, e286⟩ := hQ286
      have N286 := Fr.app N285 N286q
      refine own_goT st286 ?_
      show own_Run p e below _ T286 (mkF m 283 #[.val (.long q1), .second, .val (.int p2), .val (.int p3), .val (.int p4), .val (.long q5), .second, .val (.int p6), .val (.int (2 : Int32)), .val (.int x9), .val (.long x10), .second, .val (.long x12), .second, .val (.long x14), .second, .val (.ref o16), .val (.long tm), .second, .val (.ref b240), .val (.long (own_max (own_max (-9223372036854775808 : Int64) q5) (p2.toInt64))), .second, .val (.int (2 : Int32))] [(.long ((x12.toInt32).toInt64))])
      refine own_go (fun _ k => XS.aload X286.here hx rfl (hb hby at_283) rfl rfl k) ?_
      refine own_go (fun _ k => XS.iload X286.here hx rfl (hb hby at_285) rfl k) ?_
      refine own_go (fun _ k => XS.iconst X286.here hx rfl (hb hby at_287) k) ?_
      refine own_go (fun _ k => XS.isub X286.here hx rfl (hb hby at_288) rfl k) ?_
      show own_Run p e below _ T286 (mkF m 289 #[.val (.long q1), .second, .val (.int p2), .val (.int p3), .val (.int p4), .val (.long q5), .second, .val (.int p6), .val (.int (2 : Int32)), .val (.int x9), .val (.long x10), .second, .val (.long x12), .second, .val (.long x14), .second, .val (.ref o16), .val (.long tm), .second, .val (.ref b240), .val (.long (own_max (own_max (-9223372036854775808 : Int64) q5) (p2.toInt64))), .second, .val (.int (2 : Int32))] [(.int ((2 : Int32) - (1 : Int32))), (.ref o16), (.long ((x12.toInt32).toInt64))])
      rw [show ((2 : Int32) - (1 : Int32)) = (1 : Int32) by decide]
      show own_Run p e below _ T286 (mkF m 289 #[.val (.long q1), .second, .val (.int p2), .val (.int p3), .val (.int p4), .val (.long q5), .second, .val (.int p6), .val (.int (2 : Int32)), .val (.int x9), .val (.long x10), .second, .val (.long x12), .second, .val (.long x14), .second, .val (.ref o16), .val (.long tm), .second, .val (.ref b240), .val (.long (own_max (own_max (-9223372036854775808 : Int64) q5) (p2.toInt64))), .second, .val (.int (2 : Int32))] [(.int (1 : Int32)), (.ref o16), (.long ((x12.toInt32).toInt64))])
      obtain ⟨cl287, Ar287, q287, S287, N287, H287, G287⟩ := id V_o16_c283
      have hin287 : ¬ ((1 : Int32) < 0 ∨ cl287.slots.size ≤ ((1 : Int32)).toNatClampNeg) := inb_of S287 ⟨by decide, by decide⟩
      refine own_go (X286.laload hx (j := (1 : Int32)) (v := (.long x12)) (by rw [e286]; exact Ar287.1) (State.isArrayOf_alike hZ.alike Ar287.2.1) Ar287.2.2 hin287 (H287.at hin287 rfl) (g := (mkF m 289 #[.val (.long q1), .second, .val (.int p2), .val (.int p3), .val (.int p4), .val (.long q5), .second, .val (.int p6), .val (.int (2 : Int32)), .val (.int x9), .val (.long x10), .second, .val (.long x12), .second, .val (.long x14), .second, .val (.ref o16), .val (.long tm), .second, .val (.ref b240), .val (.long (own_max (own_max (-9223372036854775808 : Int64) q5) (p2.toInt64))), .second, .val (.int (2 : Int32))] [(.int (1 : Int32)), (.ref o16), (.long ((x12.toInt32).toInt64))])) rfl rfl (hb hby at_289)) ?_
      show own_Run p e below _ T286 (mkF m 290 #[.val (.long q1), .second, .val (.int p2), .val (.int p3), .val (.int p4), .val (.long q5), .second, .val (.int p6), .val (.int (2 : Int32)), .val (.int x9), .val (.long x10), .second, .val (.long x12), .second, .val (.long x14), .second, .val (.ref o16), .val (.long tm), .second, .val (.ref b240), .val (.long (own_max (own_max (-9223372036854775808 : Int64) q5) (p2.toInt64))), .second, .val (.int (2 : Int32))] [(.long x12), (.long ((x12.toInt32).toInt64))])
      refine own_go (fun _ k => XS.lcmp X286.here hx rfl (hb hby at_290) rfl k) ?_
      show own_Run p e below _ T286 (mkF m 291 #[.val (.long q1), .second, .val (.int p2), .val (.int p3), .val (.int p4), .val (.long q5), .second, .val (.int p6), .val (.int (2 : Int32)), .val (.int x9), .val (.long x10), .second, .val (.long x12), .second, .val (.long x14), .second, .val (.ref o16), .val (.long tm), .second, .val (.ref b240), .val (.long (own_max (own_max (-9223372036854775808 : Int64) q5) (p2.toInt64))), .second, .val (.int (2 : Int32))] [(.int (lcmpW ((x12.toInt32).toInt64) x12))])
      refine own_go (fun _ k => XS.ifYes X286.here hx rfl (pc0 := 291) (pc' := 296) rfl (hb hby at_291) rfl (own_lcTe ht1).1 (by decide) (by decide) k) ?_
      show own_Run p e below _ T286 (mkF m 296 #[.val (.long q1), .second, .val (.int p2), .val (.int p3), .val (.int p4), .val (.long q5), .second, .val (.int p6), .val (.int (2 : Int32)), .val (.int x9), .val (.long x10), .second, .val (.long x12), .second, .val (.long x14), .second, .val (.ref o16), .val (.long tm), .second, .val (.ref b240), .val (.long (own_max (own_max (-9223372036854775808 : Int64) q5) (p2.toInt64))), .second, .val (.int (2 : Int32))] [])
      refine own_go (fun _ k => XS.aload X286.here hx rfl (hb hby at_296) rfl rfl k) ?_
      refine own_go (fun _ k => XS.iload X286.here hx rfl (hb hby at_298) rfl k) ?_
      refine own_go (fun _ k => XS.iconst X286.here hx rfl (hb hby at_300) k) ?_
      refine own_go (fun _ k => XS.isub X286.here hx rfl (hb hby at_301) rfl k) ?_
      show own_Run p e below _ T286 (mkF m 302 #[.val (.long q1), .second, .val (.int p2), .val (.int p3), .val (.int p4), .val (.long q5), .second, .val (.int p6), .val (.int (2 : Int32)), .val (.int x9), .val (.long x10), .second, .val (.long x12), .second, .val (.long x14), .second, .val (.ref o16), .val (.long tm), .second, .val (.ref b240), .val (.long (own_max (own_max (-9223372036854775808 : Int64) q5) (p2.toInt64))), .second, .val (.int (2 : Int32))] [(.int ((2 : Int32) - (1 : Int32))), (.ref b240)])
      rw [show ((2 : Int32) - (1 : Int32)) = (1 : Int32) by decide]
      show own_Run p e below _ T286 (mkF m 302 #[.val (.long q1), .second, .val (.int p2), .val (.int p3), .val (.int p4), .val (.long q5), .second, .val (.int p6), .val (.int (2 : Int32)), .val (.int x9), .val (.long x10), .second, .val (.long x12), .second, .val (.long x14), .second, .val (.ref o16), .val (.long tm), .second, .val (.ref b240), .val (.long (own_max (own_max (-9223372036854775808 : Int64) q5) (p2.toInt64))), .second, .val (.int (2 : Int32))] [(.int (1 : Int32)), (.ref b240)])
      obtain ⟨cq288, kq288, q288a, q288b, q288c⟩ := isOf hZ e286 P282_0
      obtain ⟨_, _, ⟨T288, L288, k288, n288⟩, -, X288, ⟨Lc288, hQ288, l288, y288, z288⟩, st288⟩ := X286.virtualBack hx (y := (⟨"com/example/tote/tote/storage/OffsetIndex", "offset", "(I)J"⟩ : MethodName)) (z := (⟨"com/example/tote/tote/storage/OffsetIndex", "offset", "(I)J"⟩ : MethodName)) hown (mvT hZ (W 63 rfl)) (mvT hZ (W 64 rfl)) (notFace_of_selects (args := #[]) (mvT hZ (W 66 rfl))) (mvT hZ (W 66 rfl)) (mvT hZ (W 65 rfl)) (by decide) (backOf (W := 0) (rm11 l Z a0 hw [] b240 (1 : Int32) b1_242 k1_242 q1 (0 : Int32) (1 : Int32) (0 : Int32) (1 : Int32) T282.heap n0 Z0_c283 P282_1 P282_4 Vo269_c283 (Or.inr (Or.inl ⟨rfl, rfl⟩))) hZ (W 67 rfl) (W 4 rfl) (by decide) (by decide)) q288a q288c (g := (mkF m 302 #[.val (.long q1), .second, .val (.int p2), .val (.int p3), .val (.int p4), .val (.long q5), .second, .val (.int p6), .val (.int (2 : Int32)), .val (.int x9), .val (.long x10), .second, .val (.long x12), .second, .val (.long x14), .second, .val (.ref o16), .val (.long tm), .second, .val (.ref b240), .val (.long (own_max (own_max (-9223372036854775808 : Int64) q5) (p2.toInt64))), .second, .val (.int (2 : Int32))] [(.int (1 : Int32)), (.ref b240)])) rfl (by rw [hml]; rfl) (Steps.refl _) (argsL := [(.int (1 : Int32))]) (rest := []) (lenOf pd_9 rfl) rfl (by show 2 * 0 + _ ≤ _; exact Nat.le_of_eq rfl) (hb hby at_302) (fun _ _ => ⟨rfl, e286, (by decide : 5 + 0 ≤ _), (by decide : 58 + 0 ≤ _)⟩)
      dsimp only [Pt.U, Pt.locs, Pt.cells, Pt.slots] at X288 l288 y288 z288 st288 hQ288
      subst l288 y288 z288
      obtain ⟨rfl, N288q, e288⟩ := hQ288
      have N288 := Fr.app N286 N288q
      refine own_goT st288 ?_
      show own_Run p e below _ T288 (mkF m 305 #[.val (.long q1), .second, .val (.int p2), .val (.int p3), .val (.int p4), .val (.long q5), .second, .val (.int p6), .val (.int (2 : Int32)), .val (.int x9), .val (.long x10), .second, .val (.long x12), .second, .val (.long x14), .second, .val (.ref o16), .val (.long tm), .second, .val (.ref b240), .val (.long (own_max (own_max (-9223372036854775808 : Int64) q5) (p2.toInt64))), .second, .val (.int (2 : Int32))] [(.long (q1 + ((1 : Int32).toInt64)))])
      refine own_go (fun _ k => XS.lloadN X288.here hx rfl (hb hby at_305) rfl k) ?_
      refine own_go (fun _ k => XS.iload X288.here hx rfl (hb hby at_306) rfl k) ?_
      refine own_go (fun _ k => XS.iconst X288.here hx rfl (hb hby at_308) k) ?_
      refine own_go (fun _ k => XS.isub X288.here hx rfl (hb hby at_309) rfl k) ?_
      show own_Run p e below _ T288 (mkF m 310 #[.val (.long q1), .second, .val (.int p2), .val (.int p3), .val (.int p4), .val (.long q5), .second, .val (.int p6), .val (.int (2 : Int32)), .val (.int x9), .val (.long x10), .second, .val (.long x12), .second, .val (.long x14), .second, .val (.ref o16), .val (.long tm), .second, .val (.ref b240), .val (.long (own_max (own_max (-9223372036854775808 : Int64) q5) (p2.toInt64))), .second, .val (.int (2 : Int32))] [(.int ((2 : Int32) - (1 : Int32))), (.long q1), (.long (q1 + ((1 : Int32).toInt64)))])
      rw [show ((2 : Int32) - (1 : Int32)) = (1 : Int32) by decide]
      show own_Run p e below _ T288 (mkF m 310 #[.val (.long q1), .second, .val (.int p2), .val (.int p3), .val (.int p4), .val (.long q5), .second, .val (.int p6), .val (.int (2 : Int32)), .val (.int x9), .val (.long x10), .second, .val (.long x12), .second, .val (.long x14), .second, .val (.ref o16), .val (.long tm), .second, .val (.ref b240), .val (.long (own_max (own_max (-9223372036854775808 : Int64) q5) (p2.toInt64))), .second, .val (.int (2 : Int32))] [(.int (1 : Int32)), (.long q1), (.long (q1 + ((1 : Int32).toInt64)))])
      refine own_go (fun _ k => XS.i2l X288.here hx rfl (hb hby at_310) rfl k) ?_
      show own_Run p e below _ T288 (mkF m 311 #[.val (.long q1), .second, .val (.int p2), .val (.int p3), .val (.int p4), .val (.long q5), .second, .val (.int p6), .val (.int (2 : Int32)), .val (.int x9), .val (.long x10), .second, .val (.long x12), .second, .val (.long x14), .second, .val (.ref o16), .val (.long tm), .second, .val (.ref b240), .val (.long (own_max (own_max (-9223372036854775808 : Int64) q5) (p2.toInt64))), .second, .val (.int (2 : Int32))] [(.long ((1 : Int32).toInt64)), (.long q1), (.long (q1 + ((1 : Int32).toInt64)))])
      rw [show ((1 : Int32).toInt64) = (1 : Int64) by decide]
      show own_Run p e below _ T288 (mkF m 311 #[.val (.long q1), .second, .val (.int p2), .val (.int p3), .val (.int p4), .val (.long q5), .second, .val (.int p6), .val (.int (2 : Int32)), .val (.int x9), .val (.long x10), .second, .val (.long x12), .second, .val (.long x14), .second, .val (.ref o16), .val (.long tm), .second, .val (.ref b240), .val (.long (own_max (own_max (-9223372036854775808 : Int64) q5) (p2.toInt64))), .second, .val (.int (2 : Int32))] [(.long (1 : Int64)), (.long q1), (.long (q1 + ((1 : Int32).toInt64)))])
      refine own_go (fun _ k => XS.ladd X288.here hx rfl (hb hby at_311) rfl k) ?_
      refine own_go (fun _ k => XS.lcmp X288.here hx rfl (hb hby at_312) rfl k) ?_
      show own_Run p e below _ T288 (mkF m 313 #[.val (.long q1), .second, .val (.int p2), .val (.int p3), .val (.int p4), .val (.long q5), .second, .val (.int p6), .val (.int (2 : Int32)), .val (.int x9), .val (.long x10), .second, .val (.long x12), .second, .val (.long x14), .second, .val (.ref o16), .val (.long tm), .second, .val (.ref b240), .val (.long (own_max (own_max (-9223372036854775808 : Int64) q5) (p2.toInt64))), .second, .val (.int (2 : Int32))] [(.int (lcmpW (q1 + ((1 : Int32).toInt64)) (q1 + (1 : Int64))))])
      refine own_go (fun _ k => XS.ifYes X288.here hx rfl (pc0 := 313) (pc' := 318) rfl (hb hby at_313) rfl (own_lcTe (by rw [show ((1 : Int32)).toInt64 = (1 : Int64) by decide] : (q1 + ((1 : Int32).toInt64)) = (q1 + (1 : Int64)))).1 (by decide) (by decide) k) ?_
      show own_Run p e below _ T288 (mkF m 318 #[.val (.long q1), .second, .val (.int p2), .val (.int p3), .val (.int p4), .val (.long q5), .second, .val (.int p6), .val (.int (2 : Int32)), .val (.int x9), .val (.long x10), .second, .val (.long x12), .second, .val (.long x14), .second, .val (.ref o16), .val (.long tm), .second, .val (.ref b240), .val (.long (own_max (own_max (-9223372036854775808 : Int64) q5) (p2.toInt64))), .second, .val (.int (2 : Int32))] [])
      refine own_go (fun _ k => XS.iconst X288.here hx rfl (hb hby at_318) k) ?_
      show own_Run p e below _ T288 (mkF m 319 #[.val (.long q1), .second, .val (.int p2), .val (.int p3), .val (.int p4), .val (.long q5), .second, .val (.int p6), .val (.int (2 : Int32)), .val (.int x9), .val (.long x10), .second, .val (.long x12), .second, .val (.long x14), .second, .val (.ref o16), .val (.long tm), .second, .val (.ref b240), .val (.long (own_max (own_max (-9223372036854775808 : Int64) q5) (p2.toInt64))), .second, .val (.int (2 : Int32))] [(.int (1 : Int32))])
      refine own_done (Q := fun v h L => Q0 Z q1 p2 p3 p4 q5 p6 h0 n0 v h L) (v := (some (.int (1 : Int32)))) X288 (fun h => by rw [hret] at h; cases h) hlk (fun fs hr => retN X288 hx (t := .boolean) hret (by simp) (hb hby at_319) hr) ?_ (by decide) (by decide)
      show Q0 Z q1 p2 p3 p4 q5 p6 h0 n0 _ T288.heap _
      rw [e288]
      exact ⟨rfl, N288⟩
  · show own_Run p e below _ T242 (mkF m 123 #[.val (.long q1), .second, .val (.int p2), .val (.int p3), .val (.int p4), .val (.long q5), .second, .val (.int p6), .val (.int (3 : Int32)), .val (.int x9), .val (.long x10), .second, .val (.long x12), .second, .val (.long x14), .second, .val (.ref o16), .val (.long tm), .second, .val (.ref b240), .unset, .unset, .unset] [])
    refine own_go (fun _ k => XS.iload X242.here hx rfl (hb hby at_123) rfl k) ?_
    refine own_go (fun _ k => XS.iconst X242.here hx rfl (hb hby at_125) k) ?_
    show own_Run p e below _ T242 (mkF m 126 #[.val (.long q1), .second, .val (.int p2), .val (.int p3), .val (.int p4), .val (.long q5), .second, .val (.int p6), .val (.int (3 : Int32)), .val (.int x9), .val (.long x10), .second, .val (.long x12), .second, .val (.long x14), .second, .val (.ref o16), .val (.long tm), .second, .val (.ref b240), .unset, .unset, .unset] [(.int (1 : Int32)), (.int (3 : Int32))])
    refine own_go (fun _ k => XS.icmpNo X242.here hx rfl (hb hby at_126) rfl (flt (by decide : ¬ ((3 : Int32) < (1 : Int32)))).1 k) ?_
    show own_Run p e below _ T242 (mkF m 129 #[.val (.long q1), .second, .val (.int p2), .val (.int p3), .val (.int p4), .val (.long q5), .second, .val (.int p6), .val (.int (3 : Int32)), .val (.int x9), .val (.long x10), .second, .val (.long x12), .second, .val (.long x14), .second, .val (.ref o16), .val (.long tm), .second, .val (.ref b240), .unset, .unset, .unset] [])
    refine own_go (fun _ k => XS.aload X242.here hx rfl (hb hby at_129) rfl rfl k) ?_
    refine own_go (fun _ k => XS.lloadN X242.here hx rfl (hb hby at_131) rfl k) ?_
    refine own_go (fun _ k => XS.lload X242.here hx rfl (hb hby at_132) rfl k) ?_
    refine own_go (fun _ k => XS.lload X242.here hx rfl (hb hby at_134) rfl k) ?_
    show own_Run p e below _ T242 (mkF m 136 #[.val (.long q1), .second, .val (.int p2), .val (.int p3), .val (.int p4), .val (.long q5), .second, .val (.int p6), .val (.int (3 : Int32)), .val (.int x9), .val (.long x10), .second, .val (.long x12), .second, .val (.long x14), .second, .val (.ref o16), .val (.long tm), .second, .val (.ref b240), .unset, .unset, .unset] [(.long q5), (.long x10), (.long q1), (.ref b240)])
    obtain ⟨cq289, kq289, q289a, q289b, q289c⟩ := isOf hZ rfl P242_0
    obtain ⟨_, _, ⟨T289, L289, k289, n289⟩, -, X289, ⟨Lc289, hQ289, l289, y289, z289⟩, st289⟩ := X242.virtualBack hx (y := (⟨"com/example/tote/tote/storage/OffsetIndex", "add", "(JJJ)V"⟩ : MethodName)) (z := (⟨"com/example/tote/tote/storage/OffsetIndex", "add", "(JJJ)V"⟩ : MethodName)) hown (mvT hZ (W 25 rfl)) (mvT hZ (W 26 rfl)) (notFace_of_selects (args := #[]) (mvT hZ (W 28 rfl))) (mvT hZ (W 28 rfl)) (mvT hZ (W 27 rfl)) (by decide) (backOf (W := 0) (rm3c0 l Z a0 hw [] b240 q1 x10 q5 b1_242 b2_242 b3_242 k1_242 k2_242 k3_242 (-9223372036854775808 : Int64) q1 (0 : Int64) T242.heap n0 Z0_c243 P242_0 P242_1 P242_2 P242_3 P242_4 P242_5 P242_6 P242_7 P242_8 P242_9 P242_10 g_b240 g_b1_242 g_b2_242 g_b3_242 P242_14 P242_15 P242_16 P242_17 P242_18 P242_19 (by rw [own_o0]; decide) (ht0)) hZ (W 29 rfl) (W 4 rfl) (by decide) (by decide)) q289a q289c (g := (mkF m 136 #[.val (.long q1), .second, .val (.int p2), .val (.int p3), .val (.int p4), .val (.long q5), .second, .val (.int p6), .val (.int (3 : Int32)), .val (.int x9), .val (.long x10), .second, .val (.long x12), .second, .val (.long x14), .second, .val (.ref o16), .val (.long tm), .second, .val (.ref b240), .unset, .unset, .unset] [(.long q5), (.long x10), (.long q1), (.ref b240)])) rfl (by rw [hml]; rfl) (Steps.refl _) (argsL := [(.long q1), (.long x10), (.long q5)]) (rest := []) (lenOf pd_8 rfl) rfl (by show 2 * 0 + _ ≤ _; exact Nat.le_of_eq rfl) (hb hby at_136) (fun _ _ => ⟨rfl, rfl, (by decide : 5 + 0 ≤ _), (by decide : 58 + 0 ≤ _)⟩)
    dsimp only [Pt.U, Pt.locs, Pt.cells, Pt.slots] at X289 l289 y289 z289 st289 hQ289
    subst l289 y289 z289
    obtain ⟨rfl, N289q, K289, P289_0, P289_1, P289_2, P289_3, P289_4, P289_5, P289_6, P289_7, P289_8, P289_9, P289_10⟩ := hQ289
    have N289 := Fr.app N242 N289q
    refine own_goT st289 ?_
    show own_Run p e below _ T289 (mkF m 139 #[.val (.long q1), .second, .val (.int p2), .val (.int p3), .val (.int p4), .val (.long q5), .second, .val (.int p6), .val (.int (3 : Int32)), .val (.int x9), .val (.long x10), .second, .val (.long x12), .second, .val (.long x14), .second, .val (.ref o16), .val (.long tm), .second, .val (.ref b240), .unset, .unset, .unset] [])
    have Z0_c290 := Nat.le_trans Z0_c243 K289.1
    have K0_c290 := K0_c243.trans K289 (allS (Or.inr sz_b240) (allS (Or.inr sz_b1_242) (allS (Or.inr sz_b2_242) (allS (Or.inr sz_b3_242) all0))))
    have V_o16_c290 := V_o16_c243.keep K289 (ninS ne_o16_b240 (ninS ne_o16_b1_242 (ninS ne_o16_b2_242 (ninS ne_o16_b3_242 nin0))))
    have P242_0_c290 := P242_0.keep K289
    have Vo291 : Arv Z T289.heap b1_242 k1_242 .int (16 : Int32) [(.int (0 : Int32)), (.int (0 : Int32)), (.int (0 : Int32)), (.int (0 : Int32)), (.int (0 : Int32)), (.int (0 : Int32)), (.int (0 : Int32)), (.int (0 : Int32)), (.int (0 : Int32)), (.int (0 : Int32)), (.int (0 : Int32)), (.int (0 : Int32)), (.int (0 : Int32)), (.int (0 : Int32)), (.int (0 : Int32)), (.int (0 : Int32))] (.int (0 : Int32)) := by
      have q := P289_8
      rw [own_o0] at q
      exact q
    refine own_go (fun _ k => XS.iload X289.here hx rfl (hb hby at_139) rfl k) ?_
    refine own_go (fun _ k => XS.iconst X289.here hx rfl (hb hby at_141) k) ?_
    show own_Run p e below _ T289 (mkF m 142 #[.val (.long q1), .second, .val (.int p2), .val (.int p3), .val (.int p4), .val (.long q5), .second, .val (.int p6), .val (.int (3 : Int32)), .val (.int x9), .val (.long x10), .second, .val (.long x12), .second, .val (.long x14), .second, .val (.ref o16), .val (.long tm), .second, .val (.ref b240), .unset, .unset, .unset] [(.int (2 : Int32)), (.int (3 : Int32))])
    refine own_go (fun _ k => XS.icmpNo X289.here hx rfl (hb hby at_142) rfl (flt (by decide : ¬ ((3 : Int32) < (2 : Int32)))).1 k) ?_
    show own_Run p e below _ T289 (mkF m 145 #[.val (.long q1), .second, .val (.int p2), .val (.int p3), .val (.int p4), .val (.long q5), .second, .val (.int p6), .val (.int (3 : Int32)), .val (.int x9), .val (.long x10), .second, .val (.long x12), .second, .val (.long x14), .second, .val (.ref o16), .val (.long tm), .second, .val (.ref b240), .unset, .unset, .unset] [])
    refine own_go (fun _ k => XS.aload X289.here hx rfl (hb hby at_145) rfl rfl k) ?_
    refine own_go (fun _ k => XS.lloadN X289.here hx rfl (hb hby at_147) rfl k) ?_
    refine own_go (fun _ k => XS.lconst X289.here hx rfl (hb hby at_148) k) ?_
    refine own_go (fun _ k => XS.ladd X289.here hx rfl (hb hby at_149) rfl k) ?_
    show own_Run p e below _ T289 (mkF m 150 #[.val (.long q1), .second, .val (.int p2), .val (.int p3), .val (.int p4), .val (.long q5), .second, .val (.int p6), .val (.int (3 : Int32)), .val (.int x9), .val (.long x10), .second, .val (.long x12), .second, .val (.long x14), .second, .val (.ref o16), .val (.long tm), .second, .val (.ref b240), .unset, .unset, .unset] [(.long (q1 + (1 : Int64))), (.ref b240)])
    refine own_go (fun _ k => XS.lload X289.here hx rfl (hb hby at_150) rfl k) ?_
    refine own_go (fun _ k => XS.iloadN X289.here hx rfl (hb hby at_152) rfl k) ?_
    refine own_go (fun _ k => XS.i2l X289.here hx rfl (hb hby at_153) rfl k) ?_
    show own_Run p e below _ T289 (mkF m 154 #[.val (.long q1), .second, .val (.int p2), .val (.int p3), .val (.int p4), .val (.long q5), .second, .val (.int p6), .val (.int (3 : Int32)), .val (.int x9), .val (.long x10), .second, .val (.long x12), .second, .val (.long x14), .second, .val (.ref o16), .val (.long tm), .second, .val (.ref b240), .unset, .unset, .unset] [(.long (p2.toInt64)), (.long x12), (.long (q1 + (1 : Int64))), (.ref b240)])
    obtain ⟨cq292, kq292, q292a, q292b, q292c⟩ := isOf hZ rfl P289_0
    obtain ⟨_, _, ⟨T292, L292, k292, n292⟩, -, X292, ⟨Lc292, hQ292, l292, y292, z292⟩, st292⟩ := X289.virtualBack hx (y := (⟨"com/example/tote/tote/storage/OffsetIndex", "add", "(JJJ)V"⟩ : MethodName)) (z := (⟨"com/example/tote/tote/storage/OffsetIndex", "add", "(JJJ)V"⟩ : MethodName)) hown (mvT hZ (W 25 rfl)) (mvT hZ (W 26 rfl)) (notFace_of_selects (args := #[]) (mvT hZ (W 28 rfl))) (mvT hZ (W 28 rfl)) (mvT hZ (W 27 rfl)) (by decide) (backOf (W := 0) (rm3c1 l Z a0 hw [] b240 (q1 + (1 : Int64)) x12 (p2.toInt64) b1_242 b2_242 b3_242 k1_242 k2_242 k3_242 (own_max (-9223372036854775808 : Int64) q5) q1 (0 : Int64) (0 : Int32) (x10.toInt32) (-9223372036854775808 : Int64) T289.heap n0 Z0_c290 P289_0 P289_1 P289_2 P289_3 P289_4 P289_5 P289_6 P289_7 Vo291 P289_9 P289_10 g_b240 g_b1_242 g_b2_242 g_b3_242 P242_14 P242_15 P242_16 P242_17 P242_18 P242_19 (by rw [own_o1]; decide) (ht1) (own_gt x10 x12 ⟨hB0.1, hB0.2⟩ hB1.1 hB1.2.2)) hZ (W 29 rfl) (W 4 rfl) (by decide) (by decide)) q292a q292c (g := (mkF m 154 #[.val (.long q1), .second, .val (.int p2), .val (.int p3), .val (.int p4), .val (.long q5), .second, .val (.int p6), .val (.int (3 : Int32)), .val (.int x9), .val (.long x10), .second, .val (.long x12), .second, .val (.long x14), .second, .val (.ref o16), .val (.long tm), .second, .val (.ref b240), .unset, .unset, .unset] [(.long (p2.toInt64)), (.long x12), (.long (q1 + (1 : Int64))), (.ref b240)])) rfl (by rw [hml]; rfl) (Steps.refl _) (argsL := [(.long (q1 + (1 : Int64))), (.long x12), (.long (p2.toInt64))]) (rest := []) (lenOf pd_8 rfl) rfl (by show 2 * 0 + _ ≤ _; exact Nat.le_of_eq rfl) (hb hby at_154) (fun _ _ => ⟨rfl, rfl, (by decide : 5 + 0 ≤ _), (by decide : 58 + 0 ≤ _)⟩)
    dsimp only [Pt.U, Pt.locs, Pt.cells, Pt.slots] at X292 l292 y292 z292 st292 hQ292
    subst l292 y292 z292
    obtain ⟨rfl, N292q, K292, P292_0, P292_1, P292_2, P292_3, P292_4, P292_5, P292_6, P292_7, P292_8, P292_9, P292_10⟩ := hQ292
    have N292 := Fr.app N289 N292q
    refine own_goT st292 ?_
    show own_Run p e below _ T292 (mkF m 157 #[.val (.long q1), .second, .val (.int p2), .val (.int p3), .val (.int p4), .val (.long q5), .second, .val (.int p6), .val (.int (3 : Int32)), .val (.int x9), .val (.long x10), .second, .val (.long x12), .second, .val (.long x14), .second, .val (.ref o16), .val (.long tm), .second, .val (.ref b240), .unset, .unset, .unset] [])
    have Z0_c293 := Nat.le_trans Z0_c290 K292.1
    have K0_c293 := K0_c290.trans K292 (allS (Or.inr sz_b240) (allS (Or.inr sz_b1_242) (allS (Or.inr sz_b2_242) (allS (Or.inr sz_b3_242) all0))))
    have V_o16_c293 := V_o16_c290.keep K292 (ninS ne_o16_b240 (ninS ne_o16_b1_242 (ninS ne_o16_b2_242 (ninS ne_o16_b3_242 nin0))))
    have P289_0_c293 := P289_0.keep K292
    have Vo294 : Arv Z T292.heap b1_242 k1_242 .int (16 : Int32) [(.int (0 : Int32)), (.int (1 : Int32)), (.int (0 : Int32)), (.int (0 : Int32)), (.int (0 : Int32)), (.int (0 : Int32)), (.int (0 : Int32)), (.int (0 : Int32)), (.int (0 : Int32)), (.int (0 : Int32)), (.int (0 : Int32)), (.int (0 : Int32)), (.int (0 : Int32)), (.int (0 : Int32)), (.int (0 : Int32)), (.int (0 : Int32))] (.int (0 : Int32)) := by
      have q := P292_8
      rw [own_o1] at q
      exact q
    refine own_go (fun _ k => XS.iload X292.here hx rfl (hb hby at_157) rfl k) ?_
    refine own_go (fun _ k => XS.iconst X292.here hx rfl (hb hby at_159) k) ?_
    show own_Run p e below _ T292 (mkF m 160 #[.val (.long q1), .second, .val (.int p2), .val (.int p3), .val (.int p4), .val (.long q5), .second, .val (.int p6), .val (.int (3 : Int32)), .val (.int x9), .val (.long x10), .second, .val (.long x12), .second, .val (.long x14), .second, .val (.ref o16), .val (.long tm), .second, .val (.ref b240), .unset, .unset, .unset] [(.int (3 : Int32)), (.int (3 : Int32))])
    refine own_go (fun _ k => XS.icmpNo X292.here hx rfl (hb hby at_160) rfl (flt (by decide : ¬ ((3 : Int32) < (3 : Int32)))).1 k) ?_
    show own_Run p e below _ T292 (mkF m 163 #[.val (.long q1), .second, .val (.int p2), .val (.int p3), .val (.int p4), .val (.long q5), .second, .val (.int p6), .val (.int (3 : Int32)), .val (.int x9), .val (.long x10), .second, .val (.long x12), .second, .val (.long x14), .second, .val (.ref o16), .val (.long tm), .second, .val (.ref b240), .unset, .unset, .unset] [])
    refine own_go (fun _ k => XS.aload X292.here hx rfl (hb hby at_163) rfl rfl k) ?_
    refine own_go (fun _ k => XS.lloadN X292.here hx rfl (hb hby at_165) rfl k) ?_
    show own_Run p e below _ T292 (mkF m 166 #[.val (.long q1), .second, .val (.int p2), .val (.int p3), .val (.int p4), .val (.long q5), .second, .val (.int p6), .val (.int (3 : Int32)), .val (.int x9), .val (.long x10), .second, .val (.long x12), .second, .val (.long x14), .second, .val (.ref o16), .val (.long tm), .second, .val (.ref b240), .unset, .unset, .unset] [(.long q1), (.ref b240)])
    refine own_go (X292.ldc2Long hx hown (mvT hZ (W 68 rfl)) (g := (mkF m 166 #[.val (.long q1), .second, .val (.int p2), .val (.int p3), .val (.int p4), .val (.long q5), .second, .val (.int p6), .val (.int (3 : Int32)), .val (.int x9), .val (.long x10), .second, .val (.long x12), .second, .val (.long x14), .second, .val (.ref o16), .val (.long tm), .second, .val (.ref b240), .unset, .unset, .unset] [(.long q1), (.ref b240)])) rfl (hb hby at_166)) ?_
    show own_Run p e below _ T292 (mkF m 169 #[.val (.long q1), .second, .val (.int p2), .val (.int p3), .val (.int p4), .val (.long q5), .second, .val (.int p6), .val (.int (3 : Int32)), .val (.int x9), .val (.long x10), .second, .val (.long x12), .second, .val (.long x14), .second, .val (.ref o16), .val (.long tm), .second, .val (.ref b240), .unset, .unset, .unset] [(.long (2 : Int64)), (.long q1), (.ref b240)])
    refine own_go (fun _ k => XS.ladd X292.here hx rfl (hb hby at_169) rfl k) ?_
    refine own_go (fun _ k => XS.lload X292.here hx rfl (hb hby at_170) rfl k) ?_
    refine own_go (fun _ k => XS.lloadN X292.here hx rfl (hb hby at_172) rfl k) ?_
    show own_Run p e below _ T292 (mkF m 173 #[.val (.long q1), .second, .val (.int p2), .val (.int p3), .val (.int p4), .val (.long q5), .second, .val (.int p6), .val (.int (3 : Int32)), .val (.int x9), .val (.long x10), .second, .val (.long x12), .second, .val (.long x14), .second, .val (.ref o16), .val (.long tm), .second, .val (.ref b240), .unset, .unset, .unset] [(.long q1), (.long x14), (.long (q1 + (2 : Int64))), (.ref b240)])
    obtain ⟨cq295, kq295, q295a, q295b, q295c⟩ := isOf hZ rfl P292_0
    obtain ⟨_, _, ⟨T295, L295, k295, n295⟩, -, X295, ⟨Lc295, hQ295, l295, y295, z295⟩, st295⟩ := X292.virtualBack hx (y := (⟨"com/example/tote/tote/storage/OffsetIndex", "add", "(JJJ)V"⟩ : MethodName)) (z := (⟨"com/example/tote/tote/storage/OffsetIndex", "add", "(JJJ)V"⟩ : MethodName)) hown (mvT hZ (W 25 rfl)) (mvT hZ (W 26 rfl)) (notFace_of_selects (args := #[]) (mvT hZ (W 28 rfl))) (mvT hZ (W 28 rfl)) (mvT hZ (W 27 rfl)) (by decide) (backOf (W := 0) (rm3c2 l Z a0 hw [] b240 (q1 + (2 : Int64)) x14 q1 b1_242 b2_242 b3_242 k1_242 k2_242 k3_242 (own_max (own_max (-9223372036854775808 : Int64) q5) (p2.toInt64)) q1 (0 : Int64) (0 : Int32) (1 : Int32) (x10.toInt32) (x12.toInt32) (-9223372036854775808 : Int64) (own_max (-9223372036854775808 : Int64) q5) T292.heap n0 Z0_c293 P292_0 P292_1 P292_2 P292_3 P292_4 P292_5 P292_6 P292_7 Vo294 P292_9 P292_10 g_b240 g_b1_242 g_b2_242 g_b3_242 P242_14 P242_15 P242_16 P242_17 P242_18 P242_19 (by rw [own_o1]; decide) (ht2) (own_gt x12 x14 hB1.2 hB2.1 hB2.2.2)) hZ (W 29 rfl) (W 4 rfl) (by decide) (by decide)) q295a q295c (g := (mkF m 173 #[.val (.long q1), .second, .val (.int p2), .val (.int p3), .val (.int p4), .val (.long q5), .second, .val (.int p6), .val (.int (3 : Int32)), .val (.int x9), .val (.long x10), .second, .val (.long x12), .second, .val (.long x14), .second, .val (.ref o16), .val (.long tm), .second, .val (.ref b240), .unset, .unset, .unset] [(.long q1), (.long x14), (.long (q1 + (2 : Int64))), (.ref b240)])) rfl (by rw [hml]; rfl) (Steps.refl _) (argsL := [(.long (q1 + (2 : Int64))), (.long x14), (.long q1)]) (rest := []) (lenOf pd_8 rfl) rfl (by show 2 * 0 + _ ≤ _; exact Nat.le_of_eq rfl) (hb hby at_173) (fun _ _ => ⟨rfl, rfl, (by decide : 5 + 0 ≤ _), (by decide : 58 + 0 ≤ _)⟩)
    dsimp only [Pt.U, Pt.locs, Pt.cells, Pt.slots] at X295 l295 y295 z295 st295 hQ295
    subst l295 y295 z295
    obtain ⟨rfl, N295q, K295, P295_0, P295_1, P295_2, P295_3, P295_4, P295_5, P295_6, P295_7, P295_8, P295_9, P295_10⟩ := hQ295
    have N295 := Fr.app N292 N295q
    refine own_goT st295 ?_
    show own_Run p e below _ T295 (mkF m 176 #[.val (.long q1), .second, .val (.int p2), .val (.int p3), .val (.int p4), .val (.long q5), .second, .val (.int p6), .val (.int (3 : Int32)), .val (.int x9), .val (.long x10), .second, .val (.long x12), .second, .val (.long x14), .second, .val (.ref o16), .val (.long tm), .second, .val (.ref b240), .unset, .unset, .unset] [])
    have Z0_c296 := Nat.le_trans Z0_c293 K295.1
    have K0_c296 := K0_c293.trans K295 (allS (Or.inr sz_b240) (allS (Or.inr sz_b1_242) (allS (Or.inr sz_b2_242) (allS (Or.inr sz_b3_242) all0))))
    have V_o16_c296 := V_o16_c293.keep K295 (ninS ne_o16_b240 (ninS ne_o16_b1_242 (ninS ne_o16_b2_242 (ninS ne_o16_b3_242 nin0))))
    have P292_0_c296 := P292_0.keep K295
    have Vo297 : Arv Z T295.heap b1_242 k1_242 .int (16 : Int32) [(.int (0 : Int32)), (.int (1 : Int32)), (.int (2 : Int32)), (.int (0 : Int32)), (.int (0 : Int32)), (.int (0 : Int32)), (.int (0 : Int32)), (.int (0 : Int32)), (.int (0 : Int32)), (.int (0 : Int32)), (.int (0 : Int32)), (.int (0 : Int32)), (.int (0 : Int32)), (.int (0 : Int32)), (.int (0 : Int32)), (.int (0 : Int32))] (.int (0 : Int32)) := by
      have q := P295_8
      rw [own_o1] at q
      exact q
    refine own_go (fun _ k => XS.aload X295.here hx rfl (hb hby at_176) rfl rfl k) ?_
    show own_Run p e below _ T295 (mkF m 178 #[.val (.long q1), .second, .val (.int p2), .val (.int p3), .val (.int p4), .val (.long q5), .second, .val (.int p6), .val (.int (3 : Int32)), .val (.int x9), .val (.long x10), .second, .val (.long x12), .second, .val (.long x14), .second, .val (.ref o16), .val (.long tm), .second, .val (.ref b240), .unset, .unset, .unset] [(.ref b240)])
    obtain ⟨cq298, kq298, q298a, q298b, q298c⟩ := isOf hZ rfl P295_0
    obtain ⟨_, _, ⟨T298, L298, k298, n298⟩, -, X298, ⟨Lc298, hQ298, l298, y298, z298⟩, st298⟩ := X295.virtualBack hx (y := (⟨"com/example/tote/tote/storage/OffsetIndex", "maxTimestamp", "()J"⟩ : MethodName)) (z := (⟨"com/example/tote/tote/storage/OffsetIndex", "maxTimestamp", "()J"⟩ : MethodName)) hown (mvT hZ (W 43 rfl)) (mvT hZ (W 44 rfl)) (notFace_of_selects (args := #[]) (mvT hZ (W 46 rfl))) (mvT hZ (W 46 rfl)) (mvT hZ (W 45 rfl)) (by decide) (backOf (W := 0) (rm7 l Z a0 hw [] b240 (own_max (own_max (own_max (-9223372036854775808 : Int64) q5) (p2.toInt64)) q1) T295.heap n0 Z0_c296 P295_4) hZ (W 47 rfl) (W 4 rfl) (by decide) (by decide)) q298a q298c (g := (mkF m 178 #[.val (.long q1), .second, .val (.int p2), .val (.int p3), .val (.int p4), .val (.long q5), .second, .val (.int p6), .val (.int (3 : Int32)), .val (.int x9), .val (.long x10), .second, .val (.long x12), .second, .val (.long x14), .second, .val (.ref o16), .val (.long tm), .second, .val (.ref b240), .unset, .unset, .unset] [(.ref b240)])) rfl (by rw [hml]; rfl) (Steps.refl _) (argsL := []) (rest := []) (lenOf pd_5 rfl) rfl (by show 2 * 0 + _ ≤ _; exact Nat.le_of_eq rfl) (hb hby at_178) (fun _ _ => ⟨rfl, rfl, (by decide : 5 + 0 ≤ _), (by decide : 58 + 0 ≤ _)⟩)
    dsimp only [Pt.U, Pt.locs, Pt.cells, Pt.slots] at X298 l298 y298 z298 st298 hQ298
    subst l298 y298 z298
    obtain ⟨rfl, N298q, e298⟩ := hQ298
    have N298 := Fr.app N295 N298q
    refine own_goT st298 ?_
    show own_Run p e below _ T298 (mkF m 181 #[.val (.long q1), .second, .val (.int p2), .val (.int p3), .val (.int p4), .val (.long q5), .second, .val (.int p6), .val (.int (3 : Int32)), .val (.int x9), .val (.long x10), .second, .val (.long x12), .second, .val (.long x14), .second, .val (.ref o16), .val (.long tm), .second, .val (.ref b240), .unset, .unset, .unset] [(.long (own_max (own_max (own_max (-9223372036854775808 : Int64) q5) (p2.toInt64)) q1))])
    refine own_go (fun _ k => XS.lstore X298.here hx rfl (hb hby at_181) rfl (l' := #[.val (.long q1), .second, .val (.int p2), .val (.int p3), .val (.int p4), .val (.long q5), .second, .val (.int p6), .val (.int (3 : Int32)), .val (.int x9), .val (.long x10), .second, .val (.long x12), .second, .val (.long x14), .second, .val (.ref o16), .val (.long tm), .second, .val (.ref b240), .val (.long (own_max (own_max (own_max (-9223372036854775808 : Int64) q5) (p2.toInt64)) q1)), .second, .unset]) rfl k) ?_
    refine own_go (fun _ k => XS.aload X298.here hx rfl (hb hby at_183) rfl rfl k) ?_
    refine own_go (fun _ k => XS.lload X298.here hx rfl (hb hby at_185) rfl k) ?_
    show own_Run p e below _ T298 (mkF m 187 #[.val (.long q1), .second, .val (.int p2), .val (.int p3), .val (.int p4), .val (.long q5), .second, .val (.int p6), .val (.int (3 : Int32)), .val (.int x9), .val (.long x10), .second, .val (.long x12), .second, .val (.long x14), .second, .val (.ref o16), .val (.long tm), .second, .val (.ref b240), .val (.long (own_max (own_max (own_max (-9223372036854775808 : Int64) q5) (p2.toInt64)) q1)), .second, .unset] [(.long tm), (.ref b240)])
    rcases own_k3 tm x10 x12 x14 hB1.1 hB2.1 with ⟨hz0, hz1, hz2⟩ | ⟨hz0, hz1, hz2⟩ | ⟨hz0, hz1, hz2⟩ | ⟨hz0, hz1, hz2⟩
    · obtain ⟨cq299, kq299, q299a, q299b, q299c⟩ := isOf hZ e298 P295_0
      obtain ⟨_, _, ⟨T299, L299, k299, n299⟩, -, X299, ⟨Lc299, hQ299, l299, y299, z299⟩, st299⟩ := X298.virtualBack hx (y := (⟨"com/example/tote/tote/storage/OffsetIndex", "cutBack", "(J)V"⟩ : MethodName)) (z := (⟨"com/example/tote/tote/storage/OffsetIndex", "cutBack", "(J)V"⟩ : MethodName)) hown (mvT hZ (W 48 rfl)) (mvT hZ (W 49 rfl)) (notFace_of_selects (args := #[]) (mvT hZ (W 51 rfl))) (mvT hZ (W 51 rfl)) (mvT hZ (W 50 rfl)) (by decide) (backOf (W := 0) (rm8n3 l Z a0 hw [] b240 tm b1_242 b2_242 k2_242 (own_max (own_max (own_max (-9223372036854775808 : Int64) q5) (p2.toInt64)) q1) q1 (x10.toInt32) (x12.toInt32) (x14.toInt32) (0 : Int32) T295.heap n0 Z0_c296 P295_0 P295_1 P295_2 P295_4 P295_5 P295_7 P295_9 g_b240 P242_15 (Or.inl ⟨(by rw [ht0]; exact hz0), (by rw [ht1]; exact hz1), (by rw [ht2]; exact hz2), rfl⟩)) hZ (W 52 rfl) (W 4 rfl) (by decide) (by decide)) q299a q299c (g := (mkF m 187 #[.val (.long q1), .second, .val (.int p2), .val (.int p3), .val (.int p4), .val (.long q5), .second, .val (.int p6), .val (.int (3 : Int32)), .val (.int x9), .val (.long x10), .second, .val (.long x12), .second, .val (.long x14), .second, .val (.ref o16), .val (.long tm), .second, .val (.ref b240), .val (.long (own_max (own_max (own_max (-9223372036854775808 : Int64) q5) (p2.toInt64)) q1)), .second, .unset] [(.long tm), (.ref b240)])) rfl (by rw [hml]; rfl) (Steps.refl _) (argsL := [(.long tm)]) (rest := []) (lenOf pd_6 rfl) rfl (by show 2 * 0 + _ ≤ _; exact Nat.le_of_eq rfl) (hb hby at_187) (fun _ _ => ⟨rfl, e298, (by decide : 5 + 0 ≤ _), (by decide : 58 + 0 ≤ _)⟩)
      dsimp only [Pt.U, Pt.locs, Pt.cells, Pt.slots] at X299 l299 y299 z299 st299 hQ299
      subst l299 y299 z299
      obtain ⟨rfl, N299q, K299, P299_0, P299_1, P299_2, P299_3, P299_4, P299_5⟩ := hQ299
      have N299 := Fr.app N298 N299q
      refine own_goT st299 ?_
      show own_Run p e below _ T299 (mkF m 190 #[.val (.long q1), .second, .val (.int p2), .val (.int p3), .val (.int p4), .val (.long q5), .second, .val (.int p6), .val (.int (3 : Int32)), .val (.int x9), .val (.long x10), .second, .val (.long x12), .second, .val (.long x14), .second, .val (.ref o16), .val (.long tm), .second, .val (.ref b240), .val (.long (own_max (own_max (own_max (-9223372036854775808 : Int64) q5) (p2.toInt64)) q1)), .second, .unset] [])
      have Z0_c300 := Nat.le_trans Z0_c296 K299.1
      have K0_c300 := K0_c296.trans K299 (allS (Or.inr sz_b240) all0)
      have V_o16_c300 := V_o16_c296.keep K299 (ninS ne_o16_b240 nin0)
      have P295_0_c300 := P295_0.keep K299
      have Vo297_c300 := Vo297.keep K299 (ninS (Ne.symm P242_14) nin0)
      have P295_9_c300 := P295_9.keep K299 (ninS (Ne.symm P242_15) nin0)
      have P295_10_c300 := P295_10.keep K299 (ninS (Ne.symm P242_16) nin0)
      refine own_go (fun _ k => XS.iconst X299.here hx rfl (hb hby at_190) k) ?_
      refine own_go (fun _ k => XS.istore X299.here hx rfl (hb hby at_191) rfl (l' := #[.val (.long q1), .second, .val (.int p2), .val (.int p3), .val (.int p4), .val (.long q5), .second, .val (.int p6), .val (.int (3 : Int32)), .val (.int x9), .val (.long x10), .second, .val (.long x12), .second, .val (.long x14), .second, .val (.ref o16), .val (.long tm), .second, .val (.ref b240), .val (.long (own_max (own_max (own_max (-9223372036854775808 : Int64) q5) (p2.toInt64)) q1)), .second, .val (.int (0 : Int32))]) rfl k) ?_
      refine own_go (fun _ k => XS.iload X299.here hx rfl (hb hby at_193) rfl k) ?_
      refine own_go (fun _ k => XS.iconst X299.here hx rfl (hb hby at_195) k) ?_
      show own_Run p e below _ T299 (mkF m 196 #[.val (.long q1), .second, .val (.int p2), .val (.int p3), .val (.int p4), .val (.long q5), .second, .val (.int p6), .val (.int (3 : Int32)), .val (.int x9), .val (.long x10), .second, .val (.long x12), .second, .val (.long x14), .second, .val (.ref o16), .val (.long tm), .second, .val (.ref b240), .val (.long (own_max (own_max (own_max (-9223372036854775808 : Int64) q5) (p2.toInt64)) q1)), .second, .val (.int (0 : Int32))] [(.int (1 : Int32)), (.int (3 : Int32))])
      refine own_go (fun _ k => XS.icmpNo X299.here hx rfl (hb hby at_196) rfl (flt (by decide : ¬ ((3 : Int32) < (1 : Int32)))).1 k) ?_
      show own_Run p e below _ T299 (mkF m 199 #[.val (.long q1), .second, .val (.int p2), .val (.int p3), .val (.int p4), .val (.long q5), .second, .val (.int p6), .val (.int (3 : Int32)), .val (.int x9), .val (.long x10), .second, .val (.long x12), .second, .val (.long x14), .second, .val (.ref o16), .val (.long tm), .second, .val (.ref b240), .val (.long (own_max (own_max (own_max (-9223372036854775808 : Int64) q5) (p2.toInt64)) q1)), .second, .val (.int (0 : Int32))] [])
      refine own_go (fun _ k => XS.lload X299.here hx rfl (hb hby at_199) rfl k) ?_
      refine own_go (fun _ k => XS.lload X299.here hx rfl (hb hby at_201) rfl k) ?_
      refine own_go (fun _ k => XS.lcmp X299.here hx rfl (hb hby at_203) rfl k) ?_
      show own_Run p e below _ T299 (mkF m 204 #[.val (.long q1), .second, .val (.int p2), .val (.int p3), .val (.int p4), .val (.long q5), .second, .val (.int p6), .val (.int (3 : Int32)), .val (.int x9), .val (.long x10), .second, .val (.long x12), .second, .val (.long x14), .second, .val (.ref o16), .val (.long tm), .second, .val (.ref b240), .val (.long (own_max (own_max (own_max (-9223372036854775808 : Int64) q5) (p2.toInt64)) q1)), .second, .val (.int (0 : Int32))] [(.int (lcmpW x10 tm))])
      refine own_go (fun _ k => XS.ifYes X299.here hx rfl (pc0 := 204) (pc' := 210) rfl (hb hby at_204) rfl (own_lcF hz0).2.1 (by decide) (by decide) k) ?_
      show own_Run p e below _ T299 (mkF m 210 #[.val (.long q1), .second, .val (.int p2), .val (.int p3), .val (.int p4), .val (.long q5), .second, .val (.int p6), .val (.int (3 : Int32)), .val (.int x9), .val (.long x10), .second, .val (.long x12), .second, .val (.long x14), .second, .val (.ref o16), .val (.long tm), .second, .val (.ref b240), .val (.long (own_max (own_max (own_max (-9223372036854775808 : Int64) q5) (p2.toInt64)) q1)), .second, .val (.int (0 : Int32))] [])
      refine own_go (fun _ k => XS.iload X299.here hx rfl (hb hby at_210) rfl k) ?_
      refine own_go (fun _ k => XS.iconst X299.here hx rfl (hb hby at_212) k) ?_
      show own_Run p e below _ T299 (mkF m 213 #[.val (.long q1), .second, .val (.int p2), .val (.int p3), .val (.int p4), .val (.long q5), .second, .val (.int p6), .val (.int (3 : Int32)), .val (.int x9), .val (.long x10), .second, .val (.long x12), .second, .val (.long x14), .second, .val (.ref o16), .val (.long tm), .second, .val (.ref b240), .val (.long (own_max (own_max (own_max (-9223372036854775808 : Int64) q5) (p2.toInt64)) q1)), .second, .val (.int (0 : Int32))] [(.int (2 : Int32)), (.int (3 : Int32))])
      refine own_go (fun _ k => XS.icmpNo X299.here hx rfl (hb hby at_213) rfl (flt (by decide : ¬ ((3 : Int32) < (2 : Int32)))).1 k) ?_
      show own_Run p e below _ T299 (mkF m 216 #[.val (.long q1), .second, .val (.int p2), .val (.int p3), .val (.int p4), .val (.long q5), .second, .val (.int p6), .val (.int (3 : Int32)), .val (.int x9), .val (.long x10), .second, .val (.long x12), .second, .val (.long x14), .second, .val (.ref o16), .val (.long tm), .second, .val (.ref b240), .val (.long (own_max (own_max (own_max (-9223372036854775808 : Int64) q5) (p2.toInt64)) q1)), .second, .val (.int (0 : Int32))] [])
      refine own_go (fun _ k => XS.lload X299.here hx rfl (hb hby at_216) rfl k) ?_
      refine own_go (fun _ k => XS.lload X299.here hx rfl (hb hby at_218) rfl k) ?_
      refine own_go (fun _ k => XS.lcmp X299.here hx rfl (hb hby at_220) rfl k) ?_
      show own_Run p e below _ T299 (mkF m 221 #[.val (.long q1), .second, .val (.int p2), .val (.int p3), .val (.int p4), .val (.long q5), .second, .val (.int p6), .val (.int (3 : Int32)), .val (.int x9), .val (.long x10), .second, .val (.long x12), .second, .val (.long x14), .second, .val (.ref o16), .val (.long tm), .second, .val (.ref b240), .val (.long (own_max (own_max (own_max (-9223372036854775808 : Int64) q5) (p2.toInt64)) q1)), .second, .val (.int (0 : Int32))] [(.int (lcmpW x12 tm))])
      refine own_go (fun _ k => XS.ifYes X299.here hx rfl (pc0 := 221) (pc' := 227) rfl (hb hby at_221) rfl (own_lcF hz1).2.1 (by decide) (by decide) k) ?_
      show own_Run p e below _ T299 (mkF m 227 #[.val (.long q1), .second, .val (.int p2), .val (.int p3), .val (.int p4), .val (.long q5), .second, .val (.int p6), .val (.int (3 : Int32)), .val (.int x9), .val (.long x10), .second, .val (.long x12), .second, .val (.long x14), .second, .val (.ref o16), .val (.long tm), .second, .val (.ref b240), .val (.long (own_max (own_max (own_max (-9223372036854775808 : Int64) q5) (p2.toInt64)) q1)), .second, .val (.int (0 : Int32))] [])
      refine own_go (fun _ k => XS.iload X299.here hx rfl (hb hby at_227) rfl k) ?_
      refine own_go (fun _ k => XS.iconst X299.here hx rfl (hb hby at_229) k) ?_
      show own_Run p e below _ T299 (mkF m 230 #[.val (.long q1), .second, .val (.int p2), .val (.int p3), .val (.int p4), .val (.long q5), .second, .val (.int p6), .val (.int (3 : Int32)), .val (.int x9), .val (.long x10), .second, .val (.long x12), .second, .val (.long x14), .second, .val (.ref o16), .val (.long tm), .second, .val (.ref b240), .val (.long (own_max (own_max (own_max (-9223372036854775808 : Int64) q5) (p2.toInt64)) q1)), .second, .val (.int (0 : Int32))] [(.int (3 : Int32)), (.int (3 : Int32))])
      refine own_go (fun _ k => XS.icmpNo X299.here hx rfl (hb hby at_230) rfl (flt (by decide : ¬ ((3 : Int32) < (3 : Int32)))).1 k) ?_
      show own_Run p e below _ T299 (mkF m 233 #[.val (.long q1), .second, .val (.int p2), .val (.int p3), .val (.int p4), .val (.long q5), .second, .val (.int p6), .val (.int (3 : Int32)), .val (.int x9), .val (.long x10), .second, .val (.long x12), .second, .val (.long x14), .second, .val (.ref o16), .val (.long tm), .second, .val (.ref b240), .val (.long (own_max (own_max (own_max (-9223372036854775808 : Int64) q5) (p2.toInt64)) q1)), .second, .val (.int (0 : Int32))] [])
      refine own_go (fun _ k => XS.lload X299.here hx rfl (hb hby at_233) rfl k) ?_
      refine own_go (fun _ k => XS.lload X299.here hx rfl (hb hby at_235) rfl k) ?_
      refine own_go (fun _ k => XS.lcmp X299.here hx rfl (hb hby at_237) rfl k) ?_
      show own_Run p e below _ T299 (mkF m 238 #[.val (.long q1), .second, .val (.int p2), .val (.int p3), .val (.int p4), .val (.long q5), .second, .val (.int p6), .val (.int (3 : Int32)), .val (.int x9), .val (.long x10), .second, .val (.long x12), .second, .val (.long x14), .second, .val (.ref o16), .val (.long tm), .second, .val (.ref b240), .val (.long (own_max (own_max (own_max (-9223372036854775808 : Int64) q5) (p2.toInt64)) q1)), .second, .val (.int (0 : Int32))] [(.int (lcmpW x14 tm))])
      refine own_go (fun _ k => XS.ifYes X299.here hx rfl (pc0 := 238) (pc' := 244) rfl (hb hby at_238) rfl (own_lcF hz2).2.1 (by decide) (by decide) k) ?_
      show own_Run p e below _ T299 (mkF m 244 #[.val (.long q1), .second, .val (.int p2), .val (.int p3), .val (.int p4), .val (.long q5), .second, .val (.int p6), .val (.int (3 : Int32)), .val (.int x9), .val (.long x10), .second, .val (.long x12), .second, .val (.long x14), .second, .val (.ref o16), .val (.long tm), .second, .val (.ref b240), .val (.long (own_max (own_max (own_max (-9223372036854775808 : Int64) q5) (p2.toInt64)) q1)), .second, .val (.int (0 : Int32))] [])
      refine own_go (fun _ k => XS.aload X299.here hx rfl (hb hby at_244) rfl rfl k) ?_
      show own_Run p e below _ T299 (mkF m 246 #[.val (.long q1), .second, .val (.int p2), .val (.int p3), .val (.int p4), .val (.long q5), .second, .val (.int p6), .val (.int (3 : Int32)), .val (.int x9), .val (.long x10), .second, .val (.long x12), .second, .val (.long x14), .second, .val (.ref o16), .val (.long tm), .second, .val (.ref b240), .val (.long (own_max (own_max (own_max (-9223372036854775808 : Int64) q5) (p2.toInt64)) q1)), .second, .val (.int (0 : Int32))] [(.ref b240)])
      obtain ⟨cq301, kq301, q301a, q301b, q301c⟩ := isOf hZ rfl P299_0
      obtain ⟨_, _, ⟨T301, L301, k301, n301⟩, -, X301, ⟨Lc301, hQ301, l301, y301, z301⟩, st301⟩ := X299.virtualBack hx (y := (⟨"com/example/tote/tote/storage/OffsetIndex", "count", "()I"⟩ : MethodName)) (z := (⟨"com/example/tote/tote/storage/OffsetIndex", "count", "()I"⟩ : MethodName)) hown (mvT hZ (W 53 rfl)) (mvT hZ (W 54 rfl)) (notFace_of_selects (args := #[]) (mvT hZ (W 56 rfl))) (mvT hZ (W 56 rfl)) (mvT hZ (W 55 rfl)) (by decide) (backOf (W := 0) (rm9 l Z a0 hw [] b240 (0 : Int32) T299.heap n0 Z0_c300 P299_5) hZ (W 57 rfl) (W 4 rfl) (by decide) (by decide)) q301a q301c (g := (mkF m 246 #[.val (.long q1), .second, .val (.int p2), .val (.int p3), .val (.int p4), .val (.long q5), .second, .val (.int p6), .val (.int (3 : Int32)), .val (.int x9), .val (.long x10), .second, .val (.long x12), .second, .val (.long x14), .second, .val (.ref o16), .val (.long tm), .second, .val (.ref b240), .val (.long (own_max (own_max (own_max (-9223372036854775808 : Int64) q5) (p2.toInt64)) q1)), .second, .val (.int (0 : Int32))] [(.ref b240)])) rfl (by rw [hml]; rfl) (Steps.refl _) (argsL := []) (rest := []) (lenOf pd_7 rfl) rfl (by show 2 * 0 + _ ≤ _; exact Nat.le_of_eq rfl) (hb hby at_246) (fun _ _ => ⟨rfl, rfl, (by decide : 5 + 0 ≤ _), (by decide : 58 + 0 ≤ _)⟩)
      dsimp only [Pt.U, Pt.locs, Pt.cells, Pt.slots] at X301 l301 y301 z301 st301 hQ301
      subst l301 y301 z301
      obtain ⟨rfl, N301q, e301⟩ := hQ301
      have N301 := Fr.app N299 N301q
      refine own_goT st301 ?_
      show own_Run p e below _ T301 (mkF m 249 #[.val (.long q1), .second, .val (.int p2), .val (.int p3), .val (.int p4), .val (.long q5), .second, .val (.int p6), .val (.int (3 : Int32)), .val (.int x9), .val (.long x10), .second, .val (.long x12), .second, .val (.long x14), .second, .val (.ref o16), .val (.long tm), .second, .val (.ref b240), .val (.long (own_max (own_max (own_max (-9223372036854775808 : Int64) q5) (p2.toInt64)) q1)), .second, .val (.int (0 : Int32))] [(.int (0 : Int32))])
      refine own_go (fun _ k => XS.iload X301.here hx rfl (hb hby at_249) rfl k) ?_
      show own_Run p e below _ T301 (mkF m 251 #[.val (.long q1), .second, .val (.int p2), .val (.int p3), .val (.int p4), .val (.long q5), .second, .val (.int p6), .val (.int (3 : Int32)), .val (.int x9), .val (.long x10), .second, .val (.long x12), .second, .val (.long x14), .second, .val (.ref o16), .val (.long tm), .second, .val (.ref b240), .val (.long (own_max (own_max (own_max (-9223372036854775808 : Int64) q5) (p2.toInt64)) q1)), .second, .val (.int (0 : Int32))] [(.int (0 : Int32)), (.int (0 : Int32))])
      refine own_go (fun _ k => XS.icmpYes X301.here hx rfl (pc0 := 251) (pc' := 256) rfl (hb hby at_251) rfl (teq (by decide : (0 : Int32) = (0 : Int32))).1 (by decide) (by decide) k) ?_
      show own_Run p e below _ T301 (mkF m 256 #[.val (.long q1), .second, .val (.int p2), .val (.int p3), .val (.int p4), .val (.long q5), .second, .val (.int p6), .val (.int (3 : Int32)), .val (.int x9), .val (.long x10), .second, .val (.long x12), .second, .val (.long x14), .second, .val (.ref o16), .val (.long tm), .second, .val (.ref b240), .val (.long (own_max (own_max (own_max (-9223372036854775808 : Int64) q5) (p2.toInt64)) q1)), .second, .val (.int (0 : Int32))] [])
      refine own_go (fun _ k => XS.aload X301.here hx rfl (hb hby at_256) rfl rfl k) ?_
      show own_Run p e below _ T301 (mkF m 258 #[.val (.long q1), .second, .val (.int p2), .val (.int p3), .val (.int p4), .val (.long q5), .second, .val (.int p6), .val (.int (3 : Int32)), .val (.int x9), .val (.long x10), .second, .val (.long x12), .second, .val (.long x14), .second, .val (.ref o16), .val (.long tm), .second, .val (.ref b240), .val (.long (own_max (own_max (own_max (-9223372036854775808 : Int64) q5) (p2.toInt64)) q1)), .second, .val (.int (0 : Int32))] [(.ref b240)])
      obtain ⟨cq302, kq302, q302a, q302b, q302c⟩ := isOf hZ e301 P299_0
      obtain ⟨_, _, ⟨T302, L302, k302, n302⟩, -, X302, ⟨Lc302, hQ302, l302, y302, z302⟩, st302⟩ := X301.virtualBack hx (y := (⟨"com/example/tote/tote/storage/OffsetIndex", "maxTimestamp", "()J"⟩ : MethodName)) (z := (⟨"com/example/tote/tote/storage/OffsetIndex", "maxTimestamp", "()J"⟩ : MethodName)) hown (mvT hZ (W 43 rfl)) (mvT hZ (W 44 rfl)) (notFace_of_selects (args := #[]) (mvT hZ (W 46 rfl))) (mvT hZ (W 46 rfl)) (mvT hZ (W 45 rfl)) (by decide) (backOf (W := 0) (rm7 l Z a0 hw [] b240 (own_max (own_max (own_max (-9223372036854775808 : Int64) q5) (p2.toInt64)) q1) T299.heap n0 Z0_c300 P299_3) hZ (W 47 rfl) (W 4 rfl) (by decide) (by decide)) q302a q302c (g := (mkF m 258 #[.val (.long q1), .second, .val (.int p2), .val (.int p3), .val (.int p4), .val (.long q5), .second, .val (.int p6), .val (.int (3 : Int32)), .val (.int x9), .val (.long x10), .second, .val (.long x12), .second, .val (.long x14), .second, .val (.ref o16), .val (.long tm), .second, .val (.ref b240), .val (.long (own_max (own_max (own_max (-9223372036854775808 : Int64) q5) (p2.toInt64)) q1)), .second, .val (.int (0 : Int32))] [(.ref b240)])) rfl (by rw [hml]; rfl) (Steps.refl _) (argsL := []) (rest := []) (lenOf pd_5 rfl) rfl (by show 2 * 0 + _ ≤ _; exact Nat.le_of_eq rfl) (hb hby at_258) (fun _ _ => ⟨rfl, e301, (by decide : 5 + 0 ≤ _), (by decide : 58 + 0 ≤ _)⟩)
      dsimp only [Pt.U, Pt.locs, Pt.cells, Pt.slots] at X302 l302 y302 z302 st302 hQ302
      subst l302 y302 z302
      obtain ⟨rfl, N302q, e302⟩ := hQ302
      have N302 := Fr.app N301 N302q
      refine own_goT st302 ?_
      show own_Run p e below _ T302 (mkF m 261 #[.val (.long q1), .second, .val (.int p2), .val (.int p3), .val (.int p4), .val (.long q5), .second, .val (.int p6), .val (.int (3 : Int32)), .val (.int x9), .val (.long x10), .second, .val (.long x12), .second, .val (.long x14), .second, .val (.ref o16), .val (.long tm), .second, .val (.ref b240), .val (.long (own_max (own_max (own_max (-9223372036854775808 : Int64) q5) (p2.toInt64)) q1)), .second, .val (.int (0 : Int32))] [(.long (own_max (own_max (own_max (-9223372036854775808 : Int64) q5) (p2.toInt64)) q1))])
      refine own_go (fun _ k => XS.lload X302.here hx rfl (hb hby at_261) rfl k) ?_
      refine own_go (fun _ k => XS.lcmp X302.here hx rfl (hb hby at_263) rfl k) ?_
      show own_Run p e below _ T302 (mkF m 264 #[.val (.long q1), .second, .val (.int p2), .val (.int p3), .val (.int p4), .val (.long q5), .second, .val (.int p6), .val (.int (3 : Int32)), .val (.int x9), .val (.long x10), .second, .val (.long x12), .second, .val (.long x14), .second, .val (.ref o16), .val (.long tm), .second, .val (.ref b240), .val (.long (own_max (own_max (own_max (-9223372036854775808 : Int64) q5) (p2.toInt64)) q1)), .second, .val (.int (0 : Int32))] [(.int (lcmpW (own_max (own_max (own_max (-9223372036854775808 : Int64) q5) (p2.toInt64)) q1) (own_max (own_max (own_max (-9223372036854775808 : Int64) q5) (p2.toInt64)) q1)))])
      refine own_go (fun _ k => XS.ifYes X302.here hx rfl (pc0 := 264) (pc' := 269) rfl (hb hby at_264) rfl (own_lcTe rfl).1 (by decide) (by decide) k) ?_
      show own_Run p e below _ T302 (mkF m 269 #[.val (.long q1), .second, .val (.int p2), .val (.int p3), .val (.int p4), .val (.long q5), .second, .val (.int p6), .val (.int (3 : Int32)), .val (.int x9), .val (.long x10), .second, .val (.long x12), .second, .val (.long x14), .second, .val (.ref o16), .val (.long tm), .second, .val (.ref b240), .val (.long (own_max (own_max (own_max (-9223372036854775808 : Int64) q5) (p2.toInt64)) q1)), .second, .val (.int (0 : Int32))] [])
      refine own_go (fun _ k => XS.iload X302.here hx rfl (hb hby at_269) rfl k) ?_
      show own_Run p e below _ T302 (mkF m 271 #[.val (.long q1), .second, .val (.int p2), .val (.int p3), .val (.int p4), .val (.long q5), .second, .val (.int p6), .val (.int (3 : Int32)), .val (.int x9), .val (.long x10), .second, .val (.long x12), .second, .val (.long x14), .second, .val (.ref o16), .val (.long tm), .second, .val (.ref b240), .val (.long (own_max (own_max (own_max (-9223372036854775808 : Int64) q5) (p2.toInt64)) q1)), .second, .val (.int (0 : Int32))] [(.int (0 : Int32))])
      refine own_go (fun _ k => XS.ifYes X302.here hx rfl (pc0 := 271) (pc' := 318) rfl (hb hby at_271) rfl ((if0 _ _).trans (flt (by decide : ¬ ((0 : Int32) < (0 : Int32)))).2.2.2) (by decide) (by decide) k) ?_
      show own_Run p e below _ T302 (mkF m 318 #[.val (.long q1), .second, .val (.int p2), .val (.int p3), .val (.int p4), .val (.long q5), .second, .val (.int p6), .val (.int (3 : Int32)), .val (.int x9), .val (.long x10), .second, .val (.long x12), .second, .val (.long x14), .second, .val (.ref o16), .val (.long tm), .second, .val (.ref b240), .val (.long (own_max (own_max (own_max (-9223372036854775808 : Int64) q5) (p2.toInt64)) q1)), .second, .val (.int (0 : Int32))] [])
      refine own_go (fun _ k => XS.iconst X302.here hx rfl (hb hby at_318) k) ?_
      show own_Run p e below _ T302 (mkF m 319 #[.val (.long q1), .second, .val (.int p2), .val (.int p3), .val (.int p4), .val (.long q5), .second, .val (.int p6), .val (.int (3 : Int32)), .val (.int x9), .val (.long x10), .second, .val (.long x12), .second, .val (.long x14), .second, .val (.ref o16), .val (.long tm), .second, .val (.ref b240), .val (.long (own_max (own_max (own_max (-9223372036854775808 : Int64) q5) (p2.toInt64)) q1)), .second, .val (.int (0 : Int32))] [(.int (1 : Int32))])
      refine own_done (Q := fun v h L => Q0 Z q1 p2 p3 p4 q5 p6 h0 n0 v h L) (v := (some (.int (1 : Int32)))) X302 (fun h => by rw [hret] at h; cases h) hlk (fun fs hr => retN X302 hx (t := .boolean) hret (by simp) (hb hby at_319) hr) ?_ (by decide) (by decide)
      show Q0 Z q1 p2 p3 p4 q5 p6 h0 n0 _ T302.heap _
      rw [e302]
      exact ⟨rfl, N302⟩
    · obtain ⟨cq303, kq303, q303a, q303b, q303c⟩ := isOf hZ e298 P295_0
      obtain ⟨_, _, ⟨T303, L303, k303, n303⟩, -, X303, ⟨Lc303, hQ303, l303, y303, z303⟩, st303⟩ := X298.virtualBack hx (y := (⟨"com/example/tote/tote/storage/OffsetIndex", "cutBack", "(J)V"⟩ : MethodName)) (z := (⟨"com/example/tote/tote/storage/OffsetIndex", "cutBack", "(J)V"⟩ : MethodName)) hown (mvT hZ (W 48 rfl)) (mvT hZ (W 49 rfl)) (notFace_of_selects (args := #[]) (mvT hZ (W 51 rfl))) (mvT hZ (W 51 rfl)) (mvT hZ (W 50 rfl)) (by decide) (backOf (W := 0) (rm8n3 l Z a0 hw [] b240 tm b1_242 b2_242 k2_242 (own_max (own_max (own_max (-9223372036854775808 : Int64) q5) (p2.toInt64)) q1) q1 (x10.toInt32) (x12.toInt32) (x14.toInt32) (1 : Int32) T295.heap n0 Z0_c296 P295_0 P295_1 P295_2 P295_4 P295_5 P295_7 P295_9 g_b240 P242_15 (Or.inr (Or.inl ⟨(by rw [ht0]; exact hz0), (by rw [ht1]; exact hz1), (by rw [ht2]; exact hz2), rfl⟩))) hZ (W 52 rfl) (W 4 rfl) (by decide) (by decide)) q303a q303c (g := (mkF m 187 #[.val (.long q1), .second, .val (.int p2), .val (.int p3), .val (.int p4), .val (.long q5), .second, .val (.int p6), .val (.int (3 : Int32)), .val (.int x9), .val (.long x10), .second, .val (.long x12), .second, .val (.long x14), .second, .val (.ref o16), .val (.long tm), .second, .val (.ref b240), .val (.long (own_max (own_max (own_max (-9223372036854775808 : Int64) q5) (p2.toInt64)) q1)), .second, .unset] [(.long tm), (.ref b240)])) rfl (by rw [hml]; rfl) (Steps.refl _) (argsL := [(.long tm)]) (rest := []) (lenOf pd_6 rfl) rfl (by show 2 * 0 + _ ≤ _; exact Nat.le_of_eq rfl) (hb hby at_187) (fun _ _ => ⟨rfl, e298, (by decide : 5 + 0 ≤ _), (by decide : 58 + 0 ≤ _)⟩)
      dsimp only [Pt.U, Pt.locs, Pt.cells, Pt.slots] at X303 l303 y303 z303 st303 hQ303
      subst l303 y303 z303
      obtain ⟨rfl, N303q, K303, P303_0, P303_1, P303_2, P303_3, P303_4, P303_5⟩ := hQ303
      have N303 := Fr.app N298 N303q
      refine own_goT st303 ?_
      show own_Run p e below _ T303 (mkF m 190 #[.val (.long q1), .second, .val (.int p2), .val (.int p3), .val (.int p4), .val (.long q5), .second, .val (.int p6), .val (.int (3 : Int32)), .val (.int x9), .val (.long x10), .second, .val (.long x12), .second, .val (.long x14), .second, .val (.ref o16), .val (.long tm), .second, .val (.ref b240), .val (.long (own_max (own_max (own_max (-9223372036854775808 : Int64) q5) (p2.toInt64)) q1)), .second, .unset] [])
      have Z0_c304 := Nat.le_trans Z0_c296 K303.1
      have K0_c304 := K0_c296.trans K303 (allS (Or.inr sz_b240) all0)
      have V_o16_c304 := V_o16_c296.keep K303 (ninS ne_o16_b240 nin0)
      have P295_0_c304 := P295_0.keep K303
      have Vo297_c304 := Vo297.keep K303 (ninS (Ne.symm P242_14) nin0)
      have P295_9_c304 := P295_9.keep K303 (ninS (Ne.symm P242_15) nin0)
      have P295_10_c304 := P295_10.keep K303 (ninS (Ne.symm P242_16) nin0)
      refine own_go (fun _ k => XS.iconst X303.here hx rfl (hb hby at_190) k) ?_
      refine own_go (fun _ k => XS.istore X303.here hx rfl (hb hby at_191) rfl (l' := #[.val (.long q1), .second, .val (.int p2), .val (.int p3), .val (.int p4), .val (.long q5), .second, .val (.int p6), .val (.int (3 : Int32)), .val (.int x9), .val (.long x10), .second, .val (.long x12), .second, .val (.long x14), .second, .val (.ref o16), .val (.long tm), .second, .val (.ref b240), .val (.long (own_max (own_max (own_max (-9223372036854775808 : Int64) q5) (p2.toInt64)) q1)), .second, .val (.int (0 : Int32))]) rfl k) ?_
      refine own_go (fun _ k => XS.iload X303.here hx rfl (hb hby at_193) rfl k) ?_
      refine own_go (fun _ k => XS.iconst X303.here hx rfl (hb hby at_195) k) ?_
      show own_Run p e below _ T303 (mkF m 196 #[.val (.long q1), .second, .val (.int p2), .val (.int p3), .val (.int p4), .val (.long q5), .second, .val (.int p6), .val (.int (3 : Int32)), .val (.int x9), .val (.long x10), .second, .val (.long x12), .second, .val (.long x14), .second, .val (.ref o16), .val (.long tm), .second, .val (.ref b240), .val (.long (own_max (own_max (own_max (-9223372036854775808 : Int64) q5) (p2.toInt64)) q1)), .second, .val (.int (0 : Int32))] [(.int (1 : Int32)), (.int (3 : Int32))])
      refine own_go (fun _ k => XS.icmpNo X303.here hx rfl (hb hby at_196) rfl (flt (by decide : ¬ ((3 : Int32) < (1 : Int32)))).1 k) ?_
      show own_Run p e below _ T303 (mkF m 199 #[.val (.long q1), .second, .val (.int p2), .val (.int p3), .val (.int p4), .val (.long q5), .second, .val (.int p6), .val (.int (3 : Int32)), .val (.int x9), .val (.long x10), .second, .val (.long x12), .second, .val (.long x14), .second, .val (.ref o16), .val (.long tm), .second, .val (.ref b240), .val (.long (own_max (own_max (own_max (-9223372036854775808 : Int64) q5) (p2.toInt64)) q1)), .second, .val (.int (0 : Int32))] [])
      refine own_go (fun _ k => XS.lload X303.here hx rfl (hb hby at_199) rfl k) ?_
      refine own_go (fun _ k => XS.lload X303.here hx rfl (hb hby at_201) rfl k) ?_
      refine own_go (fun _ k => XS.lcmp X303.here hx rfl (hb hby at_203) rfl k) ?_
      show own_Run p e below _ T303 (mkF m 204 #[.val (.long q1), .second, .val (.int p2), .val (.int p3), .val (.int p4), .val (.long q5), .second, .val (.int p6), .val (.int (3 : Int32)), .val (.int x9), .val (.long x10), .second, .val (.long x12), .second, .val (.long x14), .second, .val (.ref o16), .val (.long tm), .second, .val (.ref b240), .val (.long (own_max (own_max (own_max (-9223372036854775808 : Int64) q5) (p2.toInt64)) q1)), .second, .val (.int (0 : Int32))] [(.int (lcmpW x10 tm))])
      refine own_go (fun _ k => XS.ifNo X303.here hx rfl (hb hby at_204) rfl (own_lcT hz0).2.1 k) ?_
      show own_Run p e below _ T303 (mkF m 207 #[.val (.long q1), .second, .val (.int p2), .val (.int p3), .val (.int p4), .val (.long q5), .second, .val (.int p6), .val (.int (3 : Int32)), .val (.int x9), .val (.long x10), .second, .val (.long x12), .second, .val (.long x14), .second, .val (.ref o16), .val (.long tm), .second, .val (.ref b240), .val (.long (own_max (own_max (own_max (-9223372036854775808 : Int64) q5) (p2.toInt64)) q1)), .second, .val (.int (0 : Int32))] [])
      refine own_go (fun _ k => XS.iconst X303.here hx rfl (hb hby at_207) k) ?_
      refine own_go (fun _ k => XS.istore X303.here hx rfl (hb hby at_208) rfl (l' := #[.val (.long q1), .second, .val (.int p2), .val (.int p3), .val (.int p4), .val (.long q5), .second, .val (.int p6), .val (.int (3 : Int32)), .val (.int x9), .val (.long x10), .second, .val (.long x12), .second, .val (.long x14), .second, .val (.ref o16), .val (.long tm), .second, .val (.ref b240), .val (.long (own_max (own_max (own_max (-9223372036854775808 : Int64) q5) (p2.toInt64)) q1)), .second, .val (.int (1 : Int32))]) rfl k) ?_
      refine own_go (fun _ k => XS.iload X303.here hx rfl (hb hby at_210) rfl k) ?_
      refine own_go (fun _ k => XS.iconst X303.here hx rfl (hb hby at_212) k) ?_
      show own_Run p e below _ T303 (mkF m 213 #[.val (.long q1), .second, .val (.int p2), .val (.int p3), .val (.int p4), .val (.long q5), .second, .val (.int p6), .val (.int (3 : Int32)), .val (.int x9), .val (.long x10), .second, .val (.long x12), .second, .val (.long x14), .second, .val (.ref o16), .val (.long tm), .second, .val (.ref b240), .val (.long (own_max (own_max (own_max (-9223372036854775808 : Int64) q5) (p2.toInt64)) q1)), .second, .val (.int (1 : Int32))] [(.int (2 : Int32)), (.int (3 : Int32))])
      refine own_go (fun _ k => XS.icmpNo X303.here hx rfl (hb hby at_213) rfl (flt (by decide : ¬ ((3 : Int32) < (2 : Int32)))).1 k) ?_
      show own_Run p e below _ T303 (mkF m 216 #[.val (.long q1), .second, .val (.int p2), .val (.int p3), .val (.int p4), .val (.long q5), .second, .val (.int p6), .val (.int (3 : Int32)), .val (.int x9), .val (.long x10), .second, .val (.long x12), .second, .val (.long x14), .second, .val (.ref o16), .val (.long tm), .second, .val (.ref b240), .val (.long (own_max (own_max (own_max (-9223372036854775808 : Int64) q5) (p2.toInt64)) q1)), .second, .val (.int (1 : Int32))] [])
      refine own_go (fun _ k => XS.lload X303.here hx rfl (hb hby at_216) rfl k) ?_
      refine own_go (fun _ k => XS.lload X303.here hx rfl (hb hby at_218) rfl k) ?_
      refine own_go (fun _ k => XS.lcmp X303.here hx rfl (hb hby at_220) rfl k) ?_
      show own_Run p e below _ T303 (mkF m 221 #[.val (.long q1), .second, .val (.int p2), .val (.int p3), .val (.int p4), .val (.long q5), .second, .val (.int p6), .val (.int (3 : Int32)), .val (.int x9), .val (.long x10), .second, .val (.long x12), .second, .val (.long x14), .second, .val (.ref o16), .val (.long tm), .second, .val (.ref b240), .val (.long (own_max (own_max (own_max (-9223372036854775808 : Int64) q5) (p2.toInt64)) q1)), .second, .val (.int (1 : Int32))] [(.int (lcmpW x12 tm))])
      refine own_go (fun _ k => XS.ifYes X303.here hx rfl (pc0 := 221) (pc' := 227) rfl (hb hby at_221) rfl (own_lcF hz1).2.1 (by decide) (by decide) k) ?_
      show own_Run p e below _ T303 (mkF m 227 #[.val (.long q1), .second, .val (.int p2), .val (.int p3), .val (.int p4), .val (.long q5), .second, .val (.int p6), .val (.int (3 : Int32)), .val (.int x9), .val (.long x10), .second, .val (.long x12), .second, .val (.long x14), .second, .val (.ref o16), .val (.long tm), .second, .val (.ref b240), .val (.long (own_max (own_max (own_max (-9223372036854775808 : Int64) q5) (p2.toInt64)) q1)), .second, .val (.int (1 : Int32))] [])
      refine own_go (fun _ k => XS.iload X303.here hx rfl (hb hby at_227) rfl k) ?_
      refine own_go (fun _ k => XS.iconst X303.here hx rfl (hb hby at_229) k) ?_
      show own_Run p e below _ T303 (mkF m 230 #[.val (.long q1), .second, .val (.int p2), .val (.int p3), .val (.int p4), .val (.long q5), .second, .val (.int p6), .val (.int (3 : Int32)), .val (.int x9), .val (.long x10), .second, .val (.long x12), .second, .val (.long x14), .second, .val (.ref o16), .val (.long tm), .second, .val (.ref b240), .val (.long (own_max (own_max (own_max (-9223372036854775808 : Int64) q5) (p2.toInt64)) q1)), .second, .val (.int (1 : Int32))] [(.int (3 : Int32)), (.int (3 : Int32))])
      refine own_go (fun _ k => XS.icmpNo X303.here hx rfl (hb hby at_230) rfl (flt (by decide : ¬ ((3 : Int32) < (3 : Int32)))).1 k) ?_
      show own_Run p e below _ T303 (mkF m 233 #[.val (.long q1), .second, .val (.int p2), .val (.int p3), .val (.int p4), .val (.long q5), .second, .val (.int p6), .val (.int (3 : Int32)), .val (.int x9), .val (.long x10), .second, .val (.long x12), .second, .val (.long x14), .second, .val (.ref o16), .val (.long tm), .second, .val (.ref b240), .val (.long (own_max (own_max (own_max (-9223372036854775808 : Int64) q5) (p2.toInt64)) q1)), .second, .val (.int (1 : Int32))] [])
      refine own_go (fun _ k => XS.lload X303.here hx rfl (hb hby at_233) rfl k) ?_
      refine own_go (fun _ k => XS.lload X303.here hx rfl (hb hby at_235) rfl k) ?_
      refine own_go (fun _ k => XS.lcmp X303.here hx rfl (hb hby at_237) rfl k) ?_
      show own_Run p e below _ T303 (mkF m 238 #[.val (.long q1), .second, .val (.int p2), .val (.int p3), .val (.int p4), .val (.long q5), .second, .val (.int p6), .val (.int (3 : Int32)), .val (.int x9), .val (.long x10), .second, .val (.long x12), .second, .val (.long x14), .second, .val (.ref o16), .val (.long tm), .second, .val (.ref b240), .val (.long (own_max (own_max (own_max (-9223372036854775808 : Int64) q5) (p2.toInt64)) q1)), .second, .val (.int (1 : Int32))] [(.int (lcmpW x14 tm))])
      refine own_go (fun _ k => XS.ifYes X303.here hx rfl (pc0 := 238) (pc' := 244) rfl (hb hby at_238) rfl (own_lcF hz2).2.1 (by decide) (by decide) k) ?_
      show own_Run p e below _ T303 (mkF m 244 #[.val (.long q1), .second, .val (.int p2), .val (.int p3), .val (.int p4), .val (.long q5), .second, .val (.int p6), .val (.int (3 : Int32)), .val (.int x9), .val (.long x10), .second, .val (.long x12), .second, .val (.long x14), .second, .val (.ref o16), .val (.long tm), .second, .val (.ref b240), .val (.long (own_max (own_max (own_max (-9223372036854775808 : Int64) q5) (p2.toInt64)) q1)), .second, .val (.int (1 : Int32))] [])
      refine own_go (fun _ k => XS.aload X303.here hx rfl (hb hby at_244) rfl rfl k) ?_
      show own_Run p e below _ T303 (mkF m 246 #[.val (.long q1), .second, .val (.int p2), .val (.int p3), .val (.int p4), .val (.long q5), .second, .val (.int p6), .val (.int (3 : Int32)), .val (.int x9), .val (.long x10), .second, .val (.long x12), .second, .val (.long x14), .second, .val (.ref o16), .val (.long tm), .second, .val (.ref b240), .val (.long (own_max (own_max (own_max (-9223372036854775808 : Int64) q5) (p2.toInt64)) q1)), .second, .val (.int (1 : Int32))] [(.ref b240)])
      obtain ⟨cq305, kq305, q305a, q305b, q305c⟩ := isOf hZ rfl P303_0
      obtain ⟨_, _, ⟨T305, L305, k305, n305⟩, -, X305, ⟨Lc305, hQ305, l305, y305, z305⟩, st305⟩ := X303.virtualBack hx (y := (⟨"com/example/tote/tote/storage/OffsetIndex", "count", "()I"⟩ : MethodName)) (z := (⟨"com/example/tote/tote/storage/OffsetIndex", "count", "()I"⟩ : MethodName)) hown (mvT hZ (W 53 rfl)) (mvT hZ (W 54 rfl)) (notFace_of_selects (args := #[]) (mvT hZ (W 56 rfl))) (mvT hZ (W 56 rfl)) (mvT hZ (W 55 rfl)) (by decide) (backOf (W := 0) (rm9 l Z a0 hw [] b240 (1 : Int32) T303.heap n0 Z0_c304 P303_5) hZ (W 57 rfl) (W 4 rfl) (by decide) (by decide)) q305a q305c (g := (mkF m 246 #[.val (.long q1), .second, .val (.int p2), .val (.int p3), .val (.int p4), .val (.long q5), .second, .val (.int p6), .val (.int (3 : Int32)), .val (.int x9), .val (.long x10), .second, .val (.long x12), .second, .val (.long x14), .second, .val (.ref o16), .val (.long tm), .second, .val (.ref b240), .val (.long (own_max (own_max (own_max (-9223372036854775808 : Int64) q5) (p2.toInt64)) q1)), .second, .val (.int (1 : Int32))] [(.ref b240)])) rfl (by rw [hml]; rfl) (Steps.refl _) (argsL := []) (rest := []) (lenOf pd_7 rfl) rfl (by show 2 * 0 + _ ≤ _; exact Nat.le_of_eq rfl) (hb hby at_246) (fun _ _ => ⟨rfl, rfl, (by decide : 5 + 0 ≤ _), (by decide : 58 + 0 ≤ _)⟩)
      dsimp only [Pt.U, Pt.locs, Pt.cells, Pt.slots] at X305 l305 y305 z305 st305 hQ305
      subst l305 y305 z305
      obtain ⟨rfl, N305q, e305⟩ := hQ305
      have N305 := Fr.app N303 N305q
      refine own_goT st305 ?_
      show own_Run p e below _ T305 (mkF m 249 #[.val (.long q1), .second, .val (.int p2), .val (.int p3), .val (.int p4), .val (.long q5), .second, .val (.int p6), .val (.int (3 : Int32)), .val (.int x9), .val (.long x10), .second, .val (.long x12), .second, .val (.long x14), .second, .val (.ref o16), .val (.long tm), .second, .val (.ref b240), .val (.long (own_max (own_max (own_max (-9223372036854775808 : Int64) q5) (p2.toInt64)) q1)), .second, .val (.int (1 : Int32))] [(.int (1 : Int32))])
      refine own_go (fun _ k => XS.iload X305.here hx rfl (hb hby at_249) rfl k) ?_
      show own_Run p e below _ T305 (mkF m 251 #[.val (.long q1), .second, .val (.int p2), .val (.int p3), .val (.int p4), .val (.long q5), .second, .val (.int p6), .val (.int (3 : Int32)), .val (.int x9), .val (.long x10), .second, .val (.long x12), .second, .val (.long x14), .second, .val (.ref o16), .val (.long tm), .second, .val (.ref b240), .val (.long (own_max (own_max (own_max (-9223372036854775808 : Int64) q5) (p2.toInt64)) q1)), .second, .val (.int (1 : Int32))] [(.int (1 : Int32)), (.int (1 : Int32))])
      refine own_go (fun _ k => XS.icmpYes X305.here hx rfl (pc0 := 251) (pc' := 256) rfl (hb hby at_251) rfl (teq (by decide : (1 : Int32) = (1 : Int32))).1 (by decide) (by decide) k) ?_
      show own_Run p e below _ T305 (mkF m 256 #[.val (.long q1), .second, .val (.int p2), .val (.int p3), .val (.int p4), .val (.long q5), .second, .val (.int p6), .val (.int (3 : Int32)), .val (.int x9), .val (.long x10), .second, .val (.long x12), .second, .val (.long x14), .second, .val (.ref o16), .val (.long tm), .second, .val (.ref b240), .val (.long (own_max (own_max (own_max (-9223372036854775808 : Int64) q5) (p2.toInt64)) q1)), .second, .val (.int (1 : Int32))] [])
      refine own_go (fun _ k => XS.aload X305.here hx rfl (hb hby at_256) rfl rfl k) ?_
      show own_Run p e below _ T305 (mkF m 258 #[.val (.long q1), .second, .val (.int p2), .val (.int p3), .val (.int p4), .val (.long q5), .second, .val (.int p6), .val (.int (3 : Int32)), .val (.int x9), .val (.long x10), .second, .val (.long x12), .second, .val (.long x14), .second, .val (.ref o16), .val (.long tm), .second, .val (.ref b240), .val (.long (own_max (own_max (own_max (-9223372036854775808 : Int64) q5) (p2.toInt64)) q1)), .second, .val (.int (1 : Int32))] [(.ref b240)])
      obtain ⟨cq306, kq306, q306a, q306b, q306c⟩ := isOf hZ e305 P303_0
      obtain ⟨_, _, ⟨T306, L306, k306, n306⟩, -, X306, ⟨Lc306, hQ306, l306, y306, z306⟩, st306⟩ := X305.virtualBack hx (y := (⟨"com/example/tote/tote/storage/OffsetIndex", "maxTimestamp", "()J"⟩ : MethodName)) (z := (⟨"com/example/tote/tote/storage/OffsetIndex", "maxTimestamp", "()J"⟩ : MethodName)) hown (mvT hZ (W 43 rfl)) (mvT hZ (W 44 rfl)) (notFace_of_selects (args := #[]) (mvT hZ (W 46 rfl))) (mvT hZ (W 46 rfl)) (mvT hZ (W 45 rfl)) (by decide) (backOf (W := 0) (rm7 l Z a0 hw [] b240 (own_max (own_max (own_max (-9223372036854775808 : Int64) q5) (p2.toInt64)) q1) T303.heap n0 Z0_c304 P303_3) hZ (W 47 rfl) (W 4 rfl) (by decide) (by decide)) q306a q306c (g := (mkF m 258 #[.val (.long q1), .second, .val (.int p2), .val (.int p3), .val (.int p4), .val (.long q5), .second, .val (.int p6), .val (.int (3 : Int32)), .val (.int x9), .val (.long x10), .second, .val (.long x12), .second, .val (.long x14), .second, .val (.ref o16), .val (.long tm), .second, .val (.ref b240), .val (.long (own_max (own_max (own_max (-9223372036854775808 : Int64) q5) (p2.toInt64)) q1)), .second, .val (.int (1 : Int32))] [(.ref b240)])) rfl (by rw [hml]; rfl) (Steps.refl _) (argsL := []) (rest := []) (lenOf pd_5 rfl) rfl (by show 2 * 0 + _ ≤ _; exact Nat.le_of_eq rfl) (hb hby at_258) (fun _ _ => ⟨rfl, e305, (by decide : 5 + 0 ≤ _), (by decide : 58 + 0 ≤ _)⟩)
      dsimp only [Pt.U, Pt.locs, Pt.cells, Pt.slots] at X306 l306 y306 z306 st306 hQ306
      subst l306 y306 z306
      obtain ⟨rfl, N306q, e306⟩ := hQ306
      have N306 := Fr.app N305 N306q
      refine own_goT st306 ?_
      show own_Run p e below _ T306 (mkF m 261 #[.val (.long q1), .second, .val (.int p2), .val (.int p3), .val (.int p4), .val (.long q5), .second, .val (.int p6), .val (.int (3 : Int32)), .val (.int x9), .val (.long x10), .second, .val (.long x12), .second, .val (.long x14), .second, .val (.ref o16), .val (.long tm), .second, .val (.ref b240), .val (.long (own_max (own_max (own_max (-9223372036854775808 : Int64) q5) (p2.toInt64)) q1)), .second, .val (.int (1 : Int32))] [(.long (own_max (own_max (own_max (-9223372036854775808 : Int64) q5) (p2.toInt64)) q1))])
      refine own_go (fun _ k => XS.lload X306.here hx rfl (hb hby at_261) rfl k) ?_
      refine own_go (fun _ k => XS.lcmp X306.here hx rfl (hb hby at_263) rfl k) ?_
      show own_Run p e below _ T306 (mkF m 264 #[.val (.long q1), .second, .val (.int p2), .val (.int p3), .val (.int p4), .val (.long q5), .second, .val (.int p6), .val (.int (3 : Int32)), .val (.int x9), .val (.long x10), .second, .val (.long x12), .second, .val (.long x14), .second, .val (.ref o16), .val (.long tm), .second, .val (.ref b240), .val (.long (own_max (own_max (own_max (-9223372036854775808 : Int64) q5) (p2.toInt64)) q1)), .second, .val (.int (1 : Int32))] [(.int (lcmpW (own_max (own_max (own_max (-9223372036854775808 : Int64) q5) (p2.toInt64)) q1) (own_max (own_max (own_max (-9223372036854775808 : Int64) q5) (p2.toInt64)) q1)))])
      refine own_go (fun _ k => XS.ifYes X306.here hx rfl (pc0 := 264) (pc' := 269) rfl (hb hby at_264) rfl (own_lcTe rfl).1 (by decide) (by decide) k) ?_
      show own_Run p e below _ T306 (mkF m 269 #[.val (.long q1), .second, .val (.int p2), .val (.int p3), .val (.int p4), .val (.long q5), .second, .val (.int p6), .val (.int (3 : Int32)), .val (.int x9), .val (.long x10), .second, .val (.long x12), .second, .val (.long x14), .second, .val (.ref o16), .val (.long tm), .second, .val (.ref b240), .val (.long (own_max (own_max (own_max (-9223372036854775808 : Int64) q5) (p2.toInt64)) q1)), .second, .val (.int (1 : Int32))] [])
      refine own_go (fun _ k => XS.iload X306.here hx rfl (hb hby at_269) rfl k) ?_
      show own_Run p e below _ T306 (mkF m 271 #[.val (.long q1), .second, .val (.int p2), .val (.int p3), .val (.int p4), .val (.long q5), .second, .val (.int p6), .val (.int (3 : Int32)), .val (.int x9), .val (.long x10), .second, .val (.long x12), .second, .val (.long x14), .second, .val (.ref o16), .val (.long tm), .second, .val (.ref b240), .val (.long (own_max (own_max (own_max (-9223372036854775808 : Int64) q5) (p2.toInt64)) q1)), .second, .val (.int (1 : Int32))] [(.int (1 : Int32))])
      refine own_go (fun _ k => XS.ifNo X306.here hx rfl (hb hby at_271) rfl ((if0 _ _).trans (tlt (by decide : (0 : Int32) < (1 : Int32))).2.2.2) k) ?_
      show own_Run p e below _ T306 (mkF m 274 #[.val (.long q1), .second, .val (.int p2), .val (.int p3), .val (.int p4), .val (.long q5), .second, .val (.int p6), .val (.int (3 : Int32)), .val (.int x9), .val (.long x10), .second, .val (.long x12), .second, .val (.long x14), .second, .val (.ref o16), .val (.long tm), .second, .val (.ref b240), .val (.long (own_max (own_max (own_max (-9223372036854775808 : Int64) q5) (p2.toInt64)) q1)), .second, .val (.int (1 : Int32))] [])
      refine own_go (fun _ k => XS.aload X306.here hx rfl (hb hby at_274) rfl rfl k) ?_
      refine own_go (fun _ k => XS.iload X306.here hx rfl (hb hby at_276) rfl k) ?_
      refine own_go (fun _ k => XS.iconst X306.here hx rfl (hb hby at_278) k) ?_
      refine own_go (fun _ k => XS.isub X306.here hx rfl (hb hby at_279) rfl k) ?_
      show own_Run p e below _ T306 (mkF m 280 #[.val (.long q1), .second, .val (.int p2), .val (.int p3), .val (.int p4), .val (.long q5), .second, .val (.int p6), .val (.int (3 : Int32)), .val (.int x9), .val (.long x10), .second, .val (.long x12), .second, .val (.long x14), .second, .val (.ref o16), .val (.long tm), .second, .val (.ref b240), .val (.long (own_max (own_max (own_max (-9223372036854775808 : Int64) q5) (p2.toInt64)) q1)), .second, .val (.int (1 : Int32))] [(.int ((1 : Int32) - (1 : Int32))), (.ref b240)])
      rw [show ((1 : Int32) - (1 : Int32)) = (0 : Int32) by decide]
      show own_Run p e below _ T306 (mkF m 280 #[.val (.long q1), .second, .val (.int p2), .val (.int p3), .val (.int p4), .val (.long q5), .second, .val (.int p6), .val (.int (3 : Int32)), .val (.int x9), .val (.long x10), .second, .val (.long x12), .second, .val (.long x14), .second, .val (.ref o16), .val (.long tm), .second, .val (.ref b240), .val (.long (own_max (own_max (own_max (-9223372036854775808 : Int64) q5) (p2.toInt64)) q1)), .second, .val (.int (1 : Int32))] [(.int (0 : Int32)), (.ref b240)])
      obtain ⟨cq307, kq307, q307a, q307b, q307c⟩ := isOf hZ e306 P303_0
      obtain ⟨_, _, ⟨T307, L307, k307, n307⟩, -, X307, ⟨Lc307, hQ307, l307, y307, z307⟩, st307⟩ := X306.virtualBack hx (y := (⟨"com/example/tote/tote/storage/OffsetIndex", "position", "(I)J"⟩ : MethodName)) (z := (⟨"com/example/tote/tote/storage/OffsetIndex", "position", "(I)J"⟩ : MethodName)) hown (mvT hZ (W 58 rfl)) (mvT hZ (W 59 rfl)) (notFace_of_selects (args := #[]) (mvT hZ (W 61 rfl))) (mvT hZ (W 61 rfl)) (mvT hZ (W 60 rfl)) (by decide) (backOf (W := 0) (rm10 l Z a0 hw [] b240 (0 : Int32) b2_242 k2_242 (x10.toInt32) (x12.toInt32) (x14.toInt32) (x10.toInt32) T303.heap n0 Z0_c304 P303_2 P295_9_c304 (Or.inl ⟨rfl, rfl⟩)) hZ (W 62 rfl) (W 4 rfl) (by decide) (by decide)) q307a q307c (g := (mkF m 280 #[.val (.long q1), .second, .val (.int p2), .val (.int p3), .val (.int p4), .val (.long q5), .second, .val (.int p6), .val (.int (3 : Int32)), .val (.int x9), .val (.long x10), .second, .val (.long x12), .second, .val (.long x14), .second, .val (.ref o16), .val (.long tm), .second, .val (.ref b240), .val (.long (own_max (own_max (own_max (-9223372036854775808 : Int64) q5) (p2.toInt64)) q1)), .second, .val (.int (1 : Int32))] [(.int (0 : Int32)), (.ref b240)])) rfl (by rw [hml]; rfl) (Steps.refl _) (argsL := [(.int (0 : Int32))]) (rest := []) (lenOf pd_9 rfl) rfl (by show 2 * 0 + _ ≤ _; exact Nat.le_of_eq rfl) (hb hby at_280) (fun _ _ => ⟨rfl, e306, (by decide : 5 + 0 ≤ _), (by decide : 58 + 0 ≤ _)⟩)
      dsimp only [Pt.U, Pt.locs, Pt.cells, Pt.slots] at X307 l307 y307 z307 st307 hQ307
      subst l307 y307 z307
      obtain ⟨rfl, N307q, e307⟩ := hQ307
      have N307 := Fr.app N306 N307q
      refine own_goT st307 ?_
      show own_Run p e below _ T307 (mkF m 283 #[.val (.long q1), .second, .val (.int p2), .val (.int p3), .val (.int p4), .val (.long q5), .second, .val (.int p6), .val (.int (3 : Int32)), .val (.int x9), .val (.long x10), .second, .val (.long x12), .second, .val (.long x14), .second, .val (.ref o16), .val (.long tm), .second, .val (.ref b240), .val (.long (own_max (own_max (own_max (-9223372036854775808 : Int64) q5) (p2.toInt64)) q1)), .second, .val (.int (1 : Int32))] [(.long ((x10.toInt32).toInt64))])
      refine own_go (fun _ k => XS.aload X307.here hx rfl (hb hby at_283) rfl rfl k) ?_
      refine own_go (fun _ k => XS.iload X307.here hx rfl (hb hby at_285) rfl k) ?_
      refine own_go (fun _ k => XS.iconst X307.here hx rfl (hb hby at_287) k) ?_
      refine own_go (fun _ k => XS.isub X307.here hx rfl (hb hby at_288) rfl k) ?_
      show own_Run p e below _ T307 (mkF m 289 #[.val (.long q1), .second, .val (.int p2), .val (.int p3), .val (.int p4), .val (.long q5), .second, .val (.int p6), .val (.int (3 : Int32)), .val (.int x9), .val (.long x10), .second, .val (.long x12), .second, .val (.long x14), .second, .val (.ref o16), .val (.long tm), .second, .val (.ref b240), .val (.long (own_max (own_max (own_max (-9223372036854775808 : Int64) q5) (p2.toInt64)) q1)), .second, .val (.int (1 : Int32))] [(.int ((1 : Int32) - (1 : Int32))), (.ref o16), (.long ((x10.toInt32).toInt64))])
      rw [show ((1 : Int32) - (1 : Int32)) = (0 : Int32) by decide]
      show own_Run p e below _ T307 (mkF m 289 #[.val (.long q1), .second, .val (.int p2), .val (.int p3), .val (.int p4), .val (.long q5), .second, .val (.int p6), .val (.int (3 : Int32)), .val (.int x9), .val (.long x10), .second, .val (.long x12), .second, .val (.long x14), .second, .val (.ref o16), .val (.long tm), .second, .val (.ref b240), .val (.long (own_max (own_max (own_max (-9223372036854775808 : Int64) q5) (p2.toInt64)) q1)), .second, .val (.int (1 : Int32))] [(.int (0 : Int32)), (.ref o16), (.long ((x10.toInt32).toInt64))])
      obtain ⟨cl308, Ar308, q308, S308, N308, H308, G308⟩ := id V_o16_c304
      have hin308 : ¬ ((0 : Int32) < 0 ∨ cl308.slots.size ≤ ((0 : Int32)).toNatClampNeg) := inb_of S308 ⟨by decide, by decide⟩
      refine own_go (X307.laload hx (j := (0 : Int32)) (v := (.long x10)) (by rw [e307]; exact Ar308.1) (State.isArrayOf_alike hZ.alike Ar308.2.1) Ar308.2.2 hin308 (H308.at hin308 rfl) (g := (mkF m 289 #[.val (.long q1), .second, .val (.int p2), .val (.int p3), .val (.int p4), .val (.long q5), .second, .val (.int p6), .val (.int (3 : Int32)), .val (.int x9), .val (.long x10), .second, .val (.long x12), .second, .val (.long x14), .second, .val (.ref o16), .val (.long tm), .second, .val (.ref b240), .val (.long (own_max (own_max (own_max (-9223372036854775808 : Int64) q5) (p2.toInt64)) q1)), .second, .val (.int (1 : Int32))] [(.int (0 : Int32)), (.ref o16), (.long ((x10.toInt32).toInt64))])) rfl rfl (hb hby at_289)) ?_
      show own_Run p e below _ T307 (mkF m 290 #[.val (.long q1), .second, .val (.int p2), .val (.int p3), .val (.int p4), .val (.long q5), .second, .val (.int p6), .val (.int (3 : Int32)), .val (.int x9), .val (.long x10), .second, .val (.long x12), .second, .val (.long x14), .second, .val (.ref o16), .val (.long tm), .second, .val (.ref b240), .val (.long (own_max (own_max (own_max (-9223372036854775808 : Int64) q5) (p2.toInt64)) q1)), .second, .val (.int (1 : Int32))] [(.long x10), (.long ((x10.toInt32).toInt64))])
      refine own_go (fun _ k => XS.lcmp X307.here hx rfl (hb hby at_290) rfl k) ?_
      show own_Run p e below _ T307 (mkF m 291 #[.val (.long q1), .second, .val (.int p2), .val (.int p3), .val (.int p4), .val (.long q5), .second, .val (.int p6), .val (.int (3 : Int32)), .val (.int x9), .val (.long x10), .second, .val (.long x12), .second, .val (.long x14), .second, .val (.ref o16), .val (.long tm), .second, .val (.ref b240), .val (.long (own_max (own_max (own_max (-9223372036854775808 : Int64) q5) (p2.toInt64)) q1)), .second, .val (.int (1 : Int32))] [(.int (lcmpW ((x10.toInt32).toInt64) x10))])
      refine own_go (fun _ k => XS.ifYes X307.here hx rfl (pc0 := 291) (pc' := 296) rfl (hb hby at_291) rfl (own_lcTe ht0).1 (by decide) (by decide) k) ?_
      show own_Run p e below _ T307 (mkF m 296 #[.val (.long q1), .second, .val (.int p2), .val (.int p3), .val (.int p4), .val (.long q5), .second, .val (.int p6), .val (.int (3 : Int32)), .val (.int x9), .val (.long x10), .second, .val (.long x12), .second, .val (.long x14), .second, .val (.ref o16), .val (.long tm), .second, .val (.ref b240), .val (.long (own_max (own_max (own_max (-9223372036854775808 : Int64) q5) (p2.toInt64)) q1)), .second, .val (.int (1 : Int32))] [])
      refine own_go (fun _ k => XS.aload X307.here hx rfl (hb hby at_296) rfl rfl k) ?_
      refine own_go (fun _ k => XS.iload X307.here hx rfl (hb hby at_298) rfl k) ?_
      refine own_go (fun _ k => XS.iconst X307.here hx rfl (hb hby at_300) k) ?_
      refine own_go (fun _ k => XS.isub X307.here hx rfl (hb hby at_301) rfl k) ?_
      show own_Run p e below _ T307 (mkF m 302 #[.val (.long q1), .second, .val (.int p2), .val (.int p3), .val (.int p4), .val (.long q5), .second, .val (.int p6), .val (.int (3 : Int32)), .val (.int x9), .val (.long x10), .second, .val (.long x12), .second, .val (.long x14), .second, .val (.ref o16), .val (.long tm), .second, .val (.ref b240), .val (.long (own_max (own_max (own_max (-9223372036854775808 : Int64) q5) (p2.toInt64)) q1)), .second, .val (.int (1 : Int32))] [(.int ((1 : Int32) - (1 : Int32))), (.ref b240)])
      rw [show ((1 : Int32) - (1 : Int32)) = (0 : Int32) by decide]
      show own_Run p e below _ T307 (mkF m 302 #[.val (.long q1), .second, .val (.int p2), .val (.int p3), .val (.int p4), .val (.long q5), .second, .val (.int p6), .val (.int (3 : Int32)), .val (.int x9), .val (.long x10), .second, .val (.long x12), .second, .val (.long x14), .second, .val (.ref o16), .val (.long tm), .second, .val (.ref b240), .val (.long (own_max (own_max (own_max (-9223372036854775808 : Int64) q5) (p2.toInt64)) q1)), .second, .val (.int (1 : Int32))] [(.int (0 : Int32)), (.ref b240)])
      obtain ⟨cq309, kq309, q309a, q309b, q309c⟩ := isOf hZ e307 P303_0
      obtain ⟨_, _, ⟨T309, L309, k309, n309⟩, -, X309, ⟨Lc309, hQ309, l309, y309, z309⟩, st309⟩ := X307.virtualBack hx (y := (⟨"com/example/tote/tote/storage/OffsetIndex", "offset", "(I)J"⟩ : MethodName)) (z := (⟨"com/example/tote/tote/storage/OffsetIndex", "offset", "(I)J"⟩ : MethodName)) hown (mvT hZ (W 63 rfl)) (mvT hZ (W 64 rfl)) (notFace_of_selects (args := #[]) (mvT hZ (W 66 rfl))) (mvT hZ (W 66 rfl)) (mvT hZ (W 65 rfl)) (by decide) (backOf (W := 0) (rm11 l Z a0 hw [] b240 (0 : Int32) b1_242 k1_242 q1 (0 : Int32) (1 : Int32) (2 : Int32) (0 : Int32) T303.heap n0 Z0_c304 P303_1 P303_4 Vo297_c304 (Or.inl ⟨rfl, rfl⟩)) hZ (W 67 rfl) (W 4 rfl) (by decide) (by decide)) q309a q309c (g := (mkF m 302 #[.val (.long q1), .second, .val (.int p2), .val (.int p3), .val (.int p4), .val (.long q5), .second, .val (.int p6), .val (.int (3 : Int32)), .val (.int x9), .val (.long x10), .second, .val (.long x12), .second, .val (.long x14), .second, .val (.ref o16), .val (.long tm), .second, .val (.ref b240), .val (.long (own_max (own_max (own_max (-9223372036854775808 : Int64) q5) (p2.toInt64)) q1)), .second, .val (.int (1 : Int32))] [(.int (0 : Int32)), (.ref b240)])) rfl (by rw [hml]; rfl) (Steps.refl _) (argsL := [(.int (0 : Int32))]) (rest := []) (lenOf pd_9 rfl) rfl (by show 2 * 0 + _ ≤ _; exact Nat.le_of_eq rfl) (hb hby at_302) (fun _ _ => ⟨rfl, e307, (by decide : 5 + 0 ≤ _), (by decide : 58 + 0 ≤ _)⟩)
      dsimp only [Pt.U, Pt.locs, Pt.cells, Pt.slots] at X309 l309 y309 z309 st309 hQ309
      subst l309 y309 z309
      obtain ⟨rfl, N309q, e309⟩ := hQ309
      have N309 := Fr.app N307 N309q
      refine own_goT st309 ?_
      show own_Run p e below _ T309 (mkF m 305 #[.val (.long q1), .second, .val (.int p2), .val (.int p3), .val (.int p4), .val (.long q5), .second, .val (.int p6), .val (.int (3 : Int32)), .val (.int x9), .val (.long x10), .second, .val (.long x12), .second, .val (.long x14), .second, .val (.ref o16), .val (.long tm), .second, .val (.ref b240), .val (.long (own_max (own_max (own_max (-9223372036854775808 : Int64) q5) (p2.toInt64)) q1)), .second, .val (.int (1 : Int32))] [(.long (q1 + ((0 : Int32).toInt64)))])
      refine own_go (fun _ k => XS.lloadN X309.here hx rfl (hb hby at_305) rfl k) ?_
      refine own_go (fun _ k => XS.iload X309.here hx rfl (hb hby at_306) rfl k) ?_
      refine own_go (fun _ k => XS.iconst X309.here hx rfl (hb hby at_308) k) ?_
      refine own_go (fun _ k => XS.isub X309.here hx rfl (hb hby at_309) rfl k) ?_
      show own_Run p e below _ T309 (mkF m 310 #[.val (.long q1), .second, .val (.int p2), .val (.int p3), .val (.int p4), .val (.long q5), .second, .val (.int p6), .val (.int (3 : Int32)), .val (.int x9), .val (.long x10), .second, .val (.long x12), .second, .val (.long x14), .second, .val (.ref o16), .val (.long tm), .second, .val (.ref b240), .val (.long (own_max (own_max (own_max (-9223372036854775808 : Int64) q5) (p2.toInt64)) q1)), .second, .val (.int (1 : Int32))] [(.int ((1 : Int32) - (1 : Int32))), (.long q1), (.long (q1 + ((0 : Int32).toInt64)))])
      rw [show ((1 : Int32) - (1 : Int32)) = (0 : Int32) by decide]
      show own_Run p e below _ T309 (mkF m 310 #[.val (.long q1), .second, .val (.int p2), .val (.int p3), .val (.int p4), .val (.long q5), .second, .val (.int p6), .val (.int (3 : Int32)), .val (.int x9), .val (.long x10), .second, .val (.long x12), .second, .val (.long x14), .second, .val (.ref o16), .val (.long tm), .second, .val (.ref b240), .val (.long (own_max (own_max (own_max (-9223372036854775808 : Int64) q5) (p2.toInt64)) q1)), .second, .val (.int (1 : Int32))] [(.int (0 : Int32)), (.long q1), (.long (q1 + ((0 : Int32).toInt64)))])
      refine own_go (fun _ k => XS.i2l X309.here hx rfl (hb hby at_310) rfl k) ?_
      show own_Run p e below _ T309 (mkF m 311 #[.val (.long q1), .second, .val (.int p2), .val (.int p3), .val (.int p4), .val (.long q5), .second, .val (.int p6), .val (.int (3 : Int32)), .val (.int x9), .val (.long x10), .second, .val (.long x12), .second, .val (.long x14), .second, .val (.ref o16), .val (.long tm), .second, .val (.ref b240), .val (.long (own_max (own_max (own_max (-9223372036854775808 : Int64) q5) (p2.toInt64)) q1)), .second, .val (.int (1 : Int32))] [(.long ((0 : Int32).toInt64)), (.long q1), (.long (q1 + ((0 : Int32).toInt64)))])
      rw [show ((0 : Int32).toInt64) = (0 : Int64) by decide]
      show own_Run p e below _ T309 (mkF m 311 #[.val (.long q1), .second, .val (.int p2), .val (.int p3), .val (.int p4), .val (.long q5), .second, .val (.int p6), .val (.int (3 : Int32)), .val (.int x9), .val (.long x10), .second, .val (.long x12), .second, .val (.long x14), .second, .val (.ref o16), .val (.long tm), .second, .val (.ref b240), .val (.long (own_max (own_max (own_max (-9223372036854775808 : Int64) q5) (p2.toInt64)) q1)), .second, .val (.int (1 : Int32))] [(.long (0 : Int64)), (.long q1), (.long (q1 + ((0 : Int32).toInt64)))])
      refine own_go (fun _ k => XS.ladd X309.here hx rfl (hb hby at_311) rfl k) ?_
      refine own_go (fun _ k => XS.lcmp X309.here hx rfl (hb hby at_312) rfl k) ?_
      show own_Run p e below _ T309 (mkF m 313 #[.val (.long q1), .second, .val (.int p2), .val (.int p3), .val (.int p4), .val (.long q5), .second, .val (.int p6), .val (.int (3 : Int32)), .val (.int x9), .val (.long x10), .second, .val (.long x12), .second, .val (.long x14), .second, .val (.ref o16), .val (.long tm), .second, .val (.ref b240), .val (.long (own_max (own_max (own_max (-9223372036854775808 : Int64) q5) (p2.toInt64)) q1)), .second, .val (.int (1 : Int32))] [(.int (lcmpW (q1 + ((0 : Int32).toInt64)) (q1 + (0 : Int64))))])
      refine own_go (fun _ k => XS.ifYes X309.here hx rfl (pc0 := 313) (pc' := 318) rfl (hb hby at_313) rfl (own_lcTe (by rw [show ((0 : Int32)).toInt64 = (0 : Int64) by decide] : (q1 + ((0 : Int32).toInt64)) = (q1 + (0 : Int64)))).1 (by decide) (by decide) k) ?_
      show own_Run p e below _ T309 (mkF m 318 #[.val (.long q1), .second, .val (.int p2), .val (.int p3), .val (.int p4), .val (.long q5), .second, .val (.int p6), .val (.int (3 : Int32)), .val (.int x9), .val (.long x10), .second, .val (.long x12), .second, .val (.long x14), .second, .val (.ref o16), .val (.long tm), .second, .val (.ref b240), .val (.long (own_max (own_max (own_max (-9223372036854775808 : Int64) q5) (p2.toInt64)) q1)), .second, .val (.int (1 : Int32))] [])
      refine own_go (fun _ k => XS.iconst X309.here hx rfl (hb hby at_318) k) ?_
      show own_Run p e below _ T309 (mkF m 319 #[.val (.long q1), .second, .val (.int p2), .val (.int p3), .val (.int p4), .val (.long q5), .second, .val (.int p6), .val (.int (3 : Int32)), .val (.int x9), .val (.long x10), .second, .val (.long x12), .second, .val (.long x14), .second, .val (.ref o16), .val (.long tm), .second, .val (.ref b240), .val (.long (own_max (own_max (own_max (-9223372036854775808 : Int64) q5) (p2.toInt64)) q1)), .second, .val (.int (1 : Int32))] [(.int (1 : Int32))])
      refine own_done (Q := fun v h L => Q0 Z q1 p2 p3 p4 q5 p6 h0 n0 v h L) (v := (some (.int (1 : Int32)))) X309 (fun h => by rw [hret] at h; cases h) hlk (fun fs hr => retN X309 hx (t := .boolean) hret (by simp) (hb hby at_319) hr) ?_ (by decide) (by decide)
      show Q0 Z q1 p2 p3 p4 q5 p6 h0 n0 _ T309.heap _
      rw [e309]
      exact ⟨rfl, N309⟩
    · obtain ⟨cq310, kq310, q310a, q310b, q310c⟩ := isOf hZ e298 P295_0
      obtain ⟨_, _, ⟨T310, L310, k310, n310⟩, -, X310, ⟨Lc310, hQ310, l310, y310, z310⟩, st310⟩ := X298.virtualBack hx (y := (⟨"com/example/tote/tote/storage/OffsetIndex", "cutBack", "(J)V"⟩ : MethodName)) (z := (⟨"com/example/tote/tote/storage/OffsetIndex", "cutBack", "(J)V"⟩ : MethodName)) hown (mvT hZ (W 48 rfl)) (mvT hZ (W 49 rfl)) (notFace_of_selects (args := #[]) (mvT hZ (W 51 rfl))) (mvT hZ (W 51 rfl)) (mvT hZ (W 50 rfl)) (by decide) (backOf (W := 0) (rm8n3 l Z a0 hw [] b240 tm b1_242 b2_242 k2_242 (own_max (own_max (own_max (-9223372036854775808 : Int64) q5) (p2.toInt64)) q1) q1 (x10.toInt32) (x12.toInt32) (x14.toInt32) (2 : Int32) T295.heap n0 Z0_c296 P295_0 P295_1 P295_2 P295_4 P295_5 P295_7 P295_9 g_b240 P242_15 (Or.inr (Or.inr (Or.inl ⟨(by rw [ht0]; exact hz0), (by rw [ht1]; exact hz1), (by rw [ht2]; exact hz2), rfl⟩)))) hZ (W 52 rfl) (W 4 rfl) (by decide) (by decide)) q310a q310c (g := (mkF m 187 #[.val (.long q1), .second, .val (.int p2), .val (.int p3), .val (.int p4), .val (.long q5), .second, .val (.int p6), .val (.int (3 : Int32)), .val (.int x9), .val (.long x10), .second, .val (.long x12), .second, .val (.long x14), .second, .val (.ref o16), .val (.long tm), .second, .val (.ref b240), .val (.long (own_max (own_max (own_max (-9223372036854775808 : Int64) q5) (p2.toInt64)) q1)), .second, .unset] [(.long tm), (.ref b240)])) rfl (by rw [hml]; rfl) (Steps.refl _) (argsL := [(.long tm)]) (rest := []) (lenOf pd_6 rfl) rfl (by show 2 * 0 + _ ≤ _; exact Nat.le_of_eq rfl) (hb hby at_187) (fun _ _ => ⟨rfl, e298, (by decide : 5 + 0 ≤ _), (by decide : 58 + 0 ≤ _)⟩)
      dsimp only [Pt.U, Pt.locs, Pt.cells, Pt.slots] at X310 l310 y310 z310 st310 hQ310
      subst l310 y310 z310
      obtain ⟨rfl, N310q, K310, P310_0, P310_1, P310_2, P310_3, P310_4, P310_5⟩ := hQ310
      have N310 := Fr.app N298 N310q
      refine own_goT st310 ?_
      show own_Run p e below _ T310 (mkF m 190 #[.val (.long q1), .second, .val (.int p2), .val (.int p3), .val (.int p4), .val (.long q5), .second, .val (.int p6), .val (.int (3 : Int32)), .val (.int x9), .val (.long x10), .second, .val (.long x12), .second, .val (.long x14), .second, .val (.ref o16), .val (.long tm), .second, .val (.ref b240), .val (.long (own_max (own_max (own_max (-9223372036854775808 : Int64) q5) (p2.toInt64)) q1)), .second, .unset] [])
      have Z0_c311 := Nat.le_trans Z0_c296 K310.1
      have K0_c311 := K0_c296.trans K310 (allS (Or.inr sz_b240) all0)
      have V_o16_c311 := V_o16_c296.keep K310 (ninS ne_o16_b240 nin0)
      have P295_0_c311 := P295_0.keep K310
      have Vo297_c311 := Vo297.keep K310 (ninS (Ne.symm P242_14) nin0)
      have P295_9_c311 := P295_9.keep K310 (ninS (Ne.symm P242_15) nin0)
      have P295_10_c311 := P295_10.keep K310 (ninS (Ne.symm P242_16) nin0)
      refine own_go (fun _ k => XS.iconst X310.here hx rfl (hb hby at_190) k) ?_
      refine own_go (fun _ k => XS.istore X310.here hx rfl (hb hby at_191) rfl (l' := #[.val (.long q1), .second, .val (.int p2), .val (.int p3), .val (.int p4), .val (.long q5), .second, .val (.int p6), .val (.int (3 : Int32)), .val (.int x9), .val (.long x10), .second, .val (.long x12), .second, .val (.long x14), .second, .val (.ref o16), .val (.long tm), .second, .val (.ref b240), .val (.long (own_max (own_max (own_max (-9223372036854775808 : Int64) q5) (p2.toInt64)) q1)), .second, .val (.int (0 : Int32))]) rfl k) ?_
      refine own_go (fun _ k => XS.iload X310.here hx rfl (hb hby at_193) rfl k) ?_
      refine own_go (fun _ k => XS.iconst X310.here hx rfl (hb hby at_195) k) ?_
      show own_Run p e below _ T310 (mkF m 196 #[.val (.long q1), .second, .val (.int p2), .val (.int p3), .val (.int p4), .val (.long q5), .second, .val (.int p6), .val (.int (3 : Int32)), .val (.int x9), .val (.long x10), .second, .val (.long x12), .second, .val (.long x14), .second, .val (.ref o16), .val (.long tm), .second, .val (.ref b240), .val (.long (own_max (own_max (own_max (-9223372036854775808 : Int64) q5) (p2.toInt64)) q1)), .second, .val (.int (0 : Int32))] [(.int (1 : Int32)), (.int (3 : Int32))])
      refine own_go (fun _ k => XS.icmpNo X310.here hx rfl (hb hby at_196) rfl (flt (by decide : ¬ ((3 : Int32) < (1 : Int32)))).1 k) ?_
      show own_Run p e below _ T310 (mkF m 199 #[.val (.long q1), .second, .val (.int p2), .val (.int p3), .val (.int p4), .val (.long q5), .second, .val (.int p6), .val (.int (3 : Int32)), .val (.int x9), .val (.long x10), .second, .val (.long x12), .second, .val (.long x14), .second, .val (.ref o16), .val (.long tm), .second, .val (.ref b240), .val (.long (own_max (own_max (own_max (-9223372036854775808 : Int64) q5) (p2.toInt64)) q1)), .second, .val (.int (0 : Int32))] [])
      refine own_go (fun _ k => XS.lload X310.here hx rfl (hb hby at_199) rfl k) ?_
      refine own_go (fun _ k => XS.lload X310.here hx rfl (hb hby at_201) rfl k) ?_
      refine own_go (fun _ k => XS.lcmp X310.here hx rfl (hb hby at_203) rfl k) ?_
      show own_Run p e below _ T310 (mkF m 204 #[.val (.long q1), .second, .val (.int p2), .val (.int p3), .val (.int p4), .val (.long q5), .second, .val (.int p6), .val (.int (3 : Int32)), .val (.int x9), .val (.long x10), .second, .val (.long x12), .second, .val (.long x14), .second, .val (.ref o16), .val (.long tm), .second, .val (.ref b240), .val (.long (own_max (own_max (own_max (-9223372036854775808 : Int64) q5) (p2.toInt64)) q1)), .second, .val (.int (0 : Int32))] [(.int (lcmpW x10 tm))])
      refine own_go (fun _ k => XS.ifNo X310.here hx rfl (hb hby at_204) rfl (own_lcT hz0).2.1 k) ?_
      show own_Run p e below _ T310 (mkF m 207 #[.val (.long q1), .second, .val (.int p2), .val (.int p3), .val (.int p4), .val (.long q5), .second, .val (.int p6), .val (.int (3 : Int32)), .val (.int x9), .val (.long x10), .second, .val (.long x12), .second, .val (.long x14), .second, .val (.ref o16), .val (.long tm), .second, .val (.ref b240), .val (.long (own_max (own_max (own_max (-9223372036854775808 : Int64) q5) (p2.toInt64)) q1)), .second, .val (.int (0 : Int32))] [])
      refine own_go (fun _ k => XS.iconst X310.here hx rfl (hb hby at_207) k) ?_
      refine own_go (fun _ k => XS.istore X310.here hx rfl (hb hby at_208) rfl (l' := #[.val (.long q1), .second, .val (.int p2), .val (.int p3), .val (.int p4), .val (.long q5), .second, .val (.int p6), .val (.int (3 : Int32)), .val (.int x9), .val (.long x10), .second, .val (.long x12), .second, .val (.long x14), .second, .val (.ref o16), .val (.long tm), .second, .val (.ref b240), .val (.long (own_max (own_max (own_max (-9223372036854775808 : Int64) q5) (p2.toInt64)) q1)), .second, .val (.int (1 : Int32))]) rfl k) ?_
      refine own_go (fun _ k => XS.iload X310.here hx rfl (hb hby at_210) rfl k) ?_
      refine own_go (fun _ k => XS.iconst X310.here hx rfl (hb hby at_212) k) ?_
      show own_Run p e below _ T310 (mkF m 213 #[.val (.long q1), .second, .val (.int p2), .val (.int p3), .val (.int p4), .val (.long q5), .second, .val (.int p6), .val (.int (3 : Int32)), .val (.int x9), .val (.long x10), .second, .val (.long x12), .second, .val (.long x14), .second, .val (.ref o16), .val (.long tm), .second, .val (.ref b240), .val (.long (own_max (own_max (own_max (-9223372036854775808 : Int64) q5) (p2.toInt64)) q1)), .second, .val (.int (1 : Int32))] [(.int (2 : Int32)), (.int (3 : Int32))])
      refine own_go (fun _ k => XS.icmpNo X310.here hx rfl (hb hby at_213) rfl (flt (by decide : ¬ ((3 : Int32) < (2 : Int32)))).1 k) ?_
      show own_Run p e below _ T310 (mkF m 216 #[.val (.long q1), .second, .val (.int p2), .val (.int p3), .val (.int p4), .val (.long q5), .second, .val (.int p6), .val (.int (3 : Int32)), .val (.int x9), .val (.long x10), .second, .val (.long x12), .second, .val (.long x14), .second, .val (.ref o16), .val (.long tm), .second, .val (.ref b240), .val (.long (own_max (own_max (own_max (-9223372036854775808 : Int64) q5) (p2.toInt64)) q1)), .second, .val (.int (1 : Int32))] [])
      refine own_go (fun _ k => XS.lload X310.here hx rfl (hb hby at_216) rfl k) ?_
      refine own_go (fun _ k => XS.lload X310.here hx rfl (hb hby at_218) rfl k) ?_
      refine own_go (fun _ k => XS.lcmp X310.here hx rfl (hb hby at_220) rfl k) ?_
      show own_Run p e below _ T310 (mkF m 221 #[.val (.long q1), .second, .val (.int p2), .val (.int p3), .val (.int p4), .val (.long q5), .second, .val (.int p6), .val (.int (3 : Int32)), .val (.int x9), .val (.long x10), .second, .val (.long x12), .second, .val (.long x14), .second, .val (.ref o16), .val (.long tm), .second, .val (.ref b240), .val (.long (own_max (own_max (own_max (-9223372036854775808 : Int64) q5) (p2.toInt64)) q1)), .second, .val (.int (1 : Int32))] [(.int (lcmpW x12 tm))])
      refine own_go (fun _ k => XS.ifNo X310.here hx rfl (hb hby at_221) rfl (own_lcT hz1).2.1 k) ?_
      show own_Run p e below _ T310 (mkF m 224 #[.val (.long q1), .second, .val (.int p2), .val (.int p3), .val (.int p4), .val (.long q5), .second, .val (.int p6), .val (.int (3 : Int32)), .val (.int x9), .val (.long x10), .second, .val (.long x12), .second, .val (.long x14), .second, .val (.ref o16), .val (.long tm), .second, .val (.ref b240), .val (.long (own_max (own_max (own_max (-9223372036854775808 : Int64) q5) (p2.toInt64)) q1)), .second, .val (.int (1 : Int32))] [])
      refine own_go (fun _ k => XS.iconst X310.here hx rfl (hb hby at_224) k) ?_
      refine own_go (fun _ k => XS.istore X310.here hx rfl (hb hby at_225) rfl (l' := #[.val (.long q1), .second, .val (.int p2), .val (.int p3), .val (.int p4), .val (.long q5), .second, .val (.int p6), .val (.int (3 : Int32)), .val (.int x9), .val (.long x10), .second, .val (.long x12), .second, .val (.long x14), .second, .val (.ref o16), .val (.long tm), .second, .val (.ref b240), .val (.long (own_max (own_max (own_max (-9223372036854775808 : Int64) q5) (p2.toInt64)) q1)), .second, .val (.int (2 : Int32))]) rfl k) ?_
      refine own_go (fun _ k => XS.iload X310.here hx rfl (hb hby at_227) rfl k) ?_
      refine own_go (fun _ k => XS.iconst X310.here hx rfl (hb hby at_229) k) ?_
      show own_Run p e below _ T310 (mkF m 230 #[.val (.long q1), .second, .val (.int p2), .val (.int p3), .val (.int p4), .val (.long q5), .second, .val (.int p6), .val (.int (3 : Int32)), .val (.int x9), .val (.long x10), .second, .val (.long x12), .second, .val (.long x14), .second, .val (.ref o16), .val (.long tm), .second, .val (.ref b240), .val (.long (own_max (own_max (own_max (-9223372036854775808 : Int64) q5) (p2.toInt64)) q1)), .second, .val (.int (2 : Int32))] [(.int (3 : Int32)), (.int (3 : Int32))])
      refine own_go (fun _ k => XS.icmpNo X310.here hx rfl (hb hby at_230) rfl (flt (by decide : ¬ ((3 : Int32) < (3 : Int32)))).1 k) ?_
      show own_Run p e below _ T310 (mkF m 233 #[.val (.long q1), .second, .val (.int p2), .val (.int p3), .val (.int p4), .val (.long q5), .second, .val (.int p6), .val (.int (3 : Int32)), .val (.int x9), .val (.long x10), .second, .val (.long x12), .second, .val (.long x14), .second, .val (.ref o16), .val (.long tm), .second, .val (.ref b240), .val (.long (own_max (own_max (own_max (-9223372036854775808 : Int64) q5) (p2.toInt64)) q1)), .second, .val (.int (2 : Int32))] [])
      refine own_go (fun _ k => XS.lload X310.here hx rfl (hb hby at_233) rfl k) ?_
      refine own_go (fun _ k => XS.lload X310.here hx rfl (hb hby at_235) rfl k) ?_
      refine own_go (fun _ k => XS.lcmp X310.here hx rfl (hb hby at_237) rfl k) ?_
      show own_Run p e below _ T310 (mkF m 238 #[.val (.long q1), .second, .val (.int p2), .val (.int p3), .val (.int p4), .val (.long q5), .second, .val (.int p6), .val (.int (3 : Int32)), .val (.int x9), .val (.long x10), .second, .val (.long x12), .second, .val (.long x14), .second, .val (.ref o16), .val (.long tm), .second, .val (.ref b240), .val (.long (own_max (own_max (own_max (-9223372036854775808 : Int64) q5) (p2.toInt64)) q1)), .second, .val (.int (2 : Int32))] [(.int (lcmpW x14 tm))])
      refine own_go (fun _ k => XS.ifYes X310.here hx rfl (pc0 := 238) (pc' := 244) rfl (hb hby at_238) rfl (own_lcF hz2).2.1 (by decide) (by decide) k) ?_
      show own_Run p e below _ T310 (mkF m 244 #[.val (.long q1), .second, .val (.int p2), .val (.int p3), .val (.int p4), .val (.long q5), .second, .val (.int p6), .val (.int (3 : Int32)), .val (.int x9), .val (.long x10), .second, .val (.long x12), .second, .val (.long x14), .second, .val (.ref o16), .val (.long tm), .second, .val (.ref b240), .val (.long (own_max (own_max (own_max (-9223372036854775808 : Int64) q5) (p2.toInt64)) q1)), .second, .val (.int (2 : Int32))] [])
      refine own_go (fun _ k => XS.aload X310.here hx rfl (hb hby at_244) rfl rfl k) ?_
      show own_Run p e below _ T310 (mkF m 246 #[.val (.long q1), .second, .val (.int p2), .val (.int p3), .val (.int p4), .val (.long q5), .second, .val (.int p6), .val (.int (3 : Int32)), .val (.int x9), .val (.long x10), .second, .val (.long x12), .second, .val (.long x14), .second, .val (.ref o16), .val (.long tm), .second, .val (.ref b240), .val (.long (own_max (own_max (own_max (-9223372036854775808 : Int64) q5) (p2.toInt64)) q1)), .second, .val (.int (2 : Int32))] [(.ref b240)])
      obtain ⟨cq312, kq312, q312a, q312b, q312c⟩ := isOf hZ rfl P310_0
      obtain ⟨_, _, ⟨T312, L312, k312, n312⟩, -, X312, ⟨Lc312, hQ312, l312, y312, z312⟩, st312⟩ := X310.virtualBack hx (y := (⟨"com/example/tote/tote/storage/OffsetIndex", "count", "()I"⟩ : MethodName)) (z := (⟨"com/example/tote/tote/storage/OffsetIndex", "count", "()I"⟩ : MethodName)) hown (mvT hZ (W 53 rfl)) (mvT hZ (W 54 rfl)) (notFace_of_selects (args := #[]) (mvT hZ (W 56 rfl))) (mvT hZ (W 56 rfl)) (mvT hZ (W 55 rfl)) (by decide) (backOf (W := 0) (rm9 l Z a0 hw [] b240 (2 : Int32) T310.heap n0 Z0_c311 P310_5) hZ (W 57 rfl) (W 4 rfl) (by decide) (by decide)) q312a q312c (g := (mkF m 246 #[.val (.long q1), .second, .val (.int p2), .val (.int p3), .val (.int p4), .val (.long q5), .second, .val (.int p6), .val (.int (3 : Int32)), .val (.int x9), .val (.long x10), .second, .val (.long x12), .second, .val (.long x14), .second, .val (.ref o16), .val (.long tm), .second, .val (.ref b240), .val (.long (own_max (own_max (own_max (-9223372036854775808 : Int64) q5) (p2.toInt64)) q1)), .second, .val (.int (2 : Int32))] [(.ref b240)])) rfl (by rw [hml]; rfl) (Steps.refl _) (argsL := []) (rest := []) (lenOf pd_7 rfl) rfl (by show 2 * 0 + _ ≤ _; exact Nat.le_of_eq rfl) (hb hby at_246) (fun _ _ => ⟨rfl, rfl, (by decide : 5 + 0 ≤ _), (by decide : 58 + 0 ≤ _)⟩)
      dsimp only [Pt.U, Pt.locs, Pt.cells, Pt.slots] at X312 l312 y312 z312 st312 hQ312
      subst l312 y312 z312
      obtain ⟨rfl, N312q, e312⟩ := hQ312
      have N312 := Fr.app N310 N312q
      refine own_goT st312 ?_
      show own_Run p e below _ T312 (mkF m 249 #[.val (.long q1), .second, .val (.int p2), .val (.int p3), .val (.int p4), .val (.long q5), .second, .val (.int p6), .val (.int (3 : Int32)), .val (.int x9), .val (.long x10), .second, .val (.long x12), .second, .val (.long x14), .second, .val (.ref o16), .val (.long tm), .second, .val (.ref b240), .val (.long (own_max (own_max (own_max (-9223372036854775808 : Int64) q5) (p2.toInt64)) q1)), .second, .val (.int (2 : Int32))] [(.int (2 : Int32))])
      refine own_go (fun _ k => XS.iload X312.here hx rfl (hb hby at_249) rfl k) ?_
      show own_Run p e below _ T312 (mkF m 251 #[.val (.long q1), .second, .val (.int p2), .val (.int p3), .val (.int p4), .val (.long q5), .second, .val (.int p6), .val (.int (3 : Int32)), .val (.int x9), .val (.long x10), .second, .val (.long x12), .second, .val (.long x14), .second, .val (.ref o16), .val (.long tm), .second, .val (.ref b240), .val (.long (own_max (own_max (own_max (-9223372036854775808 : Int64) q5) (p2.toInt64)) q1)), .second, .val (.int (2 : Int32))] [(.int (2 : Int32)), (.int (2 : Int32))])
      refine own_go (fun _ k => XS.icmpYes X312.here hx rfl (pc0 := 251) (pc' := 256) rfl (hb hby at_251) rfl (teq (by decide : (2 : Int32) = (2 : Int32))).1 (by decide) (by decide) k) ?_
      show own_Run p e below _ T312 (mkF m 256 #[.val (.long q1), .second, .val (.int p2), .val (.int p3), .val (.int p4), .val (.long q5), .second, .val (.int p6), .val (.int (3 : Int32)), .val (.int x9), .val (.long x10), .second, .val (.long x12), .second, .val (.long x14), .second, .val (.ref o16), .val (.long tm), .second, .val (.ref b240), .val (.long (own_max (own_max (own_max (-9223372036854775808 : Int64) q5) (p2.toInt64)) q1)), .second, .val (.int (2 : Int32))] [])
      refine own_go (fun _ k => XS.aload X312.here hx rfl (hb hby at_256) rfl rfl k) ?_
      show own_Run p e below _ T312 (mkF m 258 #[.val (.long q1), .second, .val (.int p2), .val (.int p3), .val (.int p4), .val (.long q5), .second, .val (.int p6), .val (.int (3 : Int32)), .val (.int x9), .val (.long x10), .second, .val (.long x12), .second, .val (.long x14), .second, .val (.ref o16), .val (.long tm), .second, .val (.ref b240), .val (.long (own_max (own_max (own_max (-9223372036854775808 : Int64) q5) (p2.toInt64)) q1)), .second, .val (.int (2 : Int32))] [(.ref b240)])
      obtain ⟨cq313, kq313, q313a, q313b, q313c⟩ := isOf hZ e312 P310_0
      obtain ⟨_, _, ⟨T313, L313, k313, n313⟩, -, X313, ⟨Lc313, hQ313, l313, y313, z313⟩, st313⟩ := X312.virtualBack hx (y := (⟨"com/example/tote/tote/storage/OffsetIndex", "maxTimestamp", "()J"⟩ : MethodName)) (z := (⟨"com/example/tote/tote/storage/OffsetIndex", "maxTimestamp", "()J"⟩ : MethodName)) hown (mvT hZ (W 43 rfl)) (mvT hZ (W 44 rfl)) (notFace_of_selects (args := #[]) (mvT hZ (W 46 rfl))) (mvT hZ (W 46 rfl)) (mvT hZ (W 45 rfl)) (by decide) (backOf (W := 0) (rm7 l Z a0 hw [] b240 (own_max (own_max (own_max (-9223372036854775808 : Int64) q5) (p2.toInt64)) q1) T310.heap n0 Z0_c311 P310_3) hZ (W 47 rfl) (W 4 rfl) (by decide) (by decide)) q313a q313c (g := (mkF m 258 #[.val (.long q1), .second, .val (.int p2), .val (.int p3), .val (.int p4), .val (.long q5), .second, .val (.int p6), .val (.int (3 : Int32)), .val (.int x9), .val (.long x10), .second, .val (.long x12), .second, .val (.long x14), .second, .val (.ref o16), .val (.long tm), .second, .val (.ref b240), .val (.long (own_max (own_max (own_max (-9223372036854775808 : Int64) q5) (p2.toInt64)) q1)), .second, .val (.int (2 : Int32))] [(.ref b240)])) rfl (by rw [hml]; rfl) (Steps.refl _) (argsL := []) (rest := []) (lenOf pd_5 rfl) rfl (by show 2 * 0 + _ ≤ _; exact Nat.le_of_eq rfl) (hb hby at_258) (fun _ _ => ⟨rfl, e312, (by decide : 5 + 0 ≤ _), (by decide : 58 + 0 ≤ _)⟩)
      dsimp only [Pt.U, Pt.locs, Pt.cells, Pt.slots] at X313 l313 y313 z313 st313 hQ313
      subst l313 y313 z313
      obtain ⟨rfl, N313q, e313⟩ := hQ313
      have N313 := Fr.app N312 N313q
      refine own_goT st313 ?_
      show own_Run p e below _ T313 (mkF m 261 #[.val (.long q1), .second, .val (.int p2), .val (.int p3), .val (.int p4), .val (.long q5), .second, .val (.int p6), .val (.int (3 : Int32)), .val (.int x9), .val (.long x10), .second, .val (.long x12), .second, .val (.long x14), .second, .val (.ref o16), .val (.long tm), .second, .val (.ref b240), .val (.long (own_max (own_max (own_max (-9223372036854775808 : Int64) q5) (p2.toInt64)) q1)), .second, .val (.int (2 : Int32))] [(.long (own_max (own_max (own_max (-9223372036854775808 : Int64) q5) (p2.toInt64)) q1))])
      refine own_go (fun _ k => XS.lload X313.here hx rfl (hb hby at_261) rfl k) ?_
      refine own_go (fun _ k => XS.lcmp X313.here hx rfl (hb hby at_263) rfl k) ?_
      show own_Run p e below _ T313 (mkF m 264 #[.val (.long q1), .second, .val (.int p2), .val (.int p3), .val (.int p4), .val (.long q5), .second, .val (.int p6), .val (.int (3 : Int32)), .val (.int x9), .val (.long x10), .second, .val (.long x12), .second, .val (.long x14), .second, .val (.ref o16), .val (.long tm), .second, .val (.ref b240), .val (.long (own_max (own_max (own_max (-9223372036854775808 : Int64) q5) (p2.toInt64)) q1)), .second, .val (.int (2 : Int32))] [(.int (lcmpW (own_max (own_max (own_max (-9223372036854775808 : Int64) q5) (p2.toInt64)) q1) (own_max (own_max (own_max (-9223372036854775808 : Int64) q5) (p2.toInt64)) q1)))])
      refine own_go (fun _ k => XS.ifYes X313.here hx rfl (pc0 := 264) (pc' := 269) rfl (hb hby at_264) rfl (own_lcTe rfl).1 (by decide) (by decide) k) ?_
      show own_Run p e below _ T313 (mkF m 269 #[.val (.long q1), .second, .val (.int p2), .val (.int p3), .val (.int p4), .val (.long q5), .second, .val (.int p6), .val (.int (3 : Int32)), .val (.int x9), .val (.long x10), .second, .val (.long x12), .second, .val (.long x14), .second, .val (.ref o16), .val (.long tm), .second, .val (.ref b240), .val (.long (own_max (own_max (own_max (-9223372036854775808 : Int64) q5) (p2.toInt64)) q1)), .second, .val (.int (2 : Int32))] [])
      refine own_go (fun _ k => XS.iload X313.here hx rfl (hb hby at_269) rfl k) ?_
      show own_Run p e below _ T313 (mkF m 271 #[.val (.long q1), .second, .val (.int p2), .val (.int p3), .val (.int p4), .val (.long q5), .second, .val (.int p6), .val (.int (3 : Int32)), .val (.int x9), .val (.long x10), .second, .val (.long x12), .second, .val (.long x14), .second, .val (.ref o16), .val (.long tm), .second, .val (.ref b240), .val (.long (own_max (own_max (own_max (-9223372036854775808 : Int64) q5) (p2.toInt64)) q1)), .second, .val (.int (2 : Int32))] [(.int (2 : Int32))])
      refine own_go (fun _ k => XS.ifNo X313.here hx rfl (hb hby at_271) rfl ((if0 _ _).trans (tlt (by decide : (0 : Int32) < (2 : Int32))).2.2.2) k) ?_
      show own_Run p e below _ T313 (mkF m 274 #[.val (.long q1), .second, .val (.int p2), .val (.int p3), .val (.int p4), .val (.long q5), .second, .val (.int p6), .val (.int (3 : Int32)), .val (.int x9), .val (.long x10), .second, .val (.long x12), .second, .val (.long x14), .second, .val (.ref o16), .val (.long tm), .second, .val (.ref b240), .val (.long (own_max (own_max (own_max (-9223372036854775808 : Int64) q5) (p2.toInt64)) q1)), .second, .val (.int (2 : Int32))] [])
      refine own_go (fun _ k => XS.aload X313.here hx rfl (hb hby at_274) rfl rfl k) ?_
      refine own_go (fun _ k => XS.iload X313.here hx rfl (hb hby at_276) rfl k) ?_
      refine own_go (fun _ k => XS.iconst X313.here hx rfl (hb hby at_278) k) ?_
      refine own_go (fun _ k => XS.isub X313.here hx rfl (hb hby at_279) rfl k) ?_
      show own_Run p e below _ T313 (mkF m 280 #[.val (.long q1), .second, .val (.int p2), .val (.int p3), .val (.int p4), .val (.long q5), .second, .val (.int p6), .val (.int (3 : Int32)), .val (.int x9), .val (.long x10), .second, .val (.long x12), .second, .val (.long x14), .second, .val (.ref o16), .val (.long tm), .second, .val (.ref b240), .val (.long (own_max (own_max (own_max (-9223372036854775808 : Int64) q5) (p2.toInt64)) q1)), .second, .val (.int (2 : Int32))] [(.int ((2 : Int32) - (1 : Int32))), (.ref b240)])
      rw [show ((2 : Int32) - (1 : Int32)) = (1 : Int32) by decide]
      show own_Run p e below _ T313 (mkF m 280 #[.val (.long q1), .second, .val (.int p2), .val (.int p3), .val (.int p4), .val (.long q5), .second, .val (.int p6), .val (.int (3 : Int32)), .val (.int x9), .val (.long x10), .second, .val (.long x12), .second, .val (.long x14), .second, .val (.ref o16), .val (.long tm), .second, .val (.ref b240), .val (.long (own_max (own_max (own_max (-9223372036854775808 : Int64) q5) (p2.toInt64)) q1)), .second, .val (.int (2 : Int32))] [(.int (1 : Int32)), (.ref b240)])
      obtain ⟨cq314, kq314, q314a, q314b, q314c⟩ := isOf hZ e313 P310_0
      obtain ⟨_, _, ⟨T314, L314, k314, n314⟩, -, X314, ⟨Lc314, hQ314, l314, y314, z314⟩, st314⟩ := X313.virtualBack hx (y := (⟨"com/example/tote/tote/storage/OffsetIndex", "position", "(I)J"⟩ : MethodName)) (z := (⟨"com/example/tote/tote/storage/OffsetIndex", "position", "(I)J"⟩ : MethodName)) hown (mvT hZ (W 58 rfl)) (mvT hZ (W 59 rfl)) (notFace_of_selects (args := #[]) (mvT hZ (W 61 rfl))) (mvT hZ (W 61 rfl)) (mvT hZ (W 60 rfl)) (by decide) (backOf (W := 0) (rm10 l Z a0 hw [] b240 (1 : Int32) b2_242 k2_242 (x10.toInt32) (x12.toInt32) (x14.toInt32) (x12.toInt32) T310.heap n0 Z0_c311 P310_2 P295_9_c311 (Or.inr (Or.inl ⟨rfl, rfl⟩))) hZ (W 62 rfl) (W 4 rfl) (by decide) (by decide)) q314a q314c (g := (mkF m 280 #[.val (.long q1), .second, .val (.int p2), .val (.int p3), .val (.int p4), .val (.long q5), .second, .val (.int p6), .val (.int (3 : Int32)), .val (.int x9), .val (.long x10), .second, .val (.long x12), .second, .val (.long x14), .second, .val (.ref o16), .val (.long tm), .second, .val (.ref b240), .val (.long (own_max (own_max (own_max (-9223372036854775808 : Int64) q5) (p2.toInt64)) q1)), .second, .val (.int (2 : Int32))] [(.int (1 : Int32)), (.ref b240)])) rfl (by rw [hml]; rfl) (Steps.refl _) (argsL := [(.int (1 : Int32))]) (rest := []) (lenOf pd_9 rfl) rfl (by show 2 * 0 + _ ≤ _; exact Nat.le_of_eq rfl) (hb hby at_280) (fun _ _ => ⟨rfl, e313, (by decide : 5 + 0 ≤ _), (by decide : 58 + 0 ≤ _)⟩)
      dsimp only [Pt.U, Pt.locs, Pt.cells, Pt.slots] at X314 l314 y314 z314 st314 hQ314
      subst l314 y314 z314
      obtain ⟨rfl, N314q, e314⟩ := hQ314
      have N314 := Fr.app N313 N314q
      refine own_goT st314 ?_
      show own_Run p e below _ T314 (mkF m 283 #[.val (.long q1), .second, .val (.int p2), .val (.int p3), .val (.int p4), .val (.long q5), .second, .val (.int p6), .val (.int (3 : Int32)), .val (.int x9), .val (.long x10), .second, .val (.long x12), .second, .val (.long x14), .second, .val (.ref o16), .val (.long tm), .second, .val (.ref b240), .val (.long (own_max (own_max (own_max (-9223372036854775808 : Int64) q5) (p2.toInt64)) q1)), .second, .val (.int (2 : Int32))] [(.long ((x12.toInt32).toInt64))])
      refine own_go (fun _ k => XS.aload X314.here hx rfl (hb hby at_283) rfl rfl k) ?_
      refine own_go (fun _ k => XS.iload X314.here hx rfl (hb hby at_285) rfl k) ?_
      refine own_go (fun _ k => XS.iconst X314.here hx rfl (hb hby at_287) k) ?_
      refine own_go (fun _ k => XS.isub X314.here hx rfl (hb hby at_288) rfl k) ?_
      show own_Run p e below _ T314 (mkF m 289 #[.val (.long q1), .second, .val (.int p2), .val (.int p3), .val (.int p4), .val (.long q5), .second, .val (.int p6), .val (.int (3 : Int32)), .val (.int x9), .val (.long x10), .second, .val (.long x12), .second, .val (.long x14), .second, .val (.ref o16), .val (.long tm), .second, .val (.ref b240), .val (.long (own_max (own_max (own_max (-9223372036854775808 : Int64) q5) (p2.toInt64)) q1)), .second, .val (.int (2 : Int32))] [(.int ((2 : Int32) - (1 : Int32))), (.ref o16), (.long ((x12.toInt32).toInt64))])
      rw [show ((2 : Int32) - (1 : Int32)) = (1 : Int32) by decide]
      show own_Run p e below _ T314 (mkF m 289 #[.val (.long q1), .second, .val (.int p2), .val (.int p3), .val (.int p4), .val (.long q5), .second, .val (.int p6), .val (.int (3 : Int32)), .val (.int x9), .val (.long x10), .second, .val (.long x12), .second, .val (.long x14), .second, .val (.ref o16), .val (.long tm), .second, .val (.ref b240), .val (.long (own_max (own_max (own_max (-9223372036854775808 : Int64) q5) (p2.toInt64)) q1)), .second, .val (.int (2 : Int32))] [(.int (1 : Int32)), (.ref o16), (.long ((x12.toInt32).toInt64))])
      obtain ⟨cl315, Ar315, q315, S315, N315, H315, G315⟩ := id V_o16_c311
      have hin315 : ¬ ((1 : Int32) < 0 ∨ cl315.slots.size ≤ ((1 : Int32)).toNatClampNeg) := inb_of S315 ⟨by decide, by decide⟩
      refine own_go (X314.laload hx (j := (1 : Int32)) (v := (.long x12)) (by rw [e314]; exact Ar315.1) (State.isArrayOf_alike hZ.alike Ar315.2.1) Ar315.2.2 hin315 (H315.at hin315 rfl) (g := (mkF m 289 #[.val (.long q1), .second, .val (.int p2), .val (.int p3), .val (.int p4), .val (.long q5), .second, .val (.int p6), .val (.int (3 : Int32)), .val (.int x9), .val (.long x10), .second, .val (.long x12), .second, .val (.long x14), .second, .val (.ref o16), .val (.long tm), .second, .val (.ref b240), .val (.long (own_max (own_max (own_max (-9223372036854775808 : Int64) q5) (p2.toInt64)) q1)), .second, .val (.int (2 : Int32))] [(.int (1 : Int32)), (.ref o16), (.long ((x12.toInt32).toInt64))])) rfl rfl (hb hby at_289)) ?_
      show own_Run p e below _ T314 (mkF m 290 #[.val (.long q1), .second, .val (.int p2), .val (.int p3), .val (.int p4), .val (.long q5), .second, .val (.int p6), .val (.int (3 : Int32)), .val (.int x9), .val (.long x10), .second, .val (.long x12), .second, .val (.long x14), .second, .val (.ref o16), .val (.long tm), .second, .val (.ref b240), .val (.long (own_max (own_max (own_max (-9223372036854775808 : Int64) q5) (p2.toInt64)) q1)), .second, .val (.int (2 : Int32))] [(.long x12), (.long ((x12.toInt32).toInt64))])
      refine own_go (fun _ k => XS.lcmp X314.here hx rfl (hb hby at_290) rfl k) ?_
      show own_Run p e below _ T314 (mkF m 291 #[.val (.long q1), .second, .val (.int p2), .val (.int p3), .val (.int p4), .val (.long q5), .second, .val (.int p6), .val (.int (3 : Int32)), .val (.int x9), .val (.long x10), .second, .val (.long x12), .second, .val (.long x14), .second, .val (.ref o16), .val (.long tm), .second, .val (.ref b240), .val (.long (own_max (own_max (own_max (-9223372036854775808 : Int64) q5) (p2.toInt64)) q1)), .second, .val (.int (2 : Int32))] [(.int (lcmpW ((x12.toInt32).toInt64) x12))])
      refine own_go (fun _ k => XS.ifYes X314.here hx rfl (pc0 := 291) (pc' := 296) rfl (hb hby at_291) rfl (own_lcTe ht1).1 (by decide) (by decide) k) ?_
      show own_Run p e below _ T314 (mkF m 296 #[.val (.long q1), .second, .val (.int p2), .val (.int p3), .val (.int p4), .val (.long q5), .second, .val (.int p6), .val (.int (3 : Int32)), .val (.int x9), .val (.long x10), .second, .val (.long x12), .second, .val (.long x14), .second, .val (.ref o16), .val (.long tm), .second, .val (.ref b240), .val (.long (own_max (own_max (own_max (-9223372036854775808 : Int64) q5) (p2.toInt64)) q1)), .second, .val (.int (2 : Int32))] [])
      refine own_go (fun _ k => XS.aload X314.here hx rfl (hb hby at_296) rfl rfl k) ?_
      refine own_go (fun _ k => XS.iload X314.here hx rfl (hb hby at_298) rfl k) ?_
      refine own_go (fun _ k => XS.iconst X314.here hx rfl (hb hby at_300) k) ?_
      refine own_go (fun _ k => XS.isub X314.here hx rfl (hb hby at_301) rfl k) ?_
      show own_Run p e below _ T314 (mkF m 302 #[.val (.long q1), .second, .val (.int p2), .val (.int p3), .val (.int p4), .val (.long q5), .second, .val (.int p6), .val (.int (3 : Int32)), .val (.int x9), .val (.long x10), .second, .val (.long x12), .second, .val (.long x14), .second, .val (.ref o16), .val (.long tm), .second, .val (.ref b240), .val (.long (own_max (own_max (own_max (-9223372036854775808 : Int64) q5) (p2.toInt64)) q1)), .second, .val (.int (2 : Int32))] [(.int ((2 : Int32) - (1 : Int32))), (.ref b240)])
      rw [show ((2 : Int32) - (1 : Int32)) = (1 : Int32) by decide]
      show own_Run p e below _ T314 (mkF m 302 #[.val (.long q1), .second, .val (.int p2), .val (.int p3), .val (.int p4), .val (.long q5), .second, .val (.int p6), .val (.int (3 : Int32)), .val (.int x9), .val (.long x10), .second, .val (.long x12), .second, .val (.long x14), .second, .val (.ref o16), .val (.long tm), .second, .val (.ref b240), .val (.long (own_max (own_max (own_max (-9223372036854775808 : Int64) q5) (p2.toInt64)) q1)), .second, .val (.int (2 : Int32))] [(.int (1 : Int32)), (.ref b240)])
      obtain ⟨cq316, kq316, q316a, q316b, q316c⟩ := isOf hZ e314 P310_0
      obtain ⟨_, _, ⟨T316, L316, k316, n316⟩, -, X316, ⟨Lc316, hQ316, l316, y316, z316⟩, st316⟩ := X314.virtualBack hx (y := (⟨"com/example/tote/tote/storage/OffsetIndex", "offset", "(I)J"⟩ : MethodName)) (z := (⟨"com/example/tote/tote/storage/OffsetIndex", "offset", "(I)J"⟩ : MethodName)) hown (mvT hZ (W 63 rfl)) (mvT hZ (W 64 rfl)) (notFace_of_selects (args := #[]) (mvT hZ (W 66 rfl))) (mvT hZ (W 66 rfl)) (mvT hZ (W 65 rfl)) (by decide) (backOf (W := 0) (rm11 l Z a0 hw [] b240 (1 : Int32) b1_242 k1_242 q1 (0 : Int32) (1 : Int32) (2 : Int32) (1 : Int32) T310.heap n0 Z0_c311 P310_1 P310_4 Vo297_c311 (Or.inr (Or.inl ⟨rfl, rfl⟩))) hZ (W 67 rfl) (W 4 rfl) (by decide) (by decide)) q316a q316c (g := (mkF m 302 #[.val (.long q1), .second, .val (.int p2), .val (.int p3), .val (.int p4), .val (.long q5), .second, .val (.int p6), .val (.int (3 : Int32)), .val (.int x9), .val (.long x10), .second, .val (.long x12), .second, .val (.long x14), .second, .val (.ref o16), .val (.long tm), .second, .val (.ref b240), .val (.long (own_max (own_max (own_max (-9223372036854775808 : Int64) q5) (p2.toInt64)) q1)), .second, .val (.int (2 : Int32))] [(.int (1 : Int32)), (.ref b240)])) rfl (by rw [hml]; rfl) (Steps.refl _) (argsL := [(.int (1 : Int32))]) (rest := []) (lenOf pd_9 rfl) rfl (by show 2 * 0 + _ ≤ _; exact Nat.le_of_eq rfl) (hb hby at_302) (fun _ _ => ⟨rfl, e314, (by decide : 5 + 0 ≤ _), (by decide : 58 + 0 ≤ _)⟩)
      dsimp only [Pt.U, Pt.locs, Pt.cells, Pt.slots] at X316 l316 y316 z316 st316 hQ316
      subst l316 y316 z316
      obtain ⟨rfl, N316q, e316⟩ := hQ316
      have N316 := Fr.app N314 N316q
      refine own_goT st316 ?_
      show own_Run p e below _ T316 (mkF m 305 #[.val (.long q1), .second, .val (.int p2), .val (.int p3), .val (.int p4), .val (.long q5), .second, .val (.int p6), .val (.int (3 : Int32)), .val (.int x9), .val (.long x10), .second, .val (.long x12), .second, .val (.long x14), .second, .val (.ref o16), .val (.long tm), .second, .val (.ref b240), .val (.long (own_max (own_max (own_max (-9223372036854775808 : Int64) q5) (p2.toInt64)) q1)), .second, .val (.int (2 : Int32))] [(.long (q1 + ((1 : Int32).toInt64)))])
      refine own_go (fun _ k => XS.lloadN X316.here hx rfl (hb hby at_305) rfl k) ?_
      refine own_go (fun _ k => XS.iload X316.here hx rfl (hb hby at_306) rfl k) ?_
      refine own_go (fun _ k => XS.iconst X316.here hx rfl (hb hby at_308) k) ?_
      refine own_go (fun _ k => XS.isub X316.here hx rfl (hb hby at_309) rfl k) ?_
      show own_Run p e below _ T316 (mkF m 310 #[.val (.long q1), .second, .val (.int p2), .val (.int p3), .val (.int p4), .val (.long q5), .second, .val (.int p6), .val (.int (3 : Int32)), .val (.int x9), .val (.long x10), .second, .val (.long x12), .second, .val (.long x14), .second, .val (.ref o16), .val (.long tm), .second, .val (.ref b240), .val (.long (own_max (own_max (own_max (-9223372036854775808 : Int64) q5) (p2.toInt64)) q1)), .second, .val (.int (2 : Int32))] [(.int ((2 : Int32) - (1 : Int32))), (.long q1), (.long (q1 + ((1 : Int32).toInt64)))])
      rw [show ((2 : Int32) - (1 : Int32)) = (1 : Int32) by decide]
      show own_Run p e below _ T316 (mkF m 310 #[.val (.long q1), .second, .val (.int p2), .val (.int p3), .val (.int p4), .val (.long q5), .second, .val (.int p6), .val (.int (3 : Int32)), .val (.int x9), .val (.long x10), .second, .val (.long x12), .second, .val (.long x14), .second, .val (.ref o16), .val (.long tm), .second, .val (.ref b240), .val (.long (own_max (own_max (own_max (-9223372036854775808 : Int64) q5) (p2.toInt64)) q1)), .second, .val (.int (2 : Int32))] [(.int (1 : Int32)), (.long q1), (.long (q1 + ((1 : Int32).toInt64)))])
      refine own_go (fun _ k => XS.i2l X316.here hx rfl (hb hby at_310) rfl k) ?_
      show own_Run p e below _ T316 (mkF m 311 #[.val (.long q1), .second, .val (.int p2), .val (.int p3), .val (.int p4), .val (.long q5), .second, .val (.int p6), .val (.int (3 : Int32)), .val (.int x9), .val (.long x10), .second, .val (.long x12), .second, .val (.long x14), .second, .val (.ref o16), .val (.long tm), .second, .val (.ref b240), .val (.long (own_max (own_max (own_max (-9223372036854775808 : Int64) q5) (p2.toInt64)) q1)), .second, .val (.int (2 : Int32))] [(.long ((1 : Int32).toInt64)), (.long q1), (.long (q1 + ((1 : Int32).toInt64)))])
      rw [show ((1 : Int32).toInt64) = (1 : Int64) by decide]
      show own_Run p e below _ T316 (mkF m 311 #[.val (.long q1), .second, .val (.int p2), .val (.int p3), .val (.int p4), .val (.long q5), .second, .val (.int p6), .val (.int (3 : Int32)), .val (.int x9), .val (.long x10), .second, .val (.long x12), .second, .val (.long x14), .second, .val (.ref o16), .val (.long tm), .second, .val (.ref b240), .val (.long (own_max (own_max (own_max (-9223372036854775808 : Int64) q5) (p2.toInt64)) q1)), .second, .val (.int (2 : Int32))] [(.long (1 : Int64)), (.long q1), (.long (q1 + ((1 : Int32).toInt64)))])
      refine own_go (fun _ k => XS.ladd X316.here hx rfl (hb hby at_311) rfl k) ?_
      refine own_go (fun _ k => XS.lcmp X316.here hx rfl (hb hby at_312) rfl k) ?_
      show own_Run p e below _ T316 (mkF m 313 #[.val (.long q1), .second, .val (.int p2), .val (.int p3), .val (.int p4), .val (.long q5), .second, .val (.int p6), .val (.int (3 : Int32)), .val (.int x9), .val (.long x10), .second, .val (.long x12), .second, .val (.long x14), .second, .val (.ref o16), .val (.long tm), .second, .val (.ref b240), .val (.long (own_max (own_max (own_max (-9223372036854775808 : Int64) q5) (p2.toInt64)) q1)), .second, .val (.int (2 : Int32))] [(.int (lcmpW (q1 + ((1 : Int32).toInt64)) (q1 + (1 : Int64))))])
      refine own_go (fun _ k => XS.ifYes X316.here hx rfl (pc0 := 313) (pc' := 318) rfl (hb hby at_313) rfl (own_lcTe (by rw [show ((1 : Int32)).toInt64 = (1 : Int64) by decide] : (q1 + ((1 : Int32).toInt64)) = (q1 + (1 : Int64)))).1 (by decide) (by decide) k) ?_
      show own_Run p e below _ T316 (mkF m 318 #[.val (.long q1), .second, .val (.int p2), .val (.int p3), .val (.int p4), .val (.long q5), .second, .val (.int p6), .val (.int (3 : Int32)), .val (.int x9), .val (.long x10), .second, .val (.long x12), .second, .val (.long x14), .second, .val (.ref o16), .val (.long tm), .second, .val (.ref b240), .val (.long (own_max (own_max (own_max (-9223372036854775808 : Int64) q5) (p2.toInt64)) q1)), .second, .val (.int (2 : Int32))] [])
      refine own_go (fun _ k => XS.iconst X316.here hx rfl (hb hby at_318) k) ?_
      show own_Run p e below _ T316 (mkF m 319 #[.val (.long q1), .second, .val (.int p2), .val (.int p3), .val (.int p4), .val (.long q5), .second, .val (.int p6), .val (.int (3 : Int32)), .val (.int x9), .val (.long x10), .second, .val (.long x12), .second, .val (.long x14), .second, .val (.ref o16), .val (.long tm), .second, .val (.ref b240), .val (.long (own_max (own_max (own_max (-9223372036854775808 : Int64) q5) (p2.toInt64)) q1)), .second, .val (.int (2 : Int32))] [(.int (1 : Int32))])
      refine own_done (Q := fun v h L => Q0 Z q1 p2 p3 p4 q5 p6 h0 n0 v h L) (v := (some (.int (1 : Int32)))) X316 (fun h => by rw [hret] at h; cases h) hlk (fun fs hr => retN X316 hx (t := .boolean) hret (by simp) (hb hby at_319) hr) ?_ (by decide) (by decide)
      show Q0 Z q1 p2 p3 p4 q5 p6 h0 n0 _ T316.heap _
      rw [e316]
      exact ⟨rfl, N316⟩
    · obtain ⟨cq317, kq317, q317a, q317b, q317c⟩ := isOf hZ e298 P295_0
      obtain ⟨_, _, ⟨T317, L317, k317, n317⟩, -, X317, ⟨Lc317, hQ317, l317, y317, z317⟩, st317⟩ := X298.virtualBack hx (y := (⟨"com/example/tote/tote/storage/OffsetIndex", "cutBack", "(J)V"⟩ : MethodName)) (z := (⟨"com/example/tote/tote/storage/OffsetIndex", "cutBack", "(J)V"⟩ : MethodName)) hown (mvT hZ (W 48 rfl)) (mvT hZ (W 49 rfl)) (notFace_of_selects (args := #[]) (mvT hZ (W 51 rfl))) (mvT hZ (W 51 rfl)) (mvT hZ (W 50 rfl)) (by decide) (backOf (W := 0) (rm8n3 l Z a0 hw [] b240 tm b1_242 b2_242 k2_242 (own_max (own_max (own_max (-9223372036854775808 : Int64) q5) (p2.toInt64)) q1) q1 (x10.toInt32) (x12.toInt32) (x14.toInt32) (3 : Int32) T295.heap n0 Z0_c296 P295_0 P295_1 P295_2 P295_4 P295_5 P295_7 P295_9 g_b240 P242_15 (Or.inr (Or.inr (Or.inr (⟨(by rw [ht0]; exact hz0), (by rw [ht1]; exact hz1), (by rw [ht2]; exact hz2), rfl⟩))))) hZ (W 52 rfl) (W 4 rfl) (by decide) (by decide)) q317a q317c (g := (mkF m 187 #[.val (.long q1), .second, .val (.int p2), .val (.int p3), .val (.int p4), .val (.long q5), .second, .val (.int p6), .val (.int (3 : Int32)), .val (.int x9), .val (.long x10), .second, .val (.long x12), .second, .val (.long x14), .second, .val (.ref o16), .val (.long tm), .second, .val (.ref b240), .val (.long (own_max (own_max (own_max (-9223372036854775808 : Int64) q5) (p2.toInt64)) q1)), .second, .unset] [(.long tm), (.ref b240)])) rfl (by rw [hml]; rfl) (Steps.refl _) (argsL := [(.long tm)]) (rest := []) (lenOf pd_6 rfl) rfl (by show 2 * 0 + _ ≤ _; exact Nat.le_of_eq rfl) (hb hby at_187) (fun _ _ => ⟨rfl, e298, (by decide : 5 + 0 ≤ _), (by decide : 58 + 0 ≤ _)⟩)
      dsimp only [Pt.U, Pt.locs, Pt.cells, Pt.slots] at X317 l317 y317 z317 st317 hQ317
      subst l317 y317 z317
      obtain ⟨rfl, N317q, K317, P317_0, P317_1, P317_2, P317_3, P317_4, P317_5⟩ := hQ317
      have N317 := Fr.app N298 N317q
      refine own_goT st317 ?_
      show own_Run p e below _ T317 (mkF m 190 #[.val (.long q1), .second, .val (.int p2), .val (.int p3), .val (.int p4), .val (.long q5), .second, .val (.int p6), .val (.int (3 : Int32)), .val (.int x9), .val (.long x10), .second, .val (.long x12), .second, .val (.long x14), .second, .val (.ref o16), .val (.long tm), .second, .val (.ref b240), .val (.long (own_max (own_max (own_max (-9223372036854775808 : Int64) q5) (p2.toInt64)) q1)), .second, .unset] [])
      have Z0_c318 := Nat.le_trans Z0_c296 K317.1
      have K0_c318 := K0_c296.trans K317 (allS (Or.inr sz_b240) all0)
      have V_o16_c318 := V_o16_c296.keep K317 (ninS ne_o16_b240 nin0)
      have P295_0_c318 := P295_0.keep K317
      have Vo297_c318 := Vo297.keep K317 (ninS (Ne.symm P242_14) nin0)
      have P295_9_c318 := P295_9.keep K317 (ninS (Ne.symm P242_15) nin0)
      have P295_10_c318 := P295_10.keep K317 (ninS (Ne.symm P242_16) nin0)
      refine own_go (fun _ k => XS.iconst X317.here hx rfl (hb hby at_190) k) ?_
      refine own_go (fun _ k => XS.istore X317.here hx rfl (hb hby at_191) rfl (l' := #[.val (.long q1), .second, .val (.int p2), .val (.int p3), .val (.int p4), .val (.long q5), .second, .val (.int p6), .val (.int (3 : Int32)), .val (.int x9), .val (.long x10), .second, .val (.long x12), .second, .val (.long x14), .second, .val (.ref o16), .val (.long tm), .second, .val (.ref b240), .val (.long (own_max (own_max (own_max (-9223372036854775808 : Int64) q5) (p2.toInt64)) q1)), .second, .val (.int (0 : Int32))]) rfl k) ?_
      refine own_go (fun _ k => XS.iload X317.here hx rfl (hb hby at_193) rfl k) ?_
      refine own_go (fun _ k => XS.iconst X317.here hx rfl (hb hby at_195) k) ?_
      show own_Run p e below _ T317 (mkF m 196 #[.val (.long q1), .second, .val (.int p2), .val (.int p3), .val (.int p4), .val (.long q5), .second, .val (.int p6), .val (.int (3 : Int32)), .val (.int x9), .val (.long x10), .second, .val (.long x12), .second, .val (.long x14), .second, .val (.ref o16), .val (.long tm), .second, .val (.ref b240), .val (.long (own_max (own_max (own_max (-9223372036854775808 : Int64) q5) (p2.toInt64)) q1)), .second, .val (.int (0 : Int32))] [(.int (1 : Int32)), (.int (3 : Int32))])
      refine own_go (fun _ k => XS.icmpNo X317.here hx rfl (hb hby at_196) rfl (flt (by decide : ¬ ((3 : Int32) < (1 : Int32)))).1 k) ?_
      show own_Run p e below _ T317 (mkF m 199 #[.val (.long q1), .second, .val (.int p2), .val (.int p3), .val (.int p4), .val (.long q5), .second, .val (.int p6), .val (.int (3 : Int32)), .val (.int x9), .val (.long x10), .second, .val (.long x12), .second, .val (.long x14), .second, .val (.ref o16), .val (.long tm), .second, .val (.ref b240), .val (.long (own_max (own_max (own_max (-9223372036854775808 : Int64) q5) (p2.toInt64)) q1)), .second, .val (.int (0 : Int32))] [])
      refine own_go (fun _ k => XS.lload X317.here hx rfl (hb hby at_199) rfl k) ?_
      refine own_go (fun _ k => XS.lload X317.here hx rfl (hb hby at_201) rfl k) ?_
      refine own_go (fun _ k => XS.lcmp X317.here hx rfl (hb hby at_203) rfl k) ?_
      show own_Run p e below _ T317 (mkF m 204 #[.val (.long q1), .second, .val (.int p2), .val (.int p3), .val (.int p4), .val (.long q5), .second, .val (.int p6), .val (.int (3 : Int32)), .val (.int x9), .val (.long x10), .second, .val (.long x12), .second, .val (.long x14), .second, .val (.ref o16), .val (.long tm), .second, .val (.ref b240), .val (.long (own_max (own_max (own_max (-9223372036854775808 : Int64) q5) (p2.toInt64)) q1)), .second, .val (.int (0 : Int32))] [(.int (lcmpW x10 tm))])
      refine own_go (fun _ k => XS.ifNo X317.here hx rfl (hb hby at_204) rfl (own_lcT hz0).2.1 k) ?_
      show own_Run p e below _ T317 (mkF m 207 #[.val (.long q1), .second, .val (.int p2), .val (.int p3), .val (.int p4), .val (.long q5), .second, .val (.int p6), .val (.int (3 : Int32)), .val (.int x9), .val (.long x10), .second, .val (.long x12), .second, .val (.long x14), .second, .val (.ref o16), .val (.long tm), .second, .val (.ref b240), .val (.long (own_max (own_max (own_max (-9223372036854775808 : Int64) q5) (p2.toInt64)) q1)), .second, .val (.int (0 : Int32))] [])
      refine own_go (fun _ k => XS.iconst X317.here hx rfl (hb hby at_207) k) ?_
      refine own_go (fun _ k => XS.istore X317.here hx rfl (hb hby at_208) rfl (l' := #[.val (.long q1), .second, .val (.int p2), .val (.int p3), .val (.int p4), .val (.long q5), .second, .val (.int p6), .val (.int (3 : Int32)), .val (.int x9), .val (.long x10), .second, .val (.long x12), .second, .val (.long x14), .second, .val (.ref o16), .val (.long tm), .second, .val (.ref b240), .val (.long (own_max (own_max (own_max (-9223372036854775808 : Int64) q5) (p2.toInt64)) q1)), .second, .val (.int (1 : Int32))]) rfl k) ?_
      refine own_go (fun _ k => XS.iload X317.here hx rfl (hb hby at_210) rfl k) ?_
      refine own_go (fun _ k => XS.iconst X317.here hx rfl (hb hby at_212) k) ?_
      show own_Run p e below _ T317 (mkF m 213 #[.val (.long q1), .second, .val (.int p2), .val (.int p3), .val (.int p4), .val (.long q5), .second, .val (.int p6), .val (.int (3 : Int32)), .val (.int x9), .val (.long x10), .second, .val (.long x12), .second, .val (.long x14), .second, .val (.ref o16), .val (.long tm), .second, .val (.ref b240), .val (.long (own_max (own_max (own_max (-9223372036854775808 : Int64) q5) (p2.toInt64)) q1)), .second, .val (.int (1 : Int32))] [(.int (2 : Int32)), (.int (3 : Int32))])
      refine own_go (fun _ k => XS.icmpNo X317.here hx rfl (hb hby at_213) rfl (flt (by decide : ¬ ((3 : Int32) < (2 : Int32)))).1 k) ?_
      show own_Run p e below _ T317 (mkF m 216 #[.val (.long q1), .second, .val (.int p2), .val (.int p3), .val (.int p4), .val (.long q5), .second, .val (.int p6), .val (.int (3 : Int32)), .val (.int x9), .val (.long x10), .second, .val (.long x12), .second, .val (.long x14), .second, .val (.ref o16), .val (.long tm), .second, .val (.ref b240), .val (.long (own_max (own_max (own_max (-9223372036854775808 : Int64) q5) (p2.toInt64)) q1)), .second, .val (.int (1 : Int32))] [])
      refine own_go (fun _ k => XS.lload X317.here hx rfl (hb hby at_216) rfl k) ?_
      refine own_go (fun _ k => XS.lload X317.here hx rfl (hb hby at_218) rfl k) ?_
      refine own_go (fun _ k => XS.lcmp X317.here hx rfl (hb hby at_220) rfl k) ?_
      show own_Run p e below _ T317 (mkF m 221 #[.val (.long q1), .second, .val (.int p2), .val (.int p3), .val (.int p4), .val (.long q5), .second, .val (.int p6), .val (.int (3 : Int32)), .val (.int x9), .val (.long x10), .second, .val (.long x12), .second, .val (.long x14), .second, .val (.ref o16), .val (.long tm), .second, .val (.ref b240), .val (.long (own_max (own_max (own_max (-9223372036854775808 : Int64) q5) (p2.toInt64)) q1)), .second, .val (.int (1 : Int32))] [(.int (lcmpW x12 tm))])
      refine own_go (fun _ k => XS.ifNo X317.here hx rfl (hb hby at_221) rfl (own_lcT hz1).2.1 k) ?_
      show own_Run p e below _ T317 (mkF m 224 #[.val (.long q1), .second, .val (.int p2), .val (.int p3), .val (.int p4), .val (.long q5), .second, .val (.int p6), .val (.int (3 : Int32)), .val (.int x9), .val (.long x10), .second, .val (.long x12), .second, .val (.long x14), .second, .val (.ref o16), .val (.long tm), .second, .val (.ref b240), .val (.long (own_max (own_max (own_max (-9223372036854775808 : Int64) q5) (p2.toInt64)) q1)), .second, .val (.int (1 : Int32))] [])
      refine own_go (fun _ k => XS.iconst X317.here hx rfl (hb hby at_224) k) ?_
      refine own_go (fun _ k => XS.istore X317.here hx rfl (hb hby at_225) rfl (l' := #[.val (.long q1), .second, .val (.int p2), .val (.int p3), .val (.int p4), .val (.long q5), .second, .val (.int p6), .val (.int (3 : Int32)), .val (.int x9), .val (.long x10), .second, .val (.long x12), .second, .val (.long x14), .second, .val (.ref o16), .val (.long tm), .second, .val (.ref b240), .val (.long (own_max (own_max (own_max (-9223372036854775808 : Int64) q5) (p2.toInt64)) q1)), .second, .val (.int (2 : Int32))]) rfl k) ?_
      refine own_go (fun _ k => XS.iload X317.here hx rfl (hb hby at_227) rfl k) ?_
      refine own_go (fun _ k => XS.iconst X317.here hx rfl (hb hby at_229) k) ?_
      show own_Run p e below _ T317 (mkF m 230 #[.val (.long q1), .second, .val (.int p2), .val (.int p3), .val (.int p4), .val (.long q5), .second, .val (.int p6), .val (.int (3 : Int32)), .val (.int x9), .val (.long x10), .second, .val (.long x12), .second, .val (.long x14), .second, .val (.ref o16), .val (.long tm), .second, .val (.ref b240), .val (.long (own_max (own_max (own_max (-9223372036854775808 : Int64) q5) (p2.toInt64)) q1)), .second, .val (.int (2 : Int32))] [(.int (3 : Int32)), (.int (3 : Int32))])
      refine own_go (fun _ k => XS.icmpNo X317.here hx rfl (hb hby at_230) rfl (flt (by decide : ¬ ((3 : Int32) < (3 : Int32)))).1 k) ?_
      show own_Run p e below _ T317 (mkF m 233 #[.val (.long q1), .second, .val (.int p2), .val (.int p3), .val (.int p4), .val (.long q5), .second, .val (.int p6), .val (.int (3 : Int32)), .val (.int x9), .val (.long x10), .second, .val (.long x12), .second, .val (.long x14), .second, .val (.ref o16), .val (.long tm), .second, .val (.ref b240), .val (.long (own_max (own_max (own_max (-9223372036854775808 : Int64) q5) (p2.toInt64)) q1)), .second, .val (.int (2 : Int32))] [])
      refine own_go (fun _ k => XS.lload X317.here hx rfl (hb hby at_233) rfl k) ?_
      refine own_go (fun _ k => XS.lload X317.here hx rfl (hb hby at_235) rfl k) ?_
      refine own_go (fun _ k => XS.lcmp X317.here hx rfl (hb hby at_237) rfl k) ?_
      show own_Run p e below _ T317 (mkF m 238 #[.val (.long q1), .second, .val (.int p2), .val (.int p3), .val (.int p4), .val (.long q5), .second, .val (.int p6), .val (.int (3 : Int32)), .val (.int x9), .val (.long x10), .second, .val (.long x12), .second, .val (.long x14), .second, .val (.ref o16), .val (.long tm), .second, .val (.ref b240), .val (.long (own_max (own_max (own_max (-9223372036854775808 : Int64) q5) (p2.toInt64)) q1)), .second, .val (.int (2 : Int32))] [(.int (lcmpW x14 tm))])
      refine own_go (fun _ k => XS.ifNo X317.here hx rfl (hb hby at_238) rfl (own_lcT hz2).2.1 k) ?_
      show own_Run p e below _ T317 (mkF m 241 #[.val (.long q1), .second, .val (.int p2), .val (.int p3), .val (.int p4), .val (.long q5), .second, .val (.int p6), .val (.int (3 : Int32)), .val (.int x9), .val (.long x10), .second, .val (.long x12), .second, .val (.long x14), .second, .val (.ref o16), .val (.long tm), .second, .val (.ref b240), .val (.long (own_max (own_max (own_max (-9223372036854775808 : Int64) q5) (p2.toInt64)) q1)), .second, .val (.int (2 : Int32))] [])
      refine own_go (fun _ k => XS.iconst X317.here hx rfl (hb hby at_241) k) ?_
      refine own_go (fun _ k => XS.istore X317.here hx rfl (hb hby at_242) rfl (l' := #[.val (.long q1), .second, .val (.int p2), .val (.int p3), .val (.int p4), .val (.long q5), .second, .val (.int p6), .val (.int (3 : Int32)), .val (.int x9), .val (.long x10), .second, .val (.long x12), .second, .val (.long x14), .second, .val (.ref o16), .val (.long tm), .second, .val (.ref b240), .val (.long (own_max (own_max (own_max (-9223372036854775808 : Int64) q5) (p2.toInt64)) q1)), .second, .val (.int (3 : Int32))]) rfl k) ?_
      refine own_go (fun _ k => XS.aload X317.here hx rfl (hb hby at_244) rfl rfl k) ?_
      show own_Run p e below _ T317 (mkF m 246 #[.val (.long q1), .second, .val (.int p2), .val (.int p3), .val (.int p4), .val (.long q5), .second, .val (.int p6), .val (.int (3 : Int32)), .val (.int x9), .val (.long x10), .second, .val (.long x12), .second, .val (.long x14), .second, .val (.ref o16), .val (.long tm), .second, .val (.ref b240), .val (.long (own_max (own_max (own_max (-9223372036854775808 : Int64) q5) (p2.toInt64)) q1)), .second, .val (.int (3 : Int32))] [(.ref b240)])
      obtain ⟨cq319, kq319, q319a, q319b, q319c⟩ := isOf hZ rfl P317_0
      obtain ⟨_, _, ⟨T319, L319, k319, n319⟩, -, X319, ⟨Lc319, hQ319, l319, y319, z319⟩, st319⟩ := X317.virtualBack hx (y := (⟨"com/example/tote/tote/storage/OffsetIndex", "count", "()I"⟩ : MethodName)) (z := (⟨"com/example/tote/tote/storage/OffsetIndex", "count", "()I"⟩ : MethodName)) hown (mvT hZ (W 53 rfl)) (mvT hZ (W 54 rfl)) (notFace_of_selects (args := #[]) (mvT hZ (W 56 rfl))) (mvT hZ (W 56 rfl)) (mvT hZ (W 55 rfl)) (by decide) (backOf (W := 0) (rm9 l Z a0 hw [] b240 (3 : Int32) T317.heap n0 Z0_c318 P317_5) hZ (W 57 rfl) (W 4 rfl) (by decide) (by decide)) q319a q319c (g := (mkF m 246 #[.val (.long q1), .second, .val (.int p2), .val (.int p3), .val (.int p4), .val (.long q5), .second, .val (.int p6), .val (.int (3 : Int32)), .val (.int x9), .val (.long x10), .second, .val (.long x12), .second, .val (.long x14), .second, .val (.ref o16), .val (.long tm), .second, .val (.ref b240), .val (.long (own_max (own_max (own_max (-9223372036854775808 : Int64) q5) (p2.toInt64)) q1)), .second, .val (.int (3 : Int32))] [(.ref b240)])) rfl (by rw [hml]; rfl) (Steps.refl _) (argsL := []) (rest := []) (lenOf pd_7 rfl) rfl (by show 2 * 0 + _ ≤ _; exact Nat.le_of_eq rfl) (hb hby at_246) (fun _ _ => ⟨rfl, rfl, (by decide : 5 + 0 ≤ _), (by decide : 58 + 0 ≤ _)⟩)
      dsimp only [Pt.U, Pt.locs, Pt.cells, Pt.slots] at X319 l319 y319 z319 st319 hQ319
      subst l319 y319 z319
      obtain ⟨rfl, N319q, e319⟩ := hQ319
      have N319 := Fr.app N317 N319q
      refine own_goT st319 ?_
      show own_Run p e below _ T319 (mkF m 249 #[.val (.long q1), .second, .val (.int p2), .val (.int p3), .val (.int p4), .val (.long q5), .second, .val (.int p6), .val (.int (3 : Int32)), .val (.int x9), .val (.long x10), .second, .val (.long x12), .second, .val (.long x14), .second, .val (.ref o16), .val (.long tm), .second, .val (.ref b240), .val (.long (own_max (own_max (own_max (-9223372036854775808 : Int64) q5) (p2.toInt64)) q1)), .second, .val (.int (3 : Int32))] [(.int (3 : Int32))])
      refine own_go (fun _ k => XS.iload X319.here hx rfl (hb hby at_249) rfl k) ?_
      show own_Run p e below _ T319 (mkF m 251 #[.val (.long q1), .second, .val (.int p2), .val (.int p3), .val (.int p4), .val (.long q5), .second, .val (.int p6), .val (.int (3 : Int32)), .val (.int x9), .val (.long x10), .second, .val (.long x12), .second, .val (.long x14), .second, .val (.ref o16), .val (.long tm), .second, .val (.ref b240), .val (.long (own_max (own_max (own_max (-9223372036854775808 : Int64) q5) (p2.toInt64)) q1)), .second, .val (.int (3 : Int32))] [(.int (3 : Int32)), (.int (3 : Int32))])
      refine own_go (fun _ k => XS.icmpYes X319.here hx rfl (pc0 := 251) (pc' := 256) rfl (hb hby at_251) rfl (teq (by decide : (3 : Int32) = (3 : Int32))).1 (by decide) (by decide) k) ?_
      show own_Run p e below _ T319 (mkF m 256 #[.val (.long q1), .second, .val (.int p2), .val (.int p3), .val (.int p4), .val (.long q5), .second, .val (.int p6), .val (.int (3 : Int32)), .val (.int x9), .val (.long x10), .second, .val (.long x12), .second, .val (.long x14), .second, .val (.ref o16), .val (.long tm), .second, .val (.ref b240), .val (.long (own_max (own_max (own_max (-9223372036854775808 : Int64) q5) (p2.toInt64)) q1)), .second, .val (.int (3 : Int32))] [])
      refine own_go (fun _ k => XS.aload X319.here hx rfl (hb hby at_256) rfl rfl k) ?_
      show own_Run p e below _ T319 (mkF m 258 #[.val (.long q1), .second, .val (.int p2), .val (.int p3), .val (.int p4), .val (.long q5), .second, .val (.int p6), .val (.int (3 : Int32)), .val (.int x9), .val (.long x10), .second, .val (.long x12), .second, .val (.long x14), .second, .val (.ref o16), .val (.long tm), .second, .val (.ref b240), .val (.long (own_max (own_max (own_max (-9223372036854775808 : Int64) q5) (p2.toInt64)) q1)), .second, .val (.int (3 : Int32))] [(.ref b240)])
      obtain ⟨cq320, kq320, q320a, q320b, q320c⟩ := isOf hZ e319 P317_0
      obtain ⟨_, _, ⟨T320, L320, k320, n320⟩, -, X320, ⟨Lc320, hQ320, l320, y320, z320⟩, st320⟩ := X319.virtualBack hx (y := (⟨"com/example/tote/tote/storage/OffsetIndex", "maxTimestamp", "()J"⟩ : MethodName)) (z := (⟨"com/example/tote/tote/storage/OffsetIndex", "maxTimestamp", "()J"⟩ : MethodName)) hown (mvT hZ (W 43 rfl)) (mvT hZ (W 44 rfl)) (notFace_of_selects (args := #[]) (mvT hZ (W 46 rfl))) (mvT hZ (W 46 rfl)) (mvT hZ (W 45 rfl)) (by decide) (backOf (W := 0) (rm7 l Z a0 hw [] b240 (own_max (own_max (own_max (-9223372036854775808 : Int64) q5) (p2.toInt64)) q1) T317.heap n0 Z0_c318 P317_3) hZ (W 47 rfl) (W 4 rfl) (by decide) (by decide)) q320a q320c (g := (mkF m 258 #[.val (.long q1), .second, .val (.int p2), .val (.int p3), .val (.int p4), .val (.long q5), .second, .val (.int p6), .val (.int (3 : Int32)), .val (.int x9), .val (.long x10), .second, .val (.long x12), .second, .val (.long x14), .second, .val (.ref o16), .val (.long tm), .second, .val (.ref b240), .val (.long (own_max (own_max (own_max (-9223372036854775808 : Int64) q5) (p2.toInt64)) q1)), .second, .val (.int (3 : Int32))] [(.ref b240)])) rfl (by rw [hml]; rfl) (Steps.refl _) (argsL := []) (rest := []) (lenOf pd_5 rfl) rfl (by show 2 * 0 + _ ≤ _; exact Nat.le_of_eq rfl) (hb hby at_258) (fun _ _ => ⟨rfl, e319, (by decide : 5 + 0 ≤ _), (by decide : 58 + 0 ≤ _)⟩)
      dsimp only [Pt.U, Pt.locs, Pt.cells, Pt.slots] at X320 l320 y320 z320 st320 hQ320
      subst l320 y320 z320
      obtain ⟨rfl, N320q, e320⟩ := hQ320
      have N320 := Fr.app N319 N320q
      refine own_goT st320 ?_
      show own_Run p e below _ T320 (mkF m 261 #[.val (.long q1), .second, .val (.int p2), .val (.int p3), .val (.int p4), .val (.long q5), .second, .val (.int p6), .val (.int (3 : Int32)), .val (.int x9), .val (.long x10), .second, .val (.long x12), .second, .val (.long x14), .second, .val (.ref o16), .val (.long tm), .second, .val (.ref b240), .val (.long (own_max (own_max (own_max (-9223372036854775808 : Int64) q5) (p2.toInt64)) q1)), .second, .val (.int (3 : Int32))] [(.long (own_max (own_max (own_max (-9223372036854775808 : Int64) q5) (p2.toInt64)) q1))])
      refine own_go (fun _ k => XS.lload X320.here hx rfl (hb hby at_261) rfl k) ?_
      refine own_go (fun _ k => XS.lcmp X320.here hx rfl (hb hby at_263) rfl k) ?_
      show own_Run p e below _ T320 (mkF m 264 #[.val (.long q1), .second, .val (.int p2), .val (.int p3), .val (.int p4), .val (.long q5), .second, .val (.int p6), .val (.int (3 : Int32)), .val (.int x9), .val (.long x10), .second, .val (.long x12), .second, .val (.long x14), .second, .val (.ref o16), .val (.long tm), .second, .val (.ref b240), .val (.long (own_max (own_max (own_max (-9223372036854775808 : Int64) q5) (p2.toInt64)) q1)), .second, .val (.int (3 : Int32))] [(.int (lcmpW (own_max (own_max (own_max (-9223372036854775808 : Int64) q5) (p2.toInt64)) q1) (own_max (own_max (own_max (-9223372036854775808 : Int64) q5) (p2.toInt64)) q1)))])
      refine own_go (fun _ k => XS.ifYes X320.here hx rfl (pc0 := 264) (pc' := 269) rfl (hb hby at_264) rfl (own_lcTe rfl).1 (by decide) (by decide) k) ?_
      show own_Run p e below _ T320 (mkF m 269 #[.val (.long q1), .second, .val (.int p2), .val (.int p3), .val (.int p4), .val (.long q5), .second, .val (.int p6), .val (.int (3 : Int32)), .val (.int x9), .val (.long x10), .second, .val (.long x12), .second, .val (.long x14), .second, .val (.ref o16), .val (.long tm), .second, .val (.ref b240), .val (.long (own_max (own_max (own_max (-9223372036854775808 : Int64) q5) (p2.toInt64)) q1)), .second, .val (.int (3 : Int32))] [])
      refine own_go (fun _ k => XS.iload X320.here hx rfl (hb hby at_269) rfl k) ?_
      show own_Run p e below _ T320 (mkF m 271 #[.val (.long q1), .second, .val (.int p2), .val (.int p3), .val (.int p4), .val (.long q5), .second, .val (.int p6), .val (.int (3 : Int32)), .val (.int x9), .val (.long x10), .second, .val (.long x12), .second, .val (.long x14), .second, .val (.ref o16), .val (.long tm), .second, .val (.ref b240), .val (.long (own_max (own_max (own_max (-9223372036854775808 : Int64) q5) (p2.toInt64)) q1)), .second, .val (.int (3 : Int32))] [(.int (3 : Int32))])
      refine own_go (fun _ k => XS.ifNo X320.here hx rfl (hb hby at_271) rfl ((if0 _ _).trans (tlt (by decide : (0 : Int32) < (3 : Int32))).2.2.2) k) ?_
      show own_Run p e below _ T320 (mkF m 274 #[.val (.long q1), .second, .val (.int p2), .val (.int p3), .val (.int p4), .val (.long q5), .second, .val (.int p6), .val (.int (3 : Int32)), .val (.int x9), .val (.long x10), .second, .val (.long x12), .second, .val (.long x14), .second, .val (.ref o16), .val (.long tm), .second, .val (.ref b240), .val (.long (own_max (own_max (own_max (-9223372036854775808 : Int64) q5) (p2.toInt64)) q1)), .second, .val (.int (3 : Int32))] [])
      refine own_go (fun _ k => XS.aload X320.here hx rfl (hb hby at_274) rfl rfl k) ?_
      refine own_go (fun _ k => XS.iload X320.here hx rfl (hb hby at_276) rfl k) ?_
      refine own_go (fun _ k => XS.iconst X320.here hx rfl (hb hby at_278) k) ?_
      refine own_go (fun _ k => XS.isub X320.here hx rfl (hb hby at_279) rfl k) ?_
      show own_Run p e below _ T320 (mkF m 280 #[.val (.long q1), .second, .val (.int p2), .val (.int p3), .val (.int p4), .val (.long q5), .second, .val (.int p6), .val (.int (3 : Int32)), .val (.int x9), .val (.long x10), .second, .val (.long x12), .second, .val (.long x14), .second, .val (.ref o16), .val (.long tm), .second, .val (.ref b240), .val (.long (own_max (own_max (own_max (-9223372036854775808 : Int64) q5) (p2.toInt64)) q1)), .second, .val (.int (3 : Int32))] [(.int ((3 : Int32) - (1 : Int32))), (.ref b240)])
      rw [show ((3 : Int32) - (1 : Int32)) = (2 : Int32) by decide]
      show own_Run p e below _ T320 (mkF m 280 #[.val (.long q1), .second, .val (.int p2), .val (.int p3), .val (.int p4), .val (.long q5), .second, .val (.int p6), .val (.int (3 : Int32)), .val (.int x9), .val (.long x10), .second, .val (.long x12), .second, .val (.long x14), .second, .val (.ref o16), .val (.long tm), .second, .val (.ref b240), .val (.long (own_max (own_max (own_max (-9223372036854775808 : Int64) q5) (p2.toInt64)) q1)), .second, .val (.int (3 : Int32))] [(.int (2 : Int32)), (.ref b240)])
      obtain ⟨cq321, kq321, q321a, q321b, q321c⟩ := isOf hZ e320 P317_0
      obtain ⟨_, _, ⟨T321, L321, k321, n321⟩, -, X321, ⟨Lc321, hQ321, l321, y321, z321⟩, st321⟩ := X320.virtualBack hx (y := (⟨"com/example/tote/tote/storage/OffsetIndex", "position", "(I)J"⟩ : MethodName)) (z := (⟨"com/example/tote/tote/storage/OffsetIndex", "position", "(I)J"⟩ : MethodName)) hown (mvT hZ (W 58 rfl)) (mvT hZ (W 59 rfl)) (notFace_of_selects (args := #[]) (mvT hZ (W 61 rfl))) (mvT hZ (W 61 rfl)) (mvT hZ (W 60 rfl)) (by decide) (backOf (W := 0) (rm10 l Z a0 hw [] b240 (2 : Int32) b2_242 k2_242 (x10.toInt32) (x12.toInt32) (x14.toInt32) (x14.toInt32) T317.heap n0 Z0_c318 P317_2 P295_9_c318 (Or.inr (Or.inr (⟨rfl, rfl⟩)))) hZ (W 62 rfl) (W 4 rfl) (by decide) (by decide)) q321a q321c (g := (mkF m 280 #[.val (.long q1), .second, .val (.int p2), .val (.int p3), .val (.int p4), .val (.long q5), .second, .val (.int p6), .val (.int (3 : Int32)), .val (.int x9), .val (.long x10), .second, .val (.long x12), .second, .val (.long x14), .second, .val (.ref o16), .val (.long tm), .second, .val (.ref b240), .val (.long (own_max (own_max (own_max (-9223372036854775808 : Int64) q5) (p2.toInt64)) q1)), .second, .val (.int (3 : Int32))] [(.int (2 : Int32)), (.ref b240)])) rfl (by rw [hml]; rfl) (Steps.refl _) (argsL := [(.int (2 : Int32))]) (rest := []) (lenOf pd_9 rfl) rfl (by show 2 * 0 + _ ≤ _; exact Nat.le_of_eq rfl) (hb hby at_280) (fun _ _ => ⟨rfl, e320, (by decide : 5 + 0 ≤ _), (by decide : 58 + 0 ≤ _)⟩)
      dsimp only [Pt.U, Pt.locs, Pt.cells, Pt.slots] at X321 l321 y321 z321 st321 hQ321
      subst l321 y321 z321
      obtain ⟨rfl, N321q, e321⟩ := hQ321
      have N321 := Fr.app N320 N321q
      refine own_goT st321 ?_
      show own_Run p e below _ T321 (mkF m 283 #[.val (.long q1), .second, .val (.int p2), .val (.int p3), .val (.int p4), .val (.long q5), .second, .val (.int p6), .val (.int (3 : Int32)), .val (.int x9), .val (.long x10), .second, .val (.long x12), .second, .val (.long x14), .second, .val (.ref o16), .val (.long tm), .second, .val (.ref b240), .val (.long (own_max (own_max (own_max (-9223372036854775808 : Int64) q5) (p2.toInt64)) q1)), .second, .val (.int (3 : Int32))] [(.long ((x14.toInt32).toInt64))])
      refine own_go (fun _ k => XS.aload X321.here hx rfl (hb hby at_283) rfl rfl k) ?_
      refine own_go (fun _ k => XS.iload X321.here hx rfl (hb hby at_285) rfl k) ?_
      refine own_go (fun _ k => XS.iconst X321.here hx rfl (hb hby at_287) k) ?_
      refine own_go (fun _ k => XS.isub X321.here hx rfl (hb hby at_288) rfl k) ?_
      show own_Run p e below _ T321 (mkF m 289 #[.val (.long q1), .second, .val (.int p2), .val (.int p3), .val (.int p4), .val (.long q5), .second, .val (.int p6), .val (.int (3 : Int32)), .val (.int x9), .val (.long x10), .second, .val (.long x12), .second, .val (.long x14), .second, .val (.ref o16), .val (.long tm), .second, .val (.ref b240), .val (.long (own_max (own_max (own_max (-9223372036854775808 : Int64) q5) (p2.toInt64)) q1)), .second, .val (.int (3 : Int32))] [(.int ((3 : Int32) - (1 : Int32))), (.ref o16), (.long ((x14.toInt32).toInt64))])
      rw [show ((3 : Int32) - (1 : Int32)) = (2 : Int32) by decide]
      show own_Run p e below _ T321 (mkF m 289 #[.val (.long q1), .second, .val (.int p2), .val (.int p3), .val (.int p4), .val (.long q5), .second, .val (.int p6), .val (.int (3 : Int32)), .val (.int x9), .val (.long x10), .second, .val (.long x12), .second, .val (.long x14), .second, .val (.ref o16), .val (.long tm), .second, .val (.ref b240), .val (.long (own_max (own_max (own_max (-9223372036854775808 : Int64) q5) (p2.toInt64)) q1)), .second, .val (.int (3 : Int32))] [(.int (2 : Int32)), (.ref o16), (.long ((x14.toInt32).toInt64))])
      obtain ⟨cl322, Ar322, q322, S322, N322, H322, G322⟩ := id V_o16_c318
      have hin322 : ¬ ((2 : Int32) < 0 ∨ cl322.slots.size ≤ ((2 : Int32)).toNatClampNeg) := inb_of S322 ⟨by decide, by decide⟩
      refine own_go (X321.laload hx (j := (2 : Int32)) (v := (.long x14)) (by rw [e321]; exact Ar322.1) (State.isArrayOf_alike hZ.alike Ar322.2.1) Ar322.2.2 hin322 (H322.at hin322 rfl) (g := (mkF m 289 #[.val (.long q1), .second, .val (.int p2), .val (.int p3), .val (.int p4), .val (.long q5), .second, .val (.int p6), .val (.int (3 : Int32)), .val (.int x9), .val (.long x10), .second, .val (.long x12), .second, .val (.long x14), .second, .val (.ref o16), .val (.long tm), .second, .val (.ref b240), .val (.long (own_max (own_max (own_max (-9223372036854775808 : Int64) q5) (p2.toInt64)) q1)), .second, .val (.int (3 : Int32))] [(.int (2 : Int32)), (.ref o16), (.long ((x14.toInt32).toInt64))])) rfl rfl (hb hby at_289)) ?_
      show own_Run p e below _ T321 (mkF m 290 #[.val (.long q1), .second, .val (.int p2), .val (.int p3), .val (.int p4), .val (.long q5), .second, .val (.int p6), .val (.int (3 : Int32)), .val (.int x9), .val (.long x10), .second, .val (.long x12), .second, .val (.long x14), .second, .val (.ref o16), .val (.long tm), .second, .val (.ref b240), .val (.long (own_max (own_max (own_max (-9223372036854775808 : Int64) q5) (p2.toInt64)) q1)), .second, .val (.int (3 : Int32))] [(.long x14), (.long ((x14.toInt32).toInt64))])
      refine own_go (fun _ k => XS.lcmp X321.here hx rfl (hb hby at_290) rfl k) ?_
      show own_Run p e below _ T321 (mkF m 291 #[.val (.long q1), .second, .val (.int p2), .val (.int p3), .val (.int p4), .val (.long q5), .second, .val (.int p6), .val (.int (3 : Int32)), .val (.int x9), .val (.long x10), .second, .val (.long x12), .second, .val (.long x14), .second, .val (.ref o16), .val (.long tm), .second, .val (.ref b240), .val (.long (own_max (own_max (own_max (-9223372036854775808 : Int64) q5) (p2.toInt64)) q1)), .second, .val (.int (3 : Int32))] [(.int (lcmpW ((x14.toInt32).toInt64) x14))])
      refine own_go (fun _ k => XS.ifYes X321.here hx rfl (pc0 := 291) (pc' := 296) rfl (hb hby at_291) rfl (own_lcTe ht2).1 (by decide) (by decide) k) ?_
      show own_Run p e below _ T321 (mkF m 296 #[.val (.long q1), .second, .val (.int p2), .val (.int p3), .val (.int p4), .val (.long q5), .second, .val (.int p6), .val (.int (3 : Int32)), .val (.int x9), .val (.long x10), .second, .val (.long x12), .second, .val (.long x14), .second, .val (.ref o16), .val (.long tm), .second, .val (.ref b240), .val (.long (own_max (own_max (own_max (-9223372036854775808 : Int64) q5) (p2.toInt64)) q1)), .second, .val (.int (3 : Int32))] [])
      refine own_go (fun _ k => XS.aload X321.here hx rfl (hb hby at_296) rfl rfl k) ?_
      refine own_go (fun _ k => XS.iload X321.here hx rfl (hb hby at_298) rfl k) ?_
      refine own_go (fun _ k => XS.iconst X321.here hx rfl (hb hby at_300) k) ?_
      refine own_go (fun _ k => XS.isub X321.here hx rfl (hb hby at_301) rfl k) ?_
      show own_Run p e below _ T321 (mkF m 302 #[.val (.long q1), .second, .val (.int p2), .val (.int p3), .val (.int p4), .val (.long q5), .second, .val (.int p6), .val (.int (3 : Int32)), .val (.int x9), .val (.long x10), .second, .val (.long x12), .second, .val (.long x14), .second, .val (.ref o16), .val (.long tm), .second, .val (.ref b240), .val (.long (own_max (own_max (own_max (-9223372036854775808 : Int64) q5) (p2.toInt64)) q1)), .second, .val (.int (3 : Int32))] [(.int ((3 : Int32) - (1 : Int32))), (.ref b240)])
      rw [show ((3 : Int32) - (1 : Int32)) = (2 : Int32) by decide]
      show own_Run p e below _ T321 (mkF m 302 #[.val (.long q1), .second, .val (.int p2), .val (.int p3), .val (.int p4), .val (.long q5), .second, .val (.int p6), .val (.int (3 : Int32)), .val (.int x9), .val (.long x10), .second, .val (.long x12), .second, .val (.long x14), .second, .val (.ref o16), .val (.long tm), .second, .val (.ref b240), .val (.long (own_max (own_max (own_max (-9223372036854775808 : Int64) q5) (p2.toInt64)) q1)), .second, .val (.int (3 : Int32))] [(.int (2 : Int32)), (.ref b240)])
      obtain ⟨cq323, kq323, q323a, q323b, q323c⟩ := isOf hZ e321 P317_0
      obtain ⟨_, _, ⟨T323, L323, k323, n323⟩, -, X323, ⟨Lc323, hQ323, l323, y323, z323⟩, st323⟩ := X321.virtualBack hx (y := (⟨"com/example/tote/tote/storage/OffsetIndex", "offset", "(I)J"⟩ : MethodName)) (z := (⟨"com/example/tote/tote/storage/OffsetIndex", "offset", "(I)J"⟩ : MethodName)) hown (mvT hZ (W 63 rfl)) (mvT hZ (W 64 rfl)) (notFace_of_selects (args := #[]) (mvT hZ (W 66 rfl))) (mvT hZ (W 66 rfl)) (mvT hZ (W 65 rfl)) (by decide) (backOf (W := 0) (rm11 l Z a0 hw [] b240 (2 : Int32) b1_242 k1_242 q1 (0 : Int32) (1 : Int32) (2 : Int32) (2 : Int32) T317.heap n0 Z0_c318 P317_1 P317_4 Vo297_c318 (Or.inr (Or.inr (⟨rfl, rfl⟩)))) hZ (W 67 rfl) (W 4 rfl) (by decide) (by decide)) q323a q323c (g := (mkF m 302 #[.val (.long q1), .second, .val (.int p2), .val (.int p3), .val (.int p4), .val (.long q5), .second, .val (.int p6), .val (.int (3 : Int32)), .val (.int x9), .val (.long x10), .second, .val (.long x12), .second, .val (.long x14), .second, .val (.ref o16), .val (.long tm), .second, .val (.ref b240), .val (.long (own_max (own_max (own_max (-9223372036854775808 : Int64) q5) (p2.toInt64)) q1)), .second, .val (.int (3 : Int32))] [(.int (2 : Int32)), (.ref b240)])) rfl (by rw [hml]; rfl) (Steps.refl _) (argsL := [(.int (2 : Int32))]) (rest := []) (lenOf pd_9 rfl) rfl (by show 2 * 0 + _ ≤ _; exact Nat.le_of_eq rfl) (hb hby at_302) (fun _ _ => ⟨rfl, e321, (by decide : 5 + 0 ≤ _), (by decide : 58 + 0 ≤ _)⟩)
      dsimp only [Pt.U, Pt.locs, Pt.cells, Pt.slots] at X323 l323 y323 z323 st323 hQ323
      subst l323 y323 z323
      obtain ⟨rfl, N323q, e323⟩ := hQ323
      have N323 := Fr.app N321 N323q
      refine own_goT st323 ?_
      show own_Run p e below _ T323 (mkF m 305 #[.val (.long q1), .second, .val (.int p2), .val (.int p3), .val (.int p4), .val (.long q5), .second, .val (.int p6), .val (.int (3 : Int32)), .val (.int x9), .val (.long x10), .second, .val (.long x12), .second, .val (.long x14), .second, .val (.ref o16), .val (.long tm), .second, .val (.ref b240), .val (.long (own_max (own_max (own_max (-9223372036854775808 : Int64) q5) (p2.toInt64)) q1)), .second, .val (.int (3 : Int32))] [(.long (q1 + ((2 : Int32).toInt64)))])
      refine own_go (fun _ k => XS.lloadN X323.here hx rfl (hb hby at_305) rfl k) ?_
      refine own_go (fun _ k => XS.iload X323.here hx rfl (hb hby at_306) rfl k) ?_
      refine own_go (fun _ k => XS.iconst X323.here hx rfl (hb hby at_308) k) ?_
      refine own_go (fun _ k => XS.isub X323.here hx rfl (hb hby at_309) rfl k) ?_
      show own_Run p e below _ T323 (mkF m 310 #[.val (.long q1), .second, .val (.int p2), .val (.int p3), .val (.int p4), .val (.long q5), .second, .val (.int p6), .val (.int (3 : Int32)), .val (.int x9), .val (.long x10), .second, .val (.long x12), .second, .val (.long x14), .second, .val (.ref o16), .val (.long tm), .second, .val (.ref b240), .val (.long (own_max (own_max (own_max (-9223372036854775808 : Int64) q5) (p2.toInt64)) q1)), .second, .val (.int (3 : Int32))] [(.int ((3 : Int32) - (1 : Int32))), (.long q1), (.long (q1 + ((2 : Int32).toInt64)))])
      rw [show ((3 : Int32) - (1 : Int32)) = (2 : Int32) by decide]
      show own_Run p e below _ T323 (mkF m 310 #[.val (.long q1), .second, .val (.int p2), .val (.int p3), .val (.int p4), .val (.long q5), .second, .val (.int p6), .val (.int (3 : Int32)), .val (.int x9), .val (.long x10), .second, .val (.long x12), .second, .val (.long x14), .second, .val (.ref o16), .val (.long tm), .second, .val (.ref b240), .val (.long (own_max (own_max (own_max (-9223372036854775808 : Int64) q5) (p2.toInt64)) q1)), .second, .val (.int (3 : Int32))] [(.int (2 : Int32)), (.long q1), (.long (q1 + ((2 : Int32).toInt64)))])
      refine own_go (fun _ k => XS.i2l X323.here hx rfl (hb hby at_310) rfl k) ?_
      show own_Run p e below _ T323 (mkF m 311 #[.val (.long q1), .second, .val (.int p2), .val (.int p3), .val (.int p4), .val (.long q5), .second, .val (.int p6), .val (.int (3 : Int32)), .val (.int x9), .val (.long x10), .second, .val (.long x12), .second, .val (.long x14), .second, .val (.ref o16), .val (.long tm), .second, .val (.ref b240), .val (.long (own_max (own_max (own_max (-9223372036854775808 : Int64) q5) (p2.toInt64)) q1)), .second, .val (.int (3 : Int32))] [(.long ((2 : Int32).toInt64)), (.long q1), (.long (q1 + ((2 : Int32).toInt64)))])
      rw [show ((2 : Int32).toInt64) = (2 : Int64) by decide]
      show own_Run p e below _ T323 (mkF m 311 #[.val (.long q1), .second, .val (.int p2), .val (.int p3), .val (.int p4), .val (.long q5), .second, .val (.int p6), .val (.int (3 : Int32)), .val (.int x9), .val (.long x10), .second, .val (.long x12), .second, .val (.long x14), .second, .val (.ref o16), .val (.long tm), .second, .val (.ref b240), .val (.long (own_max (own_max (own_max (-9223372036854775808 : Int64) q5) (p2.toInt64)) q1)), .second, .val (.int (3 : Int32))] [(.long (2 : Int64)), (.long q1), (.long (q1 + ((2 : Int32).toInt64)))])
      refine own_go (fun _ k => XS.ladd X323.here hx rfl (hb hby at_311) rfl k) ?_
      refine own_go (fun _ k => XS.lcmp X323.here hx rfl (hb hby at_312) rfl k) ?_
      show own_Run p e below _ T323 (mkF m 313 #[.val (.long q1), .second, .val (.int p2), .val (.int p3), .val (.int p4), .val (.long q5), .second, .val (.int p6), .val (.int (3 : Int32)), .val (.int x9), .val (.long x10), .second, .val (.long x12), .second, .val (.long x14), .second, .val (.ref o16), .val (.long tm), .second, .val (.ref b240), .val (.long (own_max (own_max (own_max (-9223372036854775808 : Int64) q5) (p2.toInt64)) q1)), .second, .val (.int (3 : Int32))] [(.int (lcmpW (q1 + ((2 : Int32).toInt64)) (q1 + (2 : Int64))))])
      refine own_go (fun _ k => XS.ifYes X323.here hx rfl (pc0 := 313) (pc' := 318) rfl (hb hby at_313) rfl (own_lcTe (by rw [show ((2 : Int32)).toInt64 = (2 : Int64) by decide] : (q1 + ((2 : Int32).toInt64)) = (q1 + (2 : Int64)))).1 (by decide) (by decide) k) ?_
      show own_Run p e below _ T323 (mkF m 318 #[.val (.long q1), .second, .val (.int p2), .val (.int p3), .val (.int p4), .val (.long q5), .second, .val (.int p6), .val (.int (3 : Int32)), .val (.int x9), .val (.long x10), .second, .val (.long x12), .second, .val (.long x14), .second, .val (.ref o16), .val (.long tm), .second, .val (.ref b240), .val (.long (own_max (own_max (own_max (-9223372036854775808 : Int64) q5) (p2.toInt64)) q1)), .second, .val (.int (3 : Int32))] [])
      refine own_go (fun _ k => XS.iconst X323.here hx rfl (hb hby at_318) k) ?_
      show own_Run p e below _ T323 (mkF m 319 #[.val (.long q1), .second, .val (.int p2), .val (.int p3), .val (.int p4), .val (.long q5), .second, .val (.int p6), .val (.int (3 : Int32)), .val (.int x9), .val (.long x10), .second, .val (.long x12), .second, .val (.long x14), .second, .val (.ref o16), .val (.long tm), .second, .val (.ref b240), .val (.long (own_max (own_max (own_max (-9223372036854775808 : Int64) q5) (p2.toInt64)) q1)), .second, .val (.int (3 : Int32))] [(.int (1 : Int32))])
      refine own_done (Q := fun v h L => Q0 Z q1 p2 p3 p4 q5 p6 h0 n0 v h L) (v := (some (.int (1 : Int32)))) X323 (fun h => by rw [hret] at h; cases h) hlk (fun fs hr => retN X323 hx (t := .boolean) hret (by simp) (hb hby at_319) hr) ?_ (by decide) (by decide)
      show Q0 Z q1 p2 p3 p4 q5 p6 h0 n0 _ T323.heap _
      rw [e323]
      exact ⟨rfl, N323⟩
theorem ef_0 (m : MethodId) (x0 : Int64) (x1 : Int32) (x2 : Int32) (x3 : Int32) (x4 : Int64) (x5 : Int32) : entryFrame m #[(.long x0), (.int x1), (.int x2), (.int x3), (.long x4), (.int x5)] maxLocals = mkF m 0 #[.val (.long x0), .second, .val (.int x1), .val (.int x2), .val (.int x3), .val (.long x4), .second, .val (.int x5), .unset, .unset, .unset, .unset, .unset, .unset, .unset, .unset, .unset, .unset, .unset, .unset, .unset, .unset, .unset] [] := by first | (simp [entryFrame, mkF, argsToLocals, Value.category, maxLocals]; done) | rfl
set_option maxRecDepth 65536 in
set_option maxHeartbeats 40000000 in
theorem rm0 (l : Launch) (Z : State) (a0 : Array Value) (hw : ∀ d ∈ tables_1, d.before a0 Z = true) (ws : List Jvm.Cond) (q1 : Int64) (p2 : Int32) (p3 : Int32) (p4 : Int32) (q5 : Int64) (p6 : Int32) (h0 : Heap) (n0 : Nat) (Z0 : n0 ≤ h0.size) :
    MetFree l x (head1 (Jvm.Cond.code x code maxLocals ret :: ws) room_1) (fun a U => a = #[(.long q1), (.int p2), (.int p3), (.int p4), (.long q5), (.int p6)] ∧ Z.Warmed39 U.vm ∧ U.heap = h0) (fun _ _ _ _ _ => True) (fun _ U o U' => ∃ v L, o = .returned v ∧ Q0 Z q1 p2 p3 p4 q5 p6 h0 n0 v U'.heap L ∧ FrameEnd U o U' L room_1.cells room_1.slots) := by
  refine MetFree.of_bodySF (plainFor_of_name pn_0) hisR ?_
  intro p e s m args below meth c s₁ Bd hml0 hP hK
  obtain ⟨rfl, hZ, hh⟩ := hP
  have hx := Bd.exec
  have hby := Bd.bytes
  have hml : c.maxLocals = 23 := hml0
  have hown : s.vm.findClass "com/example/tote/tote/storage/OffsetIndexCutBackPinLaw" = some m.cls := findClass_of_methodNamed Bd.named
  have hnm := (name_of_methodNamed Bd.named Bd.method).1
  have hret := Bd.returns
  have hlk : meth.locks = false := BodyLoose.notSynchronized Bd
  have X0 : Stand p l e room_1 s m #[(.long q1), (.int p2), (.int p3), (.int p4), (.long q5), (.int p6)] below meth c s₁ [] 0 0 := Stand.of_body Bd
  have e0 : s₁.heap = h0 := by rw [← hh, Bd.state]; rfl
  have N0 := Fr.nil n0
  have W := fun (k : Nat) {d : Jvm.Cond} (h : tables_1[k]? = some d) => hw d (List.mem_of_getElem? h)
  have K0 : Keep h0 h0 [] := Keep.refl _ _
  refine own_start (ef_0 m q1 p2 p3 p4 q5 p6) ?_
  show own_Run p e below _ s₁ (mkF m 0 #[.val (.long q1), .second, .val (.int p2), .val (.int p3), .val (.int p4), .val (.long q5), .second, .val (.int p6), .unset, .unset, .unset, .unset, .unset, .unset, .unset, .unset, .unset, .unset, .unset, .unset, .unset, .unset, .unset] [])
  refine own_go (fun _ k => XS.iload X0.here hx rfl (hb hby at_0) rfl k) ?_
  refine own_go (fun _ k => XS.iconst X0.here hx rfl (hb hby at_2) k) ?_
  refine own_go (fun _ k => XS.iand X0.here hx rfl (hb hby at_3) rfl k) ?_
  show own_Run p e below _ s₁ (mkF m 4 #[.val (.long q1), .second, .val (.int p2), .val (.int p3), .val (.int p4), .val (.long q5), .second, .val (.int p6), .unset, .unset, .unset, .unset, .unset, .unset, .unset, .unset, .unset, .unset, .unset, .unset, .unset, .unset, .unset] [(.int (p6 &&& (3 : Int32)))])
  obtain ⟨x8, hx8⟩ : ∃ z, z = (p6 &&& (3 : Int32)) := ⟨_, rfl⟩
  rw [← hx8]
  show own_Run p e below _ s₁ (mkF m 4 #[.val (.long q1), .second, .val (.int p2), .val (.int p3), .val (.int p4), .val (.long q5), .second, .val (.int p6), .unset, .unset, .unset, .unset, .unset, .unset, .unset, .unset, .unset, .unset, .unset, .unset, .unset, .unset, .unset] [(.int x8)])
  refine own_go (fun _ k => XS.istore X0.here hx rfl (hb hby at_4) rfl (l' := #[.val (.long q1), .second, .val (.int p2), .val (.int p3), .val (.int p4), .val (.long q5), .second, .val (.int p6), .val (.int x8), .unset, .unset, .unset, .unset, .unset, .unset, .unset, .unset, .unset, .unset, .unset, .unset, .unset, .unset]) rfl k) ?_
  refine own_go (fun _ k => XS.iload X0.here hx rfl (hb hby at_6) rfl k) ?_
  refine own_go (fun _ k => XS.iconst X0.here hx rfl (hb hby at_8) k) ?_
  refine own_go (fun _ k => XS.iushr X0.here hx rfl (hb hby at_9) rfl k) ?_
  show own_Run p e below _ s₁ (mkF m 10 #[.val (.long q1), .second, .val (.int p2), .val (.int p3), .val (.int p4), .val (.long q5), .second, .val (.int p6), .val (.int x8), .unset, .unset, .unset, .unset, .unset, .unset, .unset, .unset, .unset, .unset, .unset, .unset, .unset, .unset] [(.int ((p6.toUInt32 >>> ((2 : Int32) &&& 31).toUInt32).toInt32))])
  refine own_go (fun _ k => XS.bipush X0.here hx rfl (hb hby at_10) k) ?_
  refine own_go (fun _ k => XS.iand X0.here hx rfl (hb hby at_12) rfl k) ?_
  show own_Run p e below _ s₁ (mkF m 13 #[.val (.long q1), .second, .val (.int p2), .val (.int p3), .val (.int p4), .val (.long q5), .second, .val (.int p6), .val (.int x8), .unset, .unset, .unset, .unset, .unset, .unset, .unset, .unset, .unset, .unset, .unset, .unset, .unset, .unset] [(.int (((p6.toUInt32 >>> ((2 : Int32) &&& 31).toUInt32).toInt32) &&& (7 : Int32)))])
  obtain ⟨x9, hx9⟩ : ∃ z, z = (((p6.toUInt32 >>> ((2 : Int32) &&& 31).toUInt32).toInt32) &&& (7 : Int32)) := ⟨_, rfl⟩
  rw [← hx9]
  show own_Run p e below _ s₁ (mkF m 13 #[.val (.long q1), .second, .val (.int p2), .val (.int p3), .val (.int p4), .val (.long q5), .second, .val (.int p6), .val (.int x8), .unset, .unset, .unset, .unset, .unset, .unset, .unset, .unset, .unset, .unset, .unset, .unset, .unset, .unset] [(.int x9)])
  refine own_go (fun _ k => XS.istore X0.here hx rfl (hb hby at_13) rfl (l' := #[.val (.long q1), .second, .val (.int p2), .val (.int p3), .val (.int p4), .val (.long q5), .second, .val (.int p6), .val (.int x8), .val (.int x9), .unset, .unset, .unset, .unset, .unset, .unset, .unset, .unset, .unset, .unset, .unset, .unset, .unset]) rfl k) ?_
  refine own_go (fun _ k => XS.iloadN X0.here hx rfl (hb hby at_15) rfl k) ?_
  show own_Run p e below _ s₁ (mkF m 16 #[.val (.long q1), .second, .val (.int p2), .val (.int p3), .val (.int p4), .val (.long q5), .second, .val (.int p6), .val (.int x8), .val (.int x9), .unset, .unset, .unset, .unset, .unset, .unset, .unset, .unset, .unset, .unset, .unset, .unset, .unset] [(.int p2)])
  refine own_go (X0.ldcInt hx hown (mvT hZ (W 0 rfl)) (g := (mkF m 16 #[.val (.long q1), .second, .val (.int p2), .val (.int p3), .val (.int p4), .val (.long q5), .second, .val (.int p6), .val (.int x8), .val (.int x9), .unset, .unset, .unset, .unset, .unset, .unset, .unset, .unset, .unset, .unset, .unset, .unset, .unset] [(.int p2)])) rfl (hb hby at_16)) ?_
  show own_Run p e below _ s₁ (mkF m 18 #[.val (.long q1), .second, .val (.int p2), .val (.int p3), .val (.int p4), .val (.long q5), .second, .val (.int p6), .val (.int x8), .val (.int x9), .unset, .unset, .unset, .unset, .unset, .unset, .unset, .unset, .unset, .unset, .unset, .unset, .unset] [(.int (536870911 : Int32)), (.int p2)])
  refine own_go (fun _ k => XS.iand X0.here hx rfl (hb hby at_18) rfl k) ?_
  refine own_go (fun _ k => XS.i2l X0.here hx rfl (hb hby at_19) rfl k) ?_
  show own_Run p e below _ s₁ (mkF m 20 #[.val (.long q1), .second, .val (.int p2), .val (.int p3), .val (.int p4), .val (.long q5), .second, .val (.int p6), .val (.int x8), .val (.int x9), .unset, .unset, .unset, .unset, .unset, .unset, .unset, .unset, .unset, .unset, .unset, .unset, .unset] [(.long ((p2 &&& (536870911 : Int32)).toInt64))])
  obtain ⟨x10, hx10⟩ : ∃ z, z = ((p2 &&& (536870911 : Int32)).toInt64) := ⟨_, rfl⟩
  rw [← hx10]
  show own_Run p e below _ s₁ (mkF m 20 #[.val (.long q1), .second, .val (.int p2), .val (.int p3), .val (.int p4), .val (.long q5), .second, .val (.int p6), .val (.int x8), .val (.int x9), .unset, .unset, .unset, .unset, .unset, .unset, .unset, .unset, .unset, .unset, .unset, .unset, .unset] [(.long x10)])
  refine own_go (fun _ k => XS.lstore X0.here hx rfl (hb hby at_20) rfl (l' := #[.val (.long q1), .second, .val (.int p2), .val (.int p3), .val (.int p4), .val (.long q5), .second, .val (.int p6), .val (.int x8), .val (.int x9), .val (.long x10), .second, .unset, .unset, .unset, .unset, .unset, .unset, .unset, .unset, .unset, .unset, .unset]) rfl k) ?_
  refine own_go (fun _ k => XS.lload X0.here hx rfl (hb hby at_22) rfl k) ?_
  refine own_go (fun _ k => XS.lconst X0.here hx rfl (hb hby at_24) k) ?_
  refine own_go (fun _ k => XS.ladd X0.here hx rfl (hb hby at_25) rfl k) ?_
  show own_Run p e below _ s₁ (mkF m 26 #[.val (.long q1), .second, .val (.int p2), .val (.int p3), .val (.int p4), .val (.long q5), .second, .val (.int p6), .val (.int x8), .val (.int x9), .val (.long x10), .second, .unset, .unset, .unset, .unset, .unset, .unset, .unset, .unset, .unset, .unset, .unset] [(.long (x10 + (1 : Int64)))])
  refine own_go (fun _ k => XS.iloadN X0.here hx rfl (hb hby at_26) rfl k) ?_
  show own_Run p e below _ s₁ (mkF m 27 #[.val (.long q1), .second, .val (.int p2), .val (.int p3), .val (.int p4), .val (.long q5), .second, .val (.int p6), .val (.int x8), .val (.int x9), .val (.long x10), .second, .unset, .unset, .unset, .unset, .unset, .unset, .unset, .unset, .unset, .unset, .unset] [(.int p3), (.long (x10 + (1 : Int64)))])
  refine own_go (X0.ldcInt hx hown (mvT hZ (W 0 rfl)) (g := (mkF m 27 #[.val (.long q1), .second, .val (.int p2), .val (.int p3), .val (.int p4), .val (.long q5), .second, .val (.int p6), .val (.int x8), .val (.int x9), .val (.long x10), .second, .unset, .unset, .unset, .unset, .unset, .unset, .unset, .unset, .unset, .unset, .unset] [(.int p3), (.long (x10 + (1 : Int64)))])) rfl (hb hby at_27)) ?_
  show own_Run p e below _ s₁ (mkF m 29 #[.val (.long q1), .second, .val (.int p2), .val (.int p3), .val (.int p4), .val (.long q5), .second, .val (.int p6), .val (.int x8), .val (.int x9), .val (.long x10), .second, .unset, .unset, .unset, .unset, .unset, .unset, .unset, .unset, .unset, .unset, .unset] [(.int (536870911 : Int32)), (.int p3), (.long (x10 + (1 : Int64)))])
  refine own_go (fun _ k => XS.iand X0.here hx rfl (hb hby at_29) rfl k) ?_
  refine own_go (fun _ k => XS.i2l X0.here hx rfl (hb hby at_30) rfl k) ?_
  refine own_go (fun _ k => XS.ladd X0.here hx rfl (hb hby at_31) rfl k) ?_
  show own_Run p e below _ s₁ (mkF m 32 #[.val (.long q1), .second, .val (.int p2), .val (.int p3), .val (.int p4), .val (.long q5), .second, .val (.int p6), .val (.int x8), .val (.int x9), .val (.long x10), .second, .unset, .unset, .unset, .unset, .unset, .unset, .unset, .unset, .unset, .unset, .unset] [(.long ((x10 + (1 : Int64)) + ((p3 &&& (536870911 : Int32)).toInt64)))])
  obtain ⟨x12, hx12⟩ : ∃ z, z = ((x10 + (1 : Int64)) + ((p3 &&& (536870911 : Int32)).toInt64)) := ⟨_, rfl⟩
  rw [← hx12]
  show own_Run p e below _ s₁ (mkF m 32 #[.val (.long q1), .second, .val (.int p2), .val (.int p3), .val (.int p4), .val (.long q5), .second, .val (.int p6), .val (.int x8), .val (.int x9), .val (.long x10), .second, .unset, .unset, .unset, .unset, .unset, .unset, .unset, .unset, .unset, .unset, .unset] [(.long x12)])
  refine own_go (fun _ k => XS.lstore X0.here hx rfl (hb hby at_32) rfl (l' := #[.val (.long q1), .second, .val (.int p2), .val (.int p3), .val (.int p4), .val (.long q5), .second, .val (.int p6), .val (.int x8), .val (.int x9), .val (.long x10), .second, .val (.long x12), .second, .unset, .unset, .unset, .unset, .unset, .unset, .unset, .unset, .unset]) rfl k) ?_
  refine own_go (fun _ k => XS.lload X0.here hx rfl (hb hby at_34) rfl k) ?_
  refine own_go (fun _ k => XS.lconst X0.here hx rfl (hb hby at_36) k) ?_
  refine own_go (fun _ k => XS.ladd X0.here hx rfl (hb hby at_37) rfl k) ?_
  show own_Run p e below _ s₁ (mkF m 38 #[.val (.long q1), .second, .val (.int p2), .val (.int p3), .val (.int p4), .val (.long q5), .second, .val (.int p6), .val (.int x8), .val (.int x9), .val (.long x10), .second, .val (.long x12), .second, .unset, .unset, .unset, .unset, .unset, .unset, .unset, .unset, .unset] [(.long (x12 + (1 : Int64)))])
  refine own_go (fun _ k => XS.iload X0.here hx rfl (hb hby at_38) rfl k) ?_
  show own_Run p e below _ s₁ (mkF m 40 #[.val (.long q1), .second, .val (.int p2), .val (.int p3), .val (.int p4), .val (.long q5), .second, .val (.int p6), .val (.int x8), .val (.int x9), .val (.long x10), .second, .val (.long x12), .second, .unset, .unset, .unset, .unset, .unset, .unset, .unset, .unset, .unset] [(.int p4), (.long (x12 + (1 : Int64)))])
  refine own_go (X0.ldcInt hx hown (mvT hZ (W 0 rfl)) (g := (mkF m 40 #[.val (.long q1), .second, .val (.int p2), .val (.int p3), .val (.int p4), .val (.long q5), .second, .val (.int p6), .val (.int x8), .val (.int x9), .val (.long x10), .second, .val (.long x12), .second, .unset, .unset, .unset, .unset, .unset, .unset, .unset, .unset, .unset] [(.int p4), (.long (x12 + (1 : Int64)))])) rfl (hb hby at_40)) ?_
  show own_Run p e below _ s₁ (mkF m 42 #[.val (.long q1), .second, .val (.int p2), .val (.int p3), .val (.int p4), .val (.long q5), .second, .val (.int p6), .val (.int x8), .val (.int x9), .val (.long x10), .second, .val (.long x12), .second, .unset, .unset, .unset, .unset, .unset, .unset, .unset, .unset, .unset] [(.int (536870911 : Int32)), (.int p4), (.long (x12 + (1 : Int64)))])
  refine own_go (fun _ k => XS.iand X0.here hx rfl (hb hby at_42) rfl k) ?_
  refine own_go (fun _ k => XS.i2l X0.here hx rfl (hb hby at_43) rfl k) ?_
  refine own_go (fun _ k => XS.ladd X0.here hx rfl (hb hby at_44) rfl k) ?_
  show own_Run p e below _ s₁ (mkF m 45 #[.val (.long q1), .second, .val (.int p2), .val (.int p3), .val (.int p4), .val (.long q5), .second, .val (.int p6), .val (.int x8), .val (.int x9), .val (.long x10), .second, .val (.long x12), .second, .unset, .unset, .unset, .unset, .unset, .unset, .unset, .unset, .unset] [(.long ((x12 + (1 : Int64)) + ((p4 &&& (536870911 : Int32)).toInt64)))])
  obtain ⟨x14, hx14⟩ : ∃ z, z = ((x12 + (1 : Int64)) + ((p4 &&& (536870911 : Int32)).toInt64)) := ⟨_, rfl⟩
  rw [← hx14]
  show own_Run p e below _ s₁ (mkF m 45 #[.val (.long q1), .second, .val (.int p2), .val (.int p3), .val (.int p4), .val (.long q5), .second, .val (.int p6), .val (.int x8), .val (.int x9), .val (.long x10), .second, .val (.long x12), .second, .unset, .unset, .unset, .unset, .unset, .unset, .unset, .unset, .unset] [(.long x14)])
  have hb0 := own_b0 p2 x10 hx10
  have hb1 := own_b1 p3 x10 x12 536870911 (by decide) hb0 hx12
  have hb2 := own_b1 p4 x12 x14 1073741823 (by decide) hb1.2 hx14
  refine own_go (fun _ k => XS.lstore X0.here hx rfl (hb hby at_45) rfl (l' := #[.val (.long q1), .second, .val (.int p2), .val (.int p3), .val (.int p4), .val (.long q5), .second, .val (.int p6), .val (.int x8), .val (.int x9), .val (.long x10), .second, .val (.long x12), .second, .val (.long x14), .second, .unset, .unset, .unset, .unset, .unset, .unset, .unset]) rfl k) ?_
  refine own_go (fun _ k => XS.iconst X0.here hx rfl (hb hby at_47) k) ?_
  show own_Run p e below _ s₁ (mkF m 48 #[.val (.long q1), .second, .val (.int p2), .val (.int p3), .val (.int p4), .val (.long q5), .second, .val (.int p6), .val (.int x8), .val (.int x9), .val (.long x10), .second, .val (.long x12), .second, .val (.long x14), .second, .unset, .unset, .unset, .unset, .unset, .unset, .unset] [(.int (3 : Int32))])
  obtain ⟨T324, h324, k324, X324, e324, E324, A324, st324⟩ := newP X0 hx hZ (W 1 rfl) e0 (g := (mkF m 48 #[.val (.long q1), .second, .val (.int p2), .val (.int p3), .val (.int p4), .val (.long q5), .second, .val (.int p6), .val (.int x8), .val (.int x9), .val (.long x10), .second, .val (.long x12), .second, .val (.long x14), .second, .unset, .unset, .unset, .unset, .unset, .unset, .unset] [(.int (3 : Int32))])) rfl (hb hby at_48) rfl (by decide) (cap := 3) (by decide) (by decide) (by decide) (by decide)
  refine own_go st324 ?_
  obtain ⟨b324, g324⟩ : ∃ z, z = h0.size := ⟨_, rfl⟩
  rw [← g324] at A324
  rw [← g324]
  show own_Run p e below _ T324 (mkF m 50 #[.val (.long q1), .second, .val (.int p2), .val (.int p3), .val (.int p4), .val (.long q5), .second, .val (.int p6), .val (.int x8), .val (.int x9), .val (.long x10), .second, .val (.long x12), .second, .val (.long x14), .second, .unset, .unset, .unset, .unset, .unset, .unset, .unset] [(.ref b324)])
  have g_b324 : n0 ≤ b324 := Nat.le_trans Z0 (Nat.le_of_eq g324.symm)
  have sz_b324 : h0.size ≤ b324 := Nat.le_trans K0.1 (Nat.le_of_eq g324.symm)
  have Z0_c325 := Nat.le_trans Z0 E324.1
  have K0_c325 := K0.ext E324
  have V_b324 : Arv Z h324 b324 k324 .long (3 : Int32) [(.long (0 : Int64)), (.long (0 : Int64)), (.long (0 : Int64))] (.long (0 : Int64)) := (Arv.new A324 (by decide)).pad (pad_rep [] (.long (0 : Int64)) 3)
  refine own_go (fun _ k => XS.dup X324.here hx rfl (hb hby at_50) rfl rfl k) ?_
  refine own_go (fun _ k => XS.iconst X324.here hx rfl (hb hby at_51) k) ?_
  refine own_go (fun _ k => XS.lload X324.here hx rfl (hb hby at_52) rfl k) ?_
  show own_Run p e below _ T324 (mkF m 54 #[.val (.long q1), .second, .val (.int p2), .val (.int p3), .val (.int p4), .val (.long q5), .second, .val (.int p6), .val (.int x8), .val (.int x9), .val (.long x10), .second, .val (.long x12), .second, .val (.long x14), .second, .unset, .unset, .unset, .unset, .unset, .unset, .unset] [(.long x10), (.int (0 : Int32)), (.ref b324), (.ref b324)])
  obtain ⟨cl326, Ar326, q326, S326, N326, H326, G326⟩ := id V_b324
  have hin326 : ¬ ((0 : Int32) < 0 ∨ cl326.slots.size ≤ ((0 : Int32)).toNatClampNeg) := inb_of S326 ⟨by decide, by decide⟩
  obtain ⟨T327, h327, X327, e327, W327, st327⟩ := stJ X324 hx hZ e324 Ar326 (j := (0 : Int32)) hin326 (g := (mkF m 54 #[.val (.long q1), .second, .val (.int p2), .val (.int p3), .val (.int p4), .val (.long q5), .second, .val (.int p6), .val (.int x8), .val (.int x9), .val (.long x10), .second, .val (.long x12), .second, .val (.long x14), .second, .unset, .unset, .unset, .unset, .unset, .unset, .unset] [(.long x10), (.int (0 : Int32)), (.ref b324), (.ref b324)])) rfl rfl (hb hby at_54)
  refine own_go st327 ?_
  show own_Run p e below _ T327 (mkF m 55 #[.val (.long q1), .second, .val (.int p2), .val (.int p3), .val (.int p4), .val (.long q5), .second, .val (.int p6), .val (.int x8), .val (.int x9), .val (.long x10), .second, .val (.long x12), .second, .val (.long x14), .second, .unset, .unset, .unset, .unset, .unset, .unset, .unset] [(.ref b324)])
  have Z0_c328 := Nat.le_trans Z0_c325 (Keep.of_wr W327).1
  have K0_c328 := K0_c325.wr W327 (Or.inr sz_b324)
  have V_b324_c327 : Arv Z h327 b324 k324 .long (3 : Int32) [(.long x10), (.long (0 : Int64)), (.long (0 : Int64))] (.long (0 : Int64)) := Arv.set Ar326 q326 S326 N326 H326 G326 rfl W327 0 rfl (Nat.le_of_ble_eq_true rfl)
  have N327 := Fr.snoc X327 N0 g_b324
  refine own_go (fun _ k => XS.dup X327.here hx rfl (hb hby at_55) rfl rfl k) ?_
  refine own_go (fun _ k => XS.iconst X327.here hx rfl (hb hby at_56) k) ?_
  refine own_go (fun _ k => XS.lload X327.here hx rfl (hb hby at_57) rfl k) ?_
  show own_Run p e below _ T327 (mkF m 59 #[.val (.long q1), .second, .val (.int p2), .val (.int p3), .val (.int p4), .val (.long q5), .second, .val (.int p6), .val (.int x8), .val (.int x9), .val (.long x10), .second, .val (.long x12), .second, .val (.long x14), .second, .unset, .unset, .unset, .unset, .unset, .unset, .unset] [(.long x12), (.int (1 : Int32)), (.ref b324), (.ref b324)])
  obtain ⟨cl329, Ar329, q329, S329, N329, H329, G329⟩ := id V_b324_c327
  have hin329 : ¬ ((1 : Int32) < 0 ∨ cl329.slots.size ≤ ((1 : Int32)).toNatClampNeg) := inb_of S329 ⟨by decide, by decide⟩
  obtain ⟨T330, h330, X330, e330, W330, st330⟩ := stJ X327 hx hZ e327 Ar329 (j := (1 : Int32)) hin329 (g := (mkF m 59 #[.val (.long q1), .second, .val (.int p2), .val (.int p3), .val (.int p4), .val (.long q5), .second, .val (.int p6), .val (.int x8), .val (.int x9), .val (.long x10), .second, .val (.long x12), .second, .val (.long x14), .second, .unset, .unset, .unset, .unset, .unset, .unset, .unset] [(.long x12), (.int (1 : Int32)), (.ref b324), (.ref b324)])) rfl rfl (hb hby at_59)
  refine own_go st330 ?_
  show own_Run p e below _ T330 (mkF m 60 #[.val (.long q1), .second, .val (.int p2), .val (.int p3), .val (.int p4), .val (.long q5), .second, .val (.int p6), .val (.int x8), .val (.int x9), .val (.long x10), .second, .val (.long x12), .second, .val (.long x14), .second, .unset, .unset, .unset, .unset, .unset, .unset, .unset] [(.ref b324)])
  have Z0_c331 := Nat.le_trans Z0_c328 (Keep.of_wr W330).1
  have K0_c331 := K0_c328.wr W330 (Or.inr sz_b324)
  have V_b324_c330 : Arv Z h330 b324 k324 .long (3 : Int32) [(.long x10), (.long x12), (.long (0 : Int64))] (.long (0 : Int64)) := Arv.set Ar329 q329 S329 N329 H329 G329 rfl W330 1 rfl (Nat.le_of_ble_eq_true rfl)
  have N330 := Fr.snoc X330 N327 g_b324
  refine own_go (fun _ k => XS.dup X330.here hx rfl (hb hby at_60) rfl rfl k) ?_
  refine own_go (fun _ k => XS.iconst X330.here hx rfl (hb hby at_61) k) ?_
  refine own_go (fun _ k => XS.lload X330.here hx rfl (hb hby at_62) rfl k) ?_
  show own_Run p e below _ T330 (mkF m 64 #[.val (.long q1), .second, .val (.int p2), .val (.int p3), .val (.int p4), .val (.long q5), .second, .val (.int p6), .val (.int x8), .val (.int x9), .val (.long x10), .second, .val (.long x12), .second, .val (.long x14), .second, .unset, .unset, .unset, .unset, .unset, .unset, .unset] [(.long x14), (.int (2 : Int32)), (.ref b324), (.ref b324)])
  obtain ⟨cl332, Ar332, q332, S332, N332, H332, G332⟩ := id V_b324_c330
  have hin332 : ¬ ((2 : Int32) < 0 ∨ cl332.slots.size ≤ ((2 : Int32)).toNatClampNeg) := inb_of S332 ⟨by decide, by decide⟩
  obtain ⟨T333, h333, X333, e333, W333, st333⟩ := stJ X330 hx hZ e330 Ar332 (j := (2 : Int32)) hin332 (g := (mkF m 64 #[.val (.long q1), .second, .val (.int p2), .val (.int p3), .val (.int p4), .val (.long q5), .second, .val (.int p6), .val (.int x8), .val (.int x9), .val (.long x10), .second, .val (.long x12), .second, .val (.long x14), .second, .unset, .unset, .unset, .unset, .unset, .unset, .unset] [(.long x14), (.int (2 : Int32)), (.ref b324), (.ref b324)])) rfl rfl (hb hby at_64)
  refine own_go st333 ?_
  show own_Run p e below _ T333 (mkF m 65 #[.val (.long q1), .second, .val (.int p2), .val (.int p3), .val (.int p4), .val (.long q5), .second, .val (.int p6), .val (.int x8), .val (.int x9), .val (.long x10), .second, .val (.long x12), .second, .val (.long x14), .second, .unset, .unset, .unset, .unset, .unset, .unset, .unset] [(.ref b324)])
  have Z0_c334 := Nat.le_trans Z0_c331 (Keep.of_wr W333).1
  have K0_c334 := K0_c331.wr W333 (Or.inr sz_b324)
  have V_b324_c333 : Arv Z h333 b324 k324 .long (3 : Int32) [(.long x10), (.long x12), (.long x14)] (.long (0 : Int64)) := Arv.set Ar332 q332 S332 N332 H332 G332 rfl W333 2 rfl (Nat.le_of_ble_eq_true rfl)
  have N333 := Fr.snoc X333 N330 g_b324
  refine own_go (fun _ k => XS.astore X333.here hx rfl (hb hby at_65) rfl rfl (l' := #[.val (.long q1), .second, .val (.int p2), .val (.int p3), .val (.int p4), .val (.long q5), .second, .val (.int p6), .val (.int x8), .val (.int x9), .val (.long x10), .second, .val (.long x12), .second, .val (.long x14), .second, .val (.ref b324), .unset, .unset, .unset, .unset, .unset, .unset]) rfl k) ?_
  refine own_go (fun _ k => XS.lload X333.here hx rfl (hb hby at_67) rfl k) ?_
  refine own_go (fun _ k => XS.lstore X333.here hx rfl (hb hby at_69) rfl (l' := #[.val (.long q1), .second, .val (.int p2), .val (.int p3), .val (.int p4), .val (.long q5), .second, .val (.int p6), .val (.int x8), .val (.int x9), .val (.long x10), .second, .val (.long x12), .second, .val (.long x14), .second, .val (.ref b324), .val (.long q5), .second, .unset, .unset, .unset, .unset]) rfl k) ?_
  show own_Run p e below _ T333 (mkF m 71 #[.val (.long q1), .second, .val (.int p2), .val (.int p3), .val (.int p4), .val (.long q5), .second, .val (.int p6), .val (.int x8), .val (.int x9), .val (.long x10), .second, .val (.long x12), .second, .val (.long x14), .second, .val (.ref b324), .val (.long q5), .second, .unset, .unset, .unset, .unset] [])
  rcases own_and7 _ x9 hx9 with rfl | rfl | rfl | rfl | rfl | rfl | rfl | rfl
  · show own_Run p e below _ T333 (mkF m 71 #[.val (.long q1), .second, .val (.int p2), .val (.int p3), .val (.int p4), .val (.long q5), .second, .val (.int p6), .val (.int x8), .val (.int (0 : Int32)), .val (.long x10), .second, .val (.long x12), .second, .val (.long x14), .second, .val (.ref b324), .val (.long q5), .second, .unset, .unset, .unset, .unset] [])
    refine own_go (fun _ k => XS.iload X333.here hx rfl (hb hby at_71) rfl k) ?_
    refine own_go (fun _ k => XS.iconst X333.here hx rfl (hb hby at_73) k) ?_
    show own_Run p e below _ T333 (mkF m 74 #[.val (.long q1), .second, .val (.int p2), .val (.int p3), .val (.int p4), .val (.long q5), .second, .val (.int p6), .val (.int x8), .val (.int (0 : Int32)), .val (.long x10), .second, .val (.long x12), .second, .val (.long x14), .second, .val (.ref b324), .val (.long q5), .second, .unset, .unset, .unset, .unset] [(.int (1 : Int32)), (.int (0 : Int32))])
    refine own_go (fun _ k => XS.icmpYes X333.here hx rfl (pc0 := 74) (pc' := 112) rfl (hb hby at_74) rfl (tlt (by decide : (0 : Int32) < (1 : Int32))).1 (by decide) (by decide) k) ?_
    show own_Run p e below _ T333 (mkF m 112 #[.val (.long q1), .second, .val (.int p2), .val (.int p3), .val (.int p4), .val (.long q5), .second, .val (.int p6), .val (.int x8), .val (.int (0 : Int32)), .val (.long x10), .second, .val (.long x12), .second, .val (.long x14), .second, .val (.ref b324), .val (.long q5), .second, .unset, .unset, .unset, .unset] [])
    exact tail0 q1 p2 p3 p4 q5 p6 h0 n0 hx hZ hw hby hml hown hnm hret hlk x8 (0 : Int32) x10 x12 x14 b324 k324 q5 (.unset) T333 h333 _ X333 e333 N333 Z0_c334 K0_c334 V_b324_c333 (hx8) (⟨hb0.1, by omega⟩) (⟨hb1.1, hb1.2.1, by omega⟩) (⟨hb2.1, hb2.2.1, by omega⟩) (One.u) g_b324 sz_b324 
  · show own_Run p e below _ T333 (mkF m 71 #[.val (.long q1), .second, .val (.int p2), .val (.int p3), .val (.int p4), .val (.long q5), .second, .val (.int p6), .val (.int x8), .val (.int (1 : Int32)), .val (.long x10), .second, .val (.long x12), .second, .val (.long x14), .second, .val (.ref b324), .val (.long q5), .second, .unset, .unset, .unset, .unset] [])
    refine own_go (fun _ k => XS.iload X333.here hx rfl (hb hby at_71) rfl k) ?_
    refine own_go (fun _ k => XS.iconst X333.here hx rfl (hb hby at_73) k) ?_
    show own_Run p e below _ T333 (mkF m 74 #[.val (.long q1), .second, .val (.int p2), .val (.int p3), .val (.int p4), .val (.long q5), .second, .val (.int p6), .val (.int x8), .val (.int (1 : Int32)), .val (.long x10), .second, .val (.long x12), .second, .val (.long x14), .second, .val (.ref b324), .val (.long q5), .second, .unset, .unset, .unset, .unset] [(.int (1 : Int32)), (.int (1 : Int32))])
    refine own_go (fun _ k => XS.icmpNo X333.here hx rfl (hb hby at_74) rfl (flt (by decide : ¬ ((1 : Int32) < (1 : Int32)))).1 k) ?_
    show own_Run p e below _ T333 (mkF m 77 #[.val (.long q1), .second, .val (.int p2), .val (.int p3), .val (.int p4), .val (.long q5), .second, .val (.int p6), .val (.int x8), .val (.int (1 : Int32)), .val (.long x10), .second, .val (.long x12), .second, .val (.long x14), .second, .val (.ref b324), .val (.long q5), .second, .unset, .unset, .unset, .unset] [])
    refine own_go (fun _ k => XS.iload X333.here hx rfl (hb hby at_77) rfl k) ?_
    refine own_go (fun _ k => XS.bipush X333.here hx rfl (hb hby at_79) k) ?_
    show own_Run p e below _ T333 (mkF m 81 #[.val (.long q1), .second, .val (.int p2), .val (.int p3), .val (.int p4), .val (.long q5), .second, .val (.int p6), .val (.int x8), .val (.int (1 : Int32)), .val (.long x10), .second, .val (.long x12), .second, .val (.long x14), .second, .val (.ref b324), .val (.long q5), .second, .unset, .unset, .unset, .unset] [(.int (6 : Int32)), (.int (1 : Int32))])
    refine own_go (fun _ k => XS.icmpNo X333.here hx rfl (hb hby at_81) rfl (flt (by decide : ¬ ((6 : Int32) < (1 : Int32)))).2.2.1 k) ?_
    show own_Run p e below _ T333 (mkF m 84 #[.val (.long q1), .second, .val (.int p2), .val (.int p3), .val (.int p4), .val (.long q5), .second, .val (.int p6), .val (.int x8), .val (.int (1 : Int32)), .val (.long x10), .second, .val (.long x12), .second, .val (.long x14), .second, .val (.ref b324), .val (.long q5), .second, .unset, .unset, .unset, .unset] [])
    refine own_go (fun _ k => XS.iload X333.here hx rfl (hb hby at_84) rfl k) ?_
    refine own_go (fun _ k => XS.iconst X333.here hx rfl (hb hby at_86) k) ?_
    refine own_go (fun _ k => XS.isub X333.here hx rfl (hb hby at_87) rfl k) ?_
    show own_Run p e below _ T333 (mkF m 88 #[.val (.long q1), .second, .val (.int p2), .val (.int p3), .val (.int p4), .val (.long q5), .second, .val (.int p6), .val (.int x8), .val (.int (1 : Int32)), .val (.long x10), .second, .val (.long x12), .second, .val (.long x14), .second, .val (.ref b324), .val (.long q5), .second, .unset, .unset, .unset, .unset] [(.int ((1 : Int32) - (1 : Int32)))])
    rw [show ((1 : Int32) - (1 : Int32)) = (0 : Int32) by decide]
    show own_Run p e below _ T333 (mkF m 88 #[.val (.long q1), .second, .val (.int p2), .val (.int p3), .val (.int p4), .val (.long q5), .second, .val (.int p6), .val (.int x8), .val (.int (1 : Int32)), .val (.long x10), .second, .val (.long x12), .second, .val (.long x14), .second, .val (.ref b324), .val (.long q5), .second, .unset, .unset, .unset, .unset] [(.int (0 : Int32))])
    refine own_go (fun _ k => XS.iconst X333.here hx rfl (hb hby at_88) k) ?_
    refine own_go (fun _ k => XS.ishr X333.here hx rfl (hb hby at_89) rfl k) ?_
    show own_Run p e below _ T333 (mkF m 90 #[.val (.long q1), .second, .val (.int p2), .val (.int p3), .val (.int p4), .val (.long q5), .second, .val (.int p6), .val (.int x8), .val (.int (1 : Int32)), .val (.long x10), .second, .val (.long x12), .second, .val (.long x14), .second, .val (.ref b324), .val (.long q5), .second, .unset, .unset, .unset, .unset] [(.int ((0 : Int32) >>> ((1 : Int32) &&& 31)))])
    rw [show ((0 : Int32) >>> ((1 : Int32) &&& 31)) = (0 : Int32) by decide]
    show own_Run p e below _ T333 (mkF m 90 #[.val (.long q1), .second, .val (.int p2), .val (.int p3), .val (.int p4), .val (.long q5), .second, .val (.int p6), .val (.int x8), .val (.int (1 : Int32)), .val (.long x10), .second, .val (.long x12), .second, .val (.long x14), .second, .val (.ref b324), .val (.long q5), .second, .unset, .unset, .unset, .unset] [(.int (0 : Int32))])
    refine own_go (fun _ k => XS.istore X333.here hx rfl (hb hby at_90) rfl (l' := #[.val (.long q1), .second, .val (.int p2), .val (.int p3), .val (.int p4), .val (.long q5), .second, .val (.int p6), .val (.int x8), .val (.int (1 : Int32)), .val (.long x10), .second, .val (.long x12), .second, .val (.long x14), .second, .val (.ref b324), .val (.long q5), .second, .val (.int (0 : Int32)), .unset, .unset, .unset]) rfl k) ?_
    refine own_go (fun _ k => XS.aload X333.here hx rfl (hb hby at_92) rfl rfl k) ?_
    refine own_go (fun _ k => XS.iload X333.here hx rfl (hb hby at_94) rfl k) ?_
    show own_Run p e below _ T333 (mkF m 96 #[.val (.long q1), .second, .val (.int p2), .val (.int p3), .val (.int p4), .val (.long q5), .second, .val (.int p6), .val (.int x8), .val (.int (1 : Int32)), .val (.long x10), .second, .val (.long x12), .second, .val (.long x14), .second, .val (.ref b324), .val (.long q5), .second, .val (.int (0 : Int32)), .unset, .unset, .unset] [(.int (0 : Int32)), (.ref b324)])
    obtain ⟨cl335, Ar335, q335, S335, N335, H335, G335⟩ := id V_b324_c333
    have hin335 : ¬ ((0 : Int32) < 0 ∨ cl335.slots.size ≤ ((0 : Int32)).toNatClampNeg) := inb_of S335 ⟨by decide, by decide⟩
    refine own_go (X333.laload hx (j := (0 : Int32)) (v := (.long x10)) (by rw [e333]; exact Ar335.1) (State.isArrayOf_alike hZ.alike Ar335.2.1) Ar335.2.2 hin335 (H335.at hin335 rfl) (g := (mkF m 96 #[.val (.long q1), .second, .val (.int p2), .val (.int p3), .val (.int p4), .val (.long q5), .second, .val (.int p6), .val (.int x8), .val (.int (1 : Int32)), .val (.long x10), .second, .val (.long x12), .second, .val (.long x14), .second, .val (.ref b324), .val (.long q5), .second, .val (.int (0 : Int32)), .unset, .unset, .unset] [(.int (0 : Int32)), (.ref b324)])) rfl rfl (hb hby at_96)) ?_
    show own_Run p e below _ T333 (mkF m 97 #[.val (.long q1), .second, .val (.int p2), .val (.int p3), .val (.int p4), .val (.long q5), .second, .val (.int p6), .val (.int x8), .val (.int (1 : Int32)), .val (.long x10), .second, .val (.long x12), .second, .val (.long x14), .second, .val (.ref b324), .val (.long q5), .second, .val (.int (0 : Int32)), .unset, .unset, .unset] [(.long x10)])
    refine own_go (fun _ k => XS.iload X333.here hx rfl (hb hby at_97) rfl k) ?_
    refine own_go (fun _ k => XS.iconst X333.here hx rfl (hb hby at_99) k) ?_
    refine own_go (fun _ k => XS.iand X333.here hx rfl (hb hby at_100) rfl k) ?_
    show own_Run p e below _ T333 (mkF m 101 #[.val (.long q1), .second, .val (.int p2), .val (.int p3), .val (.int p4), .val (.long q5), .second, .val (.int p6), .val (.int x8), .val (.int (1 : Int32)), .val (.long x10), .second, .val (.long x12), .second, .val (.long x14), .second, .val (.ref b324), .val (.long q5), .second, .val (.int (0 : Int32)), .unset, .unset, .unset] [(.int ((1 : Int32) &&& (1 : Int32))), (.long x10)])
    rw [show ((1 : Int32) &&& (1 : Int32)) = (1 : Int32) by decide]
    show own_Run p e below _ T333 (mkF m 101 #[.val (.long q1), .second, .val (.int p2), .val (.int p3), .val (.int p4), .val (.long q5), .second, .val (.int p6), .val (.int x8), .val (.int (1 : Int32)), .val (.long x10), .second, .val (.long x12), .second, .val (.long x14), .second, .val (.ref b324), .val (.long q5), .second, .val (.int (0 : Int32)), .unset, .unset, .unset] [(.int (1 : Int32)), (.long x10)])
    refine own_go (fun _ k => XS.ifYes X333.here hx rfl (pc0 := 101) (pc' := 108) rfl (hb hby at_101) rfl ((if0 _ _).trans (feq (by decide : ¬ ((1 : Int32) = (0 : Int32)))).2) (by decide) (by decide) k) ?_
    show own_Run p e below _ T333 (mkF m 108 #[.val (.long q1), .second, .val (.int p2), .val (.int p3), .val (.int p4), .val (.long q5), .second, .val (.int p6), .val (.int x8), .val (.int (1 : Int32)), .val (.long x10), .second, .val (.long x12), .second, .val (.long x14), .second, .val (.ref b324), .val (.long q5), .second, .val (.int (0 : Int32)), .unset, .unset, .unset] [(.long x10)])
    refine own_go (fun _ k => XS.lconst X333.here hx rfl (hb hby at_108) k) ?_
    refine own_go (fun _ k => XS.ladd X333.here hx rfl (hb hby at_109) rfl k) ?_
    refine own_go (fun _ k => XS.lstore X333.here hx rfl (hb hby at_110) rfl (l' := #[.val (.long q1), .second, .val (.int p2), .val (.int p3), .val (.int p4), .val (.long q5), .second, .val (.int p6), .val (.int x8), .val (.int (1 : Int32)), .val (.long x10), .second, .val (.long x12), .second, .val (.long x14), .second, .val (.ref b324), .val (.long (x10 + (0 : Int64))), .second, .val (.int (0 : Int32)), .unset, .unset, .unset]) rfl k) ?_
    show own_Run p e below _ T333 (mkF m 112 #[.val (.long q1), .second, .val (.int p2), .val (.int p3), .val (.int p4), .val (.long q5), .second, .val (.int p6), .val (.int x8), .val (.int (1 : Int32)), .val (.long x10), .second, .val (.long x12), .second, .val (.long x14), .second, .val (.ref b324), .val (.long (x10 + (0 : Int64))), .second, .val (.int (0 : Int32)), .unset, .unset, .unset] [])
    exact tail0 q1 p2 p3 p4 q5 p6 h0 n0 hx hZ hw hby hml hown hnm hret hlk x8 (1 : Int32) x10 x12 x14 b324 k324 (x10 + (0 : Int64)) (.val (.int (0 : Int32))) T333 h333 _ X333 e333 N333 Z0_c334 K0_c334 V_b324_c333 (hx8) (⟨hb0.1, by omega⟩) (⟨hb1.1, hb1.2.1, by omega⟩) (⟨hb2.1, hb2.2.1, by omega⟩) (One.val rfl) g_b324 sz_b324 
  · show own_Run p e below _ T333 (mkF m 71 #[.val (.long q1), .second, .val (.int p2), .val (.int p3), .val (.int p4), .val (.long q5), .second, .val (.int p6), .val (.int x8), .val (.int (2 : Int32)), .val (.long x10), .second, .val (.long x12), .second, .val (.long x14), .second, .val (.ref b324), .val (.long q5), .second, .unset, .unset, .unset, .unset] [])
    refine own_go (fun _ k => XS.iload X333.here hx rfl (hb hby at_71) rfl k) ?_
    refine own_go (fun _ k => XS.iconst X333.here hx rfl (hb hby at_73) k) ?_
    show own_Run p e below _ T333 (mkF m 74 #[.val (.long q1), .second, .val (.int p2), .val (.int p3), .val (.int p4), .val (.long q5), .second, .val (.int p6), .val (.int x8), .val (.int (2 : Int32)), .val (.long x10), .second, .val (.long x12), .second, .val (.long x14), .second, .val (.ref b324), .val (.long q5), .second, .unset, .unset, .unset, .unset] [(.int (1 : Int32)), (.int (2 : Int32))])
    refine own_go (fun _ k => XS.icmpNo X333.here hx rfl (hb hby at_74) rfl (flt (by decide : ¬ ((2 : Int32) < (1 : Int32)))).1 k) ?_
    show own_Run p e below _ T333 (mkF m 77 #[.val (.long q1), .second, .val (.int p2), .val (.int p3), .val (.int p4), .val (.long q5), .second, .val (.int p6), .val (.int x8), .val (.int (2 : Int32)), .val (.long x10), .second, .val (.long x12), .second, .val (.long x14), .second, .val (.ref b324), .val (.long q5), .second, .unset, .unset, .unset, .unset] [])
    refine own_go (fun _ k => XS.iload X333.here hx rfl (hb hby at_77) rfl k) ?_
    refine own_go (fun _ k => XS.bipush X333.here hx rfl (hb hby at_79) k) ?_
    show own_Run p e below _ T333 (mkF m 81 #[.val (.long q1), .second, .val (.int p2), .val (.int p3), .val (.int p4), .val (.long q5), .second, .val (.int p6), .val (.int x8), .val (.int (2 : Int32)), .val (.long x10), .second, .val (.long x12), .second, .val (.long x14), .second, .val (.ref b324), .val (.long q5), .second, .unset, .unset, .unset, .unset] [(.int (6 : Int32)), (.int (2 : Int32))])
    refine own_go (fun _ k => XS.icmpNo X333.here hx rfl (hb hby at_81) rfl (flt (by decide : ¬ ((6 : Int32) < (2 : Int32)))).2.2.1 k) ?_
    show own_Run p e below _ T333 (mkF m 84 #[.val (.long q1), .second, .val (.int p2), .val (.int p3), .val (.int p4), .val (.long q5), .second, .val (.int p6), .val (.int x8), .val (.int (2 : Int32)), .val (.long x10), .second, .val (.long x12), .second, .val (.long x14), .second, .val (.ref b324), .val (.long q5), .second, .unset, .unset, .unset, .unset] [])
    refine own_go (fun _ k => XS.iload X333.here hx rfl (hb hby at_84) rfl k) ?_
    refine own_go (fun _ k => XS.iconst X333.here hx rfl (hb hby at_86) k) ?_
    refine own_go (fun _ k => XS.isub X333.here hx rfl (hb hby at_87) rfl k) ?_
    show own_Run p e below _ T333 (mkF m 88 #[.val (.long q1), .second, .val (.int p2), .val (.int p3), .val (.int p4), .val (.long q5), .second, .val (.int p6), .val (.int x8), .val (.int (2 : Int32)), .val (.long x10), .second, .val (.long x12), .second, .val (.long x14), .second, .val (.ref b324), .val (.long q5), .second, .unset, .unset, .unset, .unset] [(.int ((2 : Int32) - (1 : Int32)))])
    rw [show ((2 : Int32) - (1 : Int32)) = (1 : Int32) by decide]
    show own_Run p e below _ T333 (mkF m 88 #[.val (.long q1), .second, .val (.int p2), .val (.int p3), .val (.int p4), .val (.long q5), .second, .val (.int p6), .val (.int x8), .val (.int (2 : Int32)), .val (.long x10), .second, .val (.long x12), .second, .val (.long x14), .second, .val (.ref b324), .val (.long q5), .second, .unset, .unset, .unset, .unset] [(.int (1 : Int32))])
    refine own_go (fun _ k => XS.iconst X333.here hx rfl (hb hby at_88) k) ?_
    refine own_go (fun _ k => XS.ishr X333.here hx rfl (hb hby at_89) rfl k) ?_
    show own_Run p e below _ T333 (mkF m 90 #[.val (.long q1), .second, .val (.int p2), .val (.int p3), .val (.int p4), .val (.long q5), .second, .val (.int p6), .val (.int x8), .val (.int (2 : Int32)), .val (.long x10), .second, .val (.long x12), .second, .val (.long x14), .second, .val (.ref b324), .val (.long q5), .second, .unset, .unset, .unset, .unset] [(.int ((1 : Int32) >>> ((1 : Int32) &&& 31)))])
    rw [show ((1 : Int32) >>> ((1 : Int32) &&& 31)) = (0 : Int32) by decide]
    show own_Run p e below _ T333 (mkF m 90 #[.val (.long q1), .second, .val (.int p2), .val (.int p3), .val (.int p4), .val (.long q5), .second, .val (.int p6), .val (.int x8), .val (.int (2 : Int32)), .val (.long x10), .second, .val (.long x12), .second, .val (.long x14), .second, .val (.ref b324), .val (.long q5), .second, .unset, .unset, .unset, .unset] [(.int (0 : Int32))])
    refine own_go (fun _ k => XS.istore X333.here hx rfl (hb hby at_90) rfl (l' := #[.val (.long q1), .second, .val (.int p2), .val (.int p3), .val (.int p4), .val (.long q5), .second, .val (.int p6), .val (.int x8), .val (.int (2 : Int32)), .val (.long x10), .second, .val (.long x12), .second, .val (.long x14), .second, .val (.ref b324), .val (.long q5), .second, .val (.int (0 : Int32)), .unset, .unset, .unset]) rfl k) ?_
    refine own_go (fun _ k => XS.aload X333.here hx rfl (hb hby at_92) rfl rfl k) ?_
    refine own_go (fun _ k => XS.iload X333.here hx rfl (hb hby at_94) rfl k) ?_
    show own_Run p e below _ T333 (mkF m 96 #[.val (.long q1), .second, .val (.int p2), .val (.int p3), .val (.int p4), .val (.long q5), .second, .val (.int p6), .val (.int x8), .val (.int (2 : Int32)), .val (.long x10), .second, .val (.long x12), .second, .val (.long x14), .second, .val (.ref b324), .val (.long q5), .second, .val (.int (0 : Int32)), .unset, .unset, .unset] [(.int (0 : Int32)), (.ref b324)])
    obtain ⟨cl336, Ar336, q336, S336, N336, H336, G336⟩ := id V_b324_c333
    have hin336 : ¬ ((0 : Int32) < 0 ∨ cl336.slots.size ≤ ((0 : Int32)).toNatClampNeg) := inb_of S336 ⟨by decide, by decide⟩
    refine own_go (X333.laload hx (j := (0 : Int32)) (v := (.long x10)) (by rw [e333]; exact Ar336.1) (State.isArrayOf_alike hZ.alike Ar336.2.1) Ar336.2.2 hin336 (H336.at hin336 rfl) (g := (mkF m 96 #[.val (.long q1), .second, .val (.int p2), .val (.int p3), .val (.int p4), .val (.long q5), .second, .val (.int p6), .val (.int x8), .val (.int (2 : Int32)), .val (.long x10), .second, .val (.long x12), .second, .val (.long x14), .second, .val (.ref b324), .val (.long q5), .second, .val (.int (0 : Int32)), .unset, .unset, .unset] [(.int (0 : Int32)), (.ref b324)])) rfl rfl (hb hby at_96)) ?_
    show own_Run p e below _ T333 (mkF m 97 #[.val (.long q1), .second, .val (.int p2), .val (.int p3), .val (.int p4), .val (.long q5), .second, .val (.int p6), .val (.int x8), .val (.int (2 : Int32)), .val (.long x10), .second, .val (.long x12), .second, .val (.long x14), .second, .val (.ref b324), .val (.long q5), .second, .val (.int (0 : Int32)), .unset, .unset, .unset] [(.long x10)])
    refine own_go (fun _ k => XS.iload X333.here hx rfl (hb hby at_97) rfl k) ?_
    refine own_go (fun _ k => XS.iconst X333.here hx rfl (hb hby at_99) k) ?_
    refine own_go (fun _ k => XS.iand X333.here hx rfl (hb hby at_100) rfl k) ?_
    show own_Run p e below _ T333 (mkF m 101 #[.val (.long q1), .second, .val (.int p2), .val (.int p3), .val (.int p4), .val (.long q5), .second, .val (.int p6), .val (.int x8), .val (.int (2 : Int32)), .val (.long x10), .second, .val (.long x12), .second, .val (.long x14), .second, .val (.ref b324), .val (.long q5), .second, .val (.int (0 : Int32)), .unset, .unset, .unset] [(.int ((2 : Int32) &&& (1 : Int32))), (.long x10)])
    rw [show ((2 : Int32) &&& (1 : Int32)) = (0 : Int32) by decide]
    show own_Run p e below _ T333 (mkF m 101 #[.val (.long q1), .second, .val (.int p2), .val (.int p3), .val (.int p4), .val (.long q5), .second, .val (.int p6), .val (.int x8), .val (.int (2 : Int32)), .val (.long x10), .second, .val (.long x12), .second, .val (.long x14), .second, .val (.ref b324), .val (.long q5), .second, .val (.int (0 : Int32)), .unset, .unset, .unset] [(.int (0 : Int32)), (.long x10)])
    refine own_go (fun _ k => XS.ifNo X333.here hx rfl (hb hby at_101) rfl ((if0 _ _).trans (teq (by decide : (0 : Int32) = (0 : Int32))).2) k) ?_
    show own_Run p e below _ T333 (mkF m 104 #[.val (.long q1), .second, .val (.int p2), .val (.int p3), .val (.int p4), .val (.long q5), .second, .val (.int p6), .val (.int x8), .val (.int (2 : Int32)), .val (.long x10), .second, .val (.long x12), .second, .val (.long x14), .second, .val (.ref b324), .val (.long q5), .second, .val (.int (0 : Int32)), .unset, .unset, .unset] [(.long x10)])
    refine own_go (fun _ k => XS.lconst X333.here hx rfl (hb hby at_104) k) ?_
    refine own_go (fun _ k => XS.goto X333.here hx rfl (pc0 := 105) (pc' := 109) rfl (hb hby at_105) (by decide) (by decide) k) ?_
    refine own_go (fun _ k => XS.ladd X333.here hx rfl (hb hby at_109) rfl k) ?_
    refine own_go (fun _ k => XS.lstore X333.here hx rfl (hb hby at_110) rfl (l' := #[.val (.long q1), .second, .val (.int p2), .val (.int p3), .val (.int p4), .val (.long q5), .second, .val (.int p6), .val (.int x8), .val (.int (2 : Int32)), .val (.long x10), .second, .val (.long x12), .second, .val (.long x14), .second, .val (.ref b324), .val (.long (x10 + (1 : Int64))), .second, .val (.int (0 : Int32)), .unset, .unset, .unset]) rfl k) ?_
    show own_Run p e below _ T333 (mkF m 112 #[.val (.long q1), .second, .val (.int p2), .val (.int p3), .val (.int p4), .val (.long q5), .second, .val (.int p6), .val (.int x8), .val (.int (2 : Int32)), .val (.long x10), .second, .val (.long x12), .second, .val (.long x14), .second, .val (.ref b324), .val (.long (x10 + (1 : Int64))), .second, .val (.int (0 : Int32)), .unset, .unset, .unset] [])
    exact tail0 q1 p2 p3 p4 q5 p6 h0 n0 hx hZ hw hby hml hown hnm hret hlk x8 (2 : Int32) x10 x12 x14 b324 k324 (x10 + (1 : Int64)) (.val (.int (0 : Int32))) T333 h333 _ X333 e333 N333 Z0_c334 K0_c334 V_b324_c333 (hx8) (⟨hb0.1, by omega⟩) (⟨hb1.1, hb1.2.1, by omega⟩) (⟨hb2.1, hb2.2.1, by omega⟩) (One.val rfl) g_b324 sz_b324 
  · show own_Run p e below _ T333 (mkF m 71 #[.val (.long q1), .second, .val (.int p2), .val (.int p3), .val (.int p4), .val (.long q5), .second, .val (.int p6), .val (.int x8), .val (.int (3 : Int32)), .val (.long x10), .second, .val (.long x12), .second, .val (.long x14), .second, .val (.ref b324), .val (.long q5), .second, .unset, .unset, .unset, .unset] [])
    refine own_go (fun _ k => XS.iload X333.here hx rfl (hb hby at_71) rfl k) ?_
    refine own_go (fun _ k => XS.iconst X333.here hx rfl (hb hby at_73) k) ?_
    show own_Run p e below _ T333 (mkF m 74 #[.val (.long q1), .second, .val (.int p2), .val (.int p3), .val (.int p4), .val (.long q5), .second, .val (.int p6), .val (.int x8), .val (.int (3 : Int32)), .val (.long x10), .second, .val (.long x12), .second, .val (.long x14), .second, .val (.ref b324), .val (.long q5), .second, .unset, .unset, .unset, .unset] [(.int (1 : Int32)), (.int (3 : Int32))])
    refine own_go (fun _ k => XS.icmpNo X333.here hx rfl (hb hby at_74) rfl (flt (by decide : ¬ ((3 : Int32) < (1 : Int32)))).1 k) ?_
    show own_Run p e below _ T333 (mkF m 77 #[.val (.long q1), .second, .val (.int p2), .val (.int p3), .val (.int p4), .val (.long q5), .second, .val (.int p6), .val (.int x8), .val (.int (3 : Int32)), .val (.long x10), .second, .val (.long x12), .second, .val (.long x14), .second, .val (.ref b324), .val (.long q5), .second, .unset, .unset, .unset, .unset] [])
    refine own_go (fun _ k => XS.iload X333.here hx rfl (hb hby at_77) rfl k) ?_
    refine own_go (fun _ k => XS.bipush X333.here hx rfl (hb hby at_79) k) ?_
    show own_Run p e below _ T333 (mkF m 81 #[.val (.long q1), .second, .val (.int p2), .val (.int p3), .val (.int p4), .val (.long q5), .second, .val (.int p6), .val (.int x8), .val (.int (3 : Int32)), .val (.long x10), .second, .val (.long x12), .second, .val (.long x14), .second, .val (.ref b324), .val (.long q5), .second, .unset, .unset, .unset, .unset] [(.int (6 : Int32)), (.int (3 : Int32))])
    refine own_go (fun _ k => XS.icmpNo X333.here hx rfl (hb hby at_81) rfl (flt (by decide : ¬ ((6 : Int32) < (3 : Int32)))).2.2.1 k) ?_
    show own_Run p e below _ T333 (mkF m 84 #[.val (.long q1), .second, .val (.int p2), .val (.int p3), .val (.int p4), .val (.long q5), .second, .val (.int p6), .val (.int x8), .val (.int (3 : Int32)), .val (.long x10), .second, .val (.long x12), .second, .val (.long x14), .second, .val (.ref b324), .val (.long q5), .second, .unset, .unset, .unset, .unset] [])
    refine own_go (fun _ k => XS.iload X333.here hx rfl (hb hby at_84) rfl k) ?_
    refine own_go (fun _ k => XS.iconst X333.here hx rfl (hb hby at_86) k) ?_
    refine own_go (fun _ k => XS.isub X333.here hx rfl (hb hby at_87) rfl k) ?_
    show own_Run p e below _ T333 (mkF m 88 #[.val (.long q1), .second, .val (.int p2), .val (.int p3), .val (.int p4), .val (.long q5), .second, .val (.int p6), .val (.int x8), .val (.int (3 : Int32)), .val (.long x10), .second, .val (.long x12), .second, .val (.long x14), .second, .val (.ref b324), .val (.long q5), .second, .unset, .unset, .unset, .unset] [(.int ((3 : Int32) - (1 : Int32)))])
    rw [show ((3 : Int32) - (1 : Int32)) = (2 : Int32) by decide]
    show own_Run p e below _ T333 (mkF m 88 #[.val (.long q1), .second, .val (.int p2), .val (.int p3), .val (.int p4), .val (.long q5), .second, .val (.int p6), .val (.int x8), .val (.int (3 : Int32)), .val (.long x10), .second, .val (.long x12), .second, .val (.long x14), .second, .val (.ref b324), .val (.long q5), .second, .unset, .unset, .unset, .unset] [(.int (2 : Int32))])
    refine own_go (fun _ k => XS.iconst X333.here hx rfl (hb hby at_88) k) ?_
    refine own_go (fun _ k => XS.ishr X333.here hx rfl (hb hby at_89) rfl k) ?_
    show own_Run p e below _ T333 (mkF m 90 #[.val (.long q1), .second, .val (.int p2), .val (.int p3), .val (.int p4), .val (.long q5), .second, .val (.int p6), .val (.int x8), .val (.int (3 : Int32)), .val (.long x10), .second, .val (.long x12), .second, .val (.long x14), .second, .val (.ref b324), .val (.long q5), .second, .unset, .unset, .unset, .unset] [(.int ((2 : Int32) >>> ((1 : Int32) &&& 31)))])
    rw [show ((2 : Int32) >>> ((1 : Int32) &&& 31)) = (1 : Int32) by decide]
    show own_Run p e below _ T333 (mkF m 90 #[.val (.long q1), .second, .val (.int p2), .val (.int p3), .val (.int p4), .val (.long q5), .second, .val (.int p6), .val (.int x8), .val (.int (3 : Int32)), .val (.long x10), .second, .val (.long x12), .second, .val (.long x14), .second, .val (.ref b324), .val (.long q5), .second, .unset, .unset, .unset, .unset] [(.int (1 : Int32))])
    refine own_go (fun _ k => XS.istore X333.here hx rfl (hb hby at_90) rfl (l' := #[.val (.long q1), .second, .val (.int p2), .val (.int p3), .val (.int p4), .val (.long q5), .second, .val (.int p6), .val (.int x8), .val (.int (3 : Int32)), .val (.long x10), .second, .val (.long x12), .second, .val (.long x14), .second, .val (.ref b324), .val (.long q5), .second, .val (.int (1 : Int32)), .unset, .unset, .unset]) rfl k) ?_
    refine own_go (fun _ k => XS.aload X333.here hx rfl (hb hby at_92) rfl rfl k) ?_
    refine own_go (fun _ k => XS.iload X333.here hx rfl (hb hby at_94) rfl k) ?_
    show own_Run p e below _ T333 (mkF m 96 #[.val (.long q1), .second, .val (.int p2), .val (.int p3), .val (.int p4), .val (.long q5), .second, .val (.int p6), .val (.int x8), .val (.int (3 : Int32)), .val (.long x10), .second, .val (.long x12), .second, .val (.long x14), .second, .val (.ref b324), .val (.long q5), .second, .val (.int (1 : Int32)), .unset, .unset, .unset] [(.int (1 : Int32)), (.ref b324)])
    obtain ⟨cl337, Ar337, q337, S337, N337, H337, G337⟩ := id V_b324_c333
    have hin337 : ¬ ((1 : Int32) < 0 ∨ cl337.slots.size ≤ ((1 : Int32)).toNatClampNeg) := inb_of S337 ⟨by decide, by decide⟩
    refine own_go (X333.laload hx (j := (1 : Int32)) (v := (.long x12)) (by rw [e333]; exact Ar337.1) (State.isArrayOf_alike hZ.alike Ar337.2.1) Ar337.2.2 hin337 (H337.at hin337 rfl) (g := (mkF m 96 #[.val (.long q1), .second, .val (.int p2), .val (.int p3), .val (.int p4), .val (.long q5), .second, .val (.int p6), .val (.int x8), .val (.int (3 : Int32)), .val (.long x10), .second, .val (.long x12), .second, .val (.long x14), .second, .val (.ref b324), .val (.long q5), .second, .val (.int (1 : Int32)), .unset, .unset, .unset] [(.int (1 : Int32)), (.ref b324)])) rfl rfl (hb hby at_96)) ?_
    show own_Run p e below _ T333 (mkF m 97 #[.val (.long q1), .second, .val (.int p2), .val (.int p3), .val (.int p4), .val (.long q5), .second, .val (.int p6), .val (.int x8), .val (.int (3 : Int32)), .val (.long x10), .second, .val (.long x12), .second, .val (.long x14), .second, .val (.ref b324), .val (.long q5), .second, .val (.int (1 : Int32)), .unset, .unset, .unset] [(.long x12)])
    refine own_go (fun _ k => XS.iload X333.here hx rfl (hb hby at_97) rfl k) ?_
    refine own_go (fun _ k => XS.iconst X333.here hx rfl (hb hby at_99) k) ?_
    refine own_go (fun _ k => XS.iand X333.here hx rfl (hb hby at_100) rfl k) ?_
    show own_Run p e below _ T333 (mkF m 101 #[.val (.long q1), .second, .val (.int p2), .val (.int p3), .val (.int p4), .val (.long q5), .second, .val (.int p6), .val (.int x8), .val (.int (3 : Int32)), .val (.long x10), .second, .val (.long x12), .second, .val (.long x14), .second, .val (.ref b324), .val (.long q5), .second, .val (.int (1 : Int32)), .unset, .unset, .unset] [(.int ((3 : Int32) &&& (1 : Int32))), (.long x12)])
    rw [show ((3 : Int32) &&& (1 : Int32)) = (1 : Int32) by decide]
    show own_Run p e below _ T333 (mkF m 101 #[.val (.long q1), .second, .val (.int p2), .val (.int p3), .val (.int p4), .val (.long q5), .second, .val (.int p6), .val (.int x8), .val (.int (3 : Int32)), .val (.long x10), .second, .val (.long x12), .second, .val (.long x14), .second, .val (.ref b324), .val (.long q5), .second, .val (.int (1 : Int32)), .unset, .unset, .unset] [(.int (1 : Int32)), (.long x12)])
    refine own_go (fun _ k => XS.ifYes X333.here hx rfl (pc0 := 101) (pc' := 108) rfl (hb hby at_101) rfl ((if0 _ _).trans (feq (by decide : ¬ ((1 : Int32) = (0 : Int32)))).2) (by decide) (by decide) k) ?_
    show own_Run p e below _ T333 (mkF m 108 #[.val (.long q1), .second, .val (.int p2), .val (.int p3), .val (.int p4), .val (.long q5), .second, .val (.int p6), .val (.int x8), .val (.int (3 : Int32)), .val (.long x10), .second, .val (.long x12), .second, .val (.long x14), .second, .val (.ref b324), .val (.long q5), .second, .val (.int (1 : Int32)), .unset, .unset, .unset] [(.long x12)])
    refine own_go (fun _ k => XS.lconst X333.here hx rfl (hb hby at_108) k) ?_
    refine own_go (fun _ k => XS.ladd X333.here hx rfl (hb hby at_109) rfl k) ?_
    refine own_go (fun _ k => XS.lstore X333.here hx rfl (hb hby at_110) rfl (l' := #[.val (.long q1), .second, .val (.int p2), .val (.int p3), .val (.int p4), .val (.long q5), .second, .val (.int p6), .val (.int x8), .val (.int (3 : Int32)), .val (.long x10), .second, .val (.long x12), .second, .val (.long x14), .second, .val (.ref b324), .val (.long (x12 + (0 : Int64))), .second, .val (.int (1 : Int32)), .unset, .unset, .unset]) rfl k) ?_
    show own_Run p e below _ T333 (mkF m 112 #[.val (.long q1), .second, .val (.int p2), .val (.int p3), .val (.int p4), .val (.long q5), .second, .val (.int p6), .val (.int x8), .val (.int (3 : Int32)), .val (.long x10), .second, .val (.long x12), .second, .val (.long x14), .second, .val (.ref b324), .val (.long (x12 + (0 : Int64))), .second, .val (.int (1 : Int32)), .unset, .unset, .unset] [])
    exact tail0 q1 p2 p3 p4 q5 p6 h0 n0 hx hZ hw hby hml hown hnm hret hlk x8 (3 : Int32) x10 x12 x14 b324 k324 (x12 + (0 : Int64)) (.val (.int (1 : Int32))) T333 h333 _ X333 e333 N333 Z0_c334 K0_c334 V_b324_c333 (hx8) (⟨hb0.1, by omega⟩) (⟨hb1.1, hb1.2.1, by omega⟩) (⟨hb2.1, hb2.2.1, by omega⟩) (One.val rfl) g_b324 sz_b324 
  · show own_Run p e below _ T333 (mkF m 71 #[.val (.long q1), .second, .val (.int p2), .val (.int p3), .val (.int p4), .val (.long q5), .second, .val (.int p6), .val (.int x8), .val (.int (4 : Int32)), .val (.long x10), .second, .val (.long x12), .second, .val (.long x14), .second, .val (.ref b324), .val (.long q5), .second, .unset, .unset, .unset, .unset] [])
    refine own_go (fun _ k => XS.iload X333.here hx rfl (hb hby at_71) rfl k) ?_
    refine own_go (fun _ k => XS.iconst X333.here hx rfl (hb hby at_73) k) ?_
    show own_Run p e below _ T333 (mkF m 74 #[.val (.long q1), .second, .val (.int p2), .val (.int p3), .val (.int p4), .val (.long q5), .second, .val (.int p6), .val (.int x8), .val (.int (4 : Int32)), .val (.long x10), .second, .val (.long x12), .second, .val (.long x14), .second, .val (.ref b324), .val (.long q5), .second, .unset, .unset, .unset, .unset] [(.int (1 : Int32)), (.int (4 : Int32))])
    refine own_go (fun _ k => XS.icmpNo X333.here hx rfl (hb hby at_74) rfl (flt (by decide : ¬ ((4 : Int32) < (1 : Int32)))).1 k) ?_
    show own_Run p e below _ T333 (mkF m 77 #[.val (.long q1), .second, .val (.int p2), .val (.int p3), .val (.int p4), .val (.long q5), .second, .val (.int p6), .val (.int x8), .val (.int (4 : Int32)), .val (.long x10), .second, .val (.long x12), .second, .val (.long x14), .second, .val (.ref b324), .val (.long q5), .second, .unset, .unset, .unset, .unset] [])
    refine own_go (fun _ k => XS.iload X333.here hx rfl (hb hby at_77) rfl k) ?_
    refine own_go (fun _ k => XS.bipush X333.here hx rfl (hb hby at_79) k) ?_
    show own_Run p e below _ T333 (mkF m 81 #[.val (.long q1), .second, .val (.int p2), .val (.int p3), .val (.int p4), .val (.long q5), .second, .val (.int p6), .val (.int x8), .val (.int (4 : Int32)), .val (.long x10), .second, .val (.long x12), .second, .val (.long x14), .second, .val (.ref b324), .val (.long q5), .second, .unset, .unset, .unset, .unset] [(.int (6 : Int32)), (.int (4 : Int32))])
    refine own_go (fun _ k => XS.icmpNo X333.here hx rfl (hb hby at_81) rfl (flt (by decide : ¬ ((6 : Int32) < (4 : Int32)))).2.2.1 k) ?_
    show own_Run p e below _ T333 (mkF m 84 #[.val (.long q1), .second, .val (.int p2), .val (.int p3), .val (.int p4), .val (.long q5), .second, .val (.int p6), .val (.int x8), .val (.int (4 : Int32)), .val (.long x10), .second, .val (.long x12), .second, .val (.long x14), .second, .val (.ref b324), .val (.long q5), .second, .unset, .unset, .unset, .unset] [])
    refine own_go (fun _ k => XS.iload X333.here hx rfl (hb hby at_84) rfl k) ?_
    refine own_go (fun _ k => XS.iconst X333.here hx rfl (hb hby at_86) k) ?_
    refine own_go (fun _ k => XS.isub X333.here hx rfl (hb hby at_87) rfl k) ?_
    show own_Run p e below _ T333 (mkF m 88 #[.val (.long q1), .second, .val (.int p2), .val (.int p3), .val (.int p4), .val (.long q5), .second, .val (.int p6), .val (.int x8), .val (.int (4 : Int32)), .val (.long x10), .second, .val (.long x12), .second, .val (.long x14), .second, .val (.ref b324), .val (.long q5), .second, .unset, .unset, .unset, .unset] [(.int ((4 : Int32) - (1 : Int32)))])
    rw [show ((4 : Int32) - (1 : Int32)) = (3 : Int32) by decide]
    show own_Run p e below _ T333 (mkF m 88 #[.val (.long q1), .second, .val (.int p2), .val (.int p3), .val (.int p4), .val (.long q5), .second, .val (.int p6), .val (.int x8), .val (.int (4 : Int32)), .val (.long x10), .second, .val (.long x12), .second, .val (.long x14), .second, .val (.ref b324), .val (.long q5), .second, .unset, .unset, .unset, .unset] [(.int (3 : Int32))])
    refine own_go (fun _ k => XS.iconst X333.here hx rfl (hb hby at_88) k) ?_
    refine own_go (fun _ k => XS.ishr X333.here hx rfl (hb hby at_89) rfl k) ?_
    show own_Run p e below _ T333 (mkF m 90 #[.val (.long q1), .second, .val (.int p2), .val (.int p3), .val (.int p4), .val (.long q5), .second, .val (.int p6), .val (.int x8), .val (.int (4 : Int32)), .val (.long x10), .second, .val (.long x12), .second, .val (.long x14), .second, .val (.ref b324), .val (.long q5), .second, .unset, .unset, .unset, .unset] [(.int ((3 : Int32) >>> ((1 : Int32) &&& 31)))])
    rw [show ((3 : Int32) >>> ((1 : Int32) &&& 31)) = (1 : Int32) by decide]
    show own_Run p e below _ T333 (mkF m 90 #[.val (.long q1), .second, .val (.int p2), .val (.int p3), .val (.int p4), .val (.long q5), .second, .val (.int p6), .val (.int x8), .val (.int (4 : Int32)), .val (.long x10), .second, .val (.long x12), .second, .val (.long x14), .second, .val (.ref b324), .val (.long q5), .second, .unset, .unset, .unset, .unset] [(.int (1 : Int32))])
    refine own_go (fun _ k => XS.istore X333.here hx rfl (hb hby at_90) rfl (l' := #[.val (.long q1), .second, .val (.int p2), .val (.int p3), .val (.int p4), .val (.long q5), .second, .val (.int p6), .val (.int x8), .val (.int (4 : Int32)), .val (.long x10), .second, .val (.long x12), .second, .val (.long x14), .second, .val (.ref b324), .val (.long q5), .second, .val (.int (1 : Int32)), .unset, .unset, .unset]) rfl k) ?_
    refine own_go (fun _ k => XS.aload X333.here hx rfl (hb hby at_92) rfl rfl k) ?_
    refine own_go (fun _ k => XS.iload X333.here hx rfl (hb hby at_94) rfl k) ?_
    show own_Run p e below _ T333 (mkF m 96 #[.val (.long q1), .second, .val (.int p2), .val (.int p3), .val (.int p4), .val (.long q5), .second, .val (.int p6), .val (.int x8), .val (.int (4 : Int32)), .val (.long x10), .second, .val (.long x12), .second, .val (.long x14), .second, .val (.ref b324), .val (.long q5), .second, .val (.int (1 : Int32)), .unset, .unset, .unset] [(.int (1 : Int32)), (.ref b324)])
    obtain ⟨cl338, Ar338, q338, S338, N338, H338, G338⟩ := id V_b324_c333
    have hin338 : ¬ ((1 : Int32) < 0 ∨ cl338.slots.size ≤ ((1 : Int32)).toNatClampNeg) := inb_of S338 ⟨by decide, by decide⟩
    refine own_go (X333.laload hx (j := (1 : Int32)) (v := (.long x12)) (by rw [e333]; exact Ar338.1) (State.isArrayOf_alike hZ.alike Ar338.2.1) Ar338.2.2 hin338 (H338.at hin338 rfl) (g := (mkF m 96 #[.val (.long q1), .second, .val (.int p2), .val (.int p3), .val (.int p4), .val (.long q5), .second, .val (.int p6), .val (.int x8), .val (.int (4 : Int32)), .val (.long x10), .second, .val (.long x12), .second, .val (.long x14), .second, .val (.ref b324), .val (.long q5), .second, .val (.int (1 : Int32)), .unset, .unset, .unset] [(.int (1 : Int32)), (.ref b324)])) rfl rfl (hb hby at_96)) ?_
    show own_Run p e below _ T333 (mkF m 97 #[.val (.long q1), .second, .val (.int p2), .val (.int p3), .val (.int p4), .val (.long q5), .second, .val (.int p6), .val (.int x8), .val (.int (4 : Int32)), .val (.long x10), .second, .val (.long x12), .second, .val (.long x14), .second, .val (.ref b324), .val (.long q5), .second, .val (.int (1 : Int32)), .unset, .unset, .unset] [(.long x12)])
    refine own_go (fun _ k => XS.iload X333.here hx rfl (hb hby at_97) rfl k) ?_
    refine own_go (fun _ k => XS.iconst X333.here hx rfl (hb hby at_99) k) ?_
    refine own_go (fun _ k => XS.iand X333.here hx rfl (hb hby at_100) rfl k) ?_
    show own_Run p e below _ T333 (mkF m 101 #[.val (.long q1), .second, .val (.int p2), .val (.int p3), .val (.int p4), .val (.long q5), .second, .val (.int p6), .val (.int x8), .val (.int (4 : Int32)), .val (.long x10), .second, .val (.long x12), .second, .val (.long x14), .second, .val (.ref b324), .val (.long q5), .second, .val (.int (1 : Int32)), .unset, .unset, .unset] [(.int ((4 : Int32) &&& (1 : Int32))), (.long x12)])
    rw [show ((4 : Int32) &&& (1 : Int32)) = (0 : Int32) by decide]
    show own_Run p e below _ T333 (mkF m 101 #[.val (.long q1), .second, .val (.int p2), .val (.int p3), .val (.int p4), .val (.long q5), .second, .val (.int p6), .val (.int x8), .val (.int (4 : Int32)), .val (.long x10), .second, .val (.long x12), .second, .val (.long x14), .second, .val (.ref b324), .val (.long q5), .second, .val (.int (1 : Int32)), .unset, .unset, .unset] [(.int (0 : Int32)), (.long x12)])
    refine own_go (fun _ k => XS.ifNo X333.here hx rfl (hb hby at_101) rfl ((if0 _ _).trans (teq (by decide : (0 : Int32) = (0 : Int32))).2) k) ?_
    show own_Run p e below _ T333 (mkF m 104 #[.val (.long q1), .second, .val (.int p2), .val (.int p3), .val (.int p4), .val (.long q5), .second, .val (.int p6), .val (.int x8), .val (.int (4 : Int32)), .val (.long x10), .second, .val (.long x12), .second, .val (.long x14), .second, .val (.ref b324), .val (.long q5), .second, .val (.int (1 : Int32)), .unset, .unset, .unset] [(.long x12)])
    refine own_go (fun _ k => XS.lconst X333.here hx rfl (hb hby at_104) k) ?_
    refine own_go (fun _ k => XS.goto X333.here hx rfl (pc0 := 105) (pc' := 109) rfl (hb hby at_105) (by decide) (by decide) k) ?_
    refine own_go (fun _ k => XS.ladd X333.here hx rfl (hb hby at_109) rfl k) ?_
    refine own_go (fun _ k => XS.lstore X333.here hx rfl (hb hby at_110) rfl (l' := #[.val (.long q1), .second, .val (.int p2), .val (.int p3), .val (.int p4), .val (.long q5), .second, .val (.int p6), .val (.int x8), .val (.int (4 : Int32)), .val (.long x10), .second, .val (.long x12), .second, .val (.long x14), .second, .val (.ref b324), .val (.long (x12 + (1 : Int64))), .second, .val (.int (1 : Int32)), .unset, .unset, .unset]) rfl k) ?_
    show own_Run p e below _ T333 (mkF m 112 #[.val (.long q1), .second, .val (.int p2), .val (.int p3), .val (.int p4), .val (.long q5), .second, .val (.int p6), .val (.int x8), .val (.int (4 : Int32)), .val (.long x10), .second, .val (.long x12), .second, .val (.long x14), .second, .val (.ref b324), .val (.long (x12 + (1 : Int64))), .second, .val (.int (1 : Int32)), .unset, .unset, .unset] [])
    exact tail0 q1 p2 p3 p4 q5 p6 h0 n0 hx hZ hw hby hml hown hnm hret hlk x8 (4 : Int32) x10 x12 x14 b324 k324 (x12 + (1 : Int64)) (.val (.int (1 : Int32))) T333 h333 _ X333 e333 N333 Z0_c334 K0_c334 V_b324_c333 (hx8) (⟨hb0.1, by omega⟩) (⟨hb1.1, hb1.2.1, by omega⟩) (⟨hb2.1, hb2.2.1, by omega⟩) (One.val rfl) g_b324 sz_b324 
  · show own_Run p e below _ T333 (mkF m 71 #[.val (.long q1), .second, .val (.int p2), .val (.int p3), .val (.int p4), .val (.long q5), .second, .val (.int p6), .val (.int x8), .val (.int (5 : Int32)), .val (.long x10), .second, .val (.long x12), .second, .val (.long x14), .second, .val (.ref b324), .val (.long q5), .second, .unset, .unset, .unset, .unset] [])
    refine own_go (fun _ k => XS.iload X333.here hx rfl (hb hby at_71) rfl k) ?_
    refine own_go (fun _ k => XS.iconst X333.here hx rfl (hb hby at_73) k) ?_
    show own_Run p e below _ T333 (mkF m 74 #[.val (.long q1), .second, .val (.int p2), .val (.int p3), .val (.int p4), .val (.long q5), .second, .val (.int p6), .val (.int x8), .val (.int (5 : Int32)), .val (.long x10), .second, .val (.long x12), .second, .val (.long x14), .second, .val (.ref b324), .val (.long q5), .second, .unset, .unset, .unset, .unset] [(.int (1 : Int32)), (.int (5 : Int32))])
    refine own_go (fun _ k => XS.icmpNo X333.here hx rfl (hb hby at_74) rfl (flt (by decide : ¬ ((5 : Int32) < (1 : Int32)))).1 k) ?_
    show own_Run p e below _ T333 (mkF m 77 #[.val (.long q1), .second, .val (.int p2), .val (.int p3), .val (.int p4), .val (.long q5), .second, .val (.int p6), .val (.int x8), .val (.int (5 : Int32)), .val (.long x10), .second, .val (.long x12), .second, .val (.long x14), .second, .val (.ref b324), .val (.long q5), .second, .unset, .unset, .unset, .unset] [])
    refine own_go (fun _ k => XS.iload X333.here hx rfl (hb hby at_77) rfl k) ?_
    refine own_go (fun _ k => XS.bipush X333.here hx rfl (hb hby at_79) k) ?_
    show own_Run p e below _ T333 (mkF m 81 #[.val (.long q1), .second, .val (.int p2), .val (.int p3), .val (.int p4), .val (.long q5), .second, .val (.int p6), .val (.int x8), .val (.int (5 : Int32)), .val (.long x10), .second, .val (.long x12), .second, .val (.long x14), .second, .val (.ref b324), .val (.long q5), .second, .unset, .unset, .unset, .unset] [(.int (6 : Int32)), (.int (5 : Int32))])
    refine own_go (fun _ k => XS.icmpNo X333.here hx rfl (hb hby at_81) rfl (flt (by decide : ¬ ((6 : Int32) < (5 : Int32)))).2.2.1 k) ?_
    show own_Run p e below _ T333 (mkF m 84 #[.val (.long q1), .second, .val (.int p2), .val (.int p3), .val (.int p4), .val (.long q5), .second, .val (.int p6), .val (.int x8), .val (.int (5 : Int32)), .val (.long x10), .second, .val (.long x12), .second, .val (.long x14), .second, .val (.ref b324), .val (.long q5), .second, .unset, .unset, .unset, .unset] [])
    refine own_go (fun _ k => XS.iload X333.here hx rfl (hb hby at_84) rfl k) ?_
    refine own_go (fun _ k => XS.iconst X333.here hx rfl (hb hby at_86) k) ?_
    refine own_go (fun _ k => XS.isub X333.here hx rfl (hb hby at_87) rfl k) ?_
    show own_Run p e below _ T333 (mkF m 88 #[.val (.long q1), .second, .val (.int p2), .val (.int p3), .val (.int p4), .val (.long q5), .second, .val (.int p6), .val (.int x8), .val (.int (5 : Int32)), .val (.long x10), .second, .val (.long x12), .second, .val (.long x14), .second, .val (.ref b324), .val (.long q5), .second, .unset, .unset, .unset, .unset] [(.int ((5 : Int32) - (1 : Int32)))])
    rw [show ((5 : Int32) - (1 : Int32)) = (4 : Int32) by decide]
    show own_Run p e below _ T333 (mkF m 88 #[.val (.long q1), .second, .val (.int p2), .val (.int p3), .val (.int p4), .val (.long q5), .second, .val (.int p6), .val (.int x8), .val (.int (5 : Int32)), .val (.long x10), .second, .val (.long x12), .second, .val (.long x14), .second, .val (.ref b324), .val (.long q5), .second, .unset, .unset, .unset, .unset] [(.int (4 : Int32))])
    refine own_go (fun _ k => XS.iconst X333.here hx rfl (hb hby at_88) k) ?_
    refine own_go (fun _ k => XS.ishr X333.here hx rfl (hb hby at_89) rfl k) ?_
    show own_Run p e below _ T333 (mkF m 90 #[.val (.long q1), .second, .val (.int p2), .val (.int p3), .val (.int p4), .val (.long q5), .second, .val (.int p6), .val (.int x8), .val (.int (5 : Int32)), .val (.long x10), .second, .val (.long x12), .second, .val (.long x14), .second, .val (.ref b324), .val (.long q5), .second, .unset, .unset, .unset, .unset] [(.int ((4 : Int32) >>> ((1 : Int32) &&& 31)))])
    rw [show ((4 : Int32) >>> ((1 : Int32) &&& 31)) = (2 : Int32) by decide]
    show own_Run p e below _ T333 (mkF m 90 #[.val (.long q1), .second, .val (.int p2), .val (.int p3), .val (.int p4), .val (.long q5), .second, .val (.int p6), .val (.int x8), .val (.int (5 : Int32)), .val (.long x10), .second, .val (.long x12), .second, .val (.long x14), .second, .val (.ref b324), .val (.long q5), .second, .unset, .unset, .unset, .unset] [(.int (2 : Int32))])
    refine own_go (fun _ k => XS.istore X333.here hx rfl (hb hby at_90) rfl (l' := #[.val (.long q1), .second, .val (.int p2), .val (.int p3), .val (.int p4), .val (.long q5), .second, .val (.int p6), .val (.int x8), .val (.int (5 : Int32)), .val (.long x10), .second, .val (.long x12), .second, .val (.long x14), .second, .val (.ref b324), .val (.long q5), .second, .val (.int (2 : Int32)), .unset, .unset, .unset]) rfl k) ?_
    refine own_go (fun _ k => XS.aload X333.here hx rfl (hb hby at_92) rfl rfl k) ?_
    refine own_go (fun _ k => XS.iload X333.here hx rfl (hb hby at_94) rfl k) ?_
    show own_Run p e below _ T333 (mkF m 96 #[.val (.long q1), .second, .val (.int p2), .val (.int p3), .val (.int p4), .val (.long q5), .second, .val (.int p6), .val (.int x8), .val (.int (5 : Int32)), .val (.long x10), .second, .val (.long x12), .second, .val (.long x14), .second, .val (.ref b324), .val (.long q5), .second, .val (.int (2 : Int32)), .unset, .unset, .unset] [(.int (2 : Int32)), (.ref b324)])
    obtain ⟨cl339, Ar339, q339, S339, N339, H339, G339⟩ := id V_b324_c333
    have hin339 : ¬ ((2 : Int32) < 0 ∨ cl339.slots.size ≤ ((2 : Int32)).toNatClampNeg) := inb_of S339 ⟨by decide, by decide⟩
    refine own_go (X333.laload hx (j := (2 : Int32)) (v := (.long x14)) (by rw [e333]; exact Ar339.1) (State.isArrayOf_alike hZ.alike Ar339.2.1) Ar339.2.2 hin339 (H339.at hin339 rfl) (g := (mkF m 96 #[.val (.long q1), .second, .val (.int p2), .val (.int p3), .val (.int p4), .val (.long q5), .second, .val (.int p6), .val (.int x8), .val (.int (5 : Int32)), .val (.long x10), .second, .val (.long x12), .second, .val (.long x14), .second, .val (.ref b324), .val (.long q5), .second, .val (.int (2 : Int32)), .unset, .unset, .unset] [(.int (2 : Int32)), (.ref b324)])) rfl rfl (hb hby at_96)) ?_
    show own_Run p e below _ T333 (mkF m 97 #[.val (.long q1), .second, .val (.int p2), .val (.int p3), .val (.int p4), .val (.long q5), .second, .val (.int p6), .val (.int x8), .val (.int (5 : Int32)), .val (.long x10), .second, .val (.long x12), .second, .val (.long x14), .second, .val (.ref b324), .val (.long q5), .second, .val (.int (2 : Int32)), .unset, .unset, .unset] [(.long x14)])
    refine own_go (fun _ k => XS.iload X333.here hx rfl (hb hby at_97) rfl k) ?_
    refine own_go (fun _ k => XS.iconst X333.here hx rfl (hb hby at_99) k) ?_
    refine own_go (fun _ k => XS.iand X333.here hx rfl (hb hby at_100) rfl k) ?_
    show own_Run p e below _ T333 (mkF m 101 #[.val (.long q1), .second, .val (.int p2), .val (.int p3), .val (.int p4), .val (.long q5), .second, .val (.int p6), .val (.int x8), .val (.int (5 : Int32)), .val (.long x10), .second, .val (.long x12), .second, .val (.long x14), .second, .val (.ref b324), .val (.long q5), .second, .val (.int (2 : Int32)), .unset, .unset, .unset] [(.int ((5 : Int32) &&& (1 : Int32))), (.long x14)])
    rw [show ((5 : Int32) &&& (1 : Int32)) = (1 : Int32) by decide]
    show own_Run p e below _ T333 (mkF m 101 #[.val (.long q1), .second, .val (.int p2), .val (.int p3), .val (.int p4), .val (.long q5), .second, .val (.int p6), .val (.int x8), .val (.int (5 : Int32)), .val (.long x10), .second, .val (.long x12), .second, .val (.long x14), .second, .val (.ref b324), .val (.long q5), .second, .val (.int (2 : Int32)), .unset, .unset, .unset] [(.int (1 : Int32)), (.long x14)])
    refine own_go (fun _ k => XS.ifYes X333.here hx rfl (pc0 := 101) (pc' := 108) rfl (hb hby at_101) rfl ((if0 _ _).trans (feq (by decide : ¬ ((1 : Int32) = (0 : Int32)))).2) (by decide) (by decide) k) ?_
    show own_Run p e below _ T333 (mkF m 108 #[.val (.long q1), .second, .val (.int p2), .val (.int p3), .val (.int p4), .val (.long q5), .second, .val (.int p6), .val (.int x8), .val (.int (5 : Int32)), .val (.long x10), .second, .val (.long x12), .second, .val (.long x14), .second, .val (.ref b324), .val (.long q5), .second, .val (.int (2 : Int32)), .unset, .unset, .unset] [(.long x14)])
    refine own_go (fun _ k => XS.lconst X333.here hx rfl (hb hby at_108) k) ?_
    refine own_go (fun _ k => XS.ladd X333.here hx rfl (hb hby at_109) rfl k) ?_
    refine own_go (fun _ k => XS.lstore X333.here hx rfl (hb hby at_110) rfl (l' := #[.val (.long q1), .second, .val (.int p2), .val (.int p3), .val (.int p4), .val (.long q5), .second, .val (.int p6), .val (.int x8), .val (.int (5 : Int32)), .val (.long x10), .second, .val (.long x12), .second, .val (.long x14), .second, .val (.ref b324), .val (.long (x14 + (0 : Int64))), .second, .val (.int (2 : Int32)), .unset, .unset, .unset]) rfl k) ?_
    show own_Run p e below _ T333 (mkF m 112 #[.val (.long q1), .second, .val (.int p2), .val (.int p3), .val (.int p4), .val (.long q5), .second, .val (.int p6), .val (.int x8), .val (.int (5 : Int32)), .val (.long x10), .second, .val (.long x12), .second, .val (.long x14), .second, .val (.ref b324), .val (.long (x14 + (0 : Int64))), .second, .val (.int (2 : Int32)), .unset, .unset, .unset] [])
    exact tail0 q1 p2 p3 p4 q5 p6 h0 n0 hx hZ hw hby hml hown hnm hret hlk x8 (5 : Int32) x10 x12 x14 b324 k324 (x14 + (0 : Int64)) (.val (.int (2 : Int32))) T333 h333 _ X333 e333 N333 Z0_c334 K0_c334 V_b324_c333 (hx8) (⟨hb0.1, by omega⟩) (⟨hb1.1, hb1.2.1, by omega⟩) (⟨hb2.1, hb2.2.1, by omega⟩) (One.val rfl) g_b324 sz_b324 
  · show own_Run p e below _ T333 (mkF m 71 #[.val (.long q1), .second, .val (.int p2), .val (.int p3), .val (.int p4), .val (.long q5), .second, .val (.int p6), .val (.int x8), .val (.int (6 : Int32)), .val (.long x10), .second, .val (.long x12), .second, .val (.long x14), .second, .val (.ref b324), .val (.long q5), .second, .unset, .unset, .unset, .unset] [])
    refine own_go (fun _ k => XS.iload X333.here hx rfl (hb hby at_71) rfl k) ?_
    refine own_go (fun _ k => XS.iconst X333.here hx rfl (hb hby at_73) k) ?_
    show own_Run p e below _ T333 (mkF m 74 #[.val (.long q1), .second, .val (.int p2), .val (.int p3), .val (.int p4), .val (.long q5), .second, .val (.int p6), .val (.int x8), .val (.int (6 : Int32)), .val (.long x10), .second, .val (.long x12), .second, .val (.long x14), .second, .val (.ref b324), .val (.long q5), .second, .unset, .unset, .unset, .unset] [(.int (1 : Int32)), (.int (6 : Int32))])
    refine own_go (fun _ k => XS.icmpNo X333.here hx rfl (hb hby at_74) rfl (flt (by decide : ¬ ((6 : Int32) < (1 : Int32)))).1 k) ?_
    show own_Run p e below _ T333 (mkF m 77 #[.val (.long q1), .second, .val (.int p2), .val (.int p3), .val (.int p4), .val (.long q5), .second, .val (.int p6), .val (.int x8), .val (.int (6 : Int32)), .val (.long x10), .second, .val (.long x12), .second, .val (.long x14), .second, .val (.ref b324), .val (.long q5), .second, .unset, .unset, .unset, .unset] [])
    refine own_go (fun _ k => XS.iload X333.here hx rfl (hb hby at_77) rfl k) ?_
    refine own_go (fun _ k => XS.bipush X333.here hx rfl (hb hby at_79) k) ?_
    show own_Run p e below _ T333 (mkF m 81 #[.val (.long q1), .second, .val (.int p2), .val (.int p3), .val (.int p4), .val (.long q5), .second, .val (.int p6), .val (.int x8), .val (.int (6 : Int32)), .val (.long x10), .second, .val (.long x12), .second, .val (.long x14), .second, .val (.ref b324), .val (.long q5), .second, .unset, .unset, .unset, .unset] [(.int (6 : Int32)), (.int (6 : Int32))])
    refine own_go (fun _ k => XS.icmpNo X333.here hx rfl (hb hby at_81) rfl (flt (by decide : ¬ ((6 : Int32) < (6 : Int32)))).2.2.1 k) ?_
    show own_Run p e below _ T333 (mkF m 84 #[.val (.long q1), .second, .val (.int p2), .val (.int p3), .val (.int p4), .val (.long q5), .second, .val (.int p6), .val (.int x8), .val (.int (6 : Int32)), .val (.long x10), .second, .val (.long x12), .second, .val (.long x14), .second, .val (.ref b324), .val (.long q5), .second, .unset, .unset, .unset, .unset] [])
    refine own_go (fun _ k => XS.iload X333.here hx rfl (hb hby at_84) rfl k) ?_
    refine own_go (fun _ k => XS.iconst X333.here hx rfl (hb hby at_86) k) ?_
    refine own_go (fun _ k => XS.isub X333.here hx rfl (hb hby at_87) rfl k) ?_
    show own_Run p e below _ T333 (mkF m 88 #[.val (.long q1), .second, .val (.int p2), .val (.int p3), .val (.int p4), .val (.long q5), .second, .val (.int p6), .val (.int x8), .val (.int (6 : Int32)), .val (.long x10), .second, .val (.long x12), .second, .val (.long x14), .second, .val (.ref b324), .val (.long q5), .second, .unset, .unset, .unset, .unset] [(.int ((6 : Int32) - (1 : Int32)))])
    rw [show ((6 : Int32) - (1 : Int32)) = (5 : Int32) by decide]
    show own_Run p e below _ T333 (mkF m 88 #[.val (.long q1), .second, .val (.int p2), .val (.int p3), .val (.int p4), .val (.long q5), .second, .val (.int p6), .val (.int x8), .val (.int (6 : Int32)), .val (.long x10), .second, .val (.long x12), .second, .val (.long x14), .second, .val (.ref b324), .val (.long q5), .second, .unset, .unset, .unset, .unset] [(.int (5 : Int32))])
    refine own_go (fun _ k => XS.iconst X333.here hx rfl (hb hby at_88) k) ?_
    refine own_go (fun _ k => XS.ishr X333.here hx rfl (hb hby at_89) rfl k) ?_
    show own_Run p e below _ T333 (mkF m 90 #[.val (.long q1), .second, .val (.int p2), .val (.int p3), .val (.int p4), .val (.long q5), .second, .val (.int p6), .val (.int x8), .val (.int (6 : Int32)), .val (.long x10), .second, .val (.long x12), .second, .val (.long x14), .second, .val (.ref b324), .val (.long q5), .second, .unset, .unset, .unset, .unset] [(.int ((5 : Int32) >>> ((1 : Int32) &&& 31)))])
    rw [show ((5 : Int32) >>> ((1 : Int32) &&& 31)) = (2 : Int32) by decide]
    show own_Run p e below _ T333 (mkF m 90 #[.val (.long q1), .second, .val (.int p2), .val (.int p3), .val (.int p4), .val (.long q5), .second, .val (.int p6), .val (.int x8), .val (.int (6 : Int32)), .val (.long x10), .second, .val (.long x12), .second, .val (.long x14), .second, .val (.ref b324), .val (.long q5), .second, .unset, .unset, .unset, .unset] [(.int (2 : Int32))])
    refine own_go (fun _ k => XS.istore X333.here hx rfl (hb hby at_90) rfl (l' := #[.val (.long q1), .second, .val (.int p2), .val (.int p3), .val (.int p4), .val (.long q5), .second, .val (.int p6), .val (.int x8), .val (.int (6 : Int32)), .val (.long x10), .second, .val (.long x12), .second, .val (.long x14), .second, .val (.ref b324), .val (.long q5), .second, .val (.int (2 : Int32)), .unset, .unset, .unset]) rfl k) ?_
    refine own_go (fun _ k => XS.aload X333.here hx rfl (hb hby at_92) rfl rfl k) ?_
    refine own_go (fun _ k => XS.iload X333.here hx rfl (hb hby at_94) rfl k) ?_
    show own_Run p e below _ T333 (mkF m 96 #[.val (.long q1), .second, .val (.int p2), .val (.int p3), .val (.int p4), .val (.long q5), .second, .val (.int p6), .val (.int x8), .val (.int (6 : Int32)), .val (.long x10), .second, .val (.long x12), .second, .val (.long x14), .second, .val (.ref b324), .val (.long q5), .second, .val (.int (2 : Int32)), .unset, .unset, .unset] [(.int (2 : Int32)), (.ref b324)])
    obtain ⟨cl340, Ar340, q340, S340, N340, H340, G340⟩ := id V_b324_c333
    have hin340 : ¬ ((2 : Int32) < 0 ∨ cl340.slots.size ≤ ((2 : Int32)).toNatClampNeg) := inb_of S340 ⟨by decide, by decide⟩
    refine own_go (X333.laload hx (j := (2 : Int32)) (v := (.long x14)) (by rw [e333]; exact Ar340.1) (State.isArrayOf_alike hZ.alike Ar340.2.1) Ar340.2.2 hin340 (H340.at hin340 rfl) (g := (mkF m 96 #[.val (.long q1), .second, .val (.int p2), .val (.int p3), .val (.int p4), .val (.long q5), .second, .val (.int p6), .val (.int x8), .val (.int (6 : Int32)), .val (.long x10), .second, .val (.long x12), .second, .val (.long x14), .second, .val (.ref b324), .val (.long q5), .second, .val (.int (2 : Int32)), .unset, .unset, .unset] [(.int (2 : Int32)), (.ref b324)])) rfl rfl (hb hby at_96)) ?_
    show own_Run p e below _ T333 (mkF m 97 #[.val (.long q1), .second, .val (.int p2), .val (.int p3), .val (.int p4), .val (.long q5), .second, .val (.int p6), .val (.int x8), .val (.int (6 : Int32)), .val (.long x10), .second, .val (.long x12), .second, .val (.long x14), .second, .val (.ref b324), .val (.long q5), .second, .val (.int (2 : Int32)), .unset, .unset, .unset] [(.long x14)])
    refine own_go (fun _ k => XS.iload X333.here hx rfl (hb hby at_97) rfl k) ?_
    refine own_go (fun _ k => XS.iconst X333.here hx rfl (hb hby at_99) k) ?_
    refine own_go (fun _ k => XS.iand X333.here hx rfl (hb hby at_100) rfl k) ?_
    show own_Run p e below _ T333 (mkF m 101 #[.val (.long q1), .second, .val (.int p2), .val (.int p3), .val (.int p4), .val (.long q5), .second, .val (.int p6), .val (.int x8), .val (.int (6 : Int32)), .val (.long x10), .second, .val (.long x12), .second, .val (.long x14), .second, .val (.ref b324), .val (.long q5), .second, .val (.int (2 : Int32)), .unset, .unset, .unset] [(.int ((6 : Int32) &&& (1 : Int32))), (.long x14)])
    rw [show ((6 : Int32) &&& (1 : Int32)) = (0 : Int32) by decide]
    show own_Run p e below _ T333 (mkF m 101 #[.val (.long q1), .second, .val (.int p2), .val (.int p3), .val (.int p4), .val (.long q5), .second, .val (.int p6), .val (.int x8), .val (.int (6 : Int32)), .val (.long x10), .second, .val (.long x12), .second, .val (.long x14), .second, .val (.ref b324), .val (.long q5), .second, .val (.int (2 : Int32)), .unset, .unset, .unset] [(.int (0 : Int32)), (.long x14)])
    refine own_go (fun _ k => XS.ifNo X333.here hx rfl (hb hby at_101) rfl ((if0 _ _).trans (teq (by decide : (0 : Int32) = (0 : Int32))).2) k) ?_
    show own_Run p e below _ T333 (mkF m 104 #[.val (.long q1), .second, .val (.int p2), .val (.int p3), .val (.int p4), .val (.long q5), .second, .val (.int p6), .val (.int x8), .val (.int (6 : Int32)), .val (.long x10), .second, .val (.long x12), .second, .val (.long x14), .second, .val (.ref b324), .val (.long q5), .second, .val (.int (2 : Int32)), .unset, .unset, .unset] [(.long x14)])
    refine own_go (fun _ k => XS.lconst X333.here hx rfl (hb hby at_104) k) ?_
    refine own_go (fun _ k => XS.goto X333.here hx rfl (pc0 := 105) (pc' := 109) rfl (hb hby at_105) (by decide) (by decide) k) ?_
    refine own_go (fun _ k => XS.ladd X333.here hx rfl (hb hby at_109) rfl k) ?_
    refine own_go (fun _ k => XS.lstore X333.here hx rfl (hb hby at_110) rfl (l' := #[.val (.long q1), .second, .val (.int p2), .val (.int p3), .val (.int p4), .val (.long q5), .second, .val (.int p6), .val (.int x8), .val (.int (6 : Int32)), .val (.long x10), .second, .val (.long x12), .second, .val (.long x14), .second, .val (.ref b324), .val (.long (x14 + (1 : Int64))), .second, .val (.int (2 : Int32)), .unset, .unset, .unset]) rfl k) ?_
    show own_Run p e below _ T333 (mkF m 112 #[.val (.long q1), .second, .val (.int p2), .val (.int p3), .val (.int p4), .val (.long q5), .second, .val (.int p6), .val (.int x8), .val (.int (6 : Int32)), .val (.long x10), .second, .val (.long x12), .second, .val (.long x14), .second, .val (.ref b324), .val (.long (x14 + (1 : Int64))), .second, .val (.int (2 : Int32)), .unset, .unset, .unset] [])
    exact tail0 q1 p2 p3 p4 q5 p6 h0 n0 hx hZ hw hby hml hown hnm hret hlk x8 (6 : Int32) x10 x12 x14 b324 k324 (x14 + (1 : Int64)) (.val (.int (2 : Int32))) T333 h333 _ X333 e333 N333 Z0_c334 K0_c334 V_b324_c333 (hx8) (⟨hb0.1, by omega⟩) (⟨hb1.1, hb1.2.1, by omega⟩) (⟨hb2.1, hb2.2.1, by omega⟩) (One.val rfl) g_b324 sz_b324 
  · show own_Run p e below _ T333 (mkF m 71 #[.val (.long q1), .second, .val (.int p2), .val (.int p3), .val (.int p4), .val (.long q5), .second, .val (.int p6), .val (.int x8), .val (.int (7 : Int32)), .val (.long x10), .second, .val (.long x12), .second, .val (.long x14), .second, .val (.ref b324), .val (.long q5), .second, .unset, .unset, .unset, .unset] [])
    refine own_go (fun _ k => XS.iload X333.here hx rfl (hb hby at_71) rfl k) ?_
    refine own_go (fun _ k => XS.iconst X333.here hx rfl (hb hby at_73) k) ?_
    show own_Run p e below _ T333 (mkF m 74 #[.val (.long q1), .second, .val (.int p2), .val (.int p3), .val (.int p4), .val (.long q5), .second, .val (.int p6), .val (.int x8), .val (.int (7 : Int32)), .val (.long x10), .second, .val (.long x12), .second, .val (.long x14), .second, .val (.ref b324), .val (.long q5), .second, .unset, .unset, .unset, .unset] [(.int (1 : Int32)), (.int (7 : Int32))])
    refine own_go (fun _ k => XS.icmpNo X333.here hx rfl (hb hby at_74) rfl (flt (by decide : ¬ ((7 : Int32) < (1 : Int32)))).1 k) ?_
    show own_Run p e below _ T333 (mkF m 77 #[.val (.long q1), .second, .val (.int p2), .val (.int p3), .val (.int p4), .val (.long q5), .second, .val (.int p6), .val (.int x8), .val (.int (7 : Int32)), .val (.long x10), .second, .val (.long x12), .second, .val (.long x14), .second, .val (.ref b324), .val (.long q5), .second, .unset, .unset, .unset, .unset] [])
    refine own_go (fun _ k => XS.iload X333.here hx rfl (hb hby at_77) rfl k) ?_
    refine own_go (fun _ k => XS.bipush X333.here hx rfl (hb hby at_79) k) ?_
    show own_Run p e below _ T333 (mkF m 81 #[.val (.long q1), .second, .val (.int p2), .val (.int p3), .val (.int p4), .val (.long q5), .second, .val (.int p6), .val (.int x8), .val (.int (7 : Int32)), .val (.long x10), .second, .val (.long x12), .second, .val (.long x14), .second, .val (.ref b324), .val (.long q5), .second, .unset, .unset, .unset, .unset] [(.int (6 : Int32)), (.int (7 : Int32))])
    refine own_go (fun _ k => XS.icmpYes X333.here hx rfl (pc0 := 81) (pc' := 112) rfl (hb hby at_81) rfl (tlt (by decide : (6 : Int32) < (7 : Int32))).2.2.1 (by decide) (by decide) k) ?_
    show own_Run p e below _ T333 (mkF m 112 #[.val (.long q1), .second, .val (.int p2), .val (.int p3), .val (.int p4), .val (.long q5), .second, .val (.int p6), .val (.int x8), .val (.int (7 : Int32)), .val (.long x10), .second, .val (.long x12), .second, .val (.long x14), .second, .val (.ref b324), .val (.long q5), .second, .unset, .unset, .unset, .unset] [])
    exact tail0 q1 p2 p3 p4 q5 p6 h0 n0 hx hZ hw hby hml hown hnm hret hlk x8 (7 : Int32) x10 x12 x14 b324 k324 q5 (.unset) T333 h333 _ X333 e333 N333 Z0_c334 K0_c334 V_b324_c333 (hx8) (⟨hb0.1, by omega⟩) (⟨hb1.1, hb1.2.1, by omega⟩) (⟨hb2.1, hb2.2.1, by omega⟩) (One.u) g_b324 sz_b324 
set_option maxRecDepth 65536 in
set_option maxHeartbeats 40000000 in
theorem comes_1 {Post : Tables → Env → Array Value → State → Outcome → State → Prop} (hpost : ∀ tb e args s v u, (limb_1_1.after args s (.returned v) u = true ∧ limb_1_2.after args s (.returned v) u = true ∧ True) → FrameEnd s (.returned v) u (Jvm.fieldLocs frame_1_writes args s ++ Jvm.arrayLocs frame_1_arrays args s ++ Jvm.staticLocs frame_1_statics s) 24 192 → Post tb e args s (.returned v) u) :
    ArmFor flags0 classFile x code maxLocals ret World_1 tables_1 room_1 Calls_1 rest_1 Pre_1 Post := by
  intro l hfl _ _ p e ha hc hk s m args below hf hA hF happ hP
  obtain ⟨hcalls, hrest, hpre⟩ := hP
  obtain ⟨-, -, -, hnamed, -, -, -, hat⟩ := (Spec.applies_iff hf).mp happ
  obtain ⟨hg, hn⟩ := and_e (Cond.before_iff.mp (show (Jvm.Cond.and given_1 narrow_1).before args s = true from hpre))
  obtain ⟨hcount, hr0⟩ := and_e hg
  obtain ⟨ha0, hr1⟩ := and_e hr0
  obtain ⟨ha1, hr2⟩ := and_e hr1
  obtain ⟨ha2, hr3⟩ := and_e hr2
  obtain ⟨ha3, hr4⟩ := and_e hr3
  obtain ⟨ha4, hr5⟩ := and_e hr4
  have ha5 := hr5
  obtain ⟨w0, w1, w2, w3, w4, w5, rfl⟩ : ∃ w0 w1 w2 w3 w4 w5 : Value, args = #[w0, w1, w2, w3, w4, w5] := by
    have hs : args.size = 6 := by simpa [Cond.value, given_1] using hcount
    obtain ⟨L⟩ := args
    match L, hs with
    | [w0, w1, w2, w3, w4, w5], _ => exact ⟨w0, w1, w2, w3, w4, w5, rfl⟩
  have hw := fun d (hd : d ∈ tables_1) => atoms_spec (ws := Jvm.Cond.code x code maxLocals ret :: tables_1) hat d (List.mem_cons_of_mem _ hd)
  have W := fun (k : Nat) {d : Jvm.Cond} (h : tables_1[k]? = some d) => hw d (List.mem_of_getElem? h)
  have hfit : Fit s := fun {y c} hc i hi => by
    obtain ⟨ha, rfl⟩ := Array.getElem?_eq_some_iff.mp hc
    have q := List.all_eq_true.mp ((Array.all_eq_true_iff_forall_mem.mp hF) _ (Array.getElem_mem ha)) i (List.mem_range.mpr hi)
    simpa [Array.getElem?_eq_getElem hi] using q
  obtain ⟨i0, ei0⟩ := isL_v ha0
  obtain rfl : w0 = (.long i0) := Option.some.inj ei0
  obtain ⟨i1, ei1⟩ := is_v ha1
  obtain rfl : w1 = (.int i1) := Option.some.inj ei1
  obtain ⟨i2, ei2⟩ := is_v ha2
  obtain rfl : w2 = (.int i2) := Option.some.inj ei2
  obtain ⟨i3, ei3⟩ := is_v ha3
  obtain rfl : w3 = (.int i3) := Option.some.inj ei3
  obtain ⟨i4, ei4⟩ := isL_v ha4
  obtain rfl : w4 = (.long i4) := Option.some.inj ei4
  obtain ⟨i5, ei5⟩ := is_v ha5
  obtain rfl : w5 = (.int i5) := Option.some.inj ei5
  obtain ⟨n, o, h1, h2, h3, _, L, rfl, ⟨rfl, N⟩, hq⟩ := rm0 l s _ hw tables_1 i0 i1 i2 i3 i4 i5 s.heap s.heap.size (Nat.le_refl _) p e ha hc hk s m _ below hf ((Spec.applies_iff_loose hf).mp happ).1 ⟨rfl, State.Warmed39.refl s, rfl⟩ trivial
  refine ⟨n, _, h1, h2, h3, hpost _ _ _ _ _ _ ⟨Cond.after_iff.mpr rfl, Cond.after_iff.mpr (eq_i res_at (Term.int_eval (1)) rfl), trivial⟩ ⟨hq.1, hq.2.1, (hq.2.2.sift fun y hy => Or.inr (N y hy)).mono (by decide) (by decide)⟩⟩
theorem main_1_1 : Claimed_1_1 := comes_1 fun _ _ _ _ _ _ h hF => ⟨h.1, hF⟩
theorem main_1_2 : Claimed_1_2 := comes_1 fun _ _ _ _ _ _ h hF => ⟨h.2.1, hF⟩
end Jvm.Pilot.@@N@@
namespace Jvm.Pilot.@@N@@
open Jvm Jvm.ClassFile Sem Op Lib Jvm.Free Jvm.Stand Jvm.Pilot.@@N@@.Jvm.D
/-! MADE BY PROGRAM (witnessworld.py) out of the Statement's table words and the real class files: 12 classes; the members and pool entries that the words name. The judged class is class 1, her method 1. -/
namespace start1
open Jvm.ClassFile
def u (s : String) : CpInfo := .utf8 (stringToUtf16 s)
/-- a pool by its gaps: so many unusable entries, then the entry; so many at the end -/
def gap : Nat → List CpInfo → List CpInfo
  | 0, r => r
  | n + 1, r => .unusable :: gap n r
def poolList (es : List (Nat × CpInfo)) (last : Nat) : List CpInfo := es.foldr (fun e r => gap e.1 (e.2 :: r)) (gap last [])
def pool (es : List (Nat × CpInfo)) (last : Nat) : Array CpInfo := ⟨poolList es last⟩
def fileOf (pool : Array CpInfo) (this : Nat) (attrs : Array Attribute := #[]) (ms : Array MethodInfo := #[]) (fl : Nat := 33) (sup : Nat := 0) (ifs : Array Nat := #[]) (fds : Array FieldInfo := #[]) : ClassFile where
  minorVersion := 0
  majorVersion := 65
  constantPool := pool
  accessFlags := fl
  thisClass := this
  superClass := sup
  interfaces := ifs
  fields := fds
  methods := ms
  attributes := attrs
def plain (name : String) (sup : Option ClassId) : Class where
  name := name
  kind := .ordinary
  loader := none
  accessFlags := 33
  super := sup
  interfaces := #[]
  cf := none
  fields := #[]
  methods := #[]
  instanceTypes := #[]
  staticTypes := #[]
  resolved := #[]
  callSites := []
  init := .initialized
  statics := none
  mirror := none

def pool0 : Array CpInfo := pool [(5, u "<init>"), (0, u "()V"), (1, .class_ 10), (1, u "java/lang/Object")] 113

def k0c0 : Code := { maxStack := 0, maxLocals := 1, code := object_method_1_code, exceptionTable := #[], attributes := #[] }
def k0m0 : Method := { name := "<init>", desc := "()V", sig := { parameters := [], returnType := none }, accessFlags := 1, code := some k0c0 }
/-- java/lang/Object -/
def k0 : Class := { plain "java/lang/Object" none with
  accessFlags := 33
  interfaces := #[]
  cf := some (fileOf pool0 8 #[] #[{ accessFlags := 1, nameIndex := 5, descriptorIndex := 6, attributes := #[] }] 33 0 #[] #[])
  fields := #[]
  methods := #[k0m0]
  instanceTypes := #[]
  staticTypes := #[]
  resolved := Array.replicate 124 none
  statics := none }

def pool1 : Array CpInfo := pool [(2, .class_ 4), (1, u "java/lang/Object"), (0, u "<init>"), (0, u "()V"), (0, .integer 536870911), (0, .class_ 9), (0, u "com/example/tote/tote/storage/OffsetIndex"), (0, .methodref 8 11), (0, .nameAndType 5 12), (0, u "(JJ)V"), (0, .methodref 8 14), (0, .nameAndType 15 16), (0, u "add"), (0, u "(JJJ)V"), (0, .long 2), (1, .methodref 8 20), (0, .nameAndType 21 22), (0, u "maxTimestamp"), (0, u "()J"), (0, .methodref 8 24), (0, .nameAndType 25 26), (0, u "cutBack"), (0, u "(J)V"), (0, .methodref 8 28), (0, .nameAndType 29 30), (0, u "count"), (0, u "()I"), (0, .methodref 8 32), (0, .nameAndType 33 34), (0, u "position"), (0, u "(I)J"), (0, .methodref 8 36), (0, .nameAndType 37 34), (0, u "offset"), (0, .class_ 39), (0, u "com/example/tote/tote/storage/OffsetIndexCutBackPinLaw"), (2, u "law"), (0, u "(JIIIJI)Z")] 5

def k1m0 : Method := { name := "<init>", desc := "()V", sig := { parameters := [], returnType := none }, accessFlags := 1, code := none }
def k1c1 : Code := { maxStack := 7, maxLocals := 23, code := code, exceptionTable := #[], attributes := #[] }
def k1m1 : Method := { name := "law", desc := "(JIIIJI)Z", sig := { parameters := [.long, .int, .int, .int, .long, .int], returnType := some .boolean }, accessFlags := 9, code := some k1c1 }
/-- com/example/tote/tote/storage/OffsetIndexCutBackPinLaw -/
def k1 : Class := { plain "com/example/tote/tote/storage/OffsetIndexCutBackPinLaw" (some 0) with
  accessFlags := 49
  interfaces := #[]
  cf := some (fileOf pool1 38 #[] #[{ accessFlags := 1, nameIndex := 5, descriptorIndex := 6, attributes := #[] }, { accessFlags := 9, nameIndex := 42, descriptorIndex := 43, attributes := #[] }] 49 2 #[] #[])
  fields := #[]
  methods := #[k1m0, k1m1]
  instanceTypes := #[]
  staticTypes := #[]
  resolved := Array.replicate 49 none
  statics := none }

def pool2 : Array CpInfo := pool [(5, .methodref 6 7), (0, .class_ 8), (0, .nameAndType 9 10), (0, u "java/lang/Object"), (0, u "<init>"), (0, u "()V"), (0, .class_ 12), (0, u "com/example/tote/tote/storage/OffsetIndex"), (0, .fieldref 11 14), (0, .nameAndType 15 16), (0, u "mOffsets"), (0, u "[I"), (0, .fieldref 11 18), (0, .nameAndType 19 16), (0, u "mPositions"), (0, .fieldref 11 21), (0, .nameAndType 22 23), (0, u "mTimestamps"), (0, u "[J"), (0, .long 9223372036854775808), (1, .fieldref 11 27), (0, .nameAndType 28 29), (0, u "mMaxTimestamp"), (0, u "J"), (0, .fieldref 11 31), (0, .nameAndType 32 29), (0, u "mBaseOffset"), (0, .fieldref 11 34), (0, .nameAndType 35 29), (0, u "mIntervalBytes"), (0, .fieldref 11 37), (0, .nameAndType 38 39), (0, u "mCount"), (0, u "I"), (0, .methodref 41 42), (0, .class_ 43), (0, .nameAndType 44 45), (0, u "java/lang/Math"), (0, u "toIntExact"), (0, u "(J)I"), (0, .methodref 11 47), (0, .nameAndType 48 49), (0, u "append"), (0, u "(IIJ)V"), (0, .methodref 41 51), (0, .nameAndType 52 53), (0, u "max"), (0, u "(JJ)J"), (31, u "()I"), (22, u "()J"), (11, u "ENTRY_BYTES"), (2, u "TIME_ENTRY_BYTES"), (0, u "NO_TIMESTAMP"), (0, u "MAX_SEGMENT_BYTES"), (0, u "INITIAL_CAPACITY"), (1, u "(JJ)V"), (2, u "add"), (0, u "(JJJ)V"), (1, u "count"), (1, u "maxTimestamp"), (1, u "offset"), (0, u "(I)J"), (0, u "position"), (0, u "cutBack"), (0, u "(J)V")] 35

def k2c0 : Code := { maxStack := 3, maxLocals := 5, code := prog_89_method_1_code, exceptionTable := #[], attributes := #[] }
def k2m0 : Method := { name := "<init>", desc := "(JJ)V", sig := { parameters := [.long, .long], returnType := none }, accessFlags := 0, code := some k2c0 }
def k2c1 : Code := { maxStack := 5, maxLocals := 7, code := prog_89_method_2_code, exceptionTable := #[], attributes := #[] }
def k2m1 : Method := { name := "add", desc := "(JJJ)V", sig := { parameters := [.long, .long, .long], returnType := none }, accessFlags := 0, code := some k2c1 }
def k2c2 : Code := { maxStack := 1, maxLocals := 1, code := prog_89_method_3_code, exceptionTable := #[], attributes := #[] }
def k2m2 : Method := { name := "count", desc := "()I", sig := { parameters := [], returnType := some .int }, accessFlags := 0, code := some k2c2 }
def k2c3 : Code := { maxStack := 2, maxLocals := 1, code := prog_89_method_5_code, exceptionTable := #[], attributes := #[] }
def k2m3 : Method := { name := "maxTimestamp", desc := "()J", sig := { parameters := [], returnType := some .long }, accessFlags := 0, code := some k2c3 }
def k2c4 : Code := { maxStack := 4, maxLocals := 2, code := prog_89_method_7_code, exceptionTable := #[], attributes := #[] }
def k2m4 : Method := { name := "offset", desc := "(I)J", sig := { parameters := [.int], returnType := some .long }, accessFlags := 0, code := some k2c4 }
def k2c5 : Code := { maxStack := 2, maxLocals := 2, code := prog_89_method_8_code, exceptionTable := #[], attributes := #[] }
def k2m5 : Method := { name := "position", desc := "(I)J", sig := { parameters := [.int], returnType := some .long }, accessFlags := 0, code := some k2c5 }
def k2c6 : Code := { maxStack := 4, maxLocals := 3, code := prog_89_method_9_code, exceptionTable := #[], attributes := #[] }
def k2m6 : Method := { name := "cutBack", desc := "(J)V", sig := { parameters := [.long], returnType := none }, accessFlags := 0, code := some k2c6 }
def k2c7 : Code := { maxStack := 4, maxLocals := 5, code := prog_89_method_15_code, exceptionTable := #[], attributes := #[] }
def k2m7 : Method := { name := "append", desc := "(IIJ)V", sig := { parameters := [.int, .int, .long], returnType := none }, accessFlags := 2, code := some k2c7 }
/-- com/example/tote/tote/storage/OffsetIndex -/
def k2 : Class := { plain "com/example/tote/tote/storage/OffsetIndex" (some 0) with
  accessFlags := 32
  interfaces := #[]
  cf := some (fileOf pool2 11 #[] #[{ accessFlags := 0, nameIndex := 9, descriptorIndex := 128, attributes := #[] }, { accessFlags := 0, nameIndex := 131, descriptorIndex := 132, attributes := #[] }, { accessFlags := 0, nameIndex := 134, descriptorIndex := 85, attributes := #[] }, { accessFlags := 0, nameIndex := 136, descriptorIndex := 108, attributes := #[] }, { accessFlags := 0, nameIndex := 138, descriptorIndex := 139, attributes := #[] }, { accessFlags := 0, nameIndex := 140, descriptorIndex := 139, attributes := #[] }, { accessFlags := 0, nameIndex := 141, descriptorIndex := 142, attributes := #[] }, { accessFlags := 2, nameIndex := 48, descriptorIndex := 49, attributes := #[] }] 32 6 #[] #[{ accessFlags := 24, nameIndex := 120, descriptorIndex := 39, attributes := #[] }, { accessFlags := 24, nameIndex := 123, descriptorIndex := 39, attributes := #[] }, { accessFlags := 24, nameIndex := 124, descriptorIndex := 29, attributes := #[] }, { accessFlags := 24, nameIndex := 125, descriptorIndex := 29, attributes := #[] }, { accessFlags := 26, nameIndex := 126, descriptorIndex := 39, attributes := #[] }, { accessFlags := 18, nameIndex := 32, descriptorIndex := 29, attributes := #[] }, { accessFlags := 18, nameIndex := 35, descriptorIndex := 29, attributes := #[] }, { accessFlags := 2, nameIndex := 15, descriptorIndex := 16, attributes := #[] }, { accessFlags := 2, nameIndex := 19, descriptorIndex := 16, attributes := #[] }, { accessFlags := 2, nameIndex := 22, descriptorIndex := 23, attributes := #[] }, { accessFlags := 2, nameIndex := 38, descriptorIndex := 39, attributes := #[] }, { accessFlags := 2, nameIndex := 28, descriptorIndex := 29, attributes := #[] }])
  fields := #[{ name := "ENTRY_BYTES", type := .int, accessFlags := 24, slot := 0, constantValue := 0 }, { name := "TIME_ENTRY_BYTES", type := .int, accessFlags := 24, slot := 1, constantValue := 0 }, { name := "NO_TIMESTAMP", type := .long, accessFlags := 24, slot := 2, constantValue := 0 }, { name := "MAX_SEGMENT_BYTES", type := .long, accessFlags := 24, slot := 3, constantValue := 0 }, { name := "INITIAL_CAPACITY", type := .int, accessFlags := 26, slot := 4, constantValue := 0 }, { name := "mBaseOffset", type := .long, accessFlags := 18, slot := 0, constantValue := 0 }, { name := "mIntervalBytes", type := .long, accessFlags := 18, slot := 1, constantValue := 0 }, { name := "mOffsets", type := (.array .int), accessFlags := 2, slot := 2, constantValue := 0 }, { name := "mPositions", type := (.array .int), accessFlags := 2, slot := 3, constantValue := 0 }, { name := "mTimestamps", type := (.array .long), accessFlags := 2, slot := 4, constantValue := 0 }, { name := "mCount", type := .int, accessFlags := 2, slot := 5, constantValue := 0 }, { name := "mMaxTimestamp", type := .long, accessFlags := 2, slot := 6, constantValue := 0 }]
  methods := #[k2m0, k2m1, k2m2, k2m3, k2m4, k2m5, k2m6, k2m7]
  instanceTypes := #[.long, .long, (.array .int), (.array .int), (.array .long), .int, .long]
  staticTypes := #[.int, .int, .long, .long, .int]
  resolved := Array.replicate 178 none
  statics := none }

def pool3 : Array CpInfo := pool [(1, .class_ 2), (0, u "java/lang/Math"), (1, .class_ 6), (1, u "java/lang/Object"), (0, u "<init>"), (0, u "()V"), (89, .class_ 100), (1, u "java/lang/Math$RandomNumberGeneratorHolder"), (20, u "(JJ)J"), (50, u "negativeZeroFloatBits"), (0, u "J"), (2, u "negativeZeroDoubleBits"), (21, u "max"), (46, u "$assertionsDisabled"), (0, u "Z"), (91, u "twoToTheDoubleScaleDown"), (0, u "D"), (4, u "twoToTheDoubleScaleUp"), (9, u "E"), (3, u "PI"), (2, u "TAU"), (2, u "DEGREES_TO_RADIANS"), (0, u "RADIANS_TO_DEGREES"), (39, u "toIntExact"), (0, u "(J)I")] 53

def k3m0 : Method := { name := "<init>", desc := "()V", sig := { parameters := [], returnType := none }, accessFlags := 2, code := none }
def k3c1 : Code := { maxStack := 4, maxLocals := 2, code := jdk_29_method_43_code, exceptionTable := #[], attributes := #[] }
def k3m1 : Method := { name := "toIntExact", desc := "(J)I", sig := { parameters := [.long], returnType := some .int }, accessFlags := 9, code := some k3c1 }
def k3c2 : Code := { maxStack := 4, maxLocals := 4, code := jdk_29_method_66_code, exceptionTable := #[], attributes := #[] }
def k3m2 : Method := { name := "max", desc := "(JJ)J", sig := { parameters := [.long, .long], returnType := some .long }, accessFlags := 9, code := some k3c2 }
/-- java/lang/Math -/
def k3 : Class := { plain "java/lang/Math" (some 0) with
  accessFlags := 49
  interfaces := #[]
  cf := some (fileOf pool3 1 #[.nestMembers #[98]] #[{ accessFlags := 2, nameIndex := 7, descriptorIndex := 8, attributes := #[] }, { accessFlags := 9, nameIndex := 405, descriptorIndex := 406, attributes := #[] }, { accessFlags := 9, nameIndex := 198, descriptorIndex := 121, attributes := #[] }] 49 4 #[] #[{ accessFlags := 25, nameIndex := 354, descriptorIndex := 339, attributes := #[] }, { accessFlags := 25, nameIndex := 358, descriptorIndex := 339, attributes := #[] }, { accessFlags := 25, nameIndex := 361, descriptorIndex := 339, attributes := #[] }, { accessFlags := 26, nameIndex := 364, descriptorIndex := 339, attributes := #[] }, { accessFlags := 26, nameIndex := 365, descriptorIndex := 339, attributes := #[] }, { accessFlags := 26, nameIndex := 172, descriptorIndex := 173, attributes := #[] }, { accessFlags := 26, nameIndex := 176, descriptorIndex := 173, attributes := #[] }, { accessFlags := 8, nameIndex := 344, descriptorIndex := 339, attributes := #[] }, { accessFlags := 8, nameIndex := 338, descriptorIndex := 339, attributes := #[] }, { accessFlags := 4120, nameIndex := 245, descriptorIndex := 246, attributes := #[] }])
  fields := #[{ name := "E", type := .double, accessFlags := 25, slot := 0, constantValue := 0 }, { name := "PI", type := .double, accessFlags := 25, slot := 1, constantValue := 0 }, { name := "TAU", type := .double, accessFlags := 25, slot := 2, constantValue := 0 }, { name := "DEGREES_TO_RADIANS", type := .double, accessFlags := 26, slot := 3, constantValue := 0 }, { name := "RADIANS_TO_DEGREES", type := .double, accessFlags := 26, slot := 4, constantValue := 0 }, { name := "negativeZeroFloatBits", type := .long, accessFlags := 26, slot := 5, constantValue := 0 }, { name := "negativeZeroDoubleBits", type := .long, accessFlags := 26, slot := 6, constantValue := 0 }, { name := "twoToTheDoubleScaleUp", type := .double, accessFlags := 8, slot := 7, constantValue := 0 }, { name := "twoToTheDoubleScaleDown", type := .double, accessFlags := 8, slot := 8, constantValue := 0 }, { name := "$assertionsDisabled", type := .boolean, accessFlags := 4120, slot := 9, constantValue := 0 }]
  methods := #[k3m0, k3m1, k3m2]
  instanceTypes := #[]
  staticTypes := #[.double, .double, .double, .double, .double, .long, .long, .double, .double, .boolean]
  resolved := Array.replicate 460 none
  statics := none }

def pool4 : Array CpInfo := pool [(1, u "java/lang/Cloneable"), (0, .class_ 1), (0, u "java/lang/Object"), (0, .class_ 3)] 3

/-- java/lang/Cloneable -/
def k4 : Class := { plain "java/lang/Cloneable" (some 0) with
  accessFlags := 1537
  interfaces := #[]
  cf := some (fileOf pool4 2 #[] #[] 1537 4 #[] #[])
  fields := #[]
  methods := #[]
  instanceTypes := #[]
  staticTypes := #[]
  resolved := Array.replicate 8 none
  statics := none }

def pool5 : Array CpInfo := pool [(1, u "java/io/Serializable"), (0, .class_ 1), (0, u "java/lang/Object"), (0, .class_ 3)] 3

/-- java/io/Serializable -/
def k5 : Class := { plain "java/io/Serializable" (some 0) with
  accessFlags := 1537
  interfaces := #[]
  cf := some (fileOf pool5 2 #[] #[] 1537 4 #[] #[])
  fields := #[]
  methods := #[]
  instanceTypes := #[]
  staticTypes := #[]
  resolved := Array.replicate 8 none
  statics := none }

/-- the primitive byte -/
def k6 : Class := { plain "byte" none with kind := .primitive 'B', accessFlags := 0x411 }
/-- [B -/
def k7 : Class := { plain "[B" (some 0) with kind := .array 6 .byte, interfaces := #[4, 5], accessFlags := 1041 }

/-- the primitive int -/
def k8 : Class := { plain "int" none with kind := .primitive 'I', accessFlags := 0x411 }
/-- [I -/
def k9 : Class := { plain "[I" (some 0) with kind := .array 8 .int, interfaces := #[4, 5], accessFlags := 1041 }

/-- the primitive long -/
def k10 : Class := { plain "long" none with kind := .primitive 'J', accessFlags := 0x411 }
/-- [J -/
def k11 : Class := { plain "[J" (some 0) with kind := .array 10 .long, interfaces := #[4, 5], accessFlags := 1041 }

def heap : Heap := #[]
def classes : Array Class := #[k0, k1, k2, k3, k4, k5, k6, k7, k8, k9, k10, k11]
def interned : List (Array UInt16 × Addr) := []
def slotsUsed : Nat := 0
def theMethod : MethodId := ⟨1, 1⟩
def args0 : Array Value := #[.long 5, .int 6, .int 7, .int 8, .long 9, .int 3]
def aboutOver (below : List Frame) : State where
  vm := { classes := classes, interned := interned.toArray }
  heap := heap
  slotsUsed := slotsUsed
  threads := #[{ frames := .invoking theMethod args0 :: below }]
def below0 : List Frame := [.native { method := ⟨0, 0⟩, args := #[] }]
def about1 : State := aboutOver below0
def p0 : Program := .bare "" "" ""
def e0 : Env := launch0.env 0 0 0
theorem w_frames : about1.frames = Frame.invoking theMethod args0 :: below0 := rfl
set_option maxRecDepth 65536 in
theorem w_args : argsFit about1.vm theMethod args0 = true := by decide +kernel
set_option maxRecDepth 65536 in
theorem w_heap : heapFits about1 = true := by decide +kernel
set_option maxRecDepth 65536 in
theorem w_runnable : about1.curStatus? = some .runnable := by decide +kernel
set_option maxRecDepth 65536 in
theorem w_alone : about1.alone = true := by decide +kernel
set_option maxRecDepth 65536 in
theorem w_named : about1.methodNamed? x = some theMethod := by decide +kernel
set_option maxRecDepth 65536 in
theorem w_hears : about1.hears theMethod below0 = true := by decide +kernel
set_option maxRecDepth 65536 in
theorem w_ripe : about1.ripe theMethod args0 below0 = true := by decide +kernel
theorem w_running : about1.status = .running := rfl
set_option maxRecDepth 65536 in
theorem w_room : about1.hasRoom e0.platform room_1 = true :=
  launch0.hasRoom_least _ room_1 (by decide +kernel) (by decide +kernel) (by decide +kernel) (by decide +kernel) (by decide +kernel) (by decide +kernel)
theorem allAtoms_all (ts : List Jvm.Cond) (a : Array Jvm.Value) (st : Jvm.State) : (allAtoms ts).before a st = ts.all (fun c => c.before a st) := by
  induction ts with
  | nil => rfl
  | cons c t ih =>
    show (Jvm.Cond.and c (allAtoms t)).before a st = _
    rw [Jvm.Cond.before_and, ih, List.all_cons]
def words1 : List Jvm.Cond := Jvm.Cond.code x code maxLocals ret :: tables_1
/-- a 'code' word, met by the world's own term for the bytes: nothing is compared byte by byte -/
theorem code_word {y : MethodName} {bytes : ByteArray} {mx : Nat} {rt : Option FieldType} {a : Array Value} {s : State} {m : MethodId} {meth : Method} {c : Code} (h1 : s.methodNamed? y = some m) (h2 : s.vm.method? m = some meth) (h3 : meth.code = some c) (h4 : c.code = bytes)
    (h5 : (c.maxLocals == mx && c.exceptionTable.isEmpty && decide (c.maxStack ≤ mostOperands) && decide (meth.sig.returnType = rt) && !meth.locks && decide (parseMethodDescriptor y.desc = some meth.sig)) = true) : (Jvm.Cond.code y bytes mx rt).before a s = true := by
  simp only [Bool.and_eq_true, beq_iff_eq, Bool.not_eq_true', decide_eq_true_eq] at h5
  obtain ⟨⟨⟨⟨⟨g1, g2⟩, g3⟩, g4⟩, g5⟩, g6⟩ := h5
  simp [Cond.before, Cond.holds, Cond.value, h1, h2, h3, h4, g1, g2, g3, g4, g5, g6]
def isCode : Jvm.Cond → Bool
  | .code _ _ _ _ => true
  | _ => false
theorem all_split {L : List Jvm.Cond} {P : Jvm.Cond → Bool} (h1 : L.all (fun c => isCode c || P c) = true) (h2 : ∀ c ∈ L.filter isCode, P c = true) : L.all P = true := by
  refine List.all_eq_true.mpr fun c hc => ?_
  have h := List.all_eq_true.mp h1 c hc
  rcases Bool.eq_false_or_eq_true (isCode c) with hi | hi
  · exact h2 c (List.mem_filter.mpr ⟨hc, hi⟩)
  · simpa [hi] using h
set_option maxRecDepth 65536 in
theorem w_c0 : (Jvm.Cond.code x code maxLocals ret).before args0 about1 = true := code_word (m := ⟨1, 1⟩) (meth := k1m1) (c := k1c1) (by decide +kernel) rfl rfl rfl (by decide +kernel)
set_option maxRecDepth 65536 in
theorem w_c1 : (Jvm.Cond.code ({ cls := "com/example/tote/tote/storage/OffsetIndex", name := "<init>", desc := "(JJ)V" } : Jvm.MethodName) prog_89_method_1_code (5 : Nat) (Option.none : Option Jvm.ClassFile.FieldType)).before args0 about1 = true := code_word (m := ⟨2, 0⟩) (meth := k2m0) (c := k2c0) (by decide +kernel) rfl rfl rfl (by decide +kernel)
set_option maxRecDepth 65536 in
theorem w_c2 : (Jvm.Cond.code ({ cls := "java/lang/Object", name := "<init>", desc := "()V" } : Jvm.MethodName) object_method_1_code (1 : Nat) (Option.none : Option Jvm.ClassFile.FieldType)).before args0 about1 = true := code_word (m := ⟨0, 0⟩) (meth := k0m0) (c := k0c0) (by decide +kernel) rfl rfl rfl (by decide +kernel)
set_option maxRecDepth 65536 in
theorem w_c3 : (Jvm.Cond.code ({ cls := "com/example/tote/tote/storage/OffsetIndex", name := "add", desc := "(JJJ)V" } : Jvm.MethodName) prog_89_method_2_code (7 : Nat) (Option.none : Option Jvm.ClassFile.FieldType)).before args0 about1 = true := code_word (m := ⟨2, 1⟩) (meth := k2m1) (c := k2c1) (by decide +kernel) rfl rfl rfl (by decide +kernel)
set_option maxRecDepth 65536 in
theorem w_c4 : (Jvm.Cond.code ({ cls := "java/lang/Math", name := "toIntExact", desc := "(J)I" } : Jvm.MethodName) jdk_29_method_43_code (2 : Nat) (Option.some Jvm.ClassFile.FieldType.int)).before args0 about1 = true := code_word (m := ⟨3, 1⟩) (meth := k3m1) (c := k3c1) (by decide +kernel) rfl rfl rfl (by decide +kernel)
set_option maxRecDepth 65536 in
theorem w_c5 : (Jvm.Cond.code ({ cls := "com/example/tote/tote/storage/OffsetIndex", name := "append", desc := "(IIJ)V" } : Jvm.MethodName) prog_89_method_15_code (5 : Nat) (Option.none : Option Jvm.ClassFile.FieldType)).before args0 about1 = true := code_word (m := ⟨2, 7⟩) (meth := k2m7) (c := k2c7) (by decide +kernel) rfl rfl rfl (by decide +kernel)
set_option maxRecDepth 65536 in
theorem w_c6 : (Jvm.Cond.code ({ cls := "java/lang/Math", name := "max", desc := "(JJ)J" } : Jvm.MethodName) jdk_29_method_66_code (4 : Nat) (Option.some Jvm.ClassFile.FieldType.long)).before args0 about1 = true := code_word (m := ⟨3, 2⟩) (meth := k3m2) (c := k3c2) (by decide +kernel) rfl rfl rfl (by decide +kernel)
set_option maxRecDepth 65536 in
theorem w_c7 : (Jvm.Cond.code ({ cls := "com/example/tote/tote/storage/OffsetIndex", name := "maxTimestamp", desc := "()J" } : Jvm.MethodName) prog_89_method_5_code (1 : Nat) (Option.some Jvm.ClassFile.FieldType.long)).before args0 about1 = true := code_word (m := ⟨2, 3⟩) (meth := k2m3) (c := k2c3) (by decide +kernel) rfl rfl rfl (by decide +kernel)
set_option maxRecDepth 65536 in
theorem w_c8 : (Jvm.Cond.code ({ cls := "com/example/tote/tote/storage/OffsetIndex", name := "cutBack", desc := "(J)V" } : Jvm.MethodName) prog_89_method_9_code (3 : Nat) (Option.none : Option Jvm.ClassFile.FieldType)).before args0 about1 = true := code_word (m := ⟨2, 6⟩) (meth := k2m6) (c := k2c6) (by decide +kernel) rfl rfl rfl (by decide +kernel)
set_option maxRecDepth 65536 in
theorem w_c9 : (Jvm.Cond.code ({ cls := "com/example/tote/tote/storage/OffsetIndex", name := "count", desc := "()I" } : Jvm.MethodName) prog_89_method_3_code (1 : Nat) (Option.some Jvm.ClassFile.FieldType.int)).before args0 about1 = true := code_word (m := ⟨2, 2⟩) (meth := k2m2) (c := k2c2) (by decide +kernel) rfl rfl rfl (by decide +kernel)
set_option maxRecDepth 65536 in
theorem w_c10 : (Jvm.Cond.code ({ cls := "com/example/tote/tote/storage/OffsetIndex", name := "position", desc := "(I)J" } : Jvm.MethodName) prog_89_method_8_code (2 : Nat) (Option.some Jvm.ClassFile.FieldType.long)).before args0 about1 = true := code_word (m := ⟨2, 5⟩) (meth := k2m5) (c := k2c5) (by decide +kernel) rfl rfl rfl (by decide +kernel)
set_option maxRecDepth 65536 in
theorem w_c11 : (Jvm.Cond.code ({ cls := "com/example/tote/tote/storage/OffsetIndex", name := "offset", desc := "(I)J" } : Jvm.MethodName) prog_89_method_7_code (2 : Nat) (Option.some Jvm.ClassFile.FieldType.long)).before args0 about1 = true := code_word (m := ⟨2, 4⟩) (meth := k2m4) (c := k2c4) (by decide +kernel) rfl rfl rfl (by decide +kernel)
def codes1 : List Jvm.Cond := [Jvm.Cond.code x code maxLocals ret, Jvm.Cond.code ({ cls := "com/example/tote/tote/storage/OffsetIndex", name := "<init>", desc := "(JJ)V" } : Jvm.MethodName) prog_89_method_1_code (5 : Nat) (Option.none : Option Jvm.ClassFile.FieldType), Jvm.Cond.code ({ cls := "java/lang/Object", name := "<init>", desc := "()V" } : Jvm.MethodName) object_method_1_code (1 : Nat) (Option.none : Option Jvm.ClassFile.FieldType), Jvm.Cond.code ({ cls := "com/example/tote/tote/storage/OffsetIndex", name := "add", desc := "(JJJ)V" } : Jvm.MethodName) prog_89_method_2_code (7 : Nat) (Option.none : Option Jvm.ClassFile.FieldType), Jvm.Cond.code ({ cls := "java/lang/Math", name := "toIntExact", desc := "(J)I" } : Jvm.MethodName) jdk_29_method_43_code (2 : Nat) (Option.some Jvm.ClassFile.FieldType.int), Jvm.Cond.code ({ cls := "com/example/tote/tote/storage/OffsetIndex", name := "append", desc := "(IIJ)V" } : Jvm.MethodName) prog_89_method_15_code (5 : Nat) (Option.none : Option Jvm.ClassFile.FieldType), Jvm.Cond.code ({ cls := "java/lang/Math", name := "max", desc := "(JJ)J" } : Jvm.MethodName) jdk_29_method_66_code (4 : Nat) (Option.some Jvm.ClassFile.FieldType.long), Jvm.Cond.code ({ cls := "com/example/tote/tote/storage/OffsetIndex", name := "maxTimestamp", desc := "()J" } : Jvm.MethodName) prog_89_method_5_code (1 : Nat) (Option.some Jvm.ClassFile.FieldType.long), Jvm.Cond.code ({ cls := "com/example/tote/tote/storage/OffsetIndex", name := "cutBack", desc := "(J)V" } : Jvm.MethodName) prog_89_method_9_code (3 : Nat) (Option.none : Option Jvm.ClassFile.FieldType), Jvm.Cond.code ({ cls := "com/example/tote/tote/storage/OffsetIndex", name := "count", desc := "()I" } : Jvm.MethodName) prog_89_method_3_code (1 : Nat) (Option.some Jvm.ClassFile.FieldType.int), Jvm.Cond.code ({ cls := "com/example/tote/tote/storage/OffsetIndex", name := "position", desc := "(I)J" } : Jvm.MethodName) prog_89_method_8_code (2 : Nat) (Option.some Jvm.ClassFile.FieldType.long), Jvm.Cond.code ({ cls := "com/example/tote/tote/storage/OffsetIndex", name := "offset", desc := "(I)J" } : Jvm.MethodName) prog_89_method_7_code (2 : Nat) (Option.some Jvm.ClassFile.FieldType.long)]
set_option maxRecDepth 65536 in
theorem codes_eq : words1.filter isCode = codes1 := rfl
theorem w_codes : ∀ c ∈ words1.filter isCode, c.before args0 about1 = true := by
  rw [codes_eq]
  intro c hc
  simp only [codes1, List.mem_cons, List.not_mem_nil, or_false] at hc
  rcases hc with rfl | rfl | rfl | rfl | rfl | rfl | rfl | rfl | rfl | rfl | rfl | rfl
  · exact w_c0
  · exact w_c1
  · exact w_c2
  · exact w_c3
  · exact w_c4
  · exact w_c5
  · exact w_c6
  · exact w_c7
  · exact w_c8
  · exact w_c9
  · exact w_c10
  · exact w_c11
set_option maxRecDepth 65536 in
theorem w_t1 : (words1.take 24).all (fun c => isCode c || c.before args0 about1) = true := by decide +kernel
set_option maxRecDepth 65536 in
theorem w_t2 : ((words1.drop 24).take 24).all (fun c => isCode c || c.before args0 about1) = true := by decide +kernel
set_option maxRecDepth 65536 in
theorem w_t3 : ((words1.drop 24).drop 24).all (fun c => isCode c || c.before args0 about1) = true := by decide +kernel
theorem w_tables : (allAtoms (Jvm.Cond.code x code maxLocals ret :: tables_1)).before args0 about1 = true := by
  rw [allAtoms_all]
  show words1.all (fun c => c.before args0 about1) = true
  refine all_split ?_ w_codes
  rw [← List.take_append_drop 24 words1, List.all_append, w_t1, ← List.take_append_drop 24 (words1.drop 24), List.all_append, w_t2, w_t3]
  rfl
set_option maxRecDepth 65536 in
theorem w_case : (Jvm.Cond.and given_1 narrow_1).before args0 about1 = true := by decide +kernel
theorem w_applies : (headSpec (Jvm.Cond.code x code maxLocals ret :: tables_1) room_1).applies x e0.platform about1 = true :=
  (Spec.applies_iff w_frames).mpr ⟨w_running, w_runnable, w_alone, w_named, w_hears, w_ripe, w_room, w_tables⟩
theorem atStart : AtStart classFile x code maxLocals ret World_1 tables_1 room_1 Calls_1 rest_1 Pre_1 launch0 p0 e0 about1 theMethod args0 below0 :=
  ⟨lists_1, trivial, launch0.admits_env _ _ _, launch0.least_env, fairChoices_fair.cas, fairChoices_fair.clock, w_frames, w_args, w_heap, w_applies, trivial, trivial, w_case⟩
end start1
theorem witness_1 : WitnessClaimed_1 := ⟨start1.p0, start1.e0, start1.about1, start1.theMethod, start1.args0, start1.below0, start1.atStart⟩
end Jvm.Pilot.@@N@@
