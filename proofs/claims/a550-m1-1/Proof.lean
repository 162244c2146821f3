import JvmDerived
import JvmDerived.Pilot.@@N@@Statement
import JvmDerived.Pilot.@@N@@Code
set_option linter.unusedVariables false
set_option linter.unusedSimpArgs false
namespace Jvm.Pilot.@@N@@
open Jvm Jvm.ClassFile Sem Op Lib Jvm.Free Jvm.Stand Jvm.LawKit Jvm.RoadKit Bundle Jvm.Pilot.@@N@@.Jvm.D
section OwnRun
variable {p : Program} {l : Launch} {e : Env} {R : Room} {s : State} {m : MethodId} {args : Array Value} {below : List Frame} {meth : Method} {c : Code} {T T' : State} {locs : List Loc} {cells slots : Nat}
/-- from here the run ends, as G says -/
def own_Run (p : Program) (e : Env) (below : List Frame) (G : Outcome → State → Prop) (T : State) (g : JFrame) : Prop :=
  ∃ s₂ o, Steps p.tables e below (T.setTop g) s₂ ∧ s₂.status = .running ∧ Ended s₂ below o ∧ G o s₂
theorem own_go {G : Outcome → State → Prop} {g g' : JFrame} (h : ∀ t, Steps p.tables e below (T'.setTop g') t → Steps p.tables e below (T.setTop g) t) (k : own_Run p e below G T' g') : own_Run p e below G T g := by
  obtain ⟨s₂, o, h1, h2, h3, h4⟩ := k
  exact ⟨s₂, o, h _ h1, h2, h3, h4⟩
theorem own_goT {G : Outcome → State → Prop} {g g' : JFrame} (h : Steps p.tables e below (T.setTop g) (T'.setTop g')) (k : own_Run p e below G T' g') : own_Run p e below G T g :=
  own_go (fun _ q => h.trans q) k
theorem own_start {G : Outcome → State → Prop} {f f' : JFrame} (h : f = f') (k : own_Run p e below G T f') : ∃ s₂ o, Steps p.tables e below (T.setTop f) s₂ ∧ s₂.status = .running ∧ Ended s₂ below o ∧ G o s₂ := by
  subst h
  exact k
theorem own_done {Q : Option Value → Heap → List Loc → Prop} {C N : Nat} {g : JFrame} (X : Stand p l e R s m args below meth c T locs cells slots) {v : Option Value} (hv : meth.sig.returnType = none → v = none) (hlocks : meth.locks = false)
    (hstep : ∀ fs, (∀ (f : JFrame) (acts : List Action), f.method = m → f.locked = none → f.entered = [] → (doReturn e (T.setTop f) acts v).1 = T.setFrames fs) → Steps p.tables e below (T.setTop g) (T.setFrames fs))
    (hQ : Q v T.heap locs) (hc : cells ≤ C) (hs : slots ≤ N) :
    own_Run p e below (fun o U' => ∃ v L, o = .returned v ∧ Q v U'.heap L ∧ FrameEnd s o U' L C N) T g := by
  obtain ⟨fs, hr, hrun, hended, hW, hsame⟩ := X.leave hv hlocks
  exact ⟨_, _, hstep fs hr, hrun, hended, _, _, rfl, hQ, ⟨_, rfl⟩, hW, hsame.mono hc hs⟩
theorem own_doneW {vm₁ : Vm} {n : Nat} {Q : Option Value → Heap → List Loc → Prop} {C N : Nat} {g : JFrame} (X : Stand p l e R (s.setVm vm₁) m args below meth c T locs cells slots) (hS : s.Since vm₁ n) (hn : n ≤ T.heap.size) {v : Option Value} (hv : meth.sig.returnType = none → v = none) (hlocks : meth.locks = false)
    (hstep : ∀ fs, (∀ (f : JFrame) (acts : List Action), f.method = m → f.locked = none → f.entered = [] → (doReturn e (T.setTop f) acts v).1 = T.setFrames fs) → Steps p.tables e below (T.setTop g) (T.setFrames fs))
    (hQ : Q v T.heap locs) (hc : cells ≤ C) (hs : slots ≤ N) :
    own_Run p e below (fun o U' => ∃ v L, o = .returned v ∧ Q v U'.heap L ∧ ReturnedEndW s o U' L C N) T g := by
  obtain ⟨fs, hr, hrun, hended, a, b, d, hsame⟩ := X.leaveW hS hn hv hlocks
  exact ⟨_, _, hstep fs hr, hrun, hended, _, _, rfl, hQ, a, b, d, hsame.mono hc hs⟩
theorem own_mono {cells' slots' : Nat} (X : Stand p l e R s m args below meth c T locs cells slots) (hc : cells ≤ cells') (hs : slots ≤ slots') : Stand p l e R s m args below meth c T locs cells' slots' :=
  ⟨X.admits, X.cas, X.clock, X.frames, X.room, X.hears, X.method, X.code, X.here, X.tail, X.warmed, X.limits, X.bytes, X.same.mono hc hs⟩
theorem own_retI (X : Stand p l e R s m args below meth c T locs cells slots) (hx : p.tables.exec = Jvm.exec) {pc : Nat} {Ls : Array Slot} {z : Int32} {rest : List Value} (hret : meth.sig.returnType = some .int) (hd : decode c.code pc = .ok (.ireturn, 1)) {fs : List Frame}
    (hl : ∀ (f : JFrame) (acts : List Action), f.method = m → f.locked = none → f.entered = [] → (doReturn e (T.setTop f) acts (some (.int z))).1 = T.setFrames fs) : Steps p.tables e below (T.setTop (mkF m pc Ls (.int z :: rest))) (T.setFrames fs) :=
  retOut X hx hret rfl (Or.inl ⟨rfl, Or.inl rfl, z, rfl⟩) hd hl
theorem own_retL (X : Stand p l e R s m args below meth c T locs cells slots) (hx : p.tables.exec = Jvm.exec) {pc : Nat} {Ls : Array Slot} {z : Int64} {rest : List Value} (hret : meth.sig.returnType = some .long) (hd : decode c.code pc = .ok (.lreturn, 1)) {fs : List Frame}
    (hl : ∀ (f : JFrame) (acts : List Action), f.method = m → f.locked = none → f.entered = [] → (doReturn e (T.setTop f) acts (some (.long z))).1 = T.setFrames fs) : Steps p.tables e below (T.setTop (mkF m pc Ls (.long z :: rest))) (T.setFrames fs) :=
  retOut X hx hret rfl (Or.inr (Or.inl ⟨rfl, rfl, z, rfl⟩)) hd hl
theorem own_retD (X : Stand p l e R s m args below meth c T locs cells slots) (hx : p.tables.exec = Jvm.exec) {pc : Nat} {Ls : Array Slot} {z : UInt64} {rest : List Value} (hret : meth.sig.returnType = some .double) (hd : decode c.code pc = .ok (.dreturn, 1)) {fs : List Frame}
    (hl : ∀ (f : JFrame) (acts : List Action), f.method = m → f.locked = none → f.entered = [] → (doReturn e (T.setTop f) acts (some (.double z))).1 = T.setFrames fs) : Steps p.tables e below (T.setTop (mkF m pc Ls (.double z :: rest))) (T.setFrames fs) :=
  retOut X hx hret rfl (Or.inr (Or.inr (Or.inl ⟨rfl, rfl, z, rfl⟩))) hd hl
theorem own_retA {t : FieldType} (X : Stand p l e R s m args below meth c T locs cells slots) (hx : p.tables.exec = Jvm.exec) {pc : Nat} {Ls : Array Slot} {w : Value} {rest : List Value} (hret : meth.sig.returnType = some t) (ht : t.isReference = true) (hn : narrow t w = w) (hw : w.isRef = true) (hd : decode c.code pc = .ok (.areturn, 1)) {fs : List Frame}
    (hl : ∀ (f : JFrame) (acts : List Action), f.method = m → f.locked = none → f.entered = [] → (doReturn e (T.setTop f) acts (some w)).1 = T.setFrames fs) : Steps p.tables e below (T.setTop (mkF m pc Ls (w :: rest))) (T.setFrames fs) :=
  retOut X hx hret hn (Or.inr (Or.inr (Or.inr (Or.inr ⟨rfl, ht, hw⟩)))) hd hl
theorem own_ns {Z : State} {h : Heap} {a : Addr} {C : String} (E : Exa Z h a C) : ∃ c : Cell, h[a]? = some c ∧ c.vm.isStatics = false := by
  obtain ⟨c, k, h1, -, -, h4, -⟩ := E
  exact ⟨c, h1, h4⟩
theorem own_nsV {Z : State} {h : Heap} {a : Addr} {k : ClassId} {ty : FieldType} {n : Int32} {vs : List Value} {d : Value} (V : Arv Z h a k ty n vs d) : ∃ c : Cell, h[a]? = some c ∧ c.vm.isStatics = false := by
  obtain ⟨c, A, -⟩ := V
  exact ⟨c, A.1, A.plain⟩
theorem own_staKeep {Z : State} {h h' : Heap} {ws : List Addr} {C n d : String} {w : Value} (F : Sta Z h C n d w) (K : Keep h h' ws) (q : ∀ x ∈ ws, ∃ c : Cell, h[x]? = some c ∧ c.vm.isStatics = false) : Sta Z h' C n d w := by
  obtain ⟨cf, i, k, f, st, cell, h1, h2, h3, h4, h5, h6, h7⟩ := F
  refine ⟨cf, i, k, f, st, cell, h1, h2, h3, h4, K.2.1 st cell h5 (fun hm => ?_), h6, h7⟩
  obtain ⟨c, e1, e2⟩ := q st hm
  cases h5.symm.trans e1
  rw [h6] at e2; cases e2
theorem own_eqL {args : Array Value} {first s : State} {o : Option Outcome} {idx : List Nat} {t : Term} {n : Int64} (h : (Jvm.Cond.eq t (Term.long n)).value args first o s idx = some true) : t.eval args first o idx s = some (.long n) := by
  cases ht : t.eval args first o idx s with
  | none => simp [Cond.value, ht] at h
  | some x => cases x <;> simp [Cond.value, ht, Term.eval] at h ⊢ <;> exact h
theorem own_eqI {args : Array Value} {first s : State} {o : Option Outcome} {idx : List Nat} {t : Term} {n : Int32} (h : (Jvm.Cond.eq t (Term.int n)).value args first o s idx = some true) : t.eval args first o idx s = some (.int n) := by
  cases ht : t.eval args first o idx s with
  | none => simp [Cond.value, ht] at h
  | some x => cases x <;> simp [Cond.value, ht, Term.eval] at h ⊢ <;> exact h
theorem own_eqR {args : Array Value} {first s : State} {o : Option Outcome} {idx : List Nat} {t u : Term} {x : Addr} (h : (Jvm.Cond.eq t u).value args first o s idx = some true) (hu : u.eval args first o idx s = some (.ref x)) : t.eval args first o idx s = some (.ref x) := by
  cases ht : t.eval args first o idx s with
  | none => simp [Cond.value, ht] at h
  | some y => cases y <;> simp [Cond.value, ht, hu] at h ⊢ <;> exact h
theorem own_nf {s : State} {args : Array Value} {C : String} {y y' : MethodName} (hsel : (Jvm.Cond.selects C y y).before args s = true) (hc : y'.cls = y.cls) : NotFace s y' := fun r0 h0 => by
  obtain ⟨c2, r2, m2, q1, q2, q3, q4, kP, hkP, hkPi⟩ := Cond.selects_spec hsel
  have a := findClass_of_methodNamed q3
  have b := findClass_of_methodNamed h0
  rw [hc] at b
  have e := Option.some.inj (a.symm.trans b)
  exact ⟨kP, by rw [← e]; exact hkP, hkPi⟩
theorem own_selP {s : State} {args args' : Array Value} {C : String} {y y' : MethodName} (hsel : (Jvm.Cond.selects C y' y').before args s = true) (hc : y.cls = y'.cls) (hpriv : s.PrivateAt y) (hinst : (Jvm.Cond.instanceMethod y).before args' s = true) (hy : y.cls ≠ "java/lang/invoke/MethodHandle" ∧ y.cls ≠ "java/lang/invoke/VarHandle") : (Jvm.Cond.selects y.cls y y).before args' s = true := by
  obtain ⟨mk, methM, hnamed, -, -, -⟩ := Cond.instanceMethod_spec hinst
  obtain ⟨k, hk, hni⟩ := own_nf hsel hc mk hnamed
  exact selects_self_of_private (findClass_of_methodNamed hnamed) hk hni hpriv hinst hy
end OwnRun
theorem own_lcLt {x y : Int64} (h : x < y) : lcmpW x y = -1 := by
  have h1 : ¬ (x > y) := by simp only [GT.gt, Int64.lt_iff_toInt_lt] at h ⊢; omega
  have h2 : ¬ (x = y) := by rintro rfl; exact Int64.lt_irrefl h
  simp [lcmpW, h1, h2]
theorem own_lcGt {x y : Int64} (h : y < x) : lcmpW x y = 1 := by
  have h1 : x > y := h
  simp [lcmpW, h1]
theorem own_lcEq {x y : Int64} (h : x = y) : lcmpW x y = 0 := by
  subst h
  have h1 : ¬ (x > x) := Int64.lt_irrefl
  simp [lcmpW, h1]
theorem own_lcNlt {x y : Int64} (h : ¬ x < y) : lcmpW x y = 0 ∨ lcmpW x y = 1 := by
  by_cases q : x = y
  · exact Or.inl (own_lcEq q)
  · refine Or.inr (own_lcGt ?_)
    simp only [Int64.lt_iff_toInt_lt, ← Int64.toInt_inj] at h q ⊢; omega
theorem own_lcNgt {x y : Int64} (h : ¬ y < x) : lcmpW x y = 0 ∨ lcmpW x y = -1 := by
  by_cases q : x = y
  · exact Or.inl (own_lcEq q)
  · refine Or.inr (own_lcLt ?_)
    simp only [Int64.lt_iff_toInt_lt, ← Int64.toInt_inj] at h q ⊢; omega
theorem own_lcNe {x y : Int64} (h : ¬ x = y) : lcmpW x y = 1 ∨ lcmpW x y = -1 := by
  by_cases q : x < y
  · exact Or.inr (own_lcLt q)
  · refine Or.inl (own_lcGt ?_)
    simp only [Int64.lt_iff_toInt_lt, ← Int64.toInt_inj] at h q ⊢; omega
theorem own_lcT {x y : Int64} (h : x < y) : ifCond.holds .lt (lcmpW x y) = true ∧ ifCond.holds .ge (lcmpW x y) = false ∧ ifCond.holds .gt (lcmpW y x) = true ∧ ifCond.holds .le (lcmpW y x) = false := by
  rw [own_lcLt h, own_lcGt h]; decide
theorem own_lcF {x y : Int64} (h : ¬ x < y) : ifCond.holds .lt (lcmpW x y) = false ∧ ifCond.holds .ge (lcmpW x y) = true ∧ ifCond.holds .gt (lcmpW y x) = false ∧ ifCond.holds .le (lcmpW y x) = true := by
  rcases own_lcNlt h with q | q <;> rcases own_lcNgt (x := y) (y := x) h with r | r <;> rw [q, r] <;> decide
theorem own_lcTe {x y : Int64} (h : x = y) : ifCond.holds .eq (lcmpW x y) = true ∧ ifCond.holds .ne (lcmpW x y) = false := by
  rw [own_lcEq h]; decide
theorem own_lcFe {x y : Int64} (h : ¬ x = y) : ifCond.holds .eq (lcmpW x y) = false ∧ ifCond.holds .ne (lcmpW x y) = true := by
  rcases own_lcNe h with q | q <;> rw [q] <;> decide
theorem own_maskI (x : Int32) (M : Nat) (hM : M < 2 ^ 31) : (x &&& Int32.ofNat M).toInt = ((x.toBitVec.toNat &&& M : Nat) : Int) := by
  have h1 : (x &&& Int32.ofNat M).toBitVec.toNat = x.toBitVec.toNat &&& M := by
    rw [Int32.toBitVec_and, BitVec.toNat_and]
    congr 1
    show (BitVec.ofNat 32 M).toNat = M
    rw [BitVec.toNat_ofNat]; omega
  have h2 : x.toBitVec.toNat &&& M ≤ M := Nat.and_le_right
  rw [Int32.toInt, BitVec.toInt_eq_toNat_of_lt (by rw [h1]; omega), h1]
theorem own_mask0 (x : Int32) (M : Nat) (hM : M < 2 ^ 31) : 0 ≤ (x &&& Int32.ofNat M).toInt ∧ (x &&& Int32.ofNat M).toInt ≤ M := by
  rw [own_maskI x M hM]
  have h2 : x.toBitVec.toNat &&& M ≤ M := Nat.and_le_right
  omega
theorem own_rem (x : Int32) (k : Int32) (hx : 0 ≤ x.toInt) (hk : 0 < k.toInt) : 0 ≤ (x % k).toInt ∧ (x % k).toInt < k.toInt := by
  rw [Int32.toInt_mod]
  exact ⟨Int.tmod_nonneg _ hx, Int.tmod_lt_of_pos _ hk⟩
theorem own_bm (z : Int) (h1 : -2147483648 ≤ z) (h2 : z < 2147483648) : z.bmod (2 ^ 32) = z := by
  rw [Int.bmod_def]; split <;> omega
theorem own_addI (a b : Int32) (h1 : -2147483648 ≤ a.toInt + b.toInt) (h2 : a.toInt + b.toInt < 2147483648) : (a + b).toInt = a.toInt + b.toInt := by
  rw [Int32.toInt_add, own_bm _ h1 h2]
theorem own_subI (a b : Int32) (h1 : -2147483648 ≤ a.toInt - b.toInt) (h2 : a.toInt - b.toInt < 2147483648) : (a - b).toInt = a.toInt - b.toInt := by
  rw [Int32.toInt_sub, own_bm _ h1 h2]
theorem own_nz (a : Int32) (h : 0 < a.toInt) : a ≠ 0 := by
  rintro rfl; exact absurd h (by decide)
theorem own_ushr (x k : Int32) (n : Nat) (h : ((k &&& 31).toUInt32.toBitVec % 32).toNat = n) (hn : 0 < n) : ((x.toUInt32 >>> (k &&& 31).toUInt32).toInt32).toInt = ((x.toBitVec.toNat >>> n : Nat) : Int) ∧ x.toBitVec.toNat >>> n < 2 ^ (32 - n) := by
  have e : ((x.toUInt32 >>> (k &&& 31).toUInt32).toInt32).toBitVec = x.toBitVec >>> n := by
    show x.toBitVec >>> ((k &&& 31).toUInt32.toBitVec % 32) = _
    rw [BitVec.ushiftRight_eq', h]
  have hx : x.toBitVec.toNat < 2 ^ 32 := x.toBitVec.isLt
  have e2 : x.toBitVec.toNat >>> n < 2 ^ (32 - n) := by
    rw [Nat.shiftRight_eq_div_pow]
    rcases Nat.lt_or_ge n 32 with q | q
    · rw [Nat.div_lt_iff_lt_mul (Nat.two_pow_pos n), ← Nat.pow_add, Nat.sub_add_cancel (by omega)]; exact hx
    · rw [Nat.div_eq_of_lt (Nat.lt_of_lt_of_le hx (Nat.pow_le_pow_right (by decide) q))]; exact Nat.two_pow_pos _
  refine ⟨?_, e2⟩
  have e3 : 2 ^ (32 - n) ≤ 2 ^ 31 := Nat.pow_le_pow_right (by decide) (by omega)
  rw [Int32.toInt, e, BitVec.toInt_eq_toNat_of_lt (by rw [BitVec.toNat_ushiftRight]; omega), BitVec.toNat_ushiftRight]
theorem own_lit (a : Int32) (n : Int) (b : Int32) (h : a.toInt = n) (hb : b.toInt = n) : a = b := Int32.toInt_inj.mp (h.trans hb.symm)
theorem own_four (a : Int32) (h0 : 0 ≤ a.toInt) (h1 : a.toInt < 4) : a = 0 ∨ a = 1 ∨ a = 2 ∨ a = 3 := by
  have q : a.toInt = 0 ∨ a.toInt = 1 ∨ a.toInt = 2 ∨ a.toInt = 3 := by omega
  rcases q with q | q | q | q
  · exact Or.inl (own_lit _ _ _ q rfl)
  · exact Or.inr (Or.inl (own_lit _ _ _ q rfl))
  · exact Or.inr (Or.inr (Or.inl (own_lit _ _ _ q rfl)))
  · exact Or.inr (Or.inr (Or.inr (own_lit _ _ _ q rfl)))
theorem own_byte (a : Int32) (h0 : 0 ≤ a.toInt) (h1 : a.toInt < 128) : a.toInt8.toInt32 = a := by
  apply Int32.toInt_inj.mp
  rw [Int8.toInt_toInt32, Int32.toInt_toInt8, Int.bmod_def]; split <;> omega
theorem own_bm64 (z : Int) (h1 : -9223372036854775808 ≤ z) (h2 : z < 9223372036854775808) : z.bmod (2 ^ 64) = z := by
  rw [Int.bmod_def]; split <;> omega
theorem own_subL (a b : Int64) (h1 : -9223372036854775808 ≤ a.toInt - b.toInt) (h2 : a.toInt - b.toInt < 9223372036854775808) : (a - b).toInt = a.toInt - b.toInt := by
  rw [Int64.toInt_sub, own_bm64 _ h1 h2]
theorem own_mulL (a b : Int64) (h1 : -9223372036854775808 ≤ a.toInt * b.toInt) (h2 : a.toInt * b.toInt < 9223372036854775808) : (a * b).toInt = a.toInt * b.toInt := by
  rw [Int64.toInt_mul, own_bm64 _ h1 h2]
theorem own_addL (a b : Int64) (h1 : -9223372036854775808 ≤ a.toInt + b.toInt) (h2 : a.toInt + b.toInt < 9223372036854775808) : (a + b).toInt = a.toInt + b.toInt := by
  rw [Int64.toInt_add, own_bm64 _ h1 h2]
theorem own_maskL (x : Int64) (M : Nat) (hM : M < 2 ^ 63) : 0 ≤ (x &&& Int64.ofNat M).toInt ∧ (x &&& Int64.ofNat M).toInt ≤ M := by
  have h1 : (x &&& Int64.ofNat M).toBitVec.toNat = x.toBitVec.toNat &&& M := by
    rw [Int64.toBitVec_and, BitVec.toNat_and]
    congr 1
    show (BitVec.ofNat 64 M).toNat = M
    rw [BitVec.toNat_ofNat]; omega
  have h2 : x.toBitVec.toNat &&& M ≤ M := Nat.and_le_right
  rw [Int64.toInt, BitVec.toInt_eq_toNat_of_lt (by rw [h1]; omega), h1]
  omega
theorem own_shrL (x : Int64) (k : Int32) (n : Nat) (h : ((k &&& 0x3f).toInt64.toBitVec.smod 64).toNat = n) : (x >>> (k &&& 0x3f).toInt64).toInt = x.toInt >>> n := by
  show (x.toBitVec.sshiftRight' ((k &&& 0x3f).toInt64.toBitVec.smod 64)).toInt = _
  rw [BitVec.sshiftRight', h, BitVec.toInt_sshiftRight]; rfl
section OwnDoubles
open Jvm.FP.Core Jvm.Free.Fl
theorem own_sgn (a : Int64) : sgn (val64 (FP.l2d a)) = decide (a.toInt < 0) := by
  rw [val64_l2d]
  exact sgn_roundRatio _ _ _ _ _
theorem own_val (a : Int64) (h : a ≠ 0) : ∃ c q, val64 (FP.l2d a) = .fin (decide (a.toInt < 0)) c q ∧ 2 ^ 52 ≤ c ∧ c < 2 ^ 53 ∧ -52 ≤ q ∧ q ≤ 12 := by
  have b1 : 1023 * 2 ^ 52 ≤ (FP.l2d a).toNat % 2 ^ 63 := (Jvm.FP.Core.l2d_big (int64_ne h)).1
  have b3 : (FP.l2d a).toNat % 2 ^ 63 < 1088 * 2 ^ 52 := Jvm.FP.Core.l2d_mag a
  have hs := own_sgn a
  have hE : fieldE b64 (FP.l2d a).toNat = (FP.l2d a).toNat % 2 ^ 63 / 2 ^ 52 := by rw [fieldE_mag, mag_toNat64, tails_b64]
  have hT : fieldT b64 (FP.l2d a).toNat = (FP.l2d a).toNat % 2 ^ 63 % 2 ^ 52 := by rw [fieldT_mag, mag_toNat64, tails_b64]
  have hd : val64 (FP.l2d a) = .fin (fieldS b64 (FP.l2d a).toNat) (b64.tails + fieldT b64 (FP.l2d a).toNat) (b64.qmin + ((fieldE b64 (FP.l2d a).toNat : Int) - 1)) := by
    unfold val64 Jvm.FP.Core.decode
    rw [if_neg (by rw [hE, exps_b64]; omega), if_neg (by rw [hE]; omega)]
  rw [hd] at hs
  rw [show fieldS b64 (FP.l2d a).toNat = decide (a.toInt < 0) from hs] at hd
  refine ⟨_, _, hd, ?_, ?_, ?_, ?_⟩
  · rw [tails_b64]; omega
  · rw [tails_b64, hT]; omega
  · rw [qmin_b64, hE]; omega
  · rw [qmin_b64, hE]; omega
theorem own_zeroD : val64 (FP.l2d 0) = .fin false 0 b64.qmin := by
  rw [Jvm.RoadKit.l2d_zero]; exact val64_dconst0
theorem own_pow (a : Int64) (k : Nat) (hk : k ≤ 63) (h : a.toInt.natAbs = 2 ^ k) : val64 (FP.l2d a) = .fin (decide (a.toInt < 0)) (2 ^ 52) ((k : Int) - 52) := by
  rw [val64_l2d]
  refine roundRatio_exact good_b64 (by decide) ⟨by decide, ?_, ?_, Or.inr (by rw [tails_b64]; exact Nat.le_refl _)⟩ ?_
  · rw [qmin_b64]; omega
  · show _ ≤ (971 : Int); omega
  · rw [h, Nat.mul_one, ← Nat.pow_add, ← Nat.pow_add]
    congr 1; omega
theorem own_nzD (m : Int64) (hm : m ≠ 0) : ¬ DZero (FP.l2d m) := fun h => Jvm.FP.Core.l2d_ne_zero hm ((zero_bits2 _).mp h)
theorem own_nnDiv (w m : Int64) (hm : m ≠ 0) : NoNaN64 (FP.ddiv (FP.l2d w) (FP.l2d m)) :=
  noNaN64_no.mpr (Jvm.FP.Core.ddiv_out (Jvm.FP.Core.l2d_fin w).notNaN (Jvm.FP.Core.l2d_fin m) (own_nzD m hm))
/-- dividing by a power of two, and back -/
theorem own_back (w m : Int64) (k : Nat) (hk : k ≤ 63) (h : m.toInt.natAbs = 2 ^ k) :
    (w = 0 → ∃ s, val64 (FP.dmul (FP.ddiv (FP.l2d w) (FP.l2d m)) (FP.l2d m)) = .fin s 0 b64.qmin) ∧ (w ≠ 0 → val64 (FP.dmul (FP.ddiv (FP.l2d w) (FP.l2d m)) (FP.l2d m)) = val64 (FP.l2d w)) := by
  have hm := own_pow m k hk h
  constructor
  · rintro rfl
    rw [val64_dmul, val64_ddiv, own_zeroD, hm]
    refine ⟨((false != decide (m.toInt < 0)) != decide (m.toInt < 0)), ?_⟩
    rw [show quotient b64 (.fin false 0 b64.qmin) (.fin (decide (m.toInt < 0)) (2 ^ 52) ((k : Int) - 52)) = .fin (false != decide (m.toInt < 0)) 0 b64.qmin by simp [quotient, roundRatio]]
    show roundRatio b64 _ (0 * 2 ^ 52) 1 _ = _
    rw [Nat.zero_mul]; rfl
  · intro hw
    obtain ⟨c, q, hc, c1, c2, q1, q2⟩ := own_val w hw
    rw [val64_dmul, val64_ddiv, hc, hm]
    have e1 : quotient b64 (.fin (decide (w.toInt < 0)) c q) (.fin (decide (m.toInt < 0)) (2 ^ 52) ((k : Int) - 52)) = .fin (decide (w.toInt < 0) != decide (m.toInt < 0)) c (q - k) := by
      show roundRatio b64 _ c (2 ^ 52) (q - ((k : Int) - 52)) = _
      refine roundRatio_exact good_b64 (by decide) ⟨c2, ?_, ?_, Or.inr (by rw [tails_b64]; exact c1)⟩ ?_
      · rw [qmin_b64]; omega
      · show _ ≤ (971 : Int); omega
      · rw [show (q - (↑k - 52) - (q - ↑k)).toNat = 52 by omega, show (q - ↑k - (q - (↑k - 52))).toNat = 0 by omega, Nat.pow_zero, Nat.mul_one]
    rw [e1]
    show roundRatio b64 _ (c * 2 ^ 52) 1 (q - ↑k + (↑k - 52)) = _
    have e2 : ((decide (w.toInt < 0) != decide (m.toInt < 0)) != decide (m.toInt < 0)) = decide (w.toInt < 0) := by
      cases decide (w.toInt < 0) <;> cases decide (m.toInt < 0) <;> rfl
    rw [e2]
    refine roundRatio_exact good_b64 (by decide) ⟨c2, ?_, ?_, Or.inr (by rw [tails_b64]; exact c1)⟩ ?_
    · rw [qmin_b64]; omega
    · show _ ≤ (971 : Int); omega
    · rw [show (q - ↑k + (↑k - 52) - q).toNat = 0 by omega, show (q - (q - ↑k + (↑k - 52))).toNat = 52 by omega, Nat.pow_zero, Nat.mul_one, Nat.mul_one]
theorem own_nnMul (w m : Int64) (k : Nat) (hk : k ≤ 63) (h : m.toInt.natAbs = 2 ^ k) : NoNaN64 (FP.dmul (FP.ddiv (FP.l2d w) (FP.l2d m)) (FP.l2d m)) := by
  refine noNaN64_no.mpr ((notNaN_iff _).mpr ?_)
  by_cases hw : w = 0
  · obtain ⟨s, e⟩ := (own_back w m k hk h).1 hw
    rw [e]; exact Datum.noConfusion
  · rw [(own_back w m k hk h).2 hw]; exact (Jvm.FP.Core.l2d_fin w).ne_nan
theorem own_k1 (w m : Int64) (k : Nat) (hk : k ≤ 63) (h : m.toInt.natAbs = 2 ^ k) : cmpValue (FP.dcmp (FP.dmul (FP.ddiv (FP.l2d w) (FP.l2d m)) (FP.l2d m)) (FP.l2d w)) .l = 0 := by
  have e : FP.dcmp (FP.dmul (FP.ddiv (FP.l2d w) (FP.l2d m)) (FP.l2d m)) (FP.l2d w) = some .eq := by
    show order (val64 _) (val64 _) = _
    by_cases hw : w = 0
    · obtain ⟨s, e⟩ := (own_back w m k hk h).1 hw
      rw [e, hw, own_zeroD]
      cases s <;> decide +kernel
    · rw [(own_back w m k hk h).2 hw]; exact order_self (Jvm.FP.Core.l2d_fin w).ne_nan
  rw [e]; rfl
theorem own_nan (b : UInt64) (h : val64 b = .nan) : cmpValue (FP.dcmp b b) .l = -1 := by
  rw [show FP.dcmp b b = none from (dcmp_none b b).mpr (Or.inl h)]; rfl
/-- whole numbers of 53 bits -/
theorem own_zmag (a : Int64) (h1 : 0 ≤ a.toInt) (h2 : a.toInt ≤ 2 ^ 53) : zmag b64 (val64 (FP.l2d a)) = a.toInt.toNat * 2 ^ 1074 := by
  have hw : Whole a.toInt (val64 (FP.l2d a)) := Jvm.FP.Core.l2d_int (by omega)
  have hs := own_sgn a
  have hf := val64_fits (FP.l2d a)
  rw [show decide (a.toInt < 0) = false from decide_eq_false (by omega)] at hs
  cases hv : val64 (FP.l2d a) with
  | nan => rw [hv] at hw; exact hw.elim
  | inf s => rw [hv] at hw; exact hw.elim
  | fin s c q =>
    rw [hv] at hw hs hf
    have hs' : s = false := hs
    subst hs'
    have u := whole_units hw (e := -1074) (by have := hf.2.1; rw [qmin_b64] at this; exact this)
    show inUnits c q b64.qmin = _
    rw [qmin_b64]
    have u' : ((inUnits c q (-1074) : Nat) : Int) * ((2 ^ (-1074 : Int).toNat : Nat) : Int) = a.toInt * ((2 ^ (-(-1074 : Int)).toNat : Nat) : Int) := u
    rw [show (-1074 : Int).toNat = 0 from rfl, show (-(-1074 : Int)).toNat = 1074 from rfl, Nat.pow_zero, show ((1 : Nat) : Int) = 1 from rfl, Int.mul_one] at u'
    have e : a.toInt = (a.toInt.toNat : Int) := by omega
    rw [e, ← Int.natCast_mul] at u'
    exact Int.ofNat.inj u'
theorem own_quo (w m : Int64) (w1 : 0 ≤ w.toInt) (w2 : w.toInt ≤ 2 ^ 53) (m1 : 0 < m.toInt) (m2 : m.toInt ≤ 2 ^ 53) :
    val64 (FP.ddiv (FP.l2d w) (FP.l2d m)) = roundRatio b64 false w.toInt.toNat m.toInt.toNat 0 := by
  have hw : Whole w.toInt (val64 (FP.l2d w)) := Jvm.FP.Core.l2d_int (by omega)
  have hm : Whole m.toInt (val64 (FP.l2d m)) := Jvm.FP.Core.l2d_int (by omega)
  have sw := own_sgn w
  have sm := own_sgn m
  rw [show decide (w.toInt < 0) = false from decide_eq_false (by omega)] at sw
  rw [show decide (m.toInt < 0) = false from decide_eq_false (by omega)] at sm
  rw [val64_ddiv]
  cases hvw : val64 (FP.l2d w) with
  | nan => rw [hvw] at hw; exact hw.elim
  | inf s => rw [hvw] at hw; exact hw.elim
  | fin s c q =>
  cases hvm : val64 (FP.l2d m) with
  | nan => rw [hvm] at hm; exact hm.elim
  | inf s => rw [hvm] at hm; exact hm.elim
  | fin t d r =>
    rw [hvw] at hw sw
    rw [hvm] at hm sm
    have sw' : s = false := sw
    have sm' : t = false := sm
    subst sw' sm'
    have hd : d ≠ 0 := fun h => by have := (whole_zero hm).mp h; omega
    show (if d = 0 then _ else roundRatio b64 _ c d (q - r)) = _
    rw [if_neg hd]
    have a1 := whole_natAbs hw
    have a2 := whole_natAbs hm
    rw [show w.toInt.natAbs = w.toInt.toNat by omega] at a1
    rw [show m.toInt.natAbs = m.toInt.toNat by omega] at a2
    refine roundRatio_congr (Nat.pos_of_ne_zero hd) (by omega) ?_
    generalize w.toInt.toNat = W at a1 ⊢
    generalize m.toInt.toNat = M at a2 ⊢
    have hp : 0 < 2 ^ q.toNat * 2 ^ (-r).toNat := Nat.mul_pos (Nat.two_pow_pos _) (Nat.two_pow_pos _)
    refine Nat.eq_of_mul_eq_mul_right hp ?_
    have hx : (-q).toNat + r.toNat + (q - r - 0).toNat = (0 - (q - r)).toNat + q.toNat + (-r).toNat := by omega
    calc c * M * 2 ^ (q - r - 0).toNat * (2 ^ q.toNat * 2 ^ (-r).toNat) = (c * 2 ^ q.toNat) * (M * 2 ^ (-r).toNat) * 2 ^ (q - r - 0).toNat := by ac_rfl
      _ = (W * 2 ^ (-q).toNat) * (d * 2 ^ r.toNat) * 2 ^ (q - r - 0).toNat := by rw [a1, a2]
      _ = W * d * 2 ^ ((-q).toNat + r.toNat + (q - r - 0).toNat) := by rw [Nat.pow_add, Nat.pow_add]; ac_rfl
      _ = W * d * 2 ^ (0 - (q - r)).toNat * (2 ^ q.toNat * 2 ^ (-r).toNat) := by rw [hx, Nat.pow_add, Nat.pow_add]; ac_rfl
theorem own_cmpLe {x y : Int} (h : x ≤ y) : cmpValue (some (compare x y)) .g = 0 ∨ cmpValue (some (compare x y)) .g = -1 := by
  rcases Int.lt_or_eq_of_le h with h | h
  · right; rw [show compare x y = .lt by simp only [compare, compareOfLessAndEq, h, if_true]]; rfl
  · left; subst h; rw [compare_self_int]; rfl
theorem own_ord (a b : UInt64) (ha : val64 a ≠ .nan) (hb : val64 b ≠ .nan) : FP.dcmp a b = some (compare (zval b64 (val64 a)) (zval b64 (val64 b))) :=
  order_zval good_b64 (val64_fits a) (val64_fits b) ha hb
theorem own_k2 (w m q : Int64) (w1 : 0 ≤ w.toInt) (w2 : w.toInt ≤ 2 ^ 53) (m1 : 0 < m.toInt) (m2 : m.toInt ≤ 2 ^ 53) (q1 : 0 ≤ q.toInt) (q2 : q.toInt ≤ 2 ^ 53) :
    (q.toInt * m.toInt ≤ w.toInt → cmpValue (FP.dcmp (FP.l2d q) (FP.ddiv (FP.l2d w) (FP.l2d m))) .g = 0 ∨ cmpValue (FP.dcmp (FP.l2d q) (FP.ddiv (FP.l2d w) (FP.l2d m))) .g = -1) ∧
    (w.toInt ≤ q.toInt * m.toInt → cmpValue (FP.dcmp (FP.ddiv (FP.l2d w) (FP.l2d m)) (FP.l2d q)) .g = 0 ∨ cmpValue (FP.dcmp (FP.ddiv (FP.l2d w) (FP.l2d m)) (FP.l2d q)) .g = -1) ∧
    (w.toInt = q.toInt * m.toInt → cmpValue (FP.dcmp (FP.ddiv (FP.l2d w) (FP.l2d m)) (FP.l2d q)) .l = 0) := by
  have hR := own_quo w m w1 w2 m1 m2
  have hz := own_zmag q q1 q2
  have nR : val64 (FP.ddiv (FP.l2d w) (FP.l2d m)) ≠ .nan := by rw [hR]; exact roundRatio_ne_nan _ _ _ _ _
  have nQ : val64 (FP.l2d q) ≠ .nan := (Jvm.FP.Core.l2d_fin q).ne_nan
  have zR : zval b64 (val64 (FP.ddiv (FP.l2d w) (FP.l2d m))) = (zmag b64 (roundRatio b64 false w.toInt.toNat m.toInt.toNat 0) : Int) := by
    unfold zval; rw [hR, sgn_roundRatio]; rfl
  have zQ : zval b64 (val64 (FP.l2d q)) = (zmag b64 (val64 (FP.l2d q)) : Int) := by
    unfold zval; rw [own_sgn, decide_eq_false (by omega)]; rfl
  have hM : 0 < m.toInt.toNat := by omega
  have ge : q.toInt * m.toInt ≤ w.toInt → zmag b64 (val64 (FP.l2d q)) ≤ zmag b64 (roundRatio b64 false w.toInt.toNat m.toInt.toNat 0) := by
    intro h
    refine zmag_roundRatio_ge good_b64 (e0 := -1074) hM (val64_fits _) (by rw [qmin_b64]; exact Int.le_refl _) (by decide) ?_
    rw [hz, qmin_b64]
    unfold inUnits
    rw [show ((-1074 : Int) - -1074).toNat = 0 from rfl, show ((0 : Int) - -1074).toNat = 1074 from rfl]
    rw [Nat.pow_zero, Nat.mul_one, Nat.mul_right_comm]
    refine Nat.mul_le_mul_right _ ?_
    have e1 : ((q.toInt.toNat * m.toInt.toNat : Nat) : Int) = q.toInt * m.toInt := by rw [Int.natCast_mul, Int.toNat_of_nonneg q1, Int.toNat_of_nonneg (by omega)]
    omega
  have le : w.toInt ≤ q.toInt * m.toInt → zmag b64 (roundRatio b64 false w.toInt.toNat m.toInt.toNat 0) ≤ zmag b64 (val64 (FP.l2d q)) := by
    intro h
    refine zmag_roundRatio_le good_b64 (e0 := -1074) hM (val64_fits _) nQ (by rw [qmin_b64]; exact Int.le_refl _) (by decide) ?_
    rw [hz, qmin_b64]
    unfold inUnits
    rw [show ((-1074 : Int) - -1074).toNat = 0 from rfl, show ((0 : Int) - -1074).toNat = 1074 from rfl]
    rw [Nat.pow_zero, Nat.mul_one, Nat.mul_right_comm]
    refine Nat.mul_le_mul_right _ ?_
    have e1 : ((q.toInt.toNat * m.toInt.toNat : Nat) : Int) = q.toInt * m.toInt := by rw [Int.natCast_mul, Int.toNat_of_nonneg q1, Int.toNat_of_nonneg (by omega)]
    omega
  refine ⟨fun h => ?_, fun h => ?_, fun h => ?_⟩
  · rw [own_ord _ _ nQ nR, zR, zQ]; exact own_cmpLe (Int.ofNat_le.mpr (ge h))
  · rw [own_ord _ _ nR nQ, zR, zQ]; exact own_cmpLe (Int.ofNat_le.mpr (le h))
  · rw [own_ord _ _ nR nQ, zR, zQ, Nat.le_antisymm (le (by omega)) (ge (by omega)), compare_self_int]; rfl
/-- the quotient's sign -/
theorem own_k3 (w m : Int64) (hm : m ≠ 0) :
    (w = 0 → ∀ o, cmpValue (FP.dcmp (FP.ddiv (FP.l2d w) (FP.l2d m)) FP.dconst0) o = 0) ∧
    (w ≠ 0 → (w.toInt < 0 ↔ m.toInt < 0) → ∀ o, cmpValue (FP.dcmp (FP.ddiv (FP.l2d w) (FP.l2d m)) FP.dconst0) o = 1) ∧
    (w ≠ 0 → ¬ (w.toInt < 0 ↔ m.toInt < 0) → ∀ o, cmpValue (FP.dcmp (FP.ddiv (FP.l2d w) (FP.l2d m)) FP.dconst0) o = -1) := by
  obtain ⟨d, r, hd, d1, d2, r1, r2⟩ := own_val m hm
  have hd0 : d ≠ 0 := by omega
  have h0 : val64 FP.dconst0 = .fin false 0 b64.qmin := val64_dconst0
  have n0 : val64 FP.dconst0 ≠ .nan := by rw [h0]; exact Datum.noConfusion
  have z0 : zval b64 (val64 FP.dconst0) = 0 := by rw [h0]; decide +kernel
  have nR : val64 (FP.ddiv (FP.l2d w) (FP.l2d m)) ≠ .nan := (notNaN_iff _).mp (noNaN64_no.mp (own_nnDiv w m hm))
  refine ⟨?_, ?_⟩
  · rintro rfl o
    have e : ∃ s, val64 (FP.ddiv (FP.l2d 0) (FP.l2d m)) = .fin s 0 b64.qmin := by
      rw [val64_ddiv, own_zeroD, hd]
      refine ⟨(false != decide (m.toInt < 0)), ?_⟩
      show (if d = 0 then _ else roundRatio b64 _ 0 d _) = _
      rw [if_neg hd0]; rfl
    obtain ⟨s, e⟩ := e
    have zR : zval b64 (val64 (FP.ddiv (FP.l2d 0) (FP.l2d m))) = 0 := by rw [e]; cases s <;> decide +kernel
    rw [own_ord _ _ nR n0, zR, z0, compare_self_int]; rfl
  · have key : w ≠ 0 → ∃ n : Nat, 0 < n ∧ zval b64 (val64 (FP.ddiv (FP.l2d w) (FP.l2d m))) = signed (decide (w.toInt < 0) != decide (m.toInt < 0)) n := by
      intro hw
      obtain ⟨c, q, hc, c1, c2, q1, q2⟩ := own_val w hw
      have hR : val64 (FP.ddiv (FP.l2d w) (FP.l2d m)) = roundRatio b64 (decide (w.toInt < 0) != decide (m.toInt < 0)) c d (q - r) := by
        rw [val64_ddiv, hc, hd]
        show (if d = 0 then _ else roundRatio b64 _ c d (q - r)) = _
        rw [if_neg hd0]
      refine ⟨zmag b64 (val64 (FP.ddiv (FP.l2d w) (FP.l2d m))), ?_, ?_⟩
      · rw [hR]
        refine Nat.lt_of_lt_of_le (show 0 < zmag b64 (.fin false 1 b64.qmin) by decide +kernel) ?_
        refine zmag_roundRatio_ge good_b64 (e0 := -1074) (by omega) (show Jvm.FP.Core.fits b64 (.fin false 1 b64.qmin) from ⟨by decide, by decide, by decide, Or.inl rfl⟩) (by rw [qmin_b64]; exact Int.le_refl _) (by omega) ?_
        rw [show zmag b64 (.fin false 1 b64.qmin) = 1 by decide +kernel, qmin_b64]
        show 1 * 2 ^ 0 * d ≤ c * 2 ^ (q - r - -1074).toNat
        rw [Nat.pow_zero, Nat.one_mul]
        have e1 : 2 ^ 1 ≤ 2 ^ (q - r - -1074).toNat := Nat.pow_le_pow_right (by decide) (by omega)
        exact Nat.le_trans (show d ≤ c * 2 ^ 1 by omega) (Nat.mul_le_mul_left c e1)
      · unfold zval; rw [hR, sgn_roundRatio]
    refine ⟨fun hw hs o => ?_, fun hw hs o => ?_⟩
    · obtain ⟨n, n1, n2⟩ := key hw
      rw [show (decide (w.toInt < 0) != decide (m.toInt < 0)) = false by by_cases a : m.toInt < 0 <;> simp [a, hs]] at n2
      have n3 : zval b64 (val64 (FP.ddiv (FP.l2d w) (FP.l2d m))) = (n : Int) := n2
      rw [own_ord _ _ nR n0, n3, z0, show compare (n : Int) 0 = .gt by simp only [compare, compareOfLessAndEq]; rw [if_neg (by omega), if_neg (by omega)]]; rfl
    · obtain ⟨n, n1, n2⟩ := key hw
      rw [show (decide (w.toInt < 0) != decide (m.toInt < 0)) = true by by_cases a : m.toInt < 0 <;> by_cases b : w.toInt < 0 <;> simp [a, b] at hs ⊢] at n2
      have n3 : zval b64 (val64 (FP.ddiv (FP.l2d w) (FP.l2d m))) = -(n : Int) := n2
      rw [own_ord _ _ nR n0, n3, z0, show compare (-(n : Int)) 0 = .lt by simp only [compare, compareOfLessAndEq]; rw [if_pos (by omega)]]; rfl
theorem own_self (w m : Int64) (hm : m ≠ 0) : cmpValue (FP.dcmp (FP.ddiv (FP.l2d w) (FP.l2d m)) (FP.ddiv (FP.l2d w) (FP.l2d m))) .l = 0 := by
  rw [show FP.dcmp (FP.ddiv (FP.l2d w) (FP.l2d m)) (FP.ddiv (FP.l2d w) (FP.l2d m)) = some .eq from order_self ((notNaN_iff _).mp (noNaN64_no.mp (own_nnDiv w m hm)))]; rfl
end OwnDoubles
section OwnMean
open Jvm.FP.Core Jvm.Free.Fl
theorem own_shl64 : ∀ n : Fin 64, ((1 : Int64) <<< (Int32.ofInt (n.val : Int) &&& 0x3f).toInt64).toInt.natAbs = 2 ^ n.val ∧ (n.val < 63 → (-((1 : Int64) <<< (Int32.ofInt (n.val : Int) &&& 0x3f).toInt64)).toInt.natAbs = 2 ^ n.val) := by decide +kernel
theorem own_shl (s j : Int32) (hj : j = (((s.toUInt32 >>> ((2 : Int32) &&& 31).toUInt32).toInt32) &&& (63 : Int32))) : ∃ k : Nat, k ≤ 63 ∧ ((1 : Int64) <<< (j &&& 0x3f).toInt64).toInt.natAbs = 2 ^ k ∧ (j < (63 : Int32) → (-((1 : Int64) <<< (j &&& 0x3f).toInt64)).toInt.natAbs = 2 ^ k) := by
  have q := own_mask0 ((s.toUInt32 >>> ((2 : Int32) &&& 31).toUInt32).toInt32) 63 (by decide)
  have q1 : 0 ≤ j.toInt ∧ j.toInt ≤ 63 := by rw [hj]; exact q
  obtain ⟨n, hn⟩ : ∃ n : Nat, j.toInt = n := ⟨_, (Int.toNat_of_nonneg q1.1).symm⟩
  have e : j = Int32.ofInt n := by rw [← hn, Int32.ofInt_toInt]
  have h := own_shl64 ⟨n, by omega⟩
  refine ⟨n, by omega, ?_, fun hlt => ?_⟩
  · rw [e]; exact h.1
  · rw [Int32.lt_iff_toInt_lt] at hlt
    have : (63 : Int32).toInt = 63 := rfl
    rw [e]; exact h.2 (by show n < 63; omega)
theorem own_nzPow (m : Int64) (k : Nat) (h : m.toInt.natAbs = 2 ^ k) : ¬ m = (0 : Int64) := by
  rintro rfl
  have := Nat.two_pow_pos k
  have e : (0 : Int64).toInt = 0 := rfl
  rw [e] at h; simp at h; omega
theorem own_53 (x : Int64) : 0 ≤ (x &&& (9007199254740991 : Int64)).toInt ∧ (x &&& (9007199254740991 : Int64)).toInt ≤ 9007199254740991 := own_maskL x 9007199254740991 (by decide)
theorem own_max (x mm : Int64) (h : mm = (if (1 : Int64) < x &&& (9007199254740991 : Int64) then x &&& (9007199254740991 : Int64) else (1 : Int64))) : 1 ≤ mm.toInt ∧ mm.toInt ≤ 9007199254740991 := by
  have q := own_53 x
  have e1 : (1 : Int64).toInt = 1 := rfl
  by_cases c : (1 : Int64) < x &&& (9007199254740991 : Int64)
  · rw [if_pos c] at h
    rw [Int64.lt_iff_toInt_lt] at c
    rw [h]; omega
  · rw [if_neg c] at h
    rw [h]; omega
theorem own_nz1 (m : Int64) (h : 1 ≤ m.toInt) : ¬ m = (0 : Int64) := by
  rintro rfl
  have e : (0 : Int64).toInt = 0 := rfl
  omega
theorem own_div2 (w m q r : Int64) (w1 : 0 ≤ w.toInt) (w2 : w.toInt ≤ 9007199254740991) (m1 : 1 ≤ m.toInt) (hq : q = w / m) (hr : r = w - w / m * m) :
    0 ≤ q.toInt ∧ q.toInt ≤ 9007199254740991 ∧ (q + (1 : Int64)).toInt = q.toInt + 1 ∧ q.toInt * m.toInt ≤ w.toInt ∧ w.toInt ≤ (q.toInt + 1) * m.toInt ∧ (r = (0 : Int64) → w.toInt = q.toInt * m.toInt) := by
  have hm : m ≠ -1 := by
    rintro rfl
    have e : (-1 : Int64).toInt = -1 := rfl
    omega
  have e1 : q.toInt = w.toInt / m.toInt := by rw [hq, Int64.toInt_div_of_ne_right _ _ hm, Int.tdiv_eq_ediv_of_nonneg w1]
  have e3 := Int.mul_ediv_add_emod w.toInt m.toInt
  have e4 := Int.emod_nonneg w.toInt (show m.toInt ≠ 0 by omega)
  have e5 := Int.emod_lt_of_pos w.toInt (show 0 < m.toInt by omega)
  have e6 : 0 ≤ q.toInt := by rw [e1]; exact Int.ediv_nonneg w1 (by omega)
  have e7 : q.toInt ≤ w.toInt := by rw [e1]; exact Int.ediv_le_self _ w1
  have e8 : (1 : Int64).toInt = 1 := rfl
  rw [← e1, Int.mul_comm] at e3
  refine ⟨e6, by omega, by rw [own_addL _ _ (by omega) (by omega), e8], by omega, ?_, fun h => ?_⟩
  · rw [Int.add_mul, Int.one_mul]; omega
  · rw [h, ← hq] at hr
    have f0 : 0 ≤ q.toInt * m.toInt := Int.mul_nonneg e6 (by omega)
    have f1 : (q * m).toInt = q.toInt * m.toInt := own_mulL _ _ (by omega) (by omega)
    have f2 : (w - q * m).toInt = w.toInt - (q * m).toInt := own_subL _ _ (by omega) (by omega)
    have f3 : (w - q * m).toInt = 0 := by rw [← hr]; rfl
    omega
theorem own_ngt {v : Int32} (h : v = 0 ∨ v = -1) : ¬ ((0 : Int32) < v) := by
  rcases h with h | h <;> rw [h] <;> decide
theorem own_k2a (w m q r : Int64) (w1 : 0 ≤ w.toInt) (w2 : w.toInt ≤ 9007199254740991) (m1 : 1 ≤ m.toInt) (m2 : m.toInt ≤ 9007199254740991) (hq : q = w / m) (hr : r = w - w / m * m) :
    ¬ ((0 : Int32) < cmpValue (FP.dcmp (FP.l2d q) (FP.ddiv (FP.l2d w) (FP.l2d m))) .g) := by
  obtain ⟨a1, a2, a3, a4, a5, a6⟩ := own_div2 w m q r w1 w2 m1 hq hr
  exact own_ngt ((own_k2 w m q w1 (by omega) (by omega) (by omega) a1 (by omega)).1 a4)
theorem own_k2b (w m q r : Int64) (w1 : 0 ≤ w.toInt) (w2 : w.toInt ≤ 9007199254740991) (m1 : 1 ≤ m.toInt) (m2 : m.toInt ≤ 9007199254740991) (hq : q = w / m) (hr : r = w - w / m * m) :
    ¬ ((0 : Int32) < cmpValue (FP.dcmp (FP.ddiv (FP.l2d w) (FP.l2d m)) (FP.l2d (q + (1 : Int64)))) .g) := by
  obtain ⟨a1, a2, a3, a4, a5, a6⟩ := own_div2 w m q r w1 w2 m1 hq hr
  exact own_ngt ((own_k2 w m (q + (1 : Int64)) w1 (by omega) (by omega) (by omega) (by omega) (by omega)).2.1 (by rw [a3]; exact a5))
theorem own_k2c (w m q r : Int64) (w1 : 0 ≤ w.toInt) (w2 : w.toInt ≤ 9007199254740991) (m1 : 1 ≤ m.toInt) (m2 : m.toInt ≤ 9007199254740991) (hq : q = w / m) (hr : r = w - w / m * m) (h0 : r = (0 : Int64)) :
    cmpValue (FP.dcmp (FP.ddiv (FP.l2d w) (FP.l2d m)) (FP.l2d q)) .l = 0 := by
  obtain ⟨a1, a2, a3, a4, a5, a6⟩ := own_div2 w m q r w1 w2 m1 hq hr
  exact (own_k2 w m q w1 (by omega) (by omega) (by omega) a1 (by omega)).2.2 (a6 h0)
theorem own_k3z (w m : Int64) (hm : ¬ m = (0 : Int64)) (hw : w = (0 : Int64)) (o : CmpOp) : cmpValue (FP.dcmp (FP.ddiv (FP.l2d w) (FP.l2d m)) FP.dconst0) o = 0 := (own_k3 w m hm).1 hw o
theorem own_pn (w : Int64) (hw : ¬ w = (0 : Int64)) : (0 : Int64) < w ↔ ¬ w.toInt < 0 := by
  have e : (0 : Int64).toInt = 0 := rfl
  have q : w.toInt ≠ 0 := fun q => hw (Int64.toInt_inj.mp (q.trans e.symm))
  rw [Int64.lt_iff_toInt_lt, e]; omega
theorem own_k3s (w m : Int64) (hm : ¬ m = (0 : Int64)) (hw : ¬ w = (0 : Int64)) (h : (0 : Int64) < w ↔ (0 : Int64) < m) (o : CmpOp) : cmpValue (FP.dcmp (FP.ddiv (FP.l2d w) (FP.l2d m)) FP.dconst0) o = 1 := by
  rw [own_pn w hw, own_pn m hm] at h
  exact (own_k3 w m hm).2.1 hw (by omega) o
theorem own_k3d (w m : Int64) (hm : ¬ m = (0 : Int64)) (hw : ¬ w = (0 : Int64)) (h : ¬ ((0 : Int64) < w ↔ (0 : Int64) < m)) (o : CmpOp) : cmpValue (FP.dcmp (FP.ddiv (FP.l2d w) (FP.l2d m)) FP.dconst0) o = -1 := by
  rw [own_pn w hw, own_pn m hm] at h
  exact (own_k3 w m hm).2.2 hw (by omega) o
end OwnMean
theorem d2_0 : decode jdk_30_method_1_code 0 = .ok (.aload_n 0, 1) := by decide +kernel
theorem d2_1 : decode jdk_30_method_1_code 1 = .ok (.invokespecial 1, 3) := by decide +kernel
theorem d2_4 : decode jdk_30_method_1_code 4 = .ok (.return_, 1) := by decide +kernel
theorem pn_2 : plainName "java/lang/Record" = true := by first | (simp [plainName, overriddenIn]; done) | decide +kernel
theorem ef_2 (m : MethodId) (x0 : Addr) : entryFrame m #[(.ref x0)] 1 = mkF m 0 #[.val (.ref x0)] [] := by first | (simp [entryFrame, mkF, argsToLocals, Value.category]; done) | rfl
def Q2 (Z : State) (a1 : Addr) (h0 : Heap) (n0 : Nat) (v : Option Value) (h : Heap) (L : List Loc) : Prop := v = none ∧ Fr n0 L ∧ h = h0
set_option maxRecDepth 65536 in
set_option maxHeartbeats 40000000 in
theorem rm2 (l : Launch) (Z : State) (a0 : Array Value) (hw : ∀ d ∈ tables_1, d.before a0 Z = true) (ws : List Jvm.Cond) (a1 : Addr) (h0 : Heap) (n0 : Nat) (Z0 : n0 ≤ h0.size) :
    MetFree l (⟨"java/lang/Record", "<init>", "()V"⟩ : MethodName) (head1 (Jvm.Cond.code (⟨"java/lang/Record", "<init>", "()V"⟩ : MethodName) jdk_30_method_1_code 1 none :: ws) ({ frames := 1, cells := 0, slots := 0, locals := 12 } : Room)) (fun a U => a = #[(.ref a1)] ∧ Z.Warmed39 U.vm ∧ U.heap = h0) (fun _ _ _ _ _ => True) (fun _ U o U' => ∃ v L, o = .returned v ∧ Q2 Z a1 h0 n0 v U'.heap L ∧ FrameEnd U o U' L ({ frames := 1, cells := 0, slots := 0, locals := 12 } : Room).cells ({ frames := 1, cells := 0, slots := 0, locals := 12 } : Room).slots) := by
  refine MetFree.of_bodySF (plainFor_of_name pn_2) hisR ?_
  intro p e s m args below meth c s₁ Bd hml0 hP hK
  obtain ⟨rfl, hZ, hh⟩ := hP
  have hx := Bd.exec
  have hby := Bd.bytes
  have hml : c.maxLocals = 1 := hml0
  have hown : s.vm.findClass "java/lang/Record" = some m.cls := findClass_of_methodNamed Bd.named
  have hnm := (name_of_methodNamed Bd.named Bd.method).1
  have hret := Bd.returns
  have hlk : meth.locks = false := BodyLoose.notSynchronized Bd
  have X0 : Stand p l e ({ frames := 1, cells := 0, slots := 0, locals := 12 } : Room) s m #[(.ref a1)] below meth c s₁ [] 0 0 := Stand.of_body Bd
  have e0 : s₁.heap = h0 := by rw [← hh, Bd.state]; rfl
  have N0 := Fr.nil n0
  have W := fun (k : Nat) {d : Jvm.Cond} (h : tables_1[k]? = some d) => hw d (List.mem_of_getElem? h)
  have K0 : Keep h0 h0 [] := Keep.refl _ _
  refine own_start (ef_2 m a1) ?_
  show own_Run p e below _ s₁ (mkF m 0 #[.val (.ref a1)] [])
  refine own_go (fun _ k => XS.aloadN X0.here hx rfl (hb hby d2_0) rfl rfl k) ?_
  obtain ⟨T1, X1, e1, st1⟩ := initO X0 hx hZ hown (W 11 rfl) (W 12 rfl) (W 13 rfl) e0 (g := (mkF m 1 #[.val (.ref a1)] [(.ref a1)])) rfl (by rw [hml]; rfl) rfl (hb hby d2_1) (by decide) (W := 0) (by show 2 * 0 + _ ≤ _; exact Nat.le_of_eq rfl) (by decide)
  refine own_go st1 ?_
  refine own_done (Q := fun v h L => Q2 Z a1 h0 n0 v h L) (v := none) X1 (fun _ => rfl) hlk (fun fs hr => X1.returnOut hx hret (hb hby d2_4) hr) ?_ (by decide) (by decide)
  show Q2 Z a1 h0 n0 _ T1.heap _
  rw [e1]
  exact ⟨rfl, N0, rfl⟩
theorem d1_0 : decode prog_6_method_1_code 0 = .ok (.aload_n 0, 1) := by decide +kernel
theorem d1_1 : decode prog_6_method_1_code 1 = .ok (.invokespecial 1, 3) := by decide +kernel
theorem d1_4 : decode prog_6_method_1_code 4 = .ok (.aload_n 0, 1) := by decide +kernel
theorem d1_5 : decode prog_6_method_1_code 5 = .ok (.lload_n 1, 1) := by decide +kernel
theorem d1_6 : decode prog_6_method_1_code 6 = .ok (.putfield 7, 3) := by decide +kernel
theorem d1_9 : decode prog_6_method_1_code 9 = .ok (.aload_n 0, 1) := by decide +kernel
theorem d1_10 : decode prog_6_method_1_code 10 = .ok (.lload_n 3, 1) := by decide +kernel
theorem d1_11 : decode prog_6_method_1_code 11 = .ok (.putfield 13, 3) := by decide +kernel
theorem d1_14 : decode prog_6_method_1_code 14 = .ok (.return_, 1) := by decide +kernel
theorem pn_1 : plainName "com/example/network_analytics_service/networkanalyticsservice/core/sliceload/Levels$InForce" = true := by first | (simp [plainName, overriddenIn]; done) | decide +kernel
theorem ef_1 (m : MethodId) (x0 : Addr) (x1 : Int64) (x2 : Int64) : entryFrame m #[(.ref x0), (.long x1), (.long x2)] 5 = mkF m 0 #[.val (.ref x0), .val (.long x1), .second, .val (.long x2), .second] [] := by first | (simp [entryFrame, mkF, argsToLocals, Value.category]; done) | rfl
theorem pd_1 : parseMethodDescriptor "()V" = some ⟨[], none⟩ := by decide +kernel
def Q1 (Z : State) (a1 : Addr) (p2 : Int64) (p3 : Int64) (u1 : Value) (u2 : Value) (h0 : Heap) (n0 : Nat) (v : Option Value) (h : Heap) (L : List Loc) : Prop := v = none ∧ Fr n0 L ∧ Keep h0 h [a1] ∧ Exa Z h a1 "com/example/network_analytics_service/networkanalyticsservice/core/sliceload/Levels$InForce" ∧ Fld Z h a1 "com/example/network_analytics_service/networkanalyticsservice/core/sliceload/Levels$InForce" "millis" "J" (.long p2) ∧ Fld Z h a1 "com/example/network_analytics_service/networkanalyticsservice/core/sliceload/Levels$InForce" "weighted" "J" (.long p3)
set_option maxRecDepth 65536 in
set_option maxHeartbeats 40000000 in
theorem rm1 (l : Launch) (Z : State) (a0 : Array Value) (hw : ∀ d ∈ tables_1, d.before a0 Z = true) (ws : List Jvm.Cond) (a1 : Addr) (p2 : Int64) (p3 : Int64) (u1 : Value) (u2 : Value) (h0 : Heap) (n0 : Nat) (Z0 : n0 ≤ h0.size) (E_a1 : Exa Z h0 a1 "com/example/network_analytics_service/networkanalyticsservice/core/sliceload/Levels$InForce") (F_millis_a1 : Fld Z h0 a1 "com/example/network_analytics_service/networkanalyticsservice/core/sliceload/Levels$InForce" "millis" "J" u1) (F_weighted_a1 : Fld Z h0 a1 "com/example/network_analytics_service/networkanalyticsservice/core/sliceload/Levels$InForce" "weighted" "J" u2) (g_a1 : n0 ≤ a1) :
    MetFree l (⟨"com/example/network_analytics_service/networkanalyticsservice/core/sliceload/Levels$InForce", "<init>", "(JJ)V"⟩ : MethodName) (head1 (Jvm.Cond.code (⟨"com/example/network_analytics_service/networkanalyticsservice/core/sliceload/Levels$InForce", "<init>", "(JJ)V"⟩ : MethodName) prog_6_method_1_code 5 none :: ws) ({ frames := 2, cells := 0, slots := 0, locals := 24 } : Room)) (fun a U => a = #[(.ref a1), (.long p2), (.long p3)] ∧ Z.Warmed39 U.vm ∧ U.heap = h0) (fun _ _ _ _ _ => True) (fun _ U o U' => ∃ v L, o = .returned v ∧ Q1 Z a1 p2 p3 u1 u2 h0 n0 v U'.heap L ∧ FrameEnd U o U' L ({ frames := 2, cells := 0, slots := 0, locals := 24 } : Room).cells ({ frames := 2, cells := 0, slots := 0, locals := 24 } : Room).slots) := by
  refine MetFree.of_bodySF (plainFor_of_name pn_1) hisR ?_
  intro p e s m args below meth c s₁ Bd hml0 hP hK
  obtain ⟨rfl, hZ, hh⟩ := hP
  have hx := Bd.exec
  have hby := Bd.bytes
  have hml : c.maxLocals = 5 := hml0
  have hown : s.vm.findClass "com/example/network_analytics_service/networkanalyticsservice/core/sliceload/Levels$InForce" = some m.cls := findClass_of_methodNamed Bd.named
  have hnm := (name_of_methodNamed Bd.named Bd.method).1
  have hret := Bd.returns
  have hlk : meth.locks = false := BodyLoose.notSynchronized Bd
  have X0 : Stand p l e ({ frames := 2, cells := 0, slots := 0, locals := 24 } : Room) s m #[(.ref a1), (.long p2), (.long p3)] below meth c s₁ [] 0 0 := Stand.of_body Bd
  have e0 : s₁.heap = h0 := by rw [← hh, Bd.state]; rfl
  have N0 := Fr.nil n0
  have W := fun (k : Nat) {d : Jvm.Cond} (h : tables_1[k]? = some d) => hw d (List.mem_of_getElem? h)
  have K0 : Keep h0 h0 [a1] := Keep.refl _ _
  refine own_start (ef_1 m a1 p2 p3) ?_
  show own_Run p e below _ s₁ (mkF m 0 #[.val (.ref a1), .val (.long p2), .second, .val (.long p3), .second] [])
  refine own_go (fun _ k => XS.aloadN X0.here hx rfl (hb hby d1_0) rfl rfl k) ?_
  obtain ⟨_, _, ⟨T2, L2, k2, n2⟩, -, X2, ⟨Lc2, hQ2, l2, y2, z2⟩, st2⟩ := X0.specialBack hx (y := (⟨"java/lang/Record", "<init>", "()V"⟩ : MethodName)) rfl hown (mvT hZ (W 6 rfl)) (mvT hZ (W 7 rfl)) (mvT hZ (W 10 rfl)) (by decide) (backOf (W := 0) (rm2 l Z a0 hw [] a1 h0 n0 Z0 ) hZ (W 10 rfl) (W 9 rfl) (by decide) (by decide)) (g := (mkF m 1 #[.val (.ref a1), .val (.long p2), .second, .val (.long p3), .second] [(.ref a1)])) rfl (by rw [hml]; rfl) (Steps.refl _) (a := a1) (argsL := []) (rest := []) (lenOf pd_1 rfl) rfl (by show 2 * 0 + _ ≤ _; exact Nat.le_of_eq rfl) (hb hby d1_1) (fun _ _ => ⟨rfl, e0, (by decide : 0 + 0 ≤ _), (by decide : 0 + 0 ≤ _)⟩)
  dsimp only [Pt.U, Pt.locs, Pt.cells, Pt.slots] at X2 l2 y2 z2 st2 hQ2
  subst l2 y2 z2
  obtain ⟨rfl, N2q, e2⟩ := hQ2
  have N2 := Fr.app N0 N2q
  refine own_goT st2 ?_
  refine own_go (fun _ k => XS.aloadN X2.here hx rfl (hb hby d1_4) rfl rfl k) ?_
  refine own_go (fun _ k => XS.lloadN X2.here hx rfl (hb hby d1_5) rfl k) ?_
  obtain ⟨T3, h3, X3, e3, W3, st3⟩ := putF X2 hx hZ hown (host := "") (Or.inl (W 14 rfl)) Via.refl e2 F_millis_a1 E_a1 (Or.inr ⟨(W 15 rfl), rfl, hnm⟩) (W 1 rfl) (ty := .long) (by decide) rfl rfl (g := (mkF m 6 #[.val (.ref a1), .val (.long p2), .second, .val (.long p3), .second] [(.long p2), (.ref a1)])) rfl rfl (hb hby d1_6)
  refine own_go st3 ?_
  show own_Run p e below _ T3 (mkF m 9 #[.val (.ref a1), .val (.long p2), .second, .val (.long p3), .second] [])
  have Z0_c4 := Nat.le_trans Z0 (Keep.of_wr W3).1
  have K0_c4 := K0.wr W3 (Or.inl (List.mem_of_getElem? (i := 0) rfl))
  have E_a1_c4 := E_a1.wr W3
  have F_weighted_a1_c4 := F_weighted_a1.other W3 (Or.inr (slot_ne (Or.inr (W 17 rfl)) (Or.inr (W 15 rfl)) (by decide) (t := .long) (t' := .long) (by decide) (by decide)))
  have F_millis_a1_c3 : Fld Z h3 a1 "com/example/network_analytics_service/networkanalyticsservice/core/sliceload/Levels$InForce" "millis" "J" (.long p2) := F_millis_a1.same W3
  have N3 := Fr.snoc X3 N2 g_a1
  refine own_go (fun _ k => XS.aloadN X3.here hx rfl (hb hby d1_9) rfl rfl k) ?_
  refine own_go (fun _ k => XS.lloadN X3.here hx rfl (hb hby d1_10) rfl k) ?_
  obtain ⟨T5, h5, X5, e5, W5, st5⟩ := putF X3 hx hZ hown (host := "") (Or.inl (W 16 rfl)) Via.refl e3 F_weighted_a1_c4 E_a1_c4 (Or.inr ⟨(W 17 rfl), rfl, hnm⟩) (W 1 rfl) (ty := .long) (by decide) rfl rfl (g := (mkF m 11 #[.val (.ref a1), .val (.long p2), .second, .val (.long p3), .second] [(.long p3), (.ref a1)])) rfl rfl (hb hby d1_11)
  refine own_go st5 ?_
  have Z0_c6 := Nat.le_trans Z0_c4 (Keep.of_wr W5).1
  have K0_c6 := K0_c4.wr W5 (Or.inl (List.mem_of_getElem? (i := 0) rfl))
  have E_a1_c6 := E_a1_c4.wr W5
  have F_millis_a1_c6 := F_millis_a1_c3.other W5 (Or.inr (slot_ne (Or.inr (W 15 rfl)) (Or.inr (W 17 rfl)) (by decide) (t := .long) (t' := .long) (by decide) (by decide)))
  have F_weighted_a1_c5 : Fld Z h5 a1 "com/example/network_analytics_service/networkanalyticsservice/core/sliceload/Levels$InForce" "weighted" "J" (.long p3) := F_weighted_a1_c4.same W5
  have N5 := Fr.snoc X5 N3 g_a1
  refine own_done (Q := fun v h L => Q1 Z a1 p2 p3 u1 u2 h0 n0 v h L) (v := none) X5 (fun _ => rfl) hlk (fun fs hr => X5.returnOut hx hret (hb hby d1_14) hr) ?_ (by decide) (by decide)
  show Q1 Z a1 p2 p3 u1 u2 h0 n0 _ T5.heap _
  rw [e5]
  exact ⟨rfl, N5, K0_c6, E_a1_c6, F_millis_a1_c6, F_weighted_a1_c5⟩
theorem d4_0 : decode prog_6_method_2_code 0 = .ok (.aload_n 0, 1) := by decide +kernel
theorem d4_1 : decode prog_6_method_2_code 1 = .ok (.getfield 7, 3) := by decide +kernel
theorem d4_4 : decode prog_6_method_2_code 4 = .ok (.lconst 0, 1) := by decide +kernel
theorem d4_5 : decode prog_6_method_2_code 5 = .ok (.lcmp, 1) := by decide +kernel
theorem d4_6 : decode prog_6_method_2_code 6 = .ok (.ifCond .ne 9, 3) := by decide +kernel
theorem d4_9 : decode prog_6_method_2_code 9 = .ok (.ldc2_w 18, 3) := by decide +kernel
theorem d4_12 : decode prog_6_method_2_code 12 = .ok (.goto 14, 3) := by decide +kernel
theorem d4_15 : decode prog_6_method_2_code 15 = .ok (.aload_n 0, 1) := by decide +kernel
theorem d4_16 : decode prog_6_method_2_code 16 = .ok (.getfield 13, 3) := by decide +kernel
theorem d4_19 : decode prog_6_method_2_code 19 = .ok (.l2d, 1) := by decide +kernel
theorem d4_20 : decode prog_6_method_2_code 20 = .ok (.aload_n 0, 1) := by decide +kernel
theorem d4_21 : decode prog_6_method_2_code 21 = .ok (.getfield 7, 3) := by decide +kernel
theorem d4_24 : decode prog_6_method_2_code 24 = .ok (.l2d, 1) := by decide +kernel
theorem d4_25 : decode prog_6_method_2_code 25 = .ok (.ddiv, 1) := by decide +kernel
theorem d4_26 : decode prog_6_method_2_code 26 = .ok (.dreturn, 1) := by decide +kernel
theorem pn_4 : plainName "com/example/network_analytics_service/networkanalyticsservice/core/sliceload/Levels$InForce" = true := by first | (simp [plainName, overriddenIn]; done) | decide +kernel
theorem ef_4 (m : MethodId) (x0 : Addr) : entryFrame m #[(.ref x0)] 1 = mkF m 0 #[.val (.ref x0)] [] := by first | (simp [entryFrame, mkF, argsToLocals, Value.category]; done) | rfl
def Q4z (Z : State) (a1 : Addr) (h0 : Heap) (n0 : Nat) (v : Option Value) (h : Heap) (L : List Loc) : Prop := v = some (.double (9221120237041090560 : UInt64)) ∧ Fr n0 L ∧ h = h0
set_option maxRecDepth 65536 in
set_option maxHeartbeats 40000000 in
theorem rm4z (l : Launch) (Z : State) (a0 : Array Value) (hw : ∀ d ∈ tables_1, d.before a0 Z = true) (ws : List Jvm.Cond) (a1 : Addr) (h0 : Heap) (n0 : Nat) (Z0 : n0 ≤ h0.size) (F_millis_a1 : Fld Z h0 a1 "com/example/network_analytics_service/networkanalyticsservice/core/sliceload/Levels$InForce" "millis" "J" (.long (0 : Int64))) :
    MetFree l (⟨"com/example/network_analytics_service/networkanalyticsservice/core/sliceload/Levels$InForce", "mean", "()D"⟩ : MethodName) (head1 (Jvm.Cond.code (⟨"com/example/network_analytics_service/networkanalyticsservice/core/sliceload/Levels$InForce", "mean", "()D"⟩ : MethodName) prog_6_method_2_code 1 (some .double) :: ws) ({ frames := 0, cells := 0, slots := 0, locals := 0 } : Room)) (fun a U => a = #[(.ref a1)] ∧ Z.Warmed39 U.vm ∧ U.heap = h0) (fun _ _ _ _ _ => True) (fun _ U o U' => ∃ v L, o = .returned v ∧ Q4z Z a1 h0 n0 v U'.heap L ∧ FrameEnd U o U' L ({ frames := 0, cells := 0, slots := 0, locals := 0 } : Room).cells ({ frames := 0, cells := 0, slots := 0, locals := 0 } : Room).slots) := by
  refine MetFree.of_bodySF (plainFor_of_name pn_4) hisR ?_
  intro p e s m args below meth c s₁ Bd hml0 hP hK
  obtain ⟨rfl, hZ, hh⟩ := hP
  have hx := Bd.exec
  have hby := Bd.bytes
  have hml : c.maxLocals = 1 := hml0
  have hown : s.vm.findClass "com/example/network_analytics_service/networkanalyticsservice/core/sliceload/Levels$InForce" = some m.cls := findClass_of_methodNamed Bd.named
  have hnm := (name_of_methodNamed Bd.named Bd.method).1
  have hret := Bd.returns
  have hlk : meth.locks = false := BodyLoose.notSynchronized Bd
  have X0 : Stand p l e ({ frames := 0, cells := 0, slots := 0, locals := 0 } : Room) s m #[(.ref a1)] below meth c s₁ [] 0 0 := Stand.of_body Bd
  have e0 : s₁.heap = h0 := by rw [← hh, Bd.state]; rfl
  have N0 := Fr.nil n0
  have W := fun (k : Nat) {d : Jvm.Cond} (h : tables_1[k]? = some d) => hw d (List.mem_of_getElem? h)
  have K0 : Keep h0 h0 [] := Keep.refl _ _
  refine own_start (ef_4 m a1) ?_
  show own_Run p e below _ s₁ (mkF m 0 #[.val (.ref a1)] [])
  refine own_go (fun _ k => XS.aloadN X0.here hx rfl (hb hby d4_0) rfl rfl k) ?_
  obtain ⟨T7, X7, e7, st7⟩ := getF X0 hx hZ hown (host := "") (Or.inl (W 14 rfl)) Via.refl e0 F_millis_a1 (g := (mkF m 1 #[.val (.ref a1)] [(.ref a1)])) rfl rfl (hb hby d4_1)
  refine own_go st7 ?_
  refine own_go (fun _ k => XS.lconst X7.here hx rfl (hb hby d4_4) k) ?_
  refine own_go (fun _ k => XS.lcmp X7.here hx rfl (hb hby d4_5) rfl k) ?_
  refine own_go (fun _ k => XS.ifNo X7.here hx rfl (hb hby d4_6) rfl (own_lcTe (by decide : (0 : Int64) = (0 : Int64))).2 k) ?_
  show own_Run p e below _ T7 (mkF m 9 #[.val (.ref a1)] [])
  refine own_go (X7.ldc2DoubleC hx hown (mvT hZ (W 23 rfl)) (g := (mkF m 9 #[.val (.ref a1)] [])) rfl (hb hby d4_9)) ?_
  refine own_go (fun _ k => XS.goto X7.here hx rfl (pc0 := 12) (pc' := 26) rfl (hb hby d4_12) (by decide) (by decide) k) ?_
  refine own_done (Q := fun v h L => Q4z Z a1 h0 n0 v h L) (v := (some (.double (9221120237041090560 : UInt64)))) X7 (fun h => by rw [hret] at h; cases h) hlk (fun fs hr => own_retD X7 hx hret (hb hby d4_26) hr) ?_ (by decide) (by decide)
  show Q4z Z a1 h0 n0 _ T7.heap _
  rw [e7]
  exact ⟨rfl, N0, rfl⟩
def Q4 (Z : State) (a1 : Addr) (mi : Int64) (wi : Int64) (h0 : Heap) (n0 : Nat) (v : Option Value) (h : Heap) (L : List Loc) : Prop := v = some (.double (FP.ddiv (FP.l2d wi) (FP.l2d mi))) ∧ Fr n0 L ∧ h = h0
set_option maxRecDepth 65536 in
set_option maxHeartbeats 40000000 in
theorem rm4 (l : Launch) (Z : State) (a0 : Array Value) (hw : ∀ d ∈ tables_1, d.before a0 Z = true) (ws : List Jvm.Cond) (a1 : Addr) (mi : Int64) (wi : Int64) (h0 : Heap) (n0 : Nat) (Z0 : n0 ≤ h0.size) (F_millis_a1 : Fld Z h0 a1 "com/example/network_analytics_service/networkanalyticsservice/core/sliceload/Levels$InForce" "millis" "J" (.long mi)) (F_weighted_a1 : Fld Z h0 a1 "com/example/network_analytics_service/networkanalyticsservice/core/sliceload/Levels$InForce" "weighted" "J" (.long wi)) (hm : ¬ (mi = (0 : Int64))) :
    MetFree l (⟨"com/example/network_analytics_service/networkanalyticsservice/core/sliceload/Levels$InForce", "mean", "()D"⟩ : MethodName) (head1 (Jvm.Cond.code (⟨"com/example/network_analytics_service/networkanalyticsservice/core/sliceload/Levels$InForce", "mean", "()D"⟩ : MethodName) prog_6_method_2_code 1 (some .double) :: ws) ({ frames := 0, cells := 0, slots := 0, locals := 0 } : Room)) (fun a U => a = #[(.ref a1)] ∧ Z.Warmed39 U.vm ∧ U.heap = h0) (fun _ _ _ _ _ => True) (fun _ U o U' => ∃ v L, o = .returned v ∧ Q4 Z a1 mi wi h0 n0 v U'.heap L ∧ FrameEnd U o U' L ({ frames := 0, cells := 0, slots := 0, locals := 0 } : Room).cells ({ frames := 0, cells := 0, slots := 0, locals := 0 } : Room).slots) := by
  refine MetFree.of_bodySF (plainFor_of_name pn_4) hisR ?_
  intro p e s m args below meth c s₁ Bd hml0 hP hK
  obtain ⟨rfl, hZ, hh⟩ := hP
  have hx := Bd.exec
  have hby := Bd.bytes
  have hml : c.maxLocals = 1 := hml0
  have hown : s.vm.findClass "com/example/network_analytics_service/networkanalyticsservice/core/sliceload/Levels$InForce" = some m.cls := findClass_of_methodNamed Bd.named
  have hnm := (name_of_methodNamed Bd.named Bd.method).1
  have hret := Bd.returns
  have hlk : meth.locks = false := BodyLoose.notSynchronized Bd
  have X0 : Stand p l e ({ frames := 0, cells := 0, slots := 0, locals := 0 } : Room) s m #[(.ref a1)] below meth c s₁ [] 0 0 := Stand.of_body Bd
  have e0 : s₁.heap = h0 := by rw [← hh, Bd.state]; rfl
  have N0 := Fr.nil n0
  have W := fun (k : Nat) {d : Jvm.Cond} (h : tables_1[k]? = some d) => hw d (List.mem_of_getElem? h)
  have K0 : Keep h0 h0 [] := Keep.refl _ _
  refine own_start (ef_4 m a1) ?_
  show own_Run p e below _ s₁ (mkF m 0 #[.val (.ref a1)] [])
  refine own_go (fun _ k => XS.aloadN X0.here hx rfl (hb hby d4_0) rfl rfl k) ?_
  obtain ⟨T8, X8, e8, st8⟩ := getF X0 hx hZ hown (host := "") (Or.inl (W 14 rfl)) Via.refl e0 F_millis_a1 (g := (mkF m 1 #[.val (.ref a1)] [(.ref a1)])) rfl rfl (hb hby d4_1)
  refine own_go st8 ?_
  refine own_go (fun _ k => XS.lconst X8.here hx rfl (hb hby d4_4) k) ?_
  refine own_go (fun _ k => XS.lcmp X8.here hx rfl (hb hby d4_5) rfl k) ?_
  refine own_go (fun _ k => XS.ifYes X8.here hx rfl (pc0 := 6) (pc' := 15) rfl (hb hby d4_6) rfl (own_lcFe hm).2 (by decide) (by decide) k) ?_
  show own_Run p e below _ T8 (mkF m 15 #[.val (.ref a1)] [])
  refine own_go (fun _ k => XS.aloadN X8.here hx rfl (hb hby d4_15) rfl rfl k) ?_
  obtain ⟨T9, X9, e9, st9⟩ := getF X8 hx hZ hown (host := "") (Or.inl (W 16 rfl)) Via.refl e8 F_weighted_a1 (g := (mkF m 16 #[.val (.ref a1)] [(.ref a1)])) rfl rfl (hb hby d4_16)
  refine own_go st9 ?_
  refine own_go (fun _ k => XS.l2dS X9.here hx rfl (hb hby d4_19) rfl rfl k) ?_
  refine own_go (fun _ k => XS.aloadN X9.here hx rfl (hb hby d4_20) rfl rfl k) ?_
  obtain ⟨T10, X10, e10, st10⟩ := getF X9 hx hZ hown (host := "") (Or.inl (W 14 rfl)) Via.refl e9 F_millis_a1 (g := (mkF m 21 #[.val (.ref a1)] [(.ref a1), (.double (FP.l2d wi))])) rfl rfl (hb hby d4_21)
  refine own_go st10 ?_
  show own_Run p e below _ T10 (mkF m 24 #[.val (.ref a1)] [(.long mi), (.double (FP.l2d wi))])
  refine own_go (fun _ k => XS.l2dS X10.here hx rfl (hb hby d4_24) rfl rfl k) ?_
  refine own_go (fun _ k => XS.ddivS X10.here hx rfl (hb hby d4_25) rfl (own_nnDiv wi mi hm) rfl k) ?_
  refine own_done (Q := fun v h L => Q4 Z a1 mi wi h0 n0 v h L) (v := (some (.double (FP.ddiv (FP.l2d wi) (FP.l2d mi))))) X10 (fun h => by rw [hret] at h; cases h) hlk (fun fs hr => own_retD X10 hx hret (hb hby d4_26) hr) ?_ (by decide) (by decide)
  show Q4 Z a1 mi wi h0 n0 _ T10.heap _
  rw [e10]
  exact ⟨rfl, N0, rfl⟩
theorem d5_0 : decode jdk_29_method_66_code 0 = .ok (.lload_n 0, 1) := by decide +kernel
theorem d5_1 : decode jdk_29_method_66_code 1 = .ok (.lload_n 2, 1) := by decide +kernel
theorem d5_2 : decode jdk_29_method_66_code 2 = .ok (.lcmp, 1) := by decide +kernel
theorem d5_3 : decode jdk_29_method_66_code 3 = .ok (.ifCond .lt 7, 3) := by decide +kernel
theorem d5_6 : decode jdk_29_method_66_code 6 = .ok (.lload_n 0, 1) := by decide +kernel
theorem d5_7 : decode jdk_29_method_66_code 7 = .ok (.goto 4, 3) := by decide +kernel
theorem d5_10 : decode jdk_29_method_66_code 10 = .ok (.lload_n 2, 1) := by decide +kernel
theorem d5_11 : decode jdk_29_method_66_code 11 = .ok (.lreturn, 1) := by decide +kernel
theorem ef_5 (m : MethodId) (x0 : Int64) (x1 : Int64) : entryFrame m #[(.long x0), (.long x1)] 4 = mkF m 0 #[.val (.long x0), .second, .val (.long x1), .second] [] := by first | (simp [entryFrame, mkF, argsToLocals, Value.category]; done) | rfl
def Q5 (Z : State) (p1 : Int64) (p2 : Int64) (h0 : Heap) (n0 : Nat) (v : Option Value) (h : Heap) (L : List Loc) : Prop := v = some (.long (if p1 < p2 then p2 else p1)) ∧ Fr n0 L ∧ h = h0
set_option maxRecDepth 65536 in
set_option maxHeartbeats 40000000 in
theorem rm5 (l : Launch) (Z : State) (a0 : Array Value) (hw : ∀ d ∈ tables_1, d.before a0 Z = true) (ws : List Jvm.Cond) (p1 : Int64) (p2 : Int64) (h0 : Heap) (n0 : Nat) (Z0 : n0 ≤ h0.size) :
    MetFree l (⟨"java/lang/Math", "max", "(JJ)J"⟩ : MethodName) (head1 (Jvm.Cond.code (⟨"java/lang/Math", "max", "(JJ)J"⟩ : MethodName) jdk_29_method_66_code 4 (some .long) :: ws) ({ frames := 0, cells := 0, slots := 0, locals := 0 } : Room)) (fun a U => a = #[(.long p1), (.long p2)] ∧ Z.Warmed39 U.vm ∧ U.heap = h0) (fun _ _ _ _ _ => True) (fun _ U o U' => ∃ v L, o = .returned v ∧ Q5 Z p1 p2 h0 n0 v U'.heap L ∧ FrameEnd U o U' L ({ frames := 0, cells := 0, slots := 0, locals := 0 } : Room).cells ({ frames := 0, cells := 0, slots := 0, locals := 0 } : Room).slots) := by
  refine MetFree.of_bodySF (Jvm.Free.JP.mathPlain rfl (by decide +kernel)) hisR ?_
  intro p e s m args below meth c s₁ Bd hml0 hP hK
  obtain ⟨rfl, hZ, hh⟩ := hP
  have hx := Bd.exec
  have hby := Bd.bytes
  have hml : c.maxLocals = 4 := hml0
  have hown : s.vm.findClass "java/lang/Math" = some m.cls := findClass_of_methodNamed Bd.named
  have hnm := (name_of_methodNamed Bd.named Bd.method).1
  have hret := Bd.returns
  have hlk : meth.locks = false := BodyLoose.notSynchronized Bd
  have X0 : Stand p l e ({ frames := 0, cells := 0, slots := 0, locals := 0 } : Room) s m #[(.long p1), (.long p2)] below meth c s₁ [] 0 0 := Stand.of_body Bd
  have e0 : s₁.heap = h0 := by rw [← hh, Bd.state]; rfl
  have N0 := Fr.nil n0
  have W := fun (k : Nat) {d : Jvm.Cond} (h : tables_1[k]? = some d) => hw d (List.mem_of_getElem? h)
  have K0 : Keep h0 h0 [] := Keep.refl _ _
  refine own_start (ef_5 m p1 p2) ?_
  show own_Run p e below _ s₁ (mkF m 0 #[.val (.long p1), .second, .val (.long p2), .second] [])
  refine own_go (fun _ k => XS.lloadN X0.here hx rfl (hb hby d5_0) rfl k) ?_
  refine own_go (fun _ k => XS.lloadN X0.here hx rfl (hb hby d5_1) rfl k) ?_
  refine own_go (fun _ k => XS.lcmp X0.here hx rfl (hb hby d5_2) rfl k) ?_
  by_cases hc3_11 : p1 < p2
  · refine own_go (fun _ k => XS.ifYes X0.here hx rfl (pc0 := 3) (pc' := 10) rfl (hb hby d5_3) rfl (own_lcT hc3_11).1 (by decide) (by decide) k) ?_
    refine own_go (fun _ k => XS.lloadN X0.here hx rfl (hb hby d5_10) rfl k) ?_
    show own_Run p e below _ s₁ (mkF m 11 #[.val (.long p1), .second, .val (.long p2), .second] [(.long p2)])
    refine own_done (Q := fun v h L => Q5 Z p1 p2 h0 n0 v h L) (v := (some (.long p2))) X0 (fun h => by rw [hret] at h; cases h) hlk (fun fs hr => own_retL X0 hx hret (hb hby d5_11) hr) ?_ (by decide) (by decide)
    show Q5 Z p1 p2 h0 n0 _ s₁.heap _
    rw [e0]
    exact ⟨by rw [if_pos hc3_11], N0, rfl⟩
  · refine own_go (fun _ k => XS.ifNo X0.here hx rfl (hb hby d5_3) rfl (own_lcF hc3_11).1 k) ?_
    refine own_go (fun _ k => XS.lloadN X0.here hx rfl (hb hby d5_6) rfl k) ?_
    show own_Run p e below _ s₁ (mkF m 7 #[.val (.long p1), .second, .val (.long p2), .second] [(.long p1)])
    refine own_go (fun _ k => XS.goto X0.here hx rfl (pc0 := 7) (pc' := 11) rfl (hb hby d5_7) (by decide) (by decide) k) ?_
    refine own_done (Q := fun v h L => Q5 Z p1 p2 h0 n0 v h L) (v := (some (.long p1))) X0 (fun h => by rw [hret] at h; cases h) hlk (fun fs hr => own_retL X0 hx hret (hb hby d5_11) hr) ?_ (by decide) (by decide)
    show Q5 Z p1 p2 h0 n0 _ s₁.heap _
    rw [e0]
    exact ⟨by rw [if_neg hc3_11], N0, rfl⟩
theorem pn_0 : plainName "com/example/network_analytics_service/networkanalyticsservice/core/sliceload/InForceMeanPinLaw" = true := by first | (simp [plainName, overriddenIn]; done) | decide +kernel
theorem ef_0 (m : MethodId) (x0 : Int64) (x1 : Int64) (x2 : Int32) : entryFrame m #[(.long x0), (.long x1), (.int x2)] maxLocals = mkF m 0 #[.val (.long x0), .second, .val (.long x1), .second, .val (.int x2), .unset, .unset, .unset, .unset, .unset, .unset, .unset, .unset, .unset, .unset, .unset, .unset, .unset] [] := by first | (simp [entryFrame, mkF, argsToLocals, Value.category, maxLocals]; done) | rfl
theorem pd_2 : parseMethodDescriptor "(JJ)V" = some ⟨[.long, .long], none⟩ := by decide +kernel
theorem pd_3 : parseMethodDescriptor "()D" = some ⟨[], some .double⟩ := by decide +kernel
theorem pd_4 : parseMethodDescriptor "(JJ)J" = some ⟨[.long, .long], some .long⟩ := by decide +kernel
def Q0 (Z : State) (p1 : Int64) (p2 : Int64) (p3 : Int32) (h0 : Heap) (n0 : Nat) (v : Option Value) (h : Heap) (L : List Loc) : Prop := v = some (.int (1 : Int32)) ∧ Fr n0 L
set_option maxRecDepth 65536 in
set_option maxHeartbeats 40000000 in
theorem rm0 (l : Launch) (Z : State) (a0 : Array Value) (hw : ∀ d ∈ tables_1, d.before a0 Z = true) (ws : List Jvm.Cond) (p1 : Int64) (p2 : Int64) (p3 : Int32) (h0 : Heap) (n0 : Nat) (Z0 : n0 ≤ h0.size) :
    MetFree l x (head1 (Jvm.Cond.code x code maxLocals ret :: ws) room_1) (fun a U => a = #[(.long p1), (.long p2), (.int p3)] ∧ Z.Warmed39 U.vm ∧ U.heap = h0) (fun _ _ _ _ _ => True) (fun _ U o U' => ∃ v L, o = .returned v ∧ Q0 Z p1 p2 p3 h0 n0 v U'.heap L ∧ FrameEnd U o U' L room_1.cells room_1.slots) := by
  refine MetFree.of_bodySF (plainFor_of_name pn_0) hisR ?_
  intro p e s m args below meth c s₁ Bd hml0 hP hK
  obtain ⟨rfl, hZ, hh⟩ := hP
  have hx := Bd.exec
  have hby := Bd.bytes
  have hml : c.maxLocals = 18 := hml0
  have hown : s.vm.findClass "com/example/network_analytics_service/networkanalyticsservice/core/sliceload/InForceMeanPinLaw" = some m.cls := findClass_of_methodNamed Bd.named
  have hnm := (name_of_methodNamed Bd.named Bd.method).1
  have hret := Bd.returns
  have hlk : meth.locks = false := BodyLoose.notSynchronized Bd
  have X0 : Stand p l e room_1 s m #[(.long p1), (.long p2), (.int p3)] below meth c s₁ [] 0 0 := Stand.of_body Bd
  have e0 : s₁.heap = h0 := by rw [← hh, Bd.state]; rfl
  have N0 := Fr.nil n0
  have W := fun (k : Nat) {d : Jvm.Cond} (h : tables_1[k]? = some d) => hw d (List.mem_of_getElem? h)
  have K0 : Keep h0 h0 [] := Keep.refl _ _
  refine own_start (ef_0 m p1 p2 p3) ?_
  show own_Run p e below _ s₁ (mkF m 0 #[.val (.long p1), .second, .val (.long p2), .second, .val (.int p3), .unset, .unset, .unset, .unset, .unset, .unset, .unset, .unset, .unset, .unset, .unset, .unset, .unset] [])
  refine own_go (fun _ k => XS.iload X0.here hx rfl (hb hby at_0) rfl k) ?_
  refine own_go (fun _ k => XS.iconst X0.here hx rfl (hb hby at_2) k) ?_
  refine own_go (fun _ k => XS.iand X0.here hx rfl (hb hby at_3) rfl k) ?_
  show own_Run p e below _ s₁ (mkF m 4 #[.val (.long p1), .second, .val (.long p2), .second, .val (.int p3), .unset, .unset, .unset, .unset, .unset, .unset, .unset, .unset, .unset, .unset, .unset, .unset, .unset] [(.int (p3 &&& (3 : Int32)))])
  obtain ⟨xk, hxk⟩ : ∃ z, z = (p3 &&& (3 : Int32)) := ⟨_, rfl⟩
  rw [← hxk]
  refine own_go (fun _ k => XS.istore X0.here hx rfl (hb hby at_4) rfl (l' := #[.val (.long p1), .second, .val (.long p2), .second, .val (.int p3), .val (.int xk), .unset, .unset, .unset, .unset, .unset, .unset, .unset, .unset, .unset, .unset, .unset, .unset]) rfl k) ?_
  refine own_go (fun _ k => XS.iload X0.here hx rfl (hb hby at_6) rfl k) ?_
  by_cases hc8_12 : xk = (0 : Int32)
  · refine own_go (fun _ k => XS.ifNo X0.here hx rfl (hb hby at_8) rfl ((if0 _ _).trans (teq hc8_12).2) k) ?_
    obtain ⟨T13, h13, X13, e13, E13, A13, D13, -, st13⟩ := newO X0 hx hZ hown (W 0 rfl) (W 1 rfl) (W 2 rfl) e0 (g := (mkF m 11 #[.val (.long p1), .second, .val (.long p2), .second, .val (.int p3), .val (.int xk), .unset, .unset, .unset, .unset, .unset, .unset, .unset, .unset, .unset, .unset, .unset, .unset] [])) rfl (hb hby at_11) (by decide) (by decide)
    refine own_go st13 ?_
    obtain ⟨b13, g13⟩ : ∃ z, z = h0.size := ⟨_, rfl⟩
    rw [← g13] at A13 D13
    rw [← g13]
    have g_b13 : n0 ≤ b13 := Nat.le_trans Z0 (Nat.le_of_eq g13.symm)
    have sz_b13 : h0.size ≤ b13 := Nat.le_trans K0.1 (Nat.le_of_eq g13.symm)
    have Z0_c14 := Nat.le_trans Z0 E13.1
    have K0_c14 := K0.ext E13
    have F_millis_b13 : Fld Z h13 b13 "com/example/network_analytics_service/networkanalyticsservice/core/sliceload/Levels$InForce" "millis" "J" (.long (0 : Int64)) := D13 (Or.inr (W 15 rfl)) (ty := .long) (by decide)
    have F_weighted_b13 : Fld Z h13 b13 "com/example/network_analytics_service/networkanalyticsservice/core/sliceload/Levels$InForce" "weighted" "J" (.long (0 : Int64)) := D13 (Or.inr (W 17 rfl)) (ty := .long) (by decide)
    refine own_go (fun _ k => XS.dup X13.here hx rfl (hb hby at_14) rfl rfl k) ?_
    show own_Run p e below _ T13 (mkF m 15 #[.val (.long p1), .second, .val (.long p2), .second, .val (.int p3), .val (.int xk), .unset, .unset, .unset, .unset, .unset, .unset, .unset, .unset, .unset, .unset, .unset, .unset] [(.ref b13), (.ref b13)])
    refine own_go (fun _ k => XS.lconst X13.here hx rfl (hb hby at_15) k) ?_
    refine own_go (fun _ k => XS.lloadN X13.here hx rfl (hb hby at_16) rfl k) ?_
    obtain ⟨_, _, ⟨T15, L15, k15, n15⟩, -, X15, ⟨Lc15, hQ15, l15, y15, z15⟩, st15⟩ := X13.specialBack hx (y := (⟨"com/example/network_analytics_service/networkanalyticsservice/core/sliceload/Levels$InForce", "<init>", "(JJ)V"⟩ : MethodName)) rfl hown (mvT hZ (W 3 rfl)) (mvT hZ (W 4 rfl)) (mvT hZ (W 5 rfl)) (by decide) (backOf (W := 1) (rm1 l Z a0 hw [] b13 (0 : Int64) p1 (.long (0 : Int64)) (.long (0 : Int64)) h13 n0 Z0_c14 A13 F_millis_b13 F_weighted_b13 g_b13) hZ (W 5 rfl) (W 2 rfl) (by decide) (by decide)) (g := (mkF m 17 #[.val (.long p1), .second, .val (.long p2), .second, .val (.int p3), .val (.int xk), .unset, .unset, .unset, .unset, .unset, .unset, .unset, .unset, .unset, .unset, .unset, .unset] [(.long p1), (.long (0 : Int64)), (.ref b13), (.ref b13)])) rfl (by rw [hml]; rfl) (Steps.refl _) (a := b13) (argsL := [(.long (0 : Int64)), (.long p1)]) (rest := [(.ref b13)]) (lenOf pd_2 rfl) rfl (by show 2 * 0 + _ ≤ _; exact Nat.le_of_eq rfl) (hb hby at_17) (fun _ _ => ⟨rfl, e13, (by decide : 1 + 0 ≤ _), (by decide : 2 + 0 ≤ _)⟩)
    dsimp only [Pt.U, Pt.locs, Pt.cells, Pt.slots] at X15 l15 y15 z15 st15 hQ15
    subst l15 y15 z15
    obtain ⟨rfl, N15q, K15, P15_0, P15_1, P15_2⟩ := hQ15
    have N15 := Fr.app N0 N15q
    refine own_goT st15 ?_
    have Z0_c16 := Nat.le_trans Z0_c14 K15.1
    have K0_c16 := K0_c14.trans K15 (allS (Or.inr sz_b13) all0)
    have A13_c16 := A13.keep K15
    obtain ⟨cq17, kq17, q17a, q17b, q17c⟩ := isOf hZ rfl P15_0
    obtain ⟨_, _, ⟨T17, L17, k17, n17⟩, -, X17, ⟨Lc17, hQ17, l17, y17, z17⟩, st17⟩ := X15.virtualBack hx (y := (⟨"com/example/network_analytics_service/networkanalyticsservice/core/sliceload/Levels$InForce", "mean", "()D"⟩ : MethodName)) (z := (⟨"com/example/network_analytics_service/networkanalyticsservice/core/sliceload/Levels$InForce", "mean", "()D"⟩ : MethodName)) hown (mvT hZ (W 18 rfl)) (mvT hZ (W 19 rfl)) (notFace_of_selects (args := #[]) (mvT hZ (W 21 rfl))) (mvT hZ (W 21 rfl)) (mvT hZ (W 20 rfl)) (by decide) (backOf (W := 0) (rm4z l Z a0 hw [] b13 T15.heap n0 Z0_c16 P15_1) hZ (W 22 rfl) (W 2 rfl) (by decide) (by decide)) q17a q17c (g := (mkF m 20 #[.val (.long p1), .second, .val (.long p2), .second, .val (.int p3), .val (.int xk), .unset, .unset, .unset, .unset, .unset, .unset, .unset, .unset, .unset, .unset, .unset, .unset] [(.ref b13)])) rfl (by rw [hml]; rfl) (Steps.refl _) (argsL := []) (rest := []) (lenOf pd_3 rfl) rfl (by show 2 * 0 + _ ≤ _; exact Nat.le_of_eq rfl) (hb hby at_20) (fun _ _ => ⟨rfl, rfl, (by decide : 1 + 0 ≤ _), (by decide : 2 + 0 ≤ _)⟩)
    dsimp only [Pt.U, Pt.locs, Pt.cells, Pt.slots] at X17 l17 y17 z17 st17 hQ17
    subst l17 y17 z17
    obtain ⟨rfl, N17q, e17⟩ := hQ17
    have N17 := Fr.app N15 N17q
    refine own_goT st17 ?_
    refine own_go (fun _ k => XS.dstore X17.here hx rfl (hb hby at_23) rfl (l' := #[.val (.long p1), .second, .val (.long p2), .second, .val (.int p3), .val (.int xk), .val (.double (9221120237041090560 : UInt64)), .second, .unset, .unset, .unset, .unset, .unset, .unset, .unset, .unset, .unset, .unset]) rfl k) ?_
    show own_Run p e below _ T17 (mkF m 25 #[.val (.long p1), .second, .val (.long p2), .second, .val (.int p3), .val (.int xk), .val (.double (9221120237041090560 : UInt64)), .second, .unset, .unset, .unset, .unset, .unset, .unset, .unset, .unset, .unset, .unset] [])
    refine own_go (fun _ k => XS.dload X17.here hx rfl (hb hby at_25) rfl k) ?_
    refine own_go (fun _ k => XS.dload X17.here hx rfl (hb hby at_27) rfl k) ?_
    refine own_go (fun _ k => XS.dcmpS X17.here hx rfl (hb hby at_29) rfl (own_nan _ Jvm.FP.Core.val64_dNaN) k) ?_
    refine own_go (fun _ k => XS.ifNo X17.here hx rfl (hb hby at_30) rfl ((if0 _ _).trans (feq (by decide : ¬ ((-1 : Int32) = (0 : Int32)))).1) k) ?_
    refine own_go (fun _ k => XS.iconst X17.here hx rfl (hb hby at_33) k) ?_
    show own_Run p e below _ T17 (mkF m 34 #[.val (.long p1), .second, .val (.long p2), .second, .val (.int p3), .val (.int xk), .val (.double (9221120237041090560 : UInt64)), .second, .unset, .unset, .unset, .unset, .unset, .unset, .unset, .unset, .unset, .unset] [(.int (1 : Int32))])
    refine own_go (fun _ k => XS.goto X17.here hx rfl (pc0 := 34) (pc' := 38) rfl (hb hby at_34) (by decide) (by decide) k) ?_
    refine own_done (Q := fun v h L => Q0 Z p1 p2 p3 h0 n0 v h L) (v := (some (.int (1 : Int32)))) X17 (fun h => by rw [hret] at h; cases h) hlk (fun fs hr => retN X17 hx (t := .boolean) hret (by simp) (hb hby at_38) hr) ?_ (by decide) (by decide)
    show Q0 Z p1 p2 p3 h0 n0 _ T17.heap _
    rw [e17]
    exact ⟨rfl, N17⟩
  · refine own_go (fun _ k => XS.ifYes X0.here hx rfl (pc0 := 8) (pc' := 39) rfl (hb hby at_8) rfl ((if0 _ _).trans (feq hc8_12).2) (by decide) (by decide) k) ?_
    refine own_go (fun _ k => XS.iload X0.here hx rfl (hb hby at_39) rfl k) ?_
    refine own_go (fun _ k => XS.iconst X0.here hx rfl (hb hby at_41) k) ?_
    show own_Run p e below _ s₁ (mkF m 42 #[.val (.long p1), .second, .val (.long p2), .second, .val (.int p3), .val (.int xk), .unset, .unset, .unset, .unset, .unset, .unset, .unset, .unset, .unset, .unset, .unset, .unset] [(.int (1 : Int32)), (.int xk)])
    by_cases hc42_18 : xk = (1 : Int32)
    · refine own_go (fun _ k => XS.icmpNo X0.here hx rfl (hb hby at_42) rfl (teq hc42_18).2 k) ?_
      refine own_go (fun _ k => XS.iload X0.here hx rfl (hb hby at_45) rfl k) ?_
      refine own_go (fun _ k => XS.iconst X0.here hx rfl (hb hby at_47) k) ?_
      refine own_go (fun _ k => XS.iushr X0.here hx rfl (hb hby at_48) rfl k) ?_
      refine own_go (fun _ k => XS.bipush X0.here hx rfl (hb hby at_49) k) ?_
      show own_Run p e below _ s₁ (mkF m 51 #[.val (.long p1), .second, .val (.long p2), .second, .val (.int p3), .val (.int xk), .unset, .unset, .unset, .unset, .unset, .unset, .unset, .unset, .unset, .unset, .unset, .unset] [(.int (63 : Int32)), (.int ((p3.toUInt32 >>> ((2 : Int32) &&& 31).toUInt32).toInt32))])
      refine own_go (fun _ k => XS.iand X0.here hx rfl (hb hby at_51) rfl k) ?_
      show own_Run p e below _ s₁ (mkF m 52 #[.val (.long p1), .second, .val (.long p2), .second, .val (.int p3), .val (.int xk), .unset, .unset, .unset, .unset, .unset, .unset, .unset, .unset, .unset, .unset, .unset, .unset] [(.int (((p3.toUInt32 >>> ((2 : Int32) &&& 31).toUInt32).toInt32) &&& (63 : Int32)))])
      obtain ⟨xj, hxj⟩ : ∃ z, z = (((p3.toUInt32 >>> ((2 : Int32) &&& 31).toUInt32).toInt32) &&& (63 : Int32)) := ⟨_, rfl⟩
      rw [← hxj]
      refine own_go (fun _ k => XS.istore X0.here hx rfl (hb hby at_52) rfl (l' := #[.val (.long p1), .second, .val (.long p2), .second, .val (.int p3), .val (.int xk), .val (.int xj), .unset, .unset, .unset, .unset, .unset, .unset, .unset, .unset, .unset, .unset, .unset]) rfl k) ?_
      refine own_go (fun _ k => XS.lconst X0.here hx rfl (hb hby at_54) k) ?_
      refine own_go (fun _ k => XS.iload X0.here hx rfl (hb hby at_55) rfl k) ?_
      refine own_go (fun _ k => XS.lshl X0.here hx rfl (hb hby at_57) rfl k) ?_
      show own_Run p e below _ s₁ (mkF m 58 #[.val (.long p1), .second, .val (.long p2), .second, .val (.int p3), .val (.int xk), .val (.int xj), .unset, .unset, .unset, .unset, .unset, .unset, .unset, .unset, .unset, .unset, .unset] [(.long ((1 : Int64) <<< (xj &&& 0x3f).toInt64))])
      obtain ⟨m1, hm1⟩ : ∃ z, z = ((1 : Int64) <<< (xj &&& 0x3f).toInt64) := ⟨_, rfl⟩
      rw [← hm1]
      obtain ⟨kk, hkk, s1, s2⟩ := own_shl p3 xj hxj
      rw [← hm1] at s1 s2
      refine own_go (fun _ k => XS.lstore X0.here hx rfl (hb hby at_58) rfl (l' := #[.val (.long p1), .second, .val (.long p2), .second, .val (.int p3), .val (.int xk), .val (.int xj), .val (.long m1), .second, .unset, .unset, .unset, .unset, .unset, .unset, .unset, .unset, .unset]) rfl k) ?_
      refine own_go (fun _ k => XS.iload X0.here hx rfl (hb hby at_60) rfl k) ?_
      refine own_go (fun _ k => XS.bipush X0.here hx rfl (hb hby at_62) k) ?_
      refine own_go (fun _ k => XS.iushr X0.here hx rfl (hb hby at_64) rfl k) ?_
      refine own_go (fun _ k => XS.iconst X0.here hx rfl (hb hby at_65) k) ?_
      show own_Run p e below _ s₁ (mkF m 66 #[.val (.long p1), .second, .val (.long p2), .second, .val (.int p3), .val (.int xk), .val (.int xj), .val (.long m1), .second, .unset, .unset, .unset, .unset, .unset, .unset, .unset, .unset, .unset] [(.int (1 : Int32)), (.int ((p3.toUInt32 >>> ((8 : Int32) &&& 31).toUInt32).toInt32))])
      refine own_go (fun _ k => XS.iand X0.here hx rfl (hb hby at_66) rfl k) ?_
      by_cases hc67_19 : (((p3.toUInt32 >>> ((8 : Int32) &&& 31).toUInt32).toInt32) &&& (1 : Int32)) = (0 : Int32)
      · refine own_go (fun _ k => XS.ifYes X0.here hx rfl (pc0 := 67) (pc' := 82) rfl (hb hby at_67) rfl ((if0 _ _).trans (teq hc67_19).1) (by decide) (by decide) k) ?_
        obtain ⟨T20, h20, X20, e20, E20, A20, D20, -, st20⟩ := newO X0 hx hZ hown (W 0 rfl) (W 1 rfl) (W 2 rfl) e0 (g := (mkF m 82 #[.val (.long p1), .second, .val (.long p2), .second, .val (.int p3), .val (.int xk), .val (.int xj), .val (.long m1), .second, .unset, .unset, .unset, .unset, .unset, .unset, .unset, .unset, .unset] [])) rfl (hb hby at_82) (by decide) (by decide)
        refine own_go st20 ?_
        obtain ⟨b20, g20⟩ : ∃ z, z = h0.size := ⟨_, rfl⟩
        rw [← g20] at A20 D20
        rw [← g20]
        have g_b20 : n0 ≤ b20 := Nat.le_trans Z0 (Nat.le_of_eq g20.symm)
        have sz_b20 : h0.size ≤ b20 := Nat.le_trans K0.1 (Nat.le_of_eq g20.symm)
        have Z0_c21 := Nat.le_trans Z0 E20.1
        have K0_c21 := K0.ext E20
        have F_millis_b20 : Fld Z h20 b20 "com/example/network_analytics_service/networkanalyticsservice/core/sliceload/Levels$InForce" "millis" "J" (.long (0 : Int64)) := D20 (Or.inr (W 15 rfl)) (ty := .long) (by decide)
        have F_weighted_b20 : Fld Z h20 b20 "com/example/network_analytics_service/networkanalyticsservice/core/sliceload/Levels$InForce" "weighted" "J" (.long (0 : Int64)) := D20 (Or.inr (W 17 rfl)) (ty := .long) (by decide)
        refine own_go (fun _ k => XS.dup X20.here hx rfl (hb hby at_85) rfl rfl k) ?_
        refine own_go (fun _ k => XS.lload X20.here hx rfl (hb hby at_86) rfl k) ?_
        show own_Run p e below _ T20 (mkF m 88 #[.val (.long p1), .second, .val (.long p2), .second, .val (.int p3), .val (.int xk), .val (.int xj), .val (.long m1), .second, .unset, .unset, .unset, .unset, .unset, .unset, .unset, .unset, .unset] [(.long m1), (.ref b20), (.ref b20)])
        refine own_go (fun _ k => XS.lloadN X20.here hx rfl (hb hby at_88) rfl k) ?_
        obtain ⟨_, _, ⟨T22, L22, k22, n22⟩, -, X22, ⟨Lc22, hQ22, l22, y22, z22⟩, st22⟩ := X20.specialBack hx (y := (⟨"com/example/network_analytics_service/networkanalyticsservice/core/sliceload/Levels$InForce", "<init>", "(JJ)V"⟩ : MethodName)) rfl hown (mvT hZ (W 3 rfl)) (mvT hZ (W 4 rfl)) (mvT hZ (W 5 rfl)) (by decide) (backOf (W := 1) (rm1 l Z a0 hw [] b20 m1 p1 (.long (0 : Int64)) (.long (0 : Int64)) h20 n0 Z0_c21 A20 F_millis_b20 F_weighted_b20 g_b20) hZ (W 5 rfl) (W 2 rfl) (by decide) (by decide)) (g := (mkF m 89 #[.val (.long p1), .second, .val (.long p2), .second, .val (.int p3), .val (.int xk), .val (.int xj), .val (.long m1), .second, .unset, .unset, .unset, .unset, .unset, .unset, .unset, .unset, .unset] [(.long p1), (.long m1), (.ref b20), (.ref b20)])) rfl (by rw [hml]; rfl) (Steps.refl _) (a := b20) (argsL := [(.long m1), (.long p1)]) (rest := [(.ref b20)]) (lenOf pd_2 rfl) rfl (by show 2 * 0 + _ ≤ _; exact Nat.le_of_eq rfl) (hb hby at_89) (fun _ _ => ⟨rfl, e20, (by decide : 1 + 0 ≤ _), (by decide : 2 + 0 ≤ _)⟩)
        dsimp only [Pt.U, Pt.locs, Pt.cells, Pt.slots] at X22 l22 y22 z22 st22 hQ22
        subst l22 y22 z22
        obtain ⟨rfl, N22q, K22, P22_0, P22_1, P22_2⟩ := hQ22
        have N22 := Fr.app N0 N22q
        refine own_goT st22 ?_
        have Z0_c23 := Nat.le_trans Z0_c21 K22.1
        have K0_c23 := K0_c21.trans K22 (allS (Or.inr sz_b20) all0)
        have A20_c23 := A20.keep K22
        obtain ⟨cq24, kq24, q24a, q24b, q24c⟩ := isOf hZ rfl P22_0
        obtain ⟨_, _, ⟨T24, L24, k24, n24⟩, -, X24, ⟨Lc24, hQ24, l24, y24, z24⟩, st24⟩ := X22.virtualBack hx (y := (⟨"com/example/network_analytics_service/networkanalyticsservice/core/sliceload/Levels$InForce", "mean", "()D"⟩ : MethodName)) (z := (⟨"com/example/network_analytics_service/networkanalyticsservice/core/sliceload/Levels$InForce", "mean", "()D"⟩ : MethodName)) hown (mvT hZ (W 18 rfl)) (mvT hZ (W 19 rfl)) (notFace_of_selects (args := #[]) (mvT hZ (W 21 rfl))) (mvT hZ (W 21 rfl)) (mvT hZ (W 20 rfl)) (by decide) (backOf (W := 0) (rm4 l Z a0 hw [] b20 m1 p1 T22.heap n0 Z0_c23 P22_1 P22_2 (own_nzPow m1 kk s1)) hZ (W 22 rfl) (W 2 rfl) (by decide) (by decide)) q24a q24c (g := (mkF m 92 #[.val (.long p1), .second, .val (.long p2), .second, .val (.int p3), .val (.int xk), .val (.int xj), .val (.long m1), .second, .unset, .unset, .unset, .unset, .unset, .unset, .unset, .unset, .unset] [(.ref b20)])) rfl (by rw [hml]; rfl) (Steps.refl _) (argsL := []) (rest := []) (lenOf pd_3 rfl) rfl (by show 2 * 0 + _ ≤ _; exact Nat.le_of_eq rfl) (hb hby at_92) (fun _ _ => ⟨rfl, rfl, (by decide : 1 + 0 ≤ _), (by decide : 2 + 0 ≤ _)⟩)
        dsimp only [Pt.U, Pt.locs, Pt.cells, Pt.slots] at X24 l24 y24 z24 st24 hQ24
        subst l24 y24 z24
        obtain ⟨rfl, N24q, e24⟩ := hQ24
        have N24 := Fr.app N22 N24q
        refine own_goT st24 ?_
        refine own_go (fun _ k => XS.dstore X24.here hx rfl (hb hby at_95) rfl (l' := #[.val (.long p1), .second, .val (.long p2), .second, .val (.int p3), .val (.int xk), .val (.int xj), .val (.long m1), .second, .val (.double (FP.ddiv (FP.l2d p1) (FP.l2d m1))), .second, .unset, .unset, .unset, .unset, .unset, .unset, .unset]) rfl k) ?_
        refine own_go (fun _ k => XS.dload X24.here hx rfl (hb hby at_97) rfl k) ?_
        show own_Run p e below _ T24 (mkF m 99 #[.val (.long p1), .second, .val (.long p2), .second, .val (.int p3), .val (.int xk), .val (.int xj), .val (.long m1), .second, .val (.double (FP.ddiv (FP.l2d p1) (FP.l2d m1))), .second, .unset, .unset, .unset, .unset, .unset, .unset, .unset] [(.double (FP.ddiv (FP.l2d p1) (FP.l2d m1)))])
        refine own_go (fun _ k => XS.lload X24.here hx rfl (hb hby at_99) rfl k) ?_
        refine own_go (fun _ k => XS.l2dS X24.here hx rfl (hb hby at_101) rfl rfl k) ?_
        refine own_go (fun _ k => XS.dmulS X24.here hx rfl (hb hby at_102) rfl (own_nnMul p1 m1 kk hkk s1) rfl k) ?_
        refine own_go (fun _ k => XS.lloadN X24.here hx rfl (hb hby at_103) rfl k) ?_
        refine own_go (fun _ k => XS.l2dS X24.here hx rfl (hb hby at_104) rfl rfl k) ?_
        show own_Run p e below _ T24 (mkF m 105 #[.val (.long p1), .second, .val (.long p2), .second, .val (.int p3), .val (.int xk), .val (.int xj), .val (.long m1), .second, .val (.double (FP.ddiv (FP.l2d p1) (FP.l2d m1))), .second, .unset, .unset, .unset, .unset, .unset, .unset, .unset] [(.double (FP.l2d p1)), (.double (FP.dmul (FP.ddiv (FP.l2d p1) (FP.l2d m1)) (FP.l2d m1)))])
        refine own_go (fun _ k => XS.dcmpS X24.here hx rfl (hb hby at_105) rfl (own_k1 p1 m1 kk hkk s1) k) ?_
        refine own_go (fun _ k => XS.ifNo X24.here hx rfl (hb hby at_106) rfl ((if0 _ _).trans (teq (by decide : (0 : Int32) = (0 : Int32))).2) k) ?_
        refine own_go (fun _ k => XS.iconst X24.here hx rfl (hb hby at_109) k) ?_
        refine own_go (fun _ k => XS.goto X24.here hx rfl (pc0 := 110) (pc' := 114) rfl (hb hby at_110) (by decide) (by decide) k) ?_
        refine own_done (Q := fun v h L => Q0 Z p1 p2 p3 h0 n0 v h L) (v := (some (.int (1 : Int32)))) X24 (fun h => by rw [hret] at h; cases h) hlk (fun fs hr => retN X24 hx (t := .boolean) hret (by simp) (hb hby at_114) hr) ?_ (by decide) (by decide)
        show Q0 Z p1 p2 p3 h0 n0 _ T24.heap _
        rw [e24]
        exact ⟨rfl, N24⟩
      · refine own_go (fun _ k => XS.ifNo X0.here hx rfl (hb hby at_67) rfl ((if0 _ _).trans (feq hc67_19).1) k) ?_
        refine own_go (fun _ k => XS.iload X0.here hx rfl (hb hby at_70) rfl k) ?_
        refine own_go (fun _ k => XS.bipush X0.here hx rfl (hb hby at_72) k) ?_
        by_cases hc74_25 : xj < (63 : Int32)
        · refine own_go (fun _ k => XS.icmpNo X0.here hx rfl (hb hby at_74) rfl (tlt hc74_25).2.1 k) ?_
          show own_Run p e below _ s₁ (mkF m 77 #[.val (.long p1), .second, .val (.long p2), .second, .val (.int p3), .val (.int xk), .val (.int xj), .val (.long m1), .second, .unset, .unset, .unset, .unset, .unset, .unset, .unset, .unset, .unset] [])
          refine own_go (fun _ k => XS.lload X0.here hx rfl (hb hby at_77) rfl k) ?_
          refine own_go (fun _ k => XS.lneg X0.here hx rfl (hb hby at_79) rfl k) ?_
          show own_Run p e below _ s₁ (mkF m 80 #[.val (.long p1), .second, .val (.long p2), .second, .val (.int p3), .val (.int xk), .val (.int xj), .val (.long m1), .second, .unset, .unset, .unset, .unset, .unset, .unset, .unset, .unset, .unset] [(.long (-m1))])
          obtain ⟨m2, hm2⟩ : ∃ z, z = (-m1) := ⟨_, rfl⟩
          rw [← hm2]
          have s3 := s2 hc74_25
          rw [← hm2] at s3
          refine own_go (fun _ k => XS.lstore X0.here hx rfl (hb hby at_80) rfl (l' := #[.val (.long p1), .second, .val (.long p2), .second, .val (.int p3), .val (.int xk), .val (.int xj), .val (.long m2), .second, .unset, .unset, .unset, .unset, .unset, .unset, .unset, .unset, .unset]) rfl k) ?_
          obtain ⟨T26, h26, X26, e26, E26, A26, D26, -, st26⟩ := newO X0 hx hZ hown (W 0 rfl) (W 1 rfl) (W 2 rfl) e0 (g := (mkF m 82 #[.val (.long p1), .second, .val (.long p2), .second, .val (.int p3), .val (.int xk), .val (.int xj), .val (.long m2), .second, .unset, .unset, .unset, .unset, .unset, .unset, .unset, .unset, .unset] [])) rfl (hb hby at_82) (by decide) (by decide)
          refine own_go st26 ?_
          obtain ⟨b26, g26⟩ : ∃ z, z = h0.size := ⟨_, rfl⟩
          rw [← g26] at A26 D26
          rw [← g26]
          have g_b26 : n0 ≤ b26 := Nat.le_trans Z0 (Nat.le_of_eq g26.symm)
          have sz_b26 : h0.size ≤ b26 := Nat.le_trans K0.1 (Nat.le_of_eq g26.symm)
          have Z0_c27 := Nat.le_trans Z0 E26.1
          have K0_c27 := K0.ext E26
          have F_millis_b26 : Fld Z h26 b26 "com/example/network_analytics_service/networkanalyticsservice/core/sliceload/Levels$InForce" "millis" "J" (.long (0 : Int64)) := D26 (Or.inr (W 15 rfl)) (ty := .long) (by decide)
          have F_weighted_b26 : Fld Z h26 b26 "com/example/network_analytics_service/networkanalyticsservice/core/sliceload/Levels$InForce" "weighted" "J" (.long (0 : Int64)) := D26 (Or.inr (W 17 rfl)) (ty := .long) (by decide)
          refine own_go (fun _ k => XS.dup X26.here hx rfl (hb hby at_85) rfl rfl k) ?_
          refine own_go (fun _ k => XS.lload X26.here hx rfl (hb hby at_86) rfl k) ?_
          refine own_go (fun _ k => XS.lloadN X26.here hx rfl (hb hby at_88) rfl k) ?_
          show own_Run p e below _ T26 (mkF m 89 #[.val (.long p1), .second, .val (.long p2), .second, .val (.int p3), .val (.int xk), .val (.int xj), .val (.long m2), .second, .unset, .unset, .unset, .unset, .unset, .unset, .unset, .unset, .unset] [(.long p1), (.long m2), (.ref b26), (.ref b26)])
          obtain ⟨_, _, ⟨T28, L28, k28, n28⟩, -, X28, ⟨Lc28, hQ28, l28, y28, z28⟩, st28⟩ := X26.specialBack hx (y := (⟨"com/example/network_analytics_service/networkanalyticsservice/core/sliceload/Levels$InForce", "<init>", "(JJ)V"⟩ : MethodName)) rfl hown (mvT hZ (W 3 rfl)) (mvT hZ (W 4 rfl)) (mvT hZ (W 5 rfl)) (by decide) (backOf (W := 1) (rm1 l Z a0 hw [] b26 m2 p1 (.long (0 : Int64)) (.long (0 : Int64)) h26 n0 Z0_c27 A26 F_millis_b26 F_weighted_b26 g_b26) hZ (W 5 rfl) (W 2 rfl) (by decide) (by decide)) (g := (mkF m 89 #[.val (.long p1), .second, .val (.long p2), .second, .val (.int p3), .val (.int xk), .val (.int xj), .val (.long m2), .second, .unset, .unset, .unset, .unset, .unset, .unset, .unset, .unset, .unset] [(.long p1), (.long m2), (.ref b26), (.ref b26)])) rfl (by rw [hml]; rfl) (Steps.refl _) (a := b26) (argsL := [(.long m2), (.long p1)]) (rest := [(.ref b26)]) (lenOf pd_2 rfl) rfl (by show 2 * 0 + _ ≤ _; exact Nat.le_of_eq rfl) (hb hby at_89) (fun _ _ => ⟨rfl, e26, (by decide : 1 + 0 ≤ _), (by decide : 2 + 0 ≤ _)⟩)
          dsimp only [Pt.U, Pt.locs, Pt.cells, Pt.slots] at X28 l28 y28 z28 st28 hQ28
          subst l28 y28 z28
          obtain ⟨rfl, N28q, K28, P28_0, P28_1, P28_2⟩ := hQ28
          have N28 := Fr.app N0 N28q
          refine own_goT st28 ?_
          have Z0_c29 := Nat.le_trans Z0_c27 K28.1
          have K0_c29 := K0_c27.trans K28 (allS (Or.inr sz_b26) all0)
          have A26_c29 := A26.keep K28
          obtain ⟨cq30, kq30, q30a, q30b, q30c⟩ := isOf hZ rfl P28_0
          obtain ⟨_, _, ⟨T30, L30, k30, n30⟩, -, X30, ⟨Lc30, hQ30, l30, y30, z30⟩, st30⟩ := X28.virtualBack hx (y := (⟨"com/example/network_analytics_service/networkanalyticsservice/core/sliceload/Levels$InForce", "mean", "()D"⟩ : MethodName)) (z := (⟨"com/example/network_analytics_service/networkanalyticsservice/core/sliceload/Levels$InForce", "mean", "()D"⟩ : MethodName)) hown (mvT hZ (W 18 rfl)) (mvT hZ (W 19 rfl)) (notFace_of_selects (args := #[]) (mvT hZ (W 21 rfl))) (mvT hZ (W 21 rfl)) (mvT hZ (W 20 rfl)) (by decide) (backOf (W := 0) (rm4 l Z a0 hw [] b26 m2 p1 T28.heap n0 Z0_c29 P28_1 P28_2 (own_nzPow m2 kk s3)) hZ (W 22 rfl) (W 2 rfl) (by decide) (by decide)) q30a q30c (g := (mkF m 92 #[.val (.long p1), .second, .val (.long p2), .second, .val (.int p3), .val (.int xk), .val (.int xj), .val (.long m2), .second, .unset, .unset, .unset, .unset, .unset, .unset, .unset, .unset, .unset] [(.ref b26)])) rfl (by rw [hml]; rfl) (Steps.refl _) (argsL := []) (rest := []) (lenOf pd_3 rfl) rfl (by show 2 * 0 + _ ≤ _; exact Nat.le_of_eq rfl) (hb hby at_92) (fun _ _ => ⟨rfl, rfl, (by decide : 1 + 0 ≤ _), (by decide : 2 + 0 ≤ _)⟩)
          dsimp only [Pt.U, Pt.locs, Pt.cells, Pt.slots] at X30 l30 y30 z30 st30 hQ30
          subst l30 y30 z30
          obtain ⟨rfl, N30q, e30⟩ := hQ30
          have N30 := Fr.app N28 N30q
          refine own_goT st30 ?_
          refine own_go (fun _ k => XS.dstore X30.here hx rfl (hb hby at_95) rfl (l' := #[.val (.long p1), .second, .val (.long p2), .second, .val (.int p3), .val (.int xk), .val (.int xj), .val (.long m2), .second, .val (.double (FP.ddiv (FP.l2d p1) (FP.l2d m2))), .second, .unset, .unset, .unset, .unset, .unset, .unset, .unset]) rfl k) ?_
          refine own_go (fun _ k => XS.dload X30.here hx rfl (hb hby at_97) rfl k) ?_
          refine own_go (fun _ k => XS.lload X30.here hx rfl (hb hby at_99) rfl k) ?_
          show own_Run p e below _ T30 (mkF m 101 #[.val (.long p1), .second, .val (.long p2), .second, .val (.int p3), .val (.int xk), .val (.int xj), .val (.long m2), .second, .val (.double (FP.ddiv (FP.l2d p1) (FP.l2d m2))), .second, .unset, .unset, .unset, .unset, .unset, .unset, .unset] [(.long m2), (.double (FP.ddiv (FP.l2d p1) (FP.l2d m2)))])
          refine own_go (fun _ k => XS.l2dS X30.here hx rfl (hb hby at_101) rfl rfl k) ?_
          refine own_go (fun _ k => XS.dmulS X30.here hx rfl (hb hby at_102) rfl (own_nnMul p1 m2 kk hkk s3) rfl k) ?_
          refine own_go (fun _ k => XS.lloadN X30.here hx rfl (hb hby at_103) rfl k) ?_
          refine own_go (fun _ k => XS.l2dS X30.here hx rfl (hb hby at_104) rfl rfl k) ?_
          refine own_go (fun _ k => XS.dcmpS X30.here hx rfl (hb hby at_105) rfl (own_k1 p1 m2 kk hkk s3) k) ?_
          show own_Run p e below _ T30 (mkF m 106 #[.val (.long p1), .second, .val (.long p2), .second, .val (.int p3), .val (.int xk), .val (.int xj), .val (.long m2), .second, .val (.double (FP.ddiv (FP.l2d p1) (FP.l2d m2))), .second, .unset, .unset, .unset, .unset, .unset, .unset, .unset] [(.int (0 : Int32))])
          refine own_go (fun _ k => XS.ifNo X30.here hx rfl (hb hby at_106) rfl ((if0 _ _).trans (teq (by decide : (0 : Int32) = (0 : Int32))).2) k) ?_
          refine own_go (fun _ k => XS.iconst X30.here hx rfl (hb hby at_109) k) ?_
          refine own_go (fun _ k => XS.goto X30.here hx rfl (pc0 := 110) (pc' := 114) rfl (hb hby at_110) (by decide) (by decide) k) ?_
          refine own_done (Q := fun v h L => Q0 Z p1 p2 p3 h0 n0 v h L) (v := (some (.int (1 : Int32)))) X30 (fun h => by rw [hret] at h; cases h) hlk (fun fs hr => retN X30 hx (t := .boolean) hret (by simp) (hb hby at_114) hr) ?_ (by decide) (by decide)
          show Q0 Z p1 p2 p3 h0 n0 _ T30.heap _
          rw [e30]
          exact ⟨rfl, N30⟩
        · refine own_go (fun _ k => XS.icmpYes X0.here hx rfl (pc0 := 74) (pc' := 82) rfl (hb hby at_74) rfl (flt hc74_25).2.1 (by decide) (by decide) k) ?_
          show own_Run p e below _ s₁ (mkF m 82 #[.val (.long p1), .second, .val (.long p2), .second, .val (.int p3), .val (.int xk), .val (.int xj), .val (.long m1), .second, .unset, .unset, .unset, .unset, .unset, .unset, .unset, .unset, .unset] [])
          obtain ⟨T31, h31, X31, e31, E31, A31, D31, -, st31⟩ := newO X0 hx hZ hown (W 0 rfl) (W 1 rfl) (W 2 rfl) e0 (g := (mkF m 82 #[.val (.long p1), .second, .val (.long p2), .second, .val (.int p3), .val (.int xk), .val (.int xj), .val (.long m1), .second, .unset, .unset, .unset, .unset, .unset, .unset, .unset, .unset, .unset] [])) rfl (hb hby at_82) (by decide) (by decide)
          refine own_go st31 ?_
          obtain ⟨b31, g31⟩ : ∃ z, z = h0.size := ⟨_, rfl⟩
          rw [← g31] at A31 D31
          rw [← g31]
          have g_b31 : n0 ≤ b31 := Nat.le_trans Z0 (Nat.le_of_eq g31.symm)
          have sz_b31 : h0.size ≤ b31 := Nat.le_trans K0.1 (Nat.le_of_eq g31.symm)
          have Z0_c32 := Nat.le_trans Z0 E31.1
          have K0_c32 := K0.ext E31
          have F_millis_b31 : Fld Z h31 b31 "com/example/network_analytics_service/networkanalyticsservice/core/sliceload/Levels$InForce" "millis" "J" (.long (0 : Int64)) := D31 (Or.inr (W 15 rfl)) (ty := .long) (by decide)
          have F_weighted_b31 : Fld Z h31 b31 "com/example/network_analytics_service/networkanalyticsservice/core/sliceload/Levels$InForce" "weighted" "J" (.long (0 : Int64)) := D31 (Or.inr (W 17 rfl)) (ty := .long) (by decide)
          refine own_go (fun _ k => XS.dup X31.here hx rfl (hb hby at_85) rfl rfl k) ?_
          refine own_go (fun _ k => XS.lload X31.here hx rfl (hb hby at_86) rfl k) ?_
          refine own_go (fun _ k => XS.lloadN X31.here hx rfl (hb hby at_88) rfl k) ?_
          obtain ⟨_, _, ⟨T33, L33, k33, n33⟩, -, X33, ⟨Lc33, hQ33, l33, y33, z33⟩, st33⟩ := X31.specialBack hx (y := (⟨"com/example/network_analytics_service/networkanalyticsservice/core/sliceload/Levels$InForce", "<init>", "(JJ)V"⟩ : MethodName)) rfl hown (mvT hZ (W 3 rfl)) (mvT hZ (W 4 rfl)) (mvT hZ (W 5 rfl)) (by decide) (backOf (W := 1) (rm1 l Z a0 hw [] b31 m1 p1 (.long (0 : Int64)) (.long (0 : Int64)) h31 n0 Z0_c32 A31 F_millis_b31 F_weighted_b31 g_b31) hZ (W 5 rfl) (W 2 rfl) (by decide) (by decide)) (g := (mkF m 89 #[.val (.long p1), .second, .val (.long p2), .second, .val (.int p3), .val (.int xk), .val (.int xj), .val (.long m1), .second, .unset, .unset, .unset, .unset, .unset, .unset, .unset, .unset, .unset] [(.long p1), (.long m1), (.ref b31), (.ref b31)])) rfl (by rw [hml]; rfl) (Steps.refl _) (a := b31) (argsL := [(.long m1), (.long p1)]) (rest := [(.ref b31)]) (lenOf pd_2 rfl) rfl (by show 2 * 0 + _ ≤ _; exact Nat.le_of_eq rfl) (hb hby at_89) (fun _ _ => ⟨rfl, e31, (by decide : 1 + 0 ≤ _), (by decide : 2 + 0 ≤ _)⟩)
          dsimp only [Pt.U, Pt.locs, Pt.cells, Pt.slots] at X33 l33 y33 z33 st33 hQ33
          subst l33 y33 z33
          obtain ⟨rfl, N33q, K33, P33_0, P33_1, P33_2⟩ := hQ33
          have N33 := Fr.app N0 N33q
          refine own_goT st33 ?_
          show own_Run p e below _ T33 (mkF m 92 #[.val (.long p1), .second, .val (.long p2), .second, .val (.int p3), .val (.int xk), .val (.int xj), .val (.long m1), .second, .unset, .unset, .unset, .unset, .unset, .unset, .unset, .unset, .unset] [(.ref b31)])
          have Z0_c34 := Nat.le_trans Z0_c32 K33.1
          have K0_c34 := K0_c32.trans K33 (allS (Or.inr sz_b31) all0)
          have A31_c34 := A31.keep K33
          obtain ⟨cq35, kq35, q35a, q35b, q35c⟩ := isOf hZ rfl P33_0
          obtain ⟨_, _, ⟨T35, L35, k35, n35⟩, -, X35, ⟨Lc35, hQ35, l35, y35, z35⟩, st35⟩ := X33.virtualBack hx (y := (⟨"com/example/network_analytics_service/networkanalyticsservice/core/sliceload/Levels$InForce", "mean", "()D"⟩ : MethodName)) (z := (⟨"com/example/network_analytics_service/networkanalyticsservice/core/sliceload/Levels$InForce", "mean", "()D"⟩ : MethodName)) hown (mvT hZ (W 18 rfl)) (mvT hZ (W 19 rfl)) (notFace_of_selects (args := #[]) (mvT hZ (W 21 rfl))) (mvT hZ (W 21 rfl)) (mvT hZ (W 20 rfl)) (by decide) (backOf (W := 0) (rm4 l Z a0 hw [] b31 m1 p1 T33.heap n0 Z0_c34 P33_1 P33_2 (own_nzPow m1 kk s1)) hZ (W 22 rfl) (W 2 rfl) (by decide) (by decide)) q35a q35c (g := (mkF m 92 #[.val (.long p1), .second, .val (.long p2), .second, .val (.int p3), .val (.int xk), .val (.int xj), .val (.long m1), .second, .unset, .unset, .unset, .unset, .unset, .unset, .unset, .unset, .unset] [(.ref b31)])) rfl (by rw [hml]; rfl) (Steps.refl _) (argsL := []) (rest := []) (lenOf pd_3 rfl) rfl (by show 2 * 0 + _ ≤ _; exact Nat.le_of_eq rfl) (hb hby at_92) (fun _ _ => ⟨rfl, rfl, (by decide : 1 + 0 ≤ _), (by decide : 2 + 0 ≤ _)⟩)
          dsimp only [Pt.U, Pt.locs, Pt.cells, Pt.slots] at X35 l35 y35 z35 st35 hQ35
          subst l35 y35 z35
          obtain ⟨rfl, N35q, e35⟩ := hQ35
          have N35 := Fr.app N33 N35q
          refine own_goT st35 ?_
          refine own_go (fun _ k => XS.dstore X35.here hx rfl (hb hby at_95) rfl (l' := #[.val (.long p1), .second, .val (.long p2), .second, .val (.int p3), .val (.int xk), .val (.int xj), .val (.long m1), .second, .val (.double (FP.ddiv (FP.l2d p1) (FP.l2d m1))), .second, .unset, .unset, .unset, .unset, .unset, .unset, .unset]) rfl k) ?_
          refine own_go (fun _ k => XS.dload X35.here hx rfl (hb hby at_97) rfl k) ?_
          refine own_go (fun _ k => XS.lload X35.here hx rfl (hb hby at_99) rfl k) ?_
          refine own_go (fun _ k => XS.l2dS X35.here hx rfl (hb hby at_101) rfl rfl k) ?_
          show own_Run p e below _ T35 (mkF m 102 #[.val (.long p1), .second, .val (.long p2), .second, .val (.int p3), .val (.int xk), .val (.int xj), .val (.long m1), .second, .val (.double (FP.ddiv (FP.l2d p1) (FP.l2d m1))), .second, .unset, .unset, .unset, .unset, .unset, .unset, .unset] [(.double (FP.l2d m1)), (.double (FP.ddiv (FP.l2d p1) (FP.l2d m1)))])
          refine own_go (fun _ k => XS.dmulS X35.here hx rfl (hb hby at_102) rfl (own_nnMul p1 m1 kk hkk s1) rfl k) ?_
          refine own_go (fun _ k => XS.lloadN X35.here hx rfl (hb hby at_103) rfl k) ?_
          refine own_go (fun _ k => XS.l2dS X35.here hx rfl (hb hby at_104) rfl rfl k) ?_
          refine own_go (fun _ k => XS.dcmpS X35.here hx rfl (hb hby at_105) rfl (own_k1 p1 m1 kk hkk s1) k) ?_
          refine own_go (fun _ k => XS.ifNo X35.here hx rfl (hb hby at_106) rfl ((if0 _ _).trans (teq (by decide : (0 : Int32) = (0 : Int32))).2) k) ?_
          show own_Run p e below _ T35 (mkF m 109 #[.val (.long p1), .second, .val (.long p2), .second, .val (.int p3), .val (.int xk), .val (.int xj), .val (.long m1), .second, .val (.double (FP.ddiv (FP.l2d p1) (FP.l2d m1))), .second, .unset, .unset, .unset, .unset, .unset, .unset, .unset] [])
          refine own_go (fun _ k => XS.iconst X35.here hx rfl (hb hby at_109) k) ?_
          refine own_go (fun _ k => XS.goto X35.here hx rfl (pc0 := 110) (pc' := 114) rfl (hb hby at_110) (by decide) (by decide) k) ?_
          refine own_done (Q := fun v h L => Q0 Z p1 p2 p3 h0 n0 v h L) (v := (some (.int (1 : Int32)))) X35 (fun h => by rw [hret] at h; cases h) hlk (fun fs hr => retN X35 hx (t := .boolean) hret (by simp) (hb hby at_114) hr) ?_ (by decide) (by decide)
          show Q0 Z p1 p2 p3 h0 n0 _ T35.heap _
          rw [e35]
          exact ⟨rfl, N35⟩
    · refine own_go (fun _ k => XS.icmpYes X0.here hx rfl (pc0 := 42) (pc' := 115) rfl (hb hby at_42) rfl (feq hc42_18).2 (by decide) (by decide) k) ?_
      refine own_go (fun _ k => XS.iload X0.here hx rfl (hb hby at_115) rfl k) ?_
      refine own_go (fun _ k => XS.iconst X0.here hx rfl (hb hby at_117) k) ?_
      by_cases hc118_36 : xk = (2 : Int32)
      · refine own_go (fun _ k => XS.icmpNo X0.here hx rfl (hb hby at_118) rfl (teq hc118_36).2 k) ?_
        refine own_go (fun _ k => XS.lloadN X0.here hx rfl (hb hby at_121) rfl k) ?_
        show own_Run p e below _ s₁ (mkF m 122 #[.val (.long p1), .second, .val (.long p2), .second, .val (.int p3), .val (.int xk), .unset, .unset, .unset, .unset, .unset, .unset, .unset, .unset, .unset, .unset, .unset, .unset] [(.long p1)])
        refine own_go (X0.ldc2Long hx hown (mvT hZ (W 24 rfl)) (g := (mkF m 122 #[.val (.long p1), .second, .val (.long p2), .second, .val (.int p3), .val (.int xk), .unset, .unset, .unset, .unset, .unset, .unset, .unset, .unset, .unset, .unset, .unset, .unset] [(.long p1)])) rfl (hb hby at_122)) ?_
        refine own_go (fun _ k => XS.land X0.here hx rfl (hb hby at_125) rfl k) ?_
        show own_Run p e below _ s₁ (mkF m 126 #[.val (.long p1), .second, .val (.long p2), .second, .val (.int p3), .val (.int xk), .unset, .unset, .unset, .unset, .unset, .unset, .unset, .unset, .unset, .unset, .unset, .unset] [(.long (p1 &&& (9007199254740991 : Int64)))])
        obtain ⟨ww, hww⟩ : ∃ z, z = (p1 &&& (9007199254740991 : Int64)) := ⟨_, rfl⟩
        rw [← hww]
        refine own_go (fun _ k => XS.lstore X0.here hx rfl (hb hby at_126) rfl (l' := #[.val (.long p1), .second, .val (.long p2), .second, .val (.int p3), .val (.int xk), .val (.long ww), .second, .unset, .unset, .unset, .unset, .unset, .unset, .unset, .unset, .unset, .unset]) rfl k) ?_
        refine own_go (fun _ k => XS.lconst X0.here hx rfl (hb hby at_128) k) ?_
        refine own_go (fun _ k => XS.lloadN X0.here hx rfl (hb hby at_129) rfl k) ?_
        refine own_go (X0.ldc2Long hx hown (mvT hZ (W 24 rfl)) (g := (mkF m 130 #[.val (.long p1), .second, .val (.long p2), .second, .val (.int p3), .val (.int xk), .val (.long ww), .second, .unset, .unset, .unset, .unset, .unset, .unset, .unset, .unset, .unset, .unset] [(.long p2), (.long (1 : Int64))])) rfl (hb hby at_130)) ?_
        refine own_go (fun _ k => XS.land X0.here hx rfl (hb hby at_133) rfl k) ?_
        show own_Run p e below _ s₁ (mkF m 134 #[.val (.long p1), .second, .val (.long p2), .second, .val (.int p3), .val (.int xk), .val (.long ww), .second, .unset, .unset, .unset, .unset, .unset, .unset, .unset, .unset, .unset, .unset] [(.long (p2 &&& (9007199254740991 : Int64))), (.long (1 : Int64))])
        obtain ⟨_, _, ⟨T37, L37, k37, n37⟩, -, X37, ⟨Lc37, hQ37, l37, y37, z37⟩, st37⟩ := Jvm.LawKit.callS X0 hx (y := (⟨"java/lang/Math", "max", "(JJ)J"⟩ : MethodName)) hown (mvT hZ (W 25 rfl)) (mvT hZ (W 26 rfl)) (mvT hZ (W 27 rfl)) (mvT hZ (W 28 rfl)) (by decide) (backOf (W := 0) (rm5 l Z a0 hw [] (1 : Int64) (p2 &&& (9007199254740991 : Int64)) h0 n0 Z0 ) hZ (W 28 rfl) (W 27 rfl) (by decide) (by decide)) (g := (mkF m 134 #[.val (.long p1), .second, .val (.long p2), .second, .val (.int p3), .val (.int xk), .val (.long ww), .second, .unset, .unset, .unset, .unset, .unset, .unset, .unset, .unset, .unset, .unset] [(.long (p2 &&& (9007199254740991 : Int64))), (.long (1 : Int64))])) rfl (by rw [hml]; rfl) (argsL := [(.long (1 : Int64)), (.long (p2 &&& (9007199254740991 : Int64)))]) (rest := []) (lenOf pd_4 rfl) rfl (by show 2 * 0 + _ ≤ _; exact Nat.le_of_eq rfl) (hb hby at_134) (fun _ _ => ⟨rfl, e0, (by decide : 0 + 0 ≤ _), (by decide : 0 + 0 ≤ _)⟩)
        dsimp only [Pt.U, Pt.locs, Pt.cells, Pt.slots] at X37 l37 y37 z37 st37 hQ37
        subst l37 y37 z37
        obtain ⟨rfl, N37q, e37⟩ := hQ37
        have N37 := Fr.app N0 N37q
        refine own_go st37 ?_
        show own_Run p e below _ T37 (mkF m 137 #[.val (.long p1), .second, .val (.long p2), .second, .val (.int p3), .val (.int xk), .val (.long ww), .second, .unset, .unset, .unset, .unset, .unset, .unset, .unset, .unset, .unset, .unset] [(.long (if (1 : Int64) < (p2 &&& (9007199254740991 : Int64)) then (p2 &&& (9007199254740991 : Int64)) else (1 : Int64)))])
        obtain ⟨mm, hmm⟩ : ∃ z, z = (if (1 : Int64) < (p2 &&& (9007199254740991 : Int64)) then (p2 &&& (9007199254740991 : Int64)) else (1 : Int64)) := ⟨_, rfl⟩
        rw [← hmm]
        have a1 : 0 ≤ ww.toInt ∧ ww.toInt ≤ 9007199254740991 := by rw [hww]; exact own_53 p1
        have a2 := own_max p2 mm hmm
        have a3 := own_nz1 mm a2.1
        refine own_go (fun _ k => XS.lstore X37.here hx rfl (hb hby at_137) rfl (l' := #[.val (.long p1), .second, .val (.long p2), .second, .val (.int p3), .val (.int xk), .val (.long ww), .second, .val (.long mm), .second, .unset, .unset, .unset, .unset, .unset, .unset, .unset, .unset]) rfl k) ?_
        refine own_go (fun _ k => XS.lload X37.here hx rfl (hb hby at_139) rfl k) ?_
        refine own_go (fun _ k => XS.lload X37.here hx rfl (hb hby at_141) rfl k) ?_
        refine own_go (fun _ k => XS.ldiv X37.here hx rfl (hb hby at_143) rfl a3 k) ?_
        show own_Run p e below _ T37 (mkF m 144 #[.val (.long p1), .second, .val (.long p2), .second, .val (.int p3), .val (.int xk), .val (.long ww), .second, .val (.long mm), .second, .unset, .unset, .unset, .unset, .unset, .unset, .unset, .unset] [(.long (ww / mm))])
        obtain ⟨qq, hqq⟩ : ∃ z, z = (ww / mm) := ⟨_, rfl⟩
        rw [← hqq]
        refine own_go (fun _ k => XS.lstore X37.here hx rfl (hb hby at_144) rfl (l' := #[.val (.long p1), .second, .val (.long p2), .second, .val (.int p3), .val (.int xk), .val (.long ww), .second, .val (.long mm), .second, .val (.long qq), .second, .unset, .unset, .unset, .unset, .unset, .unset]) rfl k) ?_
        refine own_go (fun _ k => XS.lload X37.here hx rfl (hb hby at_146) rfl k) ?_
        refine own_go (fun _ k => XS.lload X37.here hx rfl (hb hby at_148) rfl k) ?_
        refine own_go (fun _ k => XS.lrem X37.here hx rfl (hb hby at_150) rfl a3 k) ?_
        show own_Run p e below _ T37 (mkF m 151 #[.val (.long p1), .second, .val (.long p2), .second, .val (.int p3), .val (.int xk), .val (.long ww), .second, .val (.long mm), .second, .val (.long qq), .second, .unset, .unset, .unset, .unset, .unset, .unset] [(.long (ww - ww / mm * mm))])
        obtain ⟨rr, hrr⟩ : ∃ z, z = (ww - ww / mm * mm) := ⟨_, rfl⟩
        rw [← hrr]
        refine own_go (fun _ k => XS.lstore X37.here hx rfl (hb hby at_151) rfl (l' := #[.val (.long p1), .second, .val (.long p2), .second, .val (.int p3), .val (.int xk), .val (.long ww), .second, .val (.long mm), .second, .val (.long qq), .second, .val (.long rr), .second, .unset, .unset, .unset, .unset]) rfl k) ?_
        obtain ⟨T38, h38, X38, e38, E38, A38, D38, -, st38⟩ := newO X37 hx hZ hown (W 0 rfl) (W 1 rfl) (W 2 rfl) e37 (g := (mkF m 153 #[.val (.long p1), .second, .val (.long p2), .second, .val (.int p3), .val (.int xk), .val (.long ww), .second, .val (.long mm), .second, .val (.long qq), .second, .val (.long rr), .second, .unset, .unset, .unset, .unset] [])) rfl (hb hby at_153) (by decide) (by decide)
        refine own_go st38 ?_
        obtain ⟨b38, g38⟩ : ∃ z, z = h0.size := ⟨_, rfl⟩
        rw [← g38] at A38 D38
        rw [← g38]
        have g_b38 : n0 ≤ b38 := Nat.le_trans Z0 (Nat.le_of_eq g38.symm)
        have sz_b38 : h0.size ≤ b38 := Nat.le_trans K0.1 (Nat.le_of_eq g38.symm)
        have Z0_c39 := Nat.le_trans Z0 E38.1
        have K0_c39 := K0.ext E38
        have F_millis_b38 : Fld Z h38 b38 "com/example/network_analytics_service/networkanalyticsservice/core/sliceload/Levels$InForce" "millis" "J" (.long (0 : Int64)) := D38 (Or.inr (W 15 rfl)) (ty := .long) (by decide)
        have F_weighted_b38 : Fld Z h38 b38 "com/example/network_analytics_service/networkanalyticsservice/core/sliceload/Levels$InForce" "weighted" "J" (.long (0 : Int64)) := D38 (Or.inr (W 17 rfl)) (ty := .long) (by decide)
        refine own_go (fun _ k => XS.dup X38.here hx rfl (hb hby at_156) rfl rfl k) ?_
        refine own_go (fun _ k => XS.lload X38.here hx rfl (hb hby at_157) rfl k) ?_
        refine own_go (fun _ k => XS.lload X38.here hx rfl (hb hby at_159) rfl k) ?_
        show own_Run p e below _ T38 (mkF m 161 #[.val (.long p1), .second, .val (.long p2), .second, .val (.int p3), .val (.int xk), .val (.long ww), .second, .val (.long mm), .second, .val (.long qq), .second, .val (.long rr), .second, .unset, .unset, .unset, .unset] [(.long ww), (.long mm), (.ref b38), (.ref b38)])
        obtain ⟨_, _, ⟨T40, L40, k40, n40⟩, -, X40, ⟨Lc40, hQ40, l40, y40, z40⟩, st40⟩ := X38.specialBack hx (y := (⟨"com/example/network_analytics_service/networkanalyticsservice/core/sliceload/Levels$InForce", "<init>", "(JJ)V"⟩ : MethodName)) rfl hown (mvT hZ (W 3 rfl)) (mvT hZ (W 4 rfl)) (mvT hZ (W 5 rfl)) (by decide) (backOf (W := 1) (rm1 l Z a0 hw [] b38 mm ww (.long (0 : Int64)) (.long (0 : Int64)) h38 n0 Z0_c39 A38 F_millis_b38 F_weighted_b38 g_b38) hZ (W 5 rfl) (W 2 rfl) (by decide) (by decide)) (g := (mkF m 161 #[.val (.long p1), .second, .val (.long p2), .second, .val (.int p3), .val (.int xk), .val (.long ww), .second, .val (.long mm), .second, .val (.long qq), .second, .val (.long rr), .second, .unset, .unset, .unset, .unset] [(.long ww), (.long mm), (.ref b38), (.ref b38)])) rfl (by rw [hml]; rfl) (Steps.refl _) (a := b38) (argsL := [(.long mm), (.long ww)]) (rest := [(.ref b38)]) (lenOf pd_2 rfl) rfl (by show 2 * 0 + _ ≤ _; exact Nat.le_of_eq rfl) (hb hby at_161) (fun _ _ => ⟨rfl, e38, (by decide : 1 + 0 ≤ _), (by decide : 2 + 0 ≤ _)⟩)
        dsimp only [Pt.U, Pt.locs, Pt.cells, Pt.slots] at X40 l40 y40 z40 st40 hQ40
        subst l40 y40 z40
        obtain ⟨rfl, N40q, K40, P40_0, P40_1, P40_2⟩ := hQ40
        have N40 := Fr.app N37 N40q
        refine own_goT st40 ?_
        have Z0_c41 := Nat.le_trans Z0_c39 K40.1
        have K0_c41 := K0_c39.trans K40 (allS (Or.inr sz_b38) all0)
        have A38_c41 := A38.keep K40
        obtain ⟨cq42, kq42, q42a, q42b, q42c⟩ := isOf hZ rfl P40_0
        obtain ⟨_, _, ⟨T42, L42, k42, n42⟩, -, X42, ⟨Lc42, hQ42, l42, y42, z42⟩, st42⟩ := X40.virtualBack hx (y := (⟨"com/example/network_analytics_service/networkanalyticsservice/core/sliceload/Levels$InForce", "mean", "()D"⟩ : MethodName)) (z := (⟨"com/example/network_analytics_service/networkanalyticsservice/core/sliceload/Levels$InForce", "mean", "()D"⟩ : MethodName)) hown (mvT hZ (W 18 rfl)) (mvT hZ (W 19 rfl)) (notFace_of_selects (args := #[]) (mvT hZ (W 21 rfl))) (mvT hZ (W 21 rfl)) (mvT hZ (W 20 rfl)) (by decide) (backOf (W := 0) (rm4 l Z a0 hw [] b38 mm ww T40.heap n0 Z0_c41 P40_1 P40_2 (a3)) hZ (W 22 rfl) (W 2 rfl) (by decide) (by decide)) q42a q42c (g := (mkF m 164 #[.val (.long p1), .second, .val (.long p2), .second, .val (.int p3), .val (.int xk), .val (.long ww), .second, .val (.long mm), .second, .val (.long qq), .second, .val (.long rr), .second, .unset, .unset, .unset, .unset] [(.ref b38)])) rfl (by rw [hml]; rfl) (Steps.refl _) (argsL := []) (rest := []) (lenOf pd_3 rfl) rfl (by show 2 * 0 + _ ≤ _; exact Nat.le_of_eq rfl) (hb hby at_164) (fun _ _ => ⟨rfl, rfl, (by decide : 1 + 0 ≤ _), (by decide : 2 + 0 ≤ _)⟩)
        dsimp only [Pt.U, Pt.locs, Pt.cells, Pt.slots] at X42 l42 y42 z42 st42 hQ42
        subst l42 y42 z42
        obtain ⟨rfl, N42q, e42⟩ := hQ42
        have N42 := Fr.app N40 N42q
        refine own_goT st42 ?_
        refine own_go (fun _ k => XS.dstore X42.here hx rfl (hb hby at_167) rfl (l' := #[.val (.long p1), .second, .val (.long p2), .second, .val (.int p3), .val (.int xk), .val (.long ww), .second, .val (.long mm), .second, .val (.long qq), .second, .val (.long rr), .second, .val (.double (FP.ddiv (FP.l2d ww) (FP.l2d mm))), .second, .unset, .unset]) rfl k) ?_
        refine own_go (fun _ k => XS.lload X42.here hx rfl (hb hby at_169) rfl k) ?_
        refine own_go (fun _ k => XS.l2dS X42.here hx rfl (hb hby at_171) rfl rfl k) ?_
        show own_Run p e below _ T42 (mkF m 172 #[.val (.long p1), .second, .val (.long p2), .second, .val (.int p3), .val (.int xk), .val (.long ww), .second, .val (.long mm), .second, .val (.long qq), .second, .val (.long rr), .second, .val (.double (FP.ddiv (FP.l2d ww) (FP.l2d mm))), .second, .unset, .unset] [(.double (FP.l2d qq))])
        refine own_go (fun _ k => XS.dload X42.here hx rfl (hb hby at_172) rfl k) ?_
        refine own_go (fun _ k => XS.dcmpS X42.here hx rfl (hb hby at_174) rfl (rfl) k) ?_
        refine own_go (fun _ k => XS.ifNo X42.here hx rfl (hb hby at_175) rfl ((if0 _ _).trans (flt (own_k2a ww mm qq rr a1.1 a1.2 a2.1 a2.2 hqq hrr : ¬ ((0 : Int32) < (cmpValue (FP.dcmp (FP.l2d qq) (FP.ddiv (FP.l2d ww) (FP.l2d mm))) .g)))).2.2.1) k) ?_
        refine own_go (fun _ k => XS.dload X42.here hx rfl (hb hby at_178) rfl k) ?_
        refine own_go (fun _ k => XS.lload X42.here hx rfl (hb hby at_180) rfl k) ?_
        show own_Run p e below _ T42 (mkF m 182 #[.val (.long p1), .second, .val (.long p2), .second, .val (.int p3), .val (.int xk), .val (.long ww), .second, .val (.long mm), .second, .val (.long qq), .second, .val (.long rr), .second, .val (.double (FP.ddiv (FP.l2d ww) (FP.l2d mm))), .second, .unset, .unset] [(.long qq), (.double (FP.ddiv (FP.l2d ww) (FP.l2d mm)))])
        refine own_go (fun _ k => XS.lconst X42.here hx rfl (hb hby at_182) k) ?_
        refine own_go (fun _ k => XS.ladd X42.here hx rfl (hb hby at_183) rfl k) ?_
        refine own_go (fun _ k => XS.l2dS X42.here hx rfl (hb hby at_184) rfl rfl k) ?_
        refine own_go (fun _ k => XS.dcmpS X42.here hx rfl (hb hby at_185) rfl (rfl) k) ?_
        refine own_go (fun _ k => XS.ifNo X42.here hx rfl (hb hby at_186) rfl ((if0 _ _).trans (flt (own_k2b ww mm qq rr a1.1 a1.2 a2.1 a2.2 hqq hrr : ¬ ((0 : Int32) < (cmpValue (FP.dcmp (FP.ddiv (FP.l2d ww) (FP.l2d mm)) (FP.l2d (qq + (1 : Int64)))) .g)))).2.2.1) k) ?_
        show own_Run p e below _ T42 (mkF m 189 #[.val (.long p1), .second, .val (.long p2), .second, .val (.int p3), .val (.int xk), .val (.long ww), .second, .val (.long mm), .second, .val (.long qq), .second, .val (.long rr), .second, .val (.double (FP.ddiv (FP.l2d ww) (FP.l2d mm))), .second, .unset, .unset] [])
        refine own_go (fun _ k => XS.iconst X42.here hx rfl (hb hby at_189) k) ?_
        refine own_go (fun _ k => XS.goto X42.here hx rfl (pc0 := 190) (pc' := 194) rfl (hb hby at_190) (by decide) (by decide) k) ?_
        refine own_go (fun _ k => XS.istore X42.here hx rfl (hb hby at_194) rfl (l' := #[.val (.long p1), .second, .val (.long p2), .second, .val (.int p3), .val (.int xk), .val (.long ww), .second, .val (.long mm), .second, .val (.long qq), .second, .val (.long rr), .second, .val (.double (FP.ddiv (FP.l2d ww) (FP.l2d mm))), .second, .val (.int (1 : Int32)), .unset]) rfl k) ?_
        refine own_go (fun _ k => XS.lload X42.here hx rfl (hb hby at_196) rfl k) ?_
        refine own_go (fun _ k => XS.lconst X42.here hx rfl (hb hby at_198) k) ?_
        show own_Run p e below _ T42 (mkF m 199 #[.val (.long p1), .second, .val (.long p2), .second, .val (.int p3), .val (.int xk), .val (.long ww), .second, .val (.long mm), .second, .val (.long qq), .second, .val (.long rr), .second, .val (.double (FP.ddiv (FP.l2d ww) (FP.l2d mm))), .second, .val (.int (1 : Int32)), .unset] [(.long (0 : Int64)), (.long rr)])
        refine own_go (fun _ k => XS.lcmp X42.here hx rfl (hb hby at_199) rfl k) ?_
        by_cases hc200_43 : rr = (0 : Int64)
        · refine own_go (fun _ k => XS.ifNo X42.here hx rfl (hb hby at_200) rfl (own_lcTe hc200_43).2 k) ?_
          refine own_go (fun _ k => XS.dload X42.here hx rfl (hb hby at_203) rfl k) ?_
          refine own_go (fun _ k => XS.lload X42.here hx rfl (hb hby at_205) rfl k) ?_
          refine own_go (fun _ k => XS.l2dS X42.here hx rfl (hb hby at_207) rfl rfl k) ?_
          show own_Run p e below _ T42 (mkF m 208 #[.val (.long p1), .second, .val (.long p2), .second, .val (.int p3), .val (.int xk), .val (.long ww), .second, .val (.long mm), .second, .val (.long qq), .second, .val (.long rr), .second, .val (.double (FP.ddiv (FP.l2d ww) (FP.l2d mm))), .second, .val (.int (1 : Int32)), .unset] [(.double (FP.l2d qq)), (.double (FP.ddiv (FP.l2d ww) (FP.l2d mm)))])
          refine own_go (fun _ k => XS.dcmpS X42.here hx rfl (hb hby at_208) rfl (own_k2c ww mm qq rr a1.1 a1.2 a2.1 a2.2 hqq hrr hc200_43) k) ?_
          refine own_go (fun _ k => XS.ifNo X42.here hx rfl (hb hby at_209) rfl ((if0 _ _).trans (teq (by decide : (0 : Int32) = (0 : Int32))).2) k) ?_
          refine own_go (fun _ k => XS.iconst X42.here hx rfl (hb hby at_212) k) ?_
          refine own_go (fun _ k => XS.goto X42.here hx rfl (pc0 := 213) (pc' := 217) rfl (hb hby at_213) (by decide) (by decide) k) ?_
          refine own_go (fun _ k => XS.istore X42.here hx rfl (hb hby at_217) rfl (l' := #[.val (.long p1), .second, .val (.long p2), .second, .val (.int p3), .val (.int xk), .val (.long ww), .second, .val (.long mm), .second, .val (.long qq), .second, .val (.long rr), .second, .val (.double (FP.ddiv (FP.l2d ww) (FP.l2d mm))), .second, .val (.int (1 : Int32)), .val (.int (1 : Int32))]) rfl k) ?_
          show own_Run p e below _ T42 (mkF m 219 #[.val (.long p1), .second, .val (.long p2), .second, .val (.int p3), .val (.int xk), .val (.long ww), .second, .val (.long mm), .second, .val (.long qq), .second, .val (.long rr), .second, .val (.double (FP.ddiv (FP.l2d ww) (FP.l2d mm))), .second, .val (.int (1 : Int32)), .val (.int (1 : Int32))] [])
          refine own_go (fun _ k => XS.iload X42.here hx rfl (hb hby at_219) rfl k) ?_
          refine own_go (fun _ k => XS.ifNo X42.here hx rfl (hb hby at_221) rfl ((if0 _ _).trans (feq (by decide : ¬ ((1 : Int32) = (0 : Int32)))).1) k) ?_
          refine own_go (fun _ k => XS.iload X42.here hx rfl (hb hby at_224) rfl k) ?_
          refine own_go (fun _ k => XS.ifNo X42.here hx rfl (hb hby at_226) rfl ((if0 _ _).trans (feq (by decide : ¬ ((1 : Int32) = (0 : Int32)))).1) k) ?_
          refine own_go (fun _ k => XS.iconst X42.here hx rfl (hb hby at_229) k) ?_
          show own_Run p e below _ T42 (mkF m 230 #[.val (.long p1), .second, .val (.long p2), .second, .val (.int p3), .val (.int xk), .val (.long ww), .second, .val (.long mm), .second, .val (.long qq), .second, .val (.long rr), .second, .val (.double (FP.ddiv (FP.l2d ww) (FP.l2d mm))), .second, .val (.int (1 : Int32)), .val (.int (1 : Int32))] [(.int (1 : Int32))])
          refine own_go (fun _ k => XS.goto X42.here hx rfl (pc0 := 230) (pc' := 234) rfl (hb hby at_230) (by decide) (by decide) k) ?_
          refine own_done (Q := fun v h L => Q0 Z p1 p2 p3 h0 n0 v h L) (v := (some (.int (1 : Int32)))) X42 (fun h => by rw [hret] at h; cases h) hlk (fun fs hr => retN X42 hx (t := .boolean) hret (by simp) (hb hby at_234) hr) ?_ (by decide) (by decide)
          show Q0 Z p1 p2 p3 h0 n0 _ T42.heap _
          rw [e42]
          exact ⟨rfl, N42⟩
        · refine own_go (fun _ k => XS.ifYes X42.here hx rfl (pc0 := 200) (pc' := 212) rfl (hb hby at_200) rfl (own_lcFe hc200_43).2 (by decide) (by decide) k) ?_
          refine own_go (fun _ k => XS.iconst X42.here hx rfl (hb hby at_212) k) ?_
          refine own_go (fun _ k => XS.goto X42.here hx rfl (pc0 := 213) (pc' := 217) rfl (hb hby at_213) (by decide) (by decide) k) ?_
          refine own_go (fun _ k => XS.istore X42.here hx rfl (hb hby at_217) rfl (l' := #[.val (.long p1), .second, .val (.long p2), .second, .val (.int p3), .val (.int xk), .val (.long ww), .second, .val (.long mm), .second, .val (.long qq), .second, .val (.long rr), .second, .val (.double (FP.ddiv (FP.l2d ww) (FP.l2d mm))), .second, .val (.int (1 : Int32)), .val (.int (1 : Int32))]) rfl k) ?_
          show own_Run p e below _ T42 (mkF m 219 #[.val (.long p1), .second, .val (.long p2), .second, .val (.int p3), .val (.int xk), .val (.long ww), .second, .val (.long mm), .second, .val (.long qq), .second, .val (.long rr), .second, .val (.double (FP.ddiv (FP.l2d ww) (FP.l2d mm))), .second, .val (.int (1 : Int32)), .val (.int (1 : Int32))] [])
          refine own_go (fun _ k => XS.iload X42.here hx rfl (hb hby at_219) rfl k) ?_
          refine own_go (fun _ k => XS.ifNo X42.here hx rfl (hb hby at_221) rfl ((if0 _ _).trans (feq (by decide : ¬ ((1 : Int32) = (0 : Int32)))).1) k) ?_
          refine own_go (fun _ k => XS.iload X42.here hx rfl (hb hby at_224) rfl k) ?_
          refine own_go (fun _ k => XS.ifNo X42.here hx rfl (hb hby at_226) rfl ((if0 _ _).trans (feq (by decide : ¬ ((1 : Int32) = (0 : Int32)))).1) k) ?_
          refine own_go (fun _ k => XS.iconst X42.here hx rfl (hb hby at_229) k) ?_
          show own_Run p e below _ T42 (mkF m 230 #[.val (.long p1), .second, .val (.long p2), .second, .val (.int p3), .val (.int xk), .val (.long ww), .second, .val (.long mm), .second, .val (.long qq), .second, .val (.long rr), .second, .val (.double (FP.ddiv (FP.l2d ww) (FP.l2d mm))), .second, .val (.int (1 : Int32)), .val (.int (1 : Int32))] [(.int (1 : Int32))])
          refine own_go (fun _ k => XS.goto X42.here hx rfl (pc0 := 230) (pc' := 234) rfl (hb hby at_230) (by decide) (by decide) k) ?_
          refine own_done (Q := fun v h L => Q0 Z p1 p2 p3 h0 n0 v h L) (v := (some (.int (1 : Int32)))) X42 (fun h => by rw [hret] at h; cases h) hlk (fun fs hr => retN X42 hx (t := .boolean) hret (by simp) (hb hby at_234) hr) ?_ (by decide) (by decide)
          show Q0 Z p1 p2 p3 h0 n0 _ T42.heap _
          rw [e42]
          exact ⟨rfl, N42⟩
      · refine own_go (fun _ k => XS.icmpYes X0.here hx rfl (pc0 := 118) (pc' := 235) rfl (hb hby at_118) rfl (feq hc118_36).2 (by decide) (by decide) k) ?_
        refine own_go (fun _ k => XS.lloadN X0.here hx rfl (hb hby at_235) rfl k) ?_
        show own_Run p e below _ s₁ (mkF m 236 #[.val (.long p1), .second, .val (.long p2), .second, .val (.int p3), .val (.int xk), .unset, .unset, .unset, .unset, .unset, .unset, .unset, .unset, .unset, .unset, .unset, .unset] [(.long p2)])
        refine own_go (fun _ k => XS.lconst X0.here hx rfl (hb hby at_236) k) ?_
        refine own_go (fun _ k => XS.lcmp X0.here hx rfl (hb hby at_237) rfl k) ?_
        by_cases hc238_44 : p2 = (0 : Int64)
        · refine own_go (fun _ k => XS.ifNo X0.here hx rfl (hb hby at_238) rfl (own_lcTe hc238_44).2 k) ?_
          refine own_go (fun _ k => XS.lconst X0.here hx rfl (hb hby at_241) k) ?_
          refine own_go (fun _ k => XS.goto X0.here hx rfl (pc0 := 242) (pc' := 246) rfl (hb hby at_242) (by decide) (by decide) k) ?_
          show own_Run p e below _ s₁ (mkF m 246 #[.val (.long p1), .second, .val (.long p2), .second, .val (.int p3), .val (.int xk), .unset, .unset, .unset, .unset, .unset, .unset, .unset, .unset, .unset, .unset, .unset, .unset] [(.long (1 : Int64))])
          obtain ⟨mm, hmm⟩ : ∃ z, z = (1 : Int64) := ⟨_, rfl⟩
          rw [← hmm]
          have hm : ¬ (mm = (0 : Int64)) := by rw [hmm]; decide
          refine own_go (fun _ k => XS.lstore X0.here hx rfl (hb hby at_246) rfl (l' := #[.val (.long p1), .second, .val (.long p2), .second, .val (.int p3), .val (.int xk), .val (.long mm), .second, .unset, .unset, .unset, .unset, .unset, .unset, .unset, .unset, .unset, .unset]) rfl k) ?_
          obtain ⟨T45, h45, X45, e45, E45, A45, D45, -, st45⟩ := newO X0 hx hZ hown (W 0 rfl) (W 1 rfl) (W 2 rfl) e0 (g := (mkF m 248 #[.val (.long p1), .second, .val (.long p2), .second, .val (.int p3), .val (.int xk), .val (.long mm), .second, .unset, .unset, .unset, .unset, .unset, .unset, .unset, .unset, .unset, .unset] [])) rfl (hb hby at_248) (by decide) (by decide)
          refine own_go st45 ?_
          obtain ⟨b45, g45⟩ : ∃ z, z = h0.size := ⟨_, rfl⟩
          rw [← g45] at A45 D45
          rw [← g45]
          have g_b45 : n0 ≤ b45 := Nat.le_trans Z0 (Nat.le_of_eq g45.symm)
          have sz_b45 : h0.size ≤ b45 := Nat.le_trans K0.1 (Nat.le_of_eq g45.symm)
          have Z0_c46 := Nat.le_trans Z0 E45.1
          have K0_c46 := K0.ext E45
          have F_millis_b45 : Fld Z h45 b45 "com/example/network_analytics_service/networkanalyticsservice/core/sliceload/Levels$InForce" "millis" "J" (.long (0 : Int64)) := D45 (Or.inr (W 15 rfl)) (ty := .long) (by decide)
          have F_weighted_b45 : Fld Z h45 b45 "com/example/network_analytics_service/networkanalyticsservice/core/sliceload/Levels$InForce" "weighted" "J" (.long (0 : Int64)) := D45 (Or.inr (W 17 rfl)) (ty := .long) (by decide)
          refine own_go (fun _ k => XS.dup X45.here hx rfl (hb hby at_251) rfl rfl k) ?_
          refine own_go (fun _ k => XS.lload X45.here hx rfl (hb hby at_252) rfl k) ?_
          refine own_go (fun _ k => XS.lloadN X45.here hx rfl (hb hby at_254) rfl k) ?_
          show own_Run p e below _ T45 (mkF m 255 #[.val (.long p1), .second, .val (.long p2), .second, .val (.int p3), .val (.int xk), .val (.long mm), .second, .unset, .unset, .unset, .unset, .unset, .unset, .unset, .unset, .unset, .unset] [(.long p1), (.long mm), (.ref b45), (.ref b45)])
          obtain ⟨_, _, ⟨T47, L47, k47, n47⟩, -, X47, ⟨Lc47, hQ47, l47, y47, z47⟩, st47⟩ := X45.specialBack hx (y := (⟨"com/example/network_analytics_service/networkanalyticsservice/core/sliceload/Levels$InForce", "<init>", "(JJ)V"⟩ : MethodName)) rfl hown (mvT hZ (W 3 rfl)) (mvT hZ (W 4 rfl)) (mvT hZ (W 5 rfl)) (by decide) (backOf (W := 1) (rm1 l Z a0 hw [] b45 mm p1 (.long (0 : Int64)) (.long (0 : Int64)) h45 n0 Z0_c46 A45 F_millis_b45 F_weighted_b45 g_b45) hZ (W 5 rfl) (W 2 rfl) (by decide) (by decide)) (g := (mkF m 255 #[.val (.long p1), .second, .val (.long p2), .second, .val (.int p3), .val (.int xk), .val (.long mm), .second, .unset, .unset, .unset, .unset, .unset, .unset, .unset, .unset, .unset, .unset] [(.long p1), (.long mm), (.ref b45), (.ref b45)])) rfl (by rw [hml]; rfl) (Steps.refl _) (a := b45) (argsL := [(.long mm), (.long p1)]) (rest := [(.ref b45)]) (lenOf pd_2 rfl) rfl (by show 2 * 0 + _ ≤ _; exact Nat.le_of_eq rfl) (hb hby at_255) (fun _ _ => ⟨rfl, e45, (by decide : 1 + 0 ≤ _), (by decide : 2 + 0 ≤ _)⟩)
          dsimp only [Pt.U, Pt.locs, Pt.cells, Pt.slots] at X47 l47 y47 z47 st47 hQ47
          subst l47 y47 z47
          obtain ⟨rfl, N47q, K47, P47_0, P47_1, P47_2⟩ := hQ47
          have N47 := Fr.app N0 N47q
          refine own_goT st47 ?_
          have Z0_c48 := Nat.le_trans Z0_c46 K47.1
          have K0_c48 := K0_c46.trans K47 (allS (Or.inr sz_b45) all0)
          have A45_c48 := A45.keep K47
          obtain ⟨cq49, kq49, q49a, q49b, q49c⟩ := isOf hZ rfl P47_0
          obtain ⟨_, _, ⟨T49, L49, k49, n49⟩, -, X49, ⟨Lc49, hQ49, l49, y49, z49⟩, st49⟩ := X47.virtualBack hx (y := (⟨"com/example/network_analytics_service/networkanalyticsservice/core/sliceload/Levels$InForce", "mean", "()D"⟩ : MethodName)) (z := (⟨"com/example/network_analytics_service/networkanalyticsservice/core/sliceload/Levels$InForce", "mean", "()D"⟩ : MethodName)) hown (mvT hZ (W 18 rfl)) (mvT hZ (W 19 rfl)) (notFace_of_selects (args := #[]) (mvT hZ (W 21 rfl))) (mvT hZ (W 21 rfl)) (mvT hZ (W 20 rfl)) (by decide) (backOf (W := 0) (rm4 l Z a0 hw [] b45 mm p1 T47.heap n0 Z0_c48 P47_1 P47_2 (hm)) hZ (W 22 rfl) (W 2 rfl) (by decide) (by decide)) q49a q49c (g := (mkF m 258 #[.val (.long p1), .second, .val (.long p2), .second, .val (.int p3), .val (.int xk), .val (.long mm), .second, .unset, .unset, .unset, .unset, .unset, .unset, .unset, .unset, .unset, .unset] [(.ref b45)])) rfl (by rw [hml]; rfl) (Steps.refl _) (argsL := []) (rest := []) (lenOf pd_3 rfl) rfl (by show 2 * 0 + _ ≤ _; exact Nat.le_of_eq rfl) (hb hby at_258) (fun _ _ => ⟨rfl, rfl, (by decide : 1 + 0 ≤ _), (by decide : 2 + 0 ≤ _)⟩)
          dsimp only [Pt.U, Pt.locs, Pt.cells, Pt.slots] at X49 l49 y49 z49 st49 hQ49
          subst l49 y49 z49
          obtain ⟨rfl, N49q, e49⟩ := hQ49
          have N49 := Fr.app N47 N49q
          refine own_goT st49 ?_
          refine own_go (fun _ k => XS.dstore X49.here hx rfl (hb hby at_261) rfl (l' := #[.val (.long p1), .second, .val (.long p2), .second, .val (.int p3), .val (.int xk), .val (.long mm), .second, .val (.double (FP.ddiv (FP.l2d p1) (FP.l2d mm))), .second, .unset, .unset, .unset, .unset, .unset, .unset, .unset, .unset]) rfl k) ?_
          refine own_go (fun _ k => XS.dload X49.here hx rfl (hb hby at_263) rfl k) ?_
          refine own_go (fun _ k => XS.dload X49.here hx rfl (hb hby at_265) rfl k) ?_
          show own_Run p e below _ T49 (mkF m 267 #[.val (.long p1), .second, .val (.long p2), .second, .val (.int p3), .val (.int xk), .val (.long mm), .second, .val (.double (FP.ddiv (FP.l2d p1) (FP.l2d mm))), .second, .unset, .unset, .unset, .unset, .unset, .unset, .unset, .unset] [(.double (FP.ddiv (FP.l2d p1) (FP.l2d mm))), (.double (FP.ddiv (FP.l2d p1) (FP.l2d mm)))])
          refine own_go (fun _ k => XS.dcmpS X49.here hx rfl (hb hby at_267) rfl (own_self p1 mm hm) k) ?_
          refine own_go (fun _ k => XS.ifNo X49.here hx rfl (hb hby at_268) rfl ((if0 _ _).trans (teq (by decide : (0 : Int32) = (0 : Int32))).2) k) ?_
          refine own_go (fun _ k => XS.iconst X49.here hx rfl (hb hby at_271) k) ?_
          refine own_go (fun _ k => XS.goto X49.here hx rfl (pc0 := 272) (pc' := 276) rfl (hb hby at_272) (by decide) (by decide) k) ?_
          refine own_go (fun _ k => XS.istore X49.here hx rfl (hb hby at_276) rfl (l' := #[.val (.long p1), .second, .val (.long p2), .second, .val (.int p3), .val (.int xk), .val (.long mm), .second, .val (.double (FP.ddiv (FP.l2d p1) (FP.l2d mm))), .second, .val (.int (1 : Int32)), .unset, .unset, .unset, .unset, .unset, .unset, .unset]) rfl k) ?_
          show own_Run p e below _ T49 (mkF m 278 #[.val (.long p1), .second, .val (.long p2), .second, .val (.int p3), .val (.int xk), .val (.long mm), .second, .val (.double (FP.ddiv (FP.l2d p1) (FP.l2d mm))), .second, .val (.int (1 : Int32)), .unset, .unset, .unset, .unset, .unset, .unset, .unset] [])
          refine own_go (fun _ k => XS.lloadN X49.here hx rfl (hb hby at_278) rfl k) ?_
          refine own_go (fun _ k => XS.lconst X49.here hx rfl (hb hby at_279) k) ?_
          refine own_go (fun _ k => XS.lcmp X49.here hx rfl (hb hby at_280) rfl k) ?_
          by_cases hc281_50 : p1 = (0 : Int64)
          · refine own_go (fun _ k => XS.ifYes X49.here hx rfl (pc0 := 281) (pc' := 314) rfl (hb hby at_281) rfl (own_lcTe hc281_50).1 (by decide) (by decide) k) ?_
            refine own_go (fun _ k => XS.iconst X49.here hx rfl (hb hby at_314) k) ?_
            show own_Run p e below _ T49 (mkF m 315 #[.val (.long p1), .second, .val (.long p2), .second, .val (.int p3), .val (.int xk), .val (.long mm), .second, .val (.double (FP.ddiv (FP.l2d p1) (FP.l2d mm))), .second, .val (.int (1 : Int32)), .unset, .unset, .unset, .unset, .unset, .unset, .unset] [(.int (0 : Int32))])
            refine own_go (fun _ k => XS.istore X49.here hx rfl (hb hby at_315) rfl (l' := #[.val (.long p1), .second, .val (.long p2), .second, .val (.int p3), .val (.int xk), .val (.long mm), .second, .val (.double (FP.ddiv (FP.l2d p1) (FP.l2d mm))), .second, .val (.int (1 : Int32)), .val (.int (0 : Int32)), .unset, .unset, .unset, .unset, .unset, .unset]) rfl k) ?_
            refine own_go (fun _ k => XS.lloadN X49.here hx rfl (hb hby at_317) rfl k) ?_
            refine own_go (fun _ k => XS.lconst X49.here hx rfl (hb hby at_318) k) ?_
            refine own_go (fun _ k => XS.lcmp X49.here hx rfl (hb hby at_319) rfl k) ?_
            refine own_go (fun _ k => XS.ifYes X49.here hx rfl (pc0 := 320) (pc' := 353) rfl (hb hby at_320) rfl (own_lcTe hc281_50).1 (by decide) (by decide) k) ?_
            show own_Run p e below _ T49 (mkF m 353 #[.val (.long p1), .second, .val (.long p2), .second, .val (.int p3), .val (.int xk), .val (.long mm), .second, .val (.double (FP.ddiv (FP.l2d p1) (FP.l2d mm))), .second, .val (.int (1 : Int32)), .val (.int (0 : Int32)), .unset, .unset, .unset, .unset, .unset, .unset] [])
            refine own_go (fun _ k => XS.iconst X49.here hx rfl (hb hby at_353) k) ?_
            refine own_go (fun _ k => XS.istore X49.here hx rfl (hb hby at_354) rfl (l' := #[.val (.long p1), .second, .val (.long p2), .second, .val (.int p3), .val (.int xk), .val (.long mm), .second, .val (.double (FP.ddiv (FP.l2d p1) (FP.l2d mm))), .second, .val (.int (1 : Int32)), .val (.int (0 : Int32)), .val (.int (0 : Int32)), .unset, .unset, .unset, .unset, .unset]) rfl k) ?_
            refine own_go (fun _ k => XS.iload X49.here hx rfl (hb hby at_356) rfl k) ?_
            refine own_go (fun _ k => XS.ifNo X49.here hx rfl (hb hby at_358) rfl ((if0 _ _).trans (feq (by decide : ¬ ((1 : Int32) = (0 : Int32)))).1) k) ?_
            refine own_go (fun _ k => XS.dload X49.here hx rfl (hb hby at_361) rfl k) ?_
            show own_Run p e below _ T49 (mkF m 363 #[.val (.long p1), .second, .val (.long p2), .second, .val (.int p3), .val (.int xk), .val (.long mm), .second, .val (.double (FP.ddiv (FP.l2d p1) (FP.l2d mm))), .second, .val (.int (1 : Int32)), .val (.int (0 : Int32)), .val (.int (0 : Int32)), .unset, .unset, .unset, .unset, .unset] [(.double (FP.ddiv (FP.l2d p1) (FP.l2d mm)))])
            refine own_go (fun _ k => XS.dconst0 X49.here hx rfl (hb hby at_363) rfl k) ?_
            refine own_go (fun _ k => XS.dcmpS X49.here hx rfl (hb hby at_364) rfl (own_k3z p1 mm hm hc281_50 _) k) ?_
            refine own_go (fun _ k => XS.ifYes X49.here hx rfl (pc0 := 365) (pc' := 372) rfl (hb hby at_365) rfl ((if0 _ _).trans (flt (by decide : ¬ ((0 : Int32) < (0 : Int32)))).2.2.2) (by decide) (by decide) k) ?_
            refine own_go (fun _ k => XS.iconst X49.here hx rfl (hb hby at_372) k) ?_
            refine own_go (fun _ k => XS.iload X49.here hx rfl (hb hby at_373) rfl k) ?_
            show own_Run p e below _ T49 (mkF m 375 #[.val (.long p1), .second, .val (.long p2), .second, .val (.int p3), .val (.int xk), .val (.long mm), .second, .val (.double (FP.ddiv (FP.l2d p1) (FP.l2d mm))), .second, .val (.int (1 : Int32)), .val (.int (0 : Int32)), .val (.int (0 : Int32)), .unset, .unset, .unset, .unset, .unset] [(.int (0 : Int32)), (.int (0 : Int32))])
            refine own_go (fun _ k => XS.icmpNo X49.here hx rfl (hb hby at_375) rfl (teq (by decide : (0 : Int32) = (0 : Int32))).2 k) ?_
            refine own_go (fun _ k => XS.dload X49.here hx rfl (hb hby at_378) rfl k) ?_
            refine own_go (fun _ k => XS.dconst0 X49.here hx rfl (hb hby at_380) rfl k) ?_
            refine own_go (fun _ k => XS.dcmpS X49.here hx rfl (hb hby at_381) rfl (own_k3z p1 mm hm hc281_50 _) k) ?_
            refine own_go (fun _ k => XS.ifYes X49.here hx rfl (pc0 := 382) (pc' := 389) rfl (hb hby at_382) rfl ((if0 _ _).trans (flt (by decide : ¬ ((0 : Int32) < (0 : Int32)))).2.1) (by decide) (by decide) k) ?_
            show own_Run p e below _ T49 (mkF m 389 #[.val (.long p1), .second, .val (.long p2), .second, .val (.int p3), .val (.int xk), .val (.long mm), .second, .val (.double (FP.ddiv (FP.l2d p1) (FP.l2d mm))), .second, .val (.int (1 : Int32)), .val (.int (0 : Int32)), .val (.int (0 : Int32)), .unset, .unset, .unset, .unset, .unset] [])
            refine own_go (fun _ k => XS.iconst X49.here hx rfl (hb hby at_389) k) ?_
            refine own_go (fun _ k => XS.iload X49.here hx rfl (hb hby at_390) rfl k) ?_
            refine own_go (fun _ k => XS.icmpNo X49.here hx rfl (hb hby at_392) rfl (teq (by decide : (0 : Int32) = (0 : Int32))).2 k) ?_
            refine own_go (fun _ k => XS.iconst X49.here hx rfl (hb hby at_395) k) ?_
            refine own_go (fun _ k => XS.goto X49.here hx rfl (pc0 := 396) (pc' := 400) rfl (hb hby at_396) (by decide) (by decide) k) ?_
            show own_Run p e below _ T49 (mkF m 400 #[.val (.long p1), .second, .val (.long p2), .second, .val (.int p3), .val (.int xk), .val (.long mm), .second, .val (.double (FP.ddiv (FP.l2d p1) (FP.l2d mm))), .second, .val (.int (1 : Int32)), .val (.int (0 : Int32)), .val (.int (0 : Int32)), .unset, .unset, .unset, .unset, .unset] [(.int (1 : Int32))])
            refine own_done (Q := fun v h L => Q0 Z p1 p2 p3 h0 n0 v h L) (v := (some (.int (1 : Int32)))) X49 (fun h => by rw [hret] at h; cases h) hlk (fun fs hr => retN X49 hx (t := .boolean) hret (by simp) (hb hby at_400) hr) ?_ (by decide) (by decide)
            show Q0 Z p1 p2 p3 h0 n0 _ T49.heap _
            rw [e49]
            exact ⟨rfl, N49⟩
          · refine own_go (fun _ k => XS.ifNo X49.here hx rfl (hb hby at_281) rfl (own_lcFe hc281_50).1 k) ?_
            refine own_go (fun _ k => XS.lloadN X49.here hx rfl (hb hby at_284) rfl k) ?_
            show own_Run p e below _ T49 (mkF m 285 #[.val (.long p1), .second, .val (.long p2), .second, .val (.int p3), .val (.int xk), .val (.long mm), .second, .val (.double (FP.ddiv (FP.l2d p1) (FP.l2d mm))), .second, .val (.int (1 : Int32)), .unset, .unset, .unset, .unset, .unset, .unset, .unset] [(.long p1)])
            refine own_go (fun _ k => XS.lconst X49.here hx rfl (hb hby at_285) k) ?_
            refine own_go (fun _ k => XS.lcmp X49.here hx rfl (hb hby at_286) rfl k) ?_
            by_cases hc287_51 : (0 : Int64) < p1
            · refine own_go (fun _ k => XS.ifNo X49.here hx rfl (hb hby at_287) rfl (own_lcT hc287_51).2.2.2 k) ?_
              refine own_go (fun _ k => XS.iconst X49.here hx rfl (hb hby at_290) k) ?_
              refine own_go (fun _ k => XS.goto X49.here hx rfl (pc0 := 291) (pc' := 295) rfl (hb hby at_291) (by decide) (by decide) k) ?_
              show own_Run p e below _ T49 (mkF m 295 #[.val (.long p1), .second, .val (.long p2), .second, .val (.int p3), .val (.int xk), .val (.long mm), .second, .val (.double (FP.ddiv (FP.l2d p1) (FP.l2d mm))), .second, .val (.int (1 : Int32)), .unset, .unset, .unset, .unset, .unset, .unset, .unset] [(.int (1 : Int32))])
              refine own_go (fun _ k => XS.lload X49.here hx rfl (hb hby at_295) rfl k) ?_
              refine own_go (fun _ k => XS.lconst X49.here hx rfl (hb hby at_297) k) ?_
              refine own_go (fun _ k => XS.lcmp X49.here hx rfl (hb hby at_298) rfl k) ?_
              by_cases hc299_52 : (0 : Int64) < mm
              · refine own_go (fun _ k => XS.ifNo X49.here hx rfl (hb hby at_299) rfl (own_lcT hc299_52).2.2.2 k) ?_
                refine own_go (fun _ k => XS.iconst X49.here hx rfl (hb hby at_302) k) ?_
                show own_Run p e below _ T49 (mkF m 303 #[.val (.long p1), .second, .val (.long p2), .second, .val (.int p3), .val (.int xk), .val (.long mm), .second, .val (.double (FP.ddiv (FP.l2d p1) (FP.l2d mm))), .second, .val (.int (1 : Int32)), .unset, .unset, .unset, .unset, .unset, .unset, .unset] [(.int (1 : Int32)), (.int (1 : Int32))])
                refine own_go (fun _ k => XS.goto X49.here hx rfl (pc0 := 303) (pc' := 307) rfl (hb hby at_303) (by decide) (by decide) k) ?_
                refine own_go (fun _ k => XS.icmpNo X49.here hx rfl (hb hby at_307) rfl (teq (by decide : (1 : Int32) = (1 : Int32))).2 k) ?_
                refine own_go (fun _ k => XS.iconst X49.here hx rfl (hb hby at_310) k) ?_
                refine own_go (fun _ k => XS.goto X49.here hx rfl (pc0 := 311) (pc' := 315) rfl (hb hby at_311) (by decide) (by decide) k) ?_
                refine own_go (fun _ k => XS.istore X49.here hx rfl (hb hby at_315) rfl (l' := #[.val (.long p1), .second, .val (.long p2), .second, .val (.int p3), .val (.int xk), .val (.long mm), .second, .val (.double (FP.ddiv (FP.l2d p1) (FP.l2d mm))), .second, .val (.int (1 : Int32)), .val (.int (1 : Int32)), .unset, .unset, .unset, .unset, .unset, .unset]) rfl k) ?_
                show own_Run p e below _ T49 (mkF m 317 #[.val (.long p1), .second, .val (.long p2), .second, .val (.int p3), .val (.int xk), .val (.long mm), .second, .val (.double (FP.ddiv (FP.l2d p1) (FP.l2d mm))), .second, .val (.int (1 : Int32)), .val (.int (1 : Int32)), .unset, .unset, .unset, .unset, .unset, .unset] [])
                refine own_go (fun _ k => XS.lloadN X49.here hx rfl (hb hby at_317) rfl k) ?_
                refine own_go (fun _ k => XS.lconst X49.here hx rfl (hb hby at_318) k) ?_
                refine own_go (fun _ k => XS.lcmp X49.here hx rfl (hb hby at_319) rfl k) ?_
                refine own_go (fun _ k => XS.ifNo X49.here hx rfl (hb hby at_320) rfl (own_lcFe hc281_50).1 k) ?_
                refine own_go (fun _ k => XS.lloadN X49.here hx rfl (hb hby at_323) rfl k) ?_
                show own_Run p e below _ T49 (mkF m 324 #[.val (.long p1), .second, .val (.long p2), .second, .val (.int p3), .val (.int xk), .val (.long mm), .second, .val (.double (FP.ddiv (FP.l2d p1) (FP.l2d mm))), .second, .val (.int (1 : Int32)), .val (.int (1 : Int32)), .unset, .unset, .unset, .unset, .unset, .unset] [(.long p1)])
                refine own_go (fun _ k => XS.lconst X49.here hx rfl (hb hby at_324) k) ?_
                refine own_go (fun _ k => XS.lcmp X49.here hx rfl (hb hby at_325) rfl k) ?_
                refine own_go (fun _ k => XS.ifNo X49.here hx rfl (hb hby at_326) rfl (own_lcT hc287_51).2.2.2 k) ?_
                refine own_go (fun _ k => XS.iconst X49.here hx rfl (hb hby at_329) k) ?_
                refine own_go (fun _ k => XS.goto X49.here hx rfl (pc0 := 330) (pc' := 334) rfl (hb hby at_330) (by decide) (by decide) k) ?_
                show own_Run p e below _ T49 (mkF m 334 #[.val (.long p1), .second, .val (.long p2), .second, .val (.int p3), .val (.int xk), .val (.long mm), .second, .val (.double (FP.ddiv (FP.l2d p1) (FP.l2d mm))), .second, .val (.int (1 : Int32)), .val (.int (1 : Int32)), .unset, .unset, .unset, .unset, .unset, .unset] [(.int (1 : Int32))])
                refine own_go (fun _ k => XS.lload X49.here hx rfl (hb hby at_334) rfl k) ?_
                refine own_go (fun _ k => XS.lconst X49.here hx rfl (hb hby at_336) k) ?_
                refine own_go (fun _ k => XS.lcmp X49.here hx rfl (hb hby at_337) rfl k) ?_
                refine own_go (fun _ k => XS.ifNo X49.here hx rfl (hb hby at_338) rfl (own_lcT hc299_52).2.2.2 k) ?_
                refine own_go (fun _ k => XS.iconst X49.here hx rfl (hb hby at_341) k) ?_
                show own_Run p e below _ T49 (mkF m 342 #[.val (.long p1), .second, .val (.long p2), .second, .val (.int p3), .val (.int xk), .val (.long mm), .second, .val (.double (FP.ddiv (FP.l2d p1) (FP.l2d mm))), .second, .val (.int (1 : Int32)), .val (.int (1 : Int32)), .unset, .unset, .unset, .unset, .unset, .unset] [(.int (1 : Int32)), (.int (1 : Int32))])
                refine own_go (fun _ k => XS.goto X49.here hx rfl (pc0 := 342) (pc' := 346) rfl (hb hby at_342) (by decide) (by decide) k) ?_
                refine own_go (fun _ k => XS.icmpYes X49.here hx rfl (pc0 := 346) (pc' := 353) rfl (hb hby at_346) rfl (teq (by decide : (1 : Int32) = (1 : Int32))).1 (by decide) (by decide) k) ?_
                refine own_go (fun _ k => XS.iconst X49.here hx rfl (hb hby at_353) k) ?_
                refine own_go (fun _ k => XS.istore X49.here hx rfl (hb hby at_354) rfl (l' := #[.val (.long p1), .second, .val (.long p2), .second, .val (.int p3), .val (.int xk), .val (.long mm), .second, .val (.double (FP.ddiv (FP.l2d p1) (FP.l2d mm))), .second, .val (.int (1 : Int32)), .val (.int (1 : Int32)), .val (.int (0 : Int32)), .unset, .unset, .unset, .unset, .unset]) rfl k) ?_
                refine own_go (fun _ k => XS.iload X49.here hx rfl (hb hby at_356) rfl k) ?_
                show own_Run p e below _ T49 (mkF m 358 #[.val (.long p1), .second, .val (.long p2), .second, .val (.int p3), .val (.int xk), .val (.long mm), .second, .val (.double (FP.ddiv (FP.l2d p1) (FP.l2d mm))), .second, .val (.int (1 : Int32)), .val (.int (1 : Int32)), .val (.int (0 : Int32)), .unset, .unset, .unset, .unset, .unset] [(.int (1 : Int32))])
                refine own_go (fun _ k => XS.ifNo X49.here hx rfl (hb hby at_358) rfl ((if0 _ _).trans (feq (by decide : ¬ ((1 : Int32) = (0 : Int32)))).1) k) ?_
                refine own_go (fun _ k => XS.dload X49.here hx rfl (hb hby at_361) rfl k) ?_
                refine own_go (fun _ k => XS.dconst0 X49.here hx rfl (hb hby at_363) rfl k) ?_
                refine own_go (fun _ k => XS.dcmpS X49.here hx rfl (hb hby at_364) rfl (own_k3s p1 mm hm hc281_50 (iff_of_true hc287_51 hc299_52) _) k) ?_
                refine own_go (fun _ k => XS.ifNo X49.here hx rfl (hb hby at_365) rfl ((if0 _ _).trans (tlt (by decide : (0 : Int32) < (1 : Int32))).2.2.2) k) ?_
                show own_Run p e below _ T49 (mkF m 368 #[.val (.long p1), .second, .val (.long p2), .second, .val (.int p3), .val (.int xk), .val (.long mm), .second, .val (.double (FP.ddiv (FP.l2d p1) (FP.l2d mm))), .second, .val (.int (1 : Int32)), .val (.int (1 : Int32)), .val (.int (0 : Int32)), .unset, .unset, .unset, .unset, .unset] [])
                refine own_go (fun _ k => XS.iconst X49.here hx rfl (hb hby at_368) k) ?_
                refine own_go (fun _ k => XS.goto X49.here hx rfl (pc0 := 369) (pc' := 373) rfl (hb hby at_369) (by decide) (by decide) k) ?_
                refine own_go (fun _ k => XS.iload X49.here hx rfl (hb hby at_373) rfl k) ?_
                refine own_go (fun _ k => XS.icmpNo X49.here hx rfl (hb hby at_375) rfl (teq (by decide : (1 : Int32) = (1 : Int32))).2 k) ?_
                refine own_go (fun _ k => XS.dload X49.here hx rfl (hb hby at_378) rfl k) ?_
                show own_Run p e below _ T49 (mkF m 380 #[.val (.long p1), .second, .val (.long p2), .second, .val (.int p3), .val (.int xk), .val (.long mm), .second, .val (.double (FP.ddiv (FP.l2d p1) (FP.l2d mm))), .second, .val (.int (1 : Int32)), .val (.int (1 : Int32)), .val (.int (0 : Int32)), .unset, .unset, .unset, .unset, .unset] [(.double (FP.ddiv (FP.l2d p1) (FP.l2d mm)))])
                refine own_go (fun _ k => XS.dconst0 X49.here hx rfl (hb hby at_380) rfl k) ?_
                refine own_go (fun _ k => XS.dcmpS X49.here hx rfl (hb hby at_381) rfl (own_k3s p1 mm hm hc281_50 (iff_of_true hc287_51 hc299_52) _) k) ?_
                refine own_go (fun _ k => XS.ifYes X49.here hx rfl (pc0 := 382) (pc' := 389) rfl (hb hby at_382) rfl ((if0 _ _).trans (flt (by decide : ¬ ((1 : Int32) < (0 : Int32)))).2.1) (by decide) (by decide) k) ?_
                refine own_go (fun _ k => XS.iconst X49.here hx rfl (hb hby at_389) k) ?_
                refine own_go (fun _ k => XS.iload X49.here hx rfl (hb hby at_390) rfl k) ?_
                show own_Run p e below _ T49 (mkF m 392 #[.val (.long p1), .second, .val (.long p2), .second, .val (.int p3), .val (.int xk), .val (.long mm), .second, .val (.double (FP.ddiv (FP.l2d p1) (FP.l2d mm))), .second, .val (.int (1 : Int32)), .val (.int (1 : Int32)), .val (.int (0 : Int32)), .unset, .unset, .unset, .unset, .unset] [(.int (0 : Int32)), (.int (0 : Int32))])
                refine own_go (fun _ k => XS.icmpNo X49.here hx rfl (hb hby at_392) rfl (teq (by decide : (0 : Int32) = (0 : Int32))).2 k) ?_
                refine own_go (fun _ k => XS.iconst X49.here hx rfl (hb hby at_395) k) ?_
                refine own_go (fun _ k => XS.goto X49.here hx rfl (pc0 := 396) (pc' := 400) rfl (hb hby at_396) (by decide) (by decide) k) ?_
                refine own_done (Q := fun v h L => Q0 Z p1 p2 p3 h0 n0 v h L) (v := (some (.int (1 : Int32)))) X49 (fun h => by rw [hret] at h; cases h) hlk (fun fs hr => retN X49 hx (t := .boolean) hret (by simp) (hb hby at_400) hr) ?_ (by decide) (by decide)
                show Q0 Z p1 p2 p3 h0 n0 _ T49.heap _
                rw [e49]
                exact ⟨rfl, N49⟩
              · refine own_go (fun _ k => XS.ifYes X49.here hx rfl (pc0 := 299) (pc' := 306) rfl (hb hby at_299) rfl (own_lcF hc299_52).2.2.2 (by decide) (by decide) k) ?_
                refine own_go (fun _ k => XS.iconst X49.here hx rfl (hb hby at_306) k) ?_
                show own_Run p e below _ T49 (mkF m 307 #[.val (.long p1), .second, .val (.long p2), .second, .val (.int p3), .val (.int xk), .val (.long mm), .second, .val (.double (FP.ddiv (FP.l2d p1) (FP.l2d mm))), .second, .val (.int (1 : Int32)), .unset, .unset, .unset, .unset, .unset, .unset, .unset] [(.int (0 : Int32)), (.int (1 : Int32))])
                refine own_go (fun _ k => XS.icmpYes X49.here hx rfl (pc0 := 307) (pc' := 314) rfl (hb hby at_307) rfl (feq (by decide : ¬ ((1 : Int32) = (0 : Int32)))).2 (by decide) (by decide) k) ?_
                refine own_go (fun _ k => XS.iconst X49.here hx rfl (hb hby at_314) k) ?_
                refine own_go (fun _ k => XS.istore X49.here hx rfl (hb hby at_315) rfl (l' := #[.val (.long p1), .second, .val (.long p2), .second, .val (.int p3), .val (.int xk), .val (.long mm), .second, .val (.double (FP.ddiv (FP.l2d p1) (FP.l2d mm))), .second, .val (.int (1 : Int32)), .val (.int (0 : Int32)), .unset, .unset, .unset, .unset, .unset, .unset]) rfl k) ?_
                refine own_go (fun _ k => XS.lloadN X49.here hx rfl (hb hby at_317) rfl k) ?_
                refine own_go (fun _ k => XS.lconst X49.here hx rfl (hb hby at_318) k) ?_
                show own_Run p e below _ T49 (mkF m 319 #[.val (.long p1), .second, .val (.long p2), .second, .val (.int p3), .val (.int xk), .val (.long mm), .second, .val (.double (FP.ddiv (FP.l2d p1) (FP.l2d mm))), .second, .val (.int (1 : Int32)), .val (.int (0 : Int32)), .unset, .unset, .unset, .unset, .unset, .unset] [(.long (0 : Int64)), (.long p1)])
                refine own_go (fun _ k => XS.lcmp X49.here hx rfl (hb hby at_319) rfl k) ?_
                refine own_go (fun _ k => XS.ifNo X49.here hx rfl (hb hby at_320) rfl (own_lcFe hc281_50).1 k) ?_
                refine own_go (fun _ k => XS.lloadN X49.here hx rfl (hb hby at_323) rfl k) ?_
                refine own_go (fun _ k => XS.lconst X49.here hx rfl (hb hby at_324) k) ?_
                refine own_go (fun _ k => XS.lcmp X49.here hx rfl (hb hby at_325) rfl k) ?_
                show own_Run p e below _ T49 (mkF m 326 #[.val (.long p1), .second, .val (.long p2), .second, .val (.int p3), .val (.int xk), .val (.long mm), .second, .val (.double (FP.ddiv (FP.l2d p1) (FP.l2d mm))), .second, .val (.int (1 : Int32)), .val (.int (0 : Int32)), .unset, .unset, .unset, .unset, .unset, .unset] [(.int (lcmpW p1 (0 : Int64)))])
                refine own_go (fun _ k => XS.ifNo X49.here hx rfl (hb hby at_326) rfl (own_lcT hc287_51).2.2.2 k) ?_
                refine own_go (fun _ k => XS.iconst X49.here hx rfl (hb hby at_329) k) ?_
                refine own_go (fun _ k => XS.goto X49.here hx rfl (pc0 := 330) (pc' := 334) rfl (hb hby at_330) (by decide) (by decide) k) ?_
                refine own_go (fun _ k => XS.lload X49.here hx rfl (hb hby at_334) rfl k) ?_
                refine own_go (fun _ k => XS.lconst X49.here hx rfl (hb hby at_336) k) ?_
                show own_Run p e below _ T49 (mkF m 337 #[.val (.long p1), .second, .val (.long p2), .second, .val (.int p3), .val (.int xk), .val (.long mm), .second, .val (.double (FP.ddiv (FP.l2d p1) (FP.l2d mm))), .second, .val (.int (1 : Int32)), .val (.int (0 : Int32)), .unset, .unset, .unset, .unset, .unset, .unset] [(.long (0 : Int64)), (.long mm), (.int (1 : Int32))])
                refine own_go (fun _ k => XS.lcmp X49.here hx rfl (hb hby at_337) rfl k) ?_
                refine own_go (fun _ k => XS.ifYes X49.here hx rfl (pc0 := 338) (pc' := 345) rfl (hb hby at_338) rfl (own_lcF hc299_52).2.2.2 (by decide) (by decide) k) ?_
                refine own_go (fun _ k => XS.iconst X49.here hx rfl (hb hby at_345) k) ?_
                refine own_go (fun _ k => XS.icmpNo X49.here hx rfl (hb hby at_346) rfl (feq (by decide : ¬ ((1 : Int32) = (0 : Int32)))).1 k) ?_
                refine own_go (fun _ k => XS.iconst X49.here hx rfl (hb hby at_349) k) ?_
                show own_Run p e below _ T49 (mkF m 350 #[.val (.long p1), .second, .val (.long p2), .second, .val (.int p3), .val (.int xk), .val (.long mm), .second, .val (.double (FP.ddiv (FP.l2d p1) (FP.l2d mm))), .second, .val (.int (1 : Int32)), .val (.int (0 : Int32)), .unset, .unset, .unset, .unset, .unset, .unset] [(.int (1 : Int32))])
                refine own_go (fun _ k => XS.goto X49.here hx rfl (pc0 := 350) (pc' := 354) rfl (hb hby at_350) (by decide) (by decide) k) ?_
                refine own_go (fun _ k => XS.istore X49.here hx rfl (hb hby at_354) rfl (l' := #[.val (.long p1), .second, .val (.long p2), .second, .val (.int p3), .val (.int xk), .val (.long mm), .second, .val (.double (FP.ddiv (FP.l2d p1) (FP.l2d mm))), .second, .val (.int (1 : Int32)), .val (.int (0 : Int32)), .val (.int (1 : Int32)), .unset, .unset, .unset, .unset, .unset]) rfl k) ?_
                refine own_go (fun _ k => XS.iload X49.here hx rfl (hb hby at_356) rfl k) ?_
                refine own_go (fun _ k => XS.ifNo X49.here hx rfl (hb hby at_358) rfl ((if0 _ _).trans (feq (by decide : ¬ ((1 : Int32) = (0 : Int32)))).1) k) ?_
                refine own_go (fun _ k => XS.dload X49.here hx rfl (hb hby at_361) rfl k) ?_
                show own_Run p e below _ T49 (mkF m 363 #[.val (.long p1), .second, .val (.long p2), .second, .val (.int p3), .val (.int xk), .val (.long mm), .second, .val (.double (FP.ddiv (FP.l2d p1) (FP.l2d mm))), .second, .val (.int (1 : Int32)), .val (.int (0 : Int32)), .val (.int (1 : Int32)), .unset, .unset, .unset, .unset, .unset] [(.double (FP.ddiv (FP.l2d p1) (FP.l2d mm)))])
                refine own_go (fun _ k => XS.dconst0 X49.here hx rfl (hb hby at_363) rfl k) ?_
                refine own_go (fun _ k => XS.dcmpS X49.here hx rfl (hb hby at_364) rfl (own_k3d p1 mm hm hc281_50 (fun q => hc299_52 (q.mp hc287_51)) _) k) ?_
                refine own_go (fun _ k => XS.ifYes X49.here hx rfl (pc0 := 365) (pc' := 372) rfl (hb hby at_365) rfl ((if0 _ _).trans (flt (by decide : ¬ ((0 : Int32) < (-1 : Int32)))).2.2.2) (by decide) (by decide) k) ?_
                refine own_go (fun _ k => XS.iconst X49.here hx rfl (hb hby at_372) k) ?_
                refine own_go (fun _ k => XS.iload X49.here hx rfl (hb hby at_373) rfl k) ?_
                show own_Run p e below _ T49 (mkF m 375 #[.val (.long p1), .second, .val (.long p2), .second, .val (.int p3), .val (.int xk), .val (.long mm), .second, .val (.double (FP.ddiv (FP.l2d p1) (FP.l2d mm))), .second, .val (.int (1 : Int32)), .val (.int (0 : Int32)), .val (.int (1 : Int32)), .unset, .unset, .unset, .unset, .unset] [(.int (0 : Int32)), (.int (0 : Int32))])
                refine own_go (fun _ k => XS.icmpNo X49.here hx rfl (hb hby at_375) rfl (teq (by decide : (0 : Int32) = (0 : Int32))).2 k) ?_
                refine own_go (fun _ k => XS.dload X49.here hx rfl (hb hby at_378) rfl k) ?_
                refine own_go (fun _ k => XS.dconst0 X49.here hx rfl (hb hby at_380) rfl k) ?_
                refine own_go (fun _ k => XS.dcmpS X49.here hx rfl (hb hby at_381) rfl (own_k3d p1 mm hm hc281_50 (fun q => hc299_52 (q.mp hc287_51)) _) k) ?_
                refine own_go (fun _ k => XS.ifNo X49.here hx rfl (hb hby at_382) rfl ((if0 _ _).trans (tlt (by decide : (-1 : Int32) < (0 : Int32))).2.1) k) ?_
                show own_Run p e below _ T49 (mkF m 385 #[.val (.long p1), .second, .val (.long p2), .second, .val (.int p3), .val (.int xk), .val (.long mm), .second, .val (.double (FP.ddiv (FP.l2d p1) (FP.l2d mm))), .second, .val (.int (1 : Int32)), .val (.int (0 : Int32)), .val (.int (1 : Int32)), .unset, .unset, .unset, .unset, .unset] [])
                refine own_go (fun _ k => XS.iconst X49.here hx rfl (hb hby at_385) k) ?_
                refine own_go (fun _ k => XS.goto X49.here hx rfl (pc0 := 386) (pc' := 390) rfl (hb hby at_386) (by decide) (by decide) k) ?_
                refine own_go (fun _ k => XS.iload X49.here hx rfl (hb hby at_390) rfl k) ?_
                refine own_go (fun _ k => XS.icmpNo X49.here hx rfl (hb hby at_392) rfl (teq (by decide : (1 : Int32) = (1 : Int32))).2 k) ?_
                refine own_go (fun _ k => XS.iconst X49.here hx rfl (hb hby at_395) k) ?_
                show own_Run p e below _ T49 (mkF m 396 #[.val (.long p1), .second, .val (.long p2), .second, .val (.int p3), .val (.int xk), .val (.long mm), .second, .val (.double (FP.ddiv (FP.l2d p1) (FP.l2d mm))), .second, .val (.int (1 : Int32)), .val (.int (0 : Int32)), .val (.int (1 : Int32)), .unset, .unset, .unset, .unset, .unset] [(.int (1 : Int32))])
                refine own_go (fun _ k => XS.goto X49.here hx rfl (pc0 := 396) (pc' := 400) rfl (hb hby at_396) (by decide) (by decide) k) ?_
                refine own_done (Q := fun v h L => Q0 Z p1 p2 p3 h0 n0 v h L) (v := (some (.int (1 : Int32)))) X49 (fun h => by rw [hret] at h; cases h) hlk (fun fs hr => retN X49 hx (t := .boolean) hret (by simp) (hb hby at_400) hr) ?_ (by decide) (by decide)
                show Q0 Z p1 p2 p3 h0 n0 _ T49.heap _
                rw [e49]
                exact ⟨rfl, N49⟩
            · refine own_go (fun _ k => XS.ifYes X49.here hx rfl (pc0 := 287) (pc' := 294) rfl (hb hby at_287) rfl (own_lcF hc287_51).2.2.2 (by decide) (by decide) k) ?_
              refine own_go (fun _ k => XS.iconst X49.here hx rfl (hb hby at_294) k) ?_
              refine own_go (fun _ k => XS.lload X49.here hx rfl (hb hby at_295) rfl k) ?_
              show own_Run p e below _ T49 (mkF m 297 #[.val (.long p1), .second, .val (.long p2), .second, .val (.int p3), .val (.int xk), .val (.long mm), .second, .val (.double (FP.ddiv (FP.l2d p1) (FP.l2d mm))), .second, .val (.int (1 : Int32)), .unset, .unset, .unset, .unset, .unset, .unset, .unset] [(.long mm), (.int (0 : Int32))])
              refine own_go (fun _ k => XS.lconst X49.here hx rfl (hb hby at_297) k) ?_
              refine own_go (fun _ k => XS.lcmp X49.here hx rfl (hb hby at_298) rfl k) ?_
              by_cases hc299_53 : (0 : Int64) < mm
              · refine own_go (fun _ k => XS.ifNo X49.here hx rfl (hb hby at_299) rfl (own_lcT hc299_53).2.2.2 k) ?_
                refine own_go (fun _ k => XS.iconst X49.here hx rfl (hb hby at_302) k) ?_
                refine own_go (fun _ k => XS.goto X49.here hx rfl (pc0 := 303) (pc' := 307) rfl (hb hby at_303) (by decide) (by decide) k) ?_
                show own_Run p e below _ T49 (mkF m 307 #[.val (.long p1), .second, .val (.long p2), .second, .val (.int p3), .val (.int xk), .val (.long mm), .second, .val (.double (FP.ddiv (FP.l2d p1) (FP.l2d mm))), .second, .val (.int (1 : Int32)), .unset, .unset, .unset, .unset, .unset, .unset, .unset] [(.int (1 : Int32)), (.int (0 : Int32))])
                refine own_go (fun _ k => XS.icmpYes X49.here hx rfl (pc0 := 307) (pc' := 314) rfl (hb hby at_307) rfl (feq (by decide : ¬ ((0 : Int32) = (1 : Int32)))).2 (by decide) (by decide) k) ?_
                refine own_go (fun _ k => XS.iconst X49.here hx rfl (hb hby at_314) k) ?_
                refine own_go (fun _ k => XS.istore X49.here hx rfl (hb hby at_315) rfl (l' := #[.val (.long p1), .second, .val (.long p2), .second, .val (.int p3), .val (.int xk), .val (.long mm), .second, .val (.double (FP.ddiv (FP.l2d p1) (FP.l2d mm))), .second, .val (.int (1 : Int32)), .val (.int (0 : Int32)), .unset, .unset, .unset, .unset, .unset, .unset]) rfl k) ?_
                refine own_go (fun _ k => XS.lloadN X49.here hx rfl (hb hby at_317) rfl k) ?_
                refine own_go (fun _ k => XS.lconst X49.here hx rfl (hb hby at_318) k) ?_
                show own_Run p e below _ T49 (mkF m 319 #[.val (.long p1), .second, .val (.long p2), .second, .val (.int p3), .val (.int xk), .val (.long mm), .second, .val (.double (FP.ddiv (FP.l2d p1) (FP.l2d mm))), .second, .val (.int (1 : Int32)), .val (.int (0 : Int32)), .unset, .unset, .unset, .unset, .unset, .unset] [(.long (0 : Int64)), (.long p1)])
                refine own_go (fun _ k => XS.lcmp X49.here hx rfl (hb hby at_319) rfl k) ?_
                refine own_go (fun _ k => XS.ifNo X49.here hx rfl (hb hby at_320) rfl (own_lcFe hc281_50).1 k) ?_
                refine own_go (fun _ k => XS.lloadN X49.here hx rfl (hb hby at_323) rfl k) ?_
                refine own_go (fun _ k => XS.lconst X49.here hx rfl (hb hby at_324) k) ?_
                refine own_go (fun _ k => XS.lcmp X49.here hx rfl (hb hby at_325) rfl k) ?_
                show own_Run p e below _ T49 (mkF m 326 #[.val (.long p1), .second, .val (.long p2), .second, .val (.int p3), .val (.int xk), .val (.long mm), .second, .val (.double (FP.ddiv (FP.l2d p1) (FP.l2d mm))), .second, .val (.int (1 : Int32)), .val (.int (0 : Int32)), .unset, .unset, .unset, .unset, .unset, .unset] [(.int (lcmpW p1 (0 : Int64)))])
                refine own_go (fun _ k => XS.ifYes X49.here hx rfl (pc0 := 326) (pc' := 333) rfl (hb hby at_326) rfl (own_lcF hc287_51).2.2.2 (by decide) (by decide) k) ?_
                refine own_go (fun _ k => XS.iconst X49.here hx rfl (hb hby at_333) k) ?_
                refine own_go (fun _ k => XS.lload X49.here hx rfl (hb hby at_334) rfl k) ?_
                refine own_go (fun _ k => XS.lconst X49.here hx rfl (hb hby at_336) k) ?_
                refine own_go (fun _ k => XS.lcmp X49.here hx rfl (hb hby at_337) rfl k) ?_
                show own_Run p e below _ T49 (mkF m 338 #[.val (.long p1), .second, .val (.long p2), .second, .val (.int p3), .val (.int xk), .val (.long mm), .second, .val (.double (FP.ddiv (FP.l2d p1) (FP.l2d mm))), .second, .val (.int (1 : Int32)), .val (.int (0 : Int32)), .unset, .unset, .unset, .unset, .unset, .unset] [(.int (lcmpW mm (0 : Int64))), (.int (0 : Int32))])
                refine own_go (fun _ k => XS.ifNo X49.here hx rfl (hb hby at_338) rfl (own_lcT hc299_53).2.2.2 k) ?_
                refine own_go (fun _ k => XS.iconst X49.here hx rfl (hb hby at_341) k) ?_
                refine own_go (fun _ k => XS.goto X49.here hx rfl (pc0 := 342) (pc' := 346) rfl (hb hby at_342) (by decide) (by decide) k) ?_
                refine own_go (fun _ k => XS.icmpNo X49.here hx rfl (hb hby at_346) rfl (feq (by decide : ¬ ((0 : Int32) = (1 : Int32)))).1 k) ?_
                refine own_go (fun _ k => XS.iconst X49.here hx rfl (hb hby at_349) k) ?_
                show own_Run p e below _ T49 (mkF m 350 #[.val (.long p1), .second, .val (.long p2), .second, .val (.int p3), .val (.int xk), .val (.long mm), .second, .val (.double (FP.ddiv (FP.l2d p1) (FP.l2d mm))), .second, .val (.int (1 : Int32)), .val (.int (0 : Int32)), .unset, .unset, .unset, .unset, .unset, .unset] [(.int (1 : Int32))])
                refine own_go (fun _ k => XS.goto X49.here hx rfl (pc0 := 350) (pc' := 354) rfl (hb hby at_350) (by decide) (by decide) k) ?_
                refine own_go (fun _ k => XS.istore X49.here hx rfl (hb hby at_354) rfl (l' := #[.val (.long p1), .second, .val (.long p2), .second, .val (.int p3), .val (.int xk), .val (.long mm), .second, .val (.double (FP.ddiv (FP.l2d p1) (FP.l2d mm))), .second, .val (.int (1 : Int32)), .val (.int (0 : Int32)), .val (.int (1 : Int32)), .unset, .unset, .unset, .unset, .unset]) rfl k) ?_
                refine own_go (fun _ k => XS.iload X49.here hx rfl (hb hby at_356) rfl k) ?_
                refine own_go (fun _ k => XS.ifNo X49.here hx rfl (hb hby at_358) rfl ((if0 _ _).trans (feq (by decide : ¬ ((1 : Int32) = (0 : Int32)))).1) k) ?_
                refine own_go (fun _ k => XS.dload X49.here hx rfl (hb hby at_361) rfl k) ?_
                show own_Run p e below _ T49 (mkF m 363 #[.val (.long p1), .second, .val (.long p2), .second, .val (.int p3), .val (.int xk), .val (.long mm), .second, .val (.double (FP.ddiv (FP.l2d p1) (FP.l2d mm))), .second, .val (.int (1 : Int32)), .val (.int (0 : Int32)), .val (.int (1 : Int32)), .unset, .unset, .unset, .unset, .unset] [(.double (FP.ddiv (FP.l2d p1) (FP.l2d mm)))])
                refine own_go (fun _ k => XS.dconst0 X49.here hx rfl (hb hby at_363) rfl k) ?_
                refine own_go (fun _ k => XS.dcmpS X49.here hx rfl (hb hby at_364) rfl (own_k3d p1 mm hm hc281_50 (fun q => hc287_51 (q.mpr hc299_53)) _) k) ?_
                refine own_go (fun _ k => XS.ifYes X49.here hx rfl (pc0 := 365) (pc' := 372) rfl (hb hby at_365) rfl ((if0 _ _).trans (flt (by decide : ¬ ((0 : Int32) < (-1 : Int32)))).2.2.2) (by decide) (by decide) k) ?_
                refine own_go (fun _ k => XS.iconst X49.here hx rfl (hb hby at_372) k) ?_
                refine own_go (fun _ k => XS.iload X49.here hx rfl (hb hby at_373) rfl k) ?_
                show own_Run p e below _ T49 (mkF m 375 #[.val (.long p1), .second, .val (.long p2), .second, .val (.int p3), .val (.int xk), .val (.long mm), .second, .val (.double (FP.ddiv (FP.l2d p1) (FP.l2d mm))), .second, .val (.int (1 : Int32)), .val (.int (0 : Int32)), .val (.int (1 : Int32)), .unset, .unset, .unset, .unset, .unset] [(.int (0 : Int32)), (.int (0 : Int32))])
                refine own_go (fun _ k => XS.icmpNo X49.here hx rfl (hb hby at_375) rfl (teq (by decide : (0 : Int32) = (0 : Int32))).2 k) ?_
                refine own_go (fun _ k => XS.dload X49.here hx rfl (hb hby at_378) rfl k) ?_
                refine own_go (fun _ k => XS.dconst0 X49.here hx rfl (hb hby at_380) rfl k) ?_
                refine own_go (fun _ k => XS.dcmpS X49.here hx rfl (hb hby at_381) rfl (own_k3d p1 mm hm hc281_50 (fun q => hc287_51 (q.mpr hc299_53)) _) k) ?_
                refine own_go (fun _ k => XS.ifNo X49.here hx rfl (hb hby at_382) rfl ((if0 _ _).trans (tlt (by decide : (-1 : Int32) < (0 : Int32))).2.1) k) ?_
                show own_Run p e below _ T49 (mkF m 385 #[.val (.long p1), .second, .val (.long p2), .second, .val (.int p3), .val (.int xk), .val (.long mm), .second, .val (.double (FP.ddiv (FP.l2d p1) (FP.l2d mm))), .second, .val (.int (1 : Int32)), .val (.int (0 : Int32)), .val (.int (1 : Int32)), .unset, .unset, .unset, .unset, .unset] [])
                refine own_go (fun _ k => XS.iconst X49.here hx rfl (hb hby at_385) k) ?_
                refine own_go (fun _ k => XS.goto X49.here hx rfl (pc0 := 386) (pc' := 390) rfl (hb hby at_386) (by decide) (by decide) k) ?_
                refine own_go (fun _ k => XS.iload X49.here hx rfl (hb hby at_390) rfl k) ?_
                refine own_go (fun _ k => XS.icmpNo X49.here hx rfl (hb hby at_392) rfl (teq (by decide : (1 : Int32) = (1 : Int32))).2 k) ?_
                refine own_go (fun _ k => XS.iconst X49.here hx rfl (hb hby at_395) k) ?_
                show own_Run p e below _ T49 (mkF m 396 #[.val (.long p1), .second, .val (.long p2), .second, .val (.int p3), .val (.int xk), .val (.long mm), .second, .val (.double (FP.ddiv (FP.l2d p1) (FP.l2d mm))), .second, .val (.int (1 : Int32)), .val (.int (0 : Int32)), .val (.int (1 : Int32)), .unset, .unset, .unset, .unset, .unset] [(.int (1 : Int32))])
                refine own_go (fun _ k => XS.goto X49.here hx rfl (pc0 := 396) (pc' := 400) rfl (hb hby at_396) (by decide) (by decide) k) ?_
                refine own_done (Q := fun v h L => Q0 Z p1 p2 p3 h0 n0 v h L) (v := (some (.int (1 : Int32)))) X49 (fun h => by rw [hret] at h; cases h) hlk (fun fs hr => retN X49 hx (t := .boolean) hret (by simp) (hb hby at_400) hr) ?_ (by decide) (by decide)
                show Q0 Z p1 p2 p3 h0 n0 _ T49.heap _
                rw [e49]
                exact ⟨rfl, N49⟩
              · refine own_go (fun _ k => XS.ifYes X49.here hx rfl (pc0 := 299) (pc' := 306) rfl (hb hby at_299) rfl (own_lcF hc299_53).2.2.2 (by decide) (by decide) k) ?_
                refine own_go (fun _ k => XS.iconst X49.here hx rfl (hb hby at_306) k) ?_
                refine own_go (fun _ k => XS.icmpNo X49.here hx rfl (hb hby at_307) rfl (teq (by decide : (0 : Int32) = (0 : Int32))).2 k) ?_
                show own_Run p e below _ T49 (mkF m 310 #[.val (.long p1), .second, .val (.long p2), .second, .val (.int p3), .val (.int xk), .val (.long mm), .second, .val (.double (FP.ddiv (FP.l2d p1) (FP.l2d mm))), .second, .val (.int (1 : Int32)), .unset, .unset, .unset, .unset, .unset, .unset, .unset] [])
                refine own_go (fun _ k => XS.iconst X49.here hx rfl (hb hby at_310) k) ?_
                refine own_go (fun _ k => XS.goto X49.here hx rfl (pc0 := 311) (pc' := 315) rfl (hb hby at_311) (by decide) (by decide) k) ?_
                refine own_go (fun _ k => XS.istore X49.here hx rfl (hb hby at_315) rfl (l' := #[.val (.long p1), .second, .val (.long p2), .second, .val (.int p3), .val (.int xk), .val (.long mm), .second, .val (.double (FP.ddiv (FP.l2d p1) (FP.l2d mm))), .second, .val (.int (1 : Int32)), .val (.int (1 : Int32)), .unset, .unset, .unset, .unset, .unset, .unset]) rfl k) ?_
                refine own_go (fun _ k => XS.lloadN X49.here hx rfl (hb hby at_317) rfl k) ?_
                refine own_go (fun _ k => XS.lconst X49.here hx rfl (hb hby at_318) k) ?_
                show own_Run p e below _ T49 (mkF m 319 #[.val (.long p1), .second, .val (.long p2), .second, .val (.int p3), .val (.int xk), .val (.long mm), .second, .val (.double (FP.ddiv (FP.l2d p1) (FP.l2d mm))), .second, .val (.int (1 : Int32)), .val (.int (1 : Int32)), .unset, .unset, .unset, .unset, .unset, .unset] [(.long (0 : Int64)), (.long p1)])
                refine own_go (fun _ k => XS.lcmp X49.here hx rfl (hb hby at_319) rfl k) ?_
                refine own_go (fun _ k => XS.ifNo X49.here hx rfl (hb hby at_320) rfl (own_lcFe hc281_50).1 k) ?_
                refine own_go (fun _ k => XS.lloadN X49.here hx rfl (hb hby at_323) rfl k) ?_
                refine own_go (fun _ k => XS.lconst X49.here hx rfl (hb hby at_324) k) ?_
                refine own_go (fun _ k => XS.lcmp X49.here hx rfl (hb hby at_325) rfl k) ?_
                show own_Run p e below _ T49 (mkF m 326 #[.val (.long p1), .second, .val (.long p2), .second, .val (.int p3), .val (.int xk), .val (.long mm), .second, .val (.double (FP.ddiv (FP.l2d p1) (FP.l2d mm))), .second, .val (.int (1 : Int32)), .val (.int (1 : Int32)), .unset, .unset, .unset, .unset, .unset, .unset] [(.int (lcmpW p1 (0 : Int64)))])
                refine own_go (fun _ k => XS.ifYes X49.here hx rfl (pc0 := 326) (pc' := 333) rfl (hb hby at_326) rfl (own_lcF hc287_51).2.2.2 (by decide) (by decide) k) ?_
                refine own_go (fun _ k => XS.iconst X49.here hx rfl (hb hby at_333) k) ?_
                refine own_go (fun _ k => XS.lload X49.here hx rfl (hb hby at_334) rfl k) ?_
                refine own_go (fun _ k => XS.lconst X49.here hx rfl (hb hby at_336) k) ?_
                refine own_go (fun _ k => XS.lcmp X49.here hx rfl (hb hby at_337) rfl k) ?_
                show own_Run p e below _ T49 (mkF m 338 #[.val (.long p1), .second, .val (.long p2), .second, .val (.int p3), .val (.int xk), .val (.long mm), .second, .val (.double (FP.ddiv (FP.l2d p1) (FP.l2d mm))), .second, .val (.int (1 : Int32)), .val (.int (1 : Int32)), .unset, .unset, .unset, .unset, .unset, .unset] [(.int (lcmpW mm (0 : Int64))), (.int (0 : Int32))])
                refine own_go (fun _ k => XS.ifYes X49.here hx rfl (pc0 := 338) (pc' := 345) rfl (hb hby at_338) rfl (own_lcF hc299_53).2.2.2 (by decide) (by decide) k) ?_
                refine own_go (fun _ k => XS.iconst X49.here hx rfl (hb hby at_345) k) ?_
                refine own_go (fun _ k => XS.icmpYes X49.here hx rfl (pc0 := 346) (pc' := 353) rfl (hb hby at_346) rfl (teq (by decide : (0 : Int32) = (0 : Int32))).1 (by decide) (by decide) k) ?_
                refine own_go (fun _ k => XS.iconst X49.here hx rfl (hb hby at_353) k) ?_
                refine own_go (fun _ k => XS.istore X49.here hx rfl (hb hby at_354) rfl (l' := #[.val (.long p1), .second, .val (.long p2), .second, .val (.int p3), .val (.int xk), .val (.long mm), .second, .val (.double (FP.ddiv (FP.l2d p1) (FP.l2d mm))), .second, .val (.int (1 : Int32)), .val (.int (1 : Int32)), .val (.int (0 : Int32)), .unset, .unset, .unset, .unset, .unset]) rfl k) ?_
                show own_Run p e below _ T49 (mkF m 356 #[.val (.long p1), .second, .val (.long p2), .second, .val (.int p3), .val (.int xk), .val (.long mm), .second, .val (.double (FP.ddiv (FP.l2d p1) (FP.l2d mm))), .second, .val (.int (1 : Int32)), .val (.int (1 : Int32)), .val (.int (0 : Int32)), .unset, .unset, .unset, .unset, .unset] [])
                refine own_go (fun _ k => XS.iload X49.here hx rfl (hb hby at_356) rfl k) ?_
                refine own_go (fun _ k => XS.ifNo X49.here hx rfl (hb hby at_358) rfl ((if0 _ _).trans (feq (by decide : ¬ ((1 : Int32) = (0 : Int32)))).1) k) ?_
                refine own_go (fun _ k => XS.dload X49.here hx rfl (hb hby at_361) rfl k) ?_
                refine own_go (fun _ k => XS.dconst0 X49.here hx rfl (hb hby at_363) rfl k) ?_
                refine own_go (fun _ k => XS.dcmpS X49.here hx rfl (hb hby at_364) rfl (own_k3s p1 mm hm hc281_50 (iff_of_false hc287_51 hc299_53) _) k) ?_
                show own_Run p e below _ T49 (mkF m 365 #[.val (.long p1), .second, .val (.long p2), .second, .val (.int p3), .val (.int xk), .val (.long mm), .second, .val (.double (FP.ddiv (FP.l2d p1) (FP.l2d mm))), .second, .val (.int (1 : Int32)), .val (.int (1 : Int32)), .val (.int (0 : Int32)), .unset, .unset, .unset, .unset, .unset] [(.int (1 : Int32))])
                refine own_go (fun _ k => XS.ifNo X49.here hx rfl (hb hby at_365) rfl ((if0 _ _).trans (tlt (by decide : (0 : Int32) < (1 : Int32))).2.2.2) k) ?_
                refine own_go (fun _ k => XS.iconst X49.here hx rfl (hb hby at_368) k) ?_
                refine own_go (fun _ k => XS.goto X49.here hx rfl (pc0 := 369) (pc' := 373) rfl (hb hby at_369) (by decide) (by decide) k) ?_
                refine own_go (fun _ k => XS.iload X49.here hx rfl (hb hby at_373) rfl k) ?_
                refine own_go (fun _ k => XS.icmpNo X49.here hx rfl (hb hby at_375) rfl (teq (by decide : (1 : Int32) = (1 : Int32))).2 k) ?_
                show own_Run p e below _ T49 (mkF m 378 #[.val (.long p1), .second, .val (.long p2), .second, .val (.int p3), .val (.int xk), .val (.long mm), .second, .val (.double (FP.ddiv (FP.l2d p1) (FP.l2d mm))), .second, .val (.int (1 : Int32)), .val (.int (1 : Int32)), .val (.int (0 : Int32)), .unset, .unset, .unset, .unset, .unset] [])
                refine own_go (fun _ k => XS.dload X49.here hx rfl (hb hby at_378) rfl k) ?_
                refine own_go (fun _ k => XS.dconst0 X49.here hx rfl (hb hby at_380) rfl k) ?_
                refine own_go (fun _ k => XS.dcmpS X49.here hx rfl (hb hby at_381) rfl (own_k3s p1 mm hm hc281_50 (iff_of_false hc287_51 hc299_53) _) k) ?_
                refine own_go (fun _ k => XS.ifYes X49.here hx rfl (pc0 := 382) (pc' := 389) rfl (hb hby at_382) rfl ((if0 _ _).trans (flt (by decide : ¬ ((1 : Int32) < (0 : Int32)))).2.1) (by decide) (by decide) k) ?_
                refine own_go (fun _ k => XS.iconst X49.here hx rfl (hb hby at_389) k) ?_
                show own_Run p e below _ T49 (mkF m 390 #[.val (.long p1), .second, .val (.long p2), .second, .val (.int p3), .val (.int xk), .val (.long mm), .second, .val (.double (FP.ddiv (FP.l2d p1) (FP.l2d mm))), .second, .val (.int (1 : Int32)), .val (.int (1 : Int32)), .val (.int (0 : Int32)), .unset, .unset, .unset, .unset, .unset] [(.int (0 : Int32))])
                refine own_go (fun _ k => XS.iload X49.here hx rfl (hb hby at_390) rfl k) ?_
                refine own_go (fun _ k => XS.icmpNo X49.here hx rfl (hb hby at_392) rfl (teq (by decide : (0 : Int32) = (0 : Int32))).2 k) ?_
                refine own_go (fun _ k => XS.iconst X49.here hx rfl (hb hby at_395) k) ?_
                refine own_go (fun _ k => XS.goto X49.here hx rfl (pc0 := 396) (pc' := 400) rfl (hb hby at_396) (by decide) (by decide) k) ?_
                refine own_done (Q := fun v h L => Q0 Z p1 p2 p3 h0 n0 v h L) (v := (some (.int (1 : Int32)))) X49 (fun h => by rw [hret] at h; cases h) hlk (fun fs hr => retN X49 hx (t := .boolean) hret (by simp) (hb hby at_400) hr) ?_ (by decide) (by decide)
                show Q0 Z p1 p2 p3 h0 n0 _ T49.heap _
                rw [e49]
                exact ⟨rfl, N49⟩
        · refine own_go (fun _ k => XS.ifYes X0.here hx rfl (pc0 := 238) (pc' := 245) rfl (hb hby at_238) rfl (own_lcFe hc238_44).2 (by decide) (by decide) k) ?_
          refine own_go (fun _ k => XS.lloadN X0.here hx rfl (hb hby at_245) rfl k) ?_
          show own_Run p e below _ s₁ (mkF m 246 #[.val (.long p1), .second, .val (.long p2), .second, .val (.int p3), .val (.int xk), .unset, .unset, .unset, .unset, .unset, .unset, .unset, .unset, .unset, .unset, .unset, .unset] [(.long p2)])
          obtain ⟨mm, hmm⟩ : ∃ z, z = p2 := ⟨_, rfl⟩
          rw [← hmm]
          have hm : ¬ (mm = (0 : Int64)) := by rw [hmm]; exact hc238_44
          refine own_go (fun _ k => XS.lstore X0.here hx rfl (hb hby at_246) rfl (l' := #[.val (.long p1), .second, .val (.long mm), .second, .val (.int p3), .val (.int xk), .val (.long mm), .second, .unset, .unset, .unset, .unset, .unset, .unset, .unset, .unset, .unset, .unset]) rfl k) ?_
          obtain ⟨T54, h54, X54, e54, E54, A54, D54, -, st54⟩ := newO X0 hx hZ hown (W 0 rfl) (W 1 rfl) (W 2 rfl) e0 (g := (mkF m 248 #[.val (.long p1), .second, .val (.long mm), .second, .val (.int p3), .val (.int xk), .val (.long mm), .second, .unset, .unset, .unset, .unset, .unset, .unset, .unset, .unset, .unset, .unset] [])) rfl (hb hby at_248) (by decide) (by decide)
          refine own_go st54 ?_
          obtain ⟨b54, g54⟩ : ∃ z, z = h0.size := ⟨_, rfl⟩
          rw [← g54] at A54 D54
          rw [← g54]
          have g_b54 : n0 ≤ b54 := Nat.le_trans Z0 (Nat.le_of_eq g54.symm)
          have sz_b54 : h0.size ≤ b54 := Nat.le_trans K0.1 (Nat.le_of_eq g54.symm)
          have Z0_c55 := Nat.le_trans Z0 E54.1
          have K0_c55 := K0.ext E54
          have F_millis_b54 : Fld Z h54 b54 "com/example/network_analytics_service/networkanalyticsservice/core/sliceload/Levels$InForce" "millis" "J" (.long (0 : Int64)) := D54 (Or.inr (W 15 rfl)) (ty := .long) (by decide)
          have F_weighted_b54 : Fld Z h54 b54 "com/example/network_analytics_service/networkanalyticsservice/core/sliceload/Levels$InForce" "weighted" "J" (.long (0 : Int64)) := D54 (Or.inr (W 17 rfl)) (ty := .long) (by decide)
          refine own_go (fun _ k => XS.dup X54.here hx rfl (hb hby at_251) rfl rfl k) ?_
          refine own_go (fun _ k => XS.lload X54.here hx rfl (hb hby at_252) rfl k) ?_
          refine own_go (fun _ k => XS.lloadN X54.here hx rfl (hb hby at_254) rfl k) ?_
          show own_Run p e below _ T54 (mkF m 255 #[.val (.long p1), .second, .val (.long mm), .second, .val (.int p3), .val (.int xk), .val (.long mm), .second, .unset, .unset, .unset, .unset, .unset, .unset, .unset, .unset, .unset, .unset] [(.long p1), (.long mm), (.ref b54), (.ref b54)])
          obtain ⟨_, _, ⟨T56, L56, k56, n56⟩, -, X56, ⟨Lc56, hQ56, l56, y56, z56⟩, st56⟩ := X54.specialBack hx (y := (⟨"com/example/network_analytics_service/networkanalyticsservice/core/sliceload/Levels$InForce", "<init>", "(JJ)V"⟩ : MethodName)) rfl hown (mvT hZ (W 3 rfl)) (mvT hZ (W 4 rfl)) (mvT hZ (W 5 rfl)) (by decide) (backOf (W := 1) (rm1 l Z a0 hw [] b54 mm p1 (.long (0 : Int64)) (.long (0 : Int64)) h54 n0 Z0_c55 A54 F_millis_b54 F_weighted_b54 g_b54) hZ (W 5 rfl) (W 2 rfl) (by decide) (by decide)) (g := (mkF m 255 #[.val (.long p1), .second, .val (.long mm), .second, .val (.int p3), .val (.int xk), .val (.long mm), .second, .unset, .unset, .unset, .unset, .unset, .unset, .unset, .unset, .unset, .unset] [(.long p1), (.long mm), (.ref b54), (.ref b54)])) rfl (by rw [hml]; rfl) (Steps.refl _) (a := b54) (argsL := [(.long mm), (.long p1)]) (rest := [(.ref b54)]) (lenOf pd_2 rfl) rfl (by show 2 * 0 + _ ≤ _; exact Nat.le_of_eq rfl) (hb hby at_255) (fun _ _ => ⟨rfl, e54, (by decide : 1 + 0 ≤ _), (by decide : 2 + 0 ≤ _)⟩)
          dsimp only [Pt.U, Pt.locs, Pt.cells, Pt.slots] at X56 l56 y56 z56 st56 hQ56
          subst l56 y56 z56
          obtain ⟨rfl, N56q, K56, P56_0, P56_1, P56_2⟩ := hQ56
          have N56 := Fr.app N0 N56q
          refine own_goT st56 ?_
          have Z0_c57 := Nat.le_trans Z0_c55 K56.1
          have K0_c57 := K0_c55.trans K56 (allS (Or.inr sz_b54) all0)
          have A54_c57 := A54.keep K56
          obtain ⟨cq58, kq58, q58a, q58b, q58c⟩ := isOf hZ rfl P56_0
          obtain ⟨_, _, ⟨T58, L58, k58, n58⟩, -, X58, ⟨Lc58, hQ58, l58, y58, z58⟩, st58⟩ := X56.virtualBack hx (y := (⟨"com/example/network_analytics_service/networkanalyticsservice/core/sliceload/Levels$InForce", "mean", "()D"⟩ : MethodName)) (z := (⟨"com/example/network_analytics_service/networkanalyticsservice/core/sliceload/Levels$InForce", "mean", "()D"⟩ : MethodName)) hown (mvT hZ (W 18 rfl)) (mvT hZ (W 19 rfl)) (notFace_of_selects (args := #[]) (mvT hZ (W 21 rfl))) (mvT hZ (W 21 rfl)) (mvT hZ (W 20 rfl)) (by decide) (backOf (W := 0) (rm4 l Z a0 hw [] b54 mm p1 T56.heap n0 Z0_c57 P56_1 P56_2 (hm)) hZ (W 22 rfl) (W 2 rfl) (by decide) (by decide)) q58a q58c (g := (mkF m 258 #[.val (.long p1), .second, .val (.long mm), .second, .val (.int p3), .val (.int xk), .val (.long mm), .second, .unset, .unset, .unset, .unset, .unset, .unset, .unset, .unset, .unset, .unset] [(.ref b54)])) rfl (by rw [hml]; rfl) (Steps.refl _) (argsL := []) (rest := []) (lenOf pd_3 rfl) rfl (by show 2 * 0 + _ ≤ _; exact Nat.le_of_eq rfl) (hb hby at_258) (fun _ _ => ⟨rfl, rfl, (by decide : 1 + 0 ≤ _), (by decide : 2 + 0 ≤ _)⟩)
          dsimp only [Pt.U, Pt.locs, Pt.cells, Pt.slots] at X58 l58 y58 z58 st58 hQ58
          subst l58 y58 z58
          obtain ⟨rfl, N58q, e58⟩ := hQ58
          have N58 := Fr.app N56 N58q
          refine own_goT st58 ?_
          refine own_go (fun _ k => XS.dstore X58.here hx rfl (hb hby at_261) rfl (l' := #[.val (.long p1), .second, .val (.long mm), .second, .val (.int p3), .val (.int xk), .val (.long mm), .second, .val (.double (FP.ddiv (FP.l2d p1) (FP.l2d mm))), .second, .unset, .unset, .unset, .unset, .unset, .unset, .unset, .unset]) rfl k) ?_
          refine own_go (fun _ k => XS.dload X58.here hx rfl (hb hby at_263) rfl k) ?_
          refine own_go (fun _ k => XS.dload X58.here hx rfl (hb hby at_265) rfl k) ?_
          show own_Run p e below _ T58 (mkF m 267 #[.val (.long p1), .second, .val (.long mm), .second, .val (.int p3), .val (.int xk), .val (.long mm), .second, .val (.double (FP.ddiv (FP.l2d p1) (FP.l2d mm))), .second, .unset, .unset, .unset, .unset, .unset, .unset, .unset, .unset] [(.double (FP.ddiv (FP.l2d p1) (FP.l2d mm))), (.double (FP.ddiv (FP.l2d p1) (FP.l2d mm)))])
          refine own_go (fun _ k => XS.dcmpS X58.here hx rfl (hb hby at_267) rfl (own_self p1 mm hm) k) ?_
          refine own_go (fun _ k => XS.ifNo X58.here hx rfl (hb hby at_268) rfl ((if0 _ _).trans (teq (by decide : (0 : Int32) = (0 : Int32))).2) k) ?_
          refine own_go (fun _ k => XS.iconst X58.here hx rfl (hb hby at_271) k) ?_
          refine own_go (fun _ k => XS.goto X58.here hx rfl (pc0 := 272) (pc' := 276) rfl (hb hby at_272) (by decide) (by decide) k) ?_
          refine own_go (fun _ k => XS.istore X58.here hx rfl (hb hby at_276) rfl (l' := #[.val (.long p1), .second, .val (.long mm), .second, .val (.int p3), .val (.int xk), .val (.long mm), .second, .val (.double (FP.ddiv (FP.l2d p1) (FP.l2d mm))), .second, .val (.int (1 : Int32)), .unset, .unset, .unset, .unset, .unset, .unset, .unset]) rfl k) ?_
          show own_Run p e below _ T58 (mkF m 278 #[.val (.long p1), .second, .val (.long mm), .second, .val (.int p3), .val (.int xk), .val (.long mm), .second, .val (.double (FP.ddiv (FP.l2d p1) (FP.l2d mm))), .second, .val (.int (1 : Int32)), .unset, .unset, .unset, .unset, .unset, .unset, .unset] [])
          refine own_go (fun _ k => XS.lloadN X58.here hx rfl (hb hby at_278) rfl k) ?_
          refine own_go (fun _ k => XS.lconst X58.here hx rfl (hb hby at_279) k) ?_
          refine own_go (fun _ k => XS.lcmp X58.here hx rfl (hb hby at_280) rfl k) ?_
          by_cases hc281_59 : p1 = (0 : Int64)
          · refine own_go (fun _ k => XS.ifYes X58.here hx rfl (pc0 := 281) (pc' := 314) rfl (hb hby at_281) rfl (own_lcTe hc281_59).1 (by decide) (by decide) k) ?_
            refine own_go (fun _ k => XS.iconst X58.here hx rfl (hb hby at_314) k) ?_
            show own_Run p e below _ T58 (mkF m 315 #[.val (.long p1), .second, .val (.long mm), .second, .val (.int p3), .val (.int xk), .val (.long mm), .second, .val (.double (FP.ddiv (FP.l2d p1) (FP.l2d mm))), .second, .val (.int (1 : Int32)), .unset, .unset, .unset, .unset, .unset, .unset, .unset] [(.int (0 : Int32))])
            refine own_go (fun _ k => XS.istore X58.here hx rfl (hb hby at_315) rfl (l' := #[.val (.long p1), .second, .val (.long mm), .second, .val (.int p3), .val (.int xk), .val (.long mm), .second, .val (.double (FP.ddiv (FP.l2d p1) (FP.l2d mm))), .second, .val (.int (1 : Int32)), .val (.int (0 : Int32)), .unset, .unset, .unset, .unset, .unset, .unset]) rfl k) ?_
            refine own_go (fun _ k => XS.lloadN X58.here hx rfl (hb hby at_317) rfl k) ?_
            refine own_go (fun _ k => XS.lconst X58.here hx rfl (hb hby at_318) k) ?_
            refine own_go (fun _ k => XS.lcmp X58.here hx rfl (hb hby at_319) rfl k) ?_
            refine own_go (fun _ k => XS.ifYes X58.here hx rfl (pc0 := 320) (pc' := 353) rfl (hb hby at_320) rfl (own_lcTe hc281_59).1 (by decide) (by decide) k) ?_
            show own_Run p e below _ T58 (mkF m 353 #[.val (.long p1), .second, .val (.long mm), .second, .val (.int p3), .val (.int xk), .val (.long mm), .second, .val (.double (FP.ddiv (FP.l2d p1) (FP.l2d mm))), .second, .val (.int (1 : Int32)), .val (.int (0 : Int32)), .unset, .unset, .unset, .unset, .unset, .unset] [])
            refine own_go (fun _ k => XS.iconst X58.here hx rfl (hb hby at_353) k) ?_
            refine own_go (fun _ k => XS.istore X58.here hx rfl (hb hby at_354) rfl (l' := #[.val (.long p1), .second, .val (.long mm), .second, .val (.int p3), .val (.int xk), .val (.long mm), .second, .val (.double (FP.ddiv (FP.l2d p1) (FP.l2d mm))), .second, .val (.int (1 : Int32)), .val (.int (0 : Int32)), .val (.int (0 : Int32)), .unset, .unset, .unset, .unset, .unset]) rfl k) ?_
            refine own_go (fun _ k => XS.iload X58.here hx rfl (hb hby at_356) rfl k) ?_
            refine own_go (fun _ k => XS.ifNo X58.here hx rfl (hb hby at_358) rfl ((if0 _ _).trans (feq (by decide : ¬ ((1 : Int32) = (0 : Int32)))).1) k) ?_
            refine own_go (fun _ k => XS.dload X58.here hx rfl (hb hby at_361) rfl k) ?_
            show own_Run p e below _ T58 (mkF m 363 #[.val (.long p1), .second, .val (.long mm), .second, .val (.int p3), .val (.int xk), .val (.long mm), .second, .val (.double (FP.ddiv (FP.l2d p1) (FP.l2d mm))), .second, .val (.int (1 : Int32)), .val (.int (0 : Int32)), .val (.int (0 : Int32)), .unset, .unset, .unset, .unset, .unset] [(.double (FP.ddiv (FP.l2d p1) (FP.l2d mm)))])
            refine own_go (fun _ k => XS.dconst0 X58.here hx rfl (hb hby at_363) rfl k) ?_
            refine own_go (fun _ k => XS.dcmpS X58.here hx rfl (hb hby at_364) rfl (own_k3z p1 mm hm hc281_59 _) k) ?_
            refine own_go (fun _ k => XS.ifYes X58.here hx rfl (pc0 := 365) (pc' := 372) rfl (hb hby at_365) rfl ((if0 _ _).trans (flt (by decide : ¬ ((0 : Int32) < (0 : Int32)))).2.2.2) (by decide) (by decide) k) ?_
            refine own_go (fun _ k => XS.iconst X58.here hx rfl (hb hby at_372) k) ?_
            refine own_go (fun _ k => XS.iload X58.here hx rfl (hb hby at_373) rfl k) ?_
            show own_Run p e below _ T58 (mkF m 375 #[.val (.long p1), .second, .val (.long mm), .second, .val (.int p3), .val (.int xk), .val (.long mm), .second, .val (.double (FP.ddiv (FP.l2d p1) (FP.l2d mm))), .second, .val (.int (1 : Int32)), .val (.int (0 : Int32)), .val (.int (0 : Int32)), .unset, .unset, .unset, .unset, .unset] [(.int (0 : Int32)), (.int (0 : Int32))])
            refine own_go (fun _ k => XS.icmpNo X58.here hx rfl (hb hby at_375) rfl (teq (by decide : (0 : Int32) = (0 : Int32))).2 k) ?_
            refine own_go (fun _ k => XS.dload X58.here hx rfl (hb hby at_378) rfl k) ?_
            refine own_go (fun _ k => XS.dconst0 X58.here hx rfl (hb hby at_380) rfl k) ?_
            refine own_go (fun _ k => XS.dcmpS X58.here hx rfl (hb hby at_381) rfl (own_k3z p1 mm hm hc281_59 _) k) ?_
            refine own_go (fun _ k => XS.ifYes X58.here hx rfl (pc0 := 382) (pc' := 389) rfl (hb hby at_382) rfl ((if0 _ _).trans (flt (by decide : ¬ ((0 : Int32) < (0 : Int32)))).2.1) (by decide) (by decide) k) ?_
            show own_Run p e below _ T58 (mkF m 389 #[.val (.long p1), .second, .val (.long mm), .second, .val (.int p3), .val (.int xk), .val (.long mm), .second, .val (.double (FP.ddiv (FP.l2d p1) (FP.l2d mm))), .second, .val (.int (1 : Int32)), .val (.int (0 : Int32)), .val (.int (0 : Int32)), .unset, .unset, .unset, .unset, .unset] [])
            refine own_go (fun _ k => XS.iconst X58.here hx rfl (hb hby at_389) k) ?_
            refine own_go (fun _ k => XS.iload X58.here hx rfl (hb hby at_390) rfl k) ?_
            refine own_go (fun _ k => XS.icmpNo X58.here hx rfl (hb hby at_392) rfl (teq (by decide : (0 : Int32) = (0 : Int32))).2 k) ?_
            refine own_go (fun _ k => XS.iconst X58.here hx rfl (hb hby at_395) k) ?_
            refine own_go (fun _ k => XS.goto X58.here hx rfl (pc0 := 396) (pc' := 400) rfl (hb hby at_396) (by decide) (by decide) k) ?_
            show own_Run p e below _ T58 (mkF m 400 #[.val (.long p1), .second, .val (.long mm), .second, .val (.int p3), .val (.int xk), .val (.long mm), .second, .val (.double (FP.ddiv (FP.l2d p1) (FP.l2d mm))), .second, .val (.int (1 : Int32)), .val (.int (0 : Int32)), .val (.int (0 : Int32)), .unset, .unset, .unset, .unset, .unset] [(.int (1 : Int32))])
            refine own_done (Q := fun v h L => Q0 Z p1 p2 p3 h0 n0 v h L) (v := (some (.int (1 : Int32)))) X58 (fun h => by rw [hret] at h; cases h) hlk (fun fs hr => retN X58 hx (t := .boolean) hret (by simp) (hb hby at_400) hr) ?_ (by decide) (by decide)
            show Q0 Z p1 p2 p3 h0 n0 _ T58.heap _
            rw [e58]
            exact ⟨rfl, N58⟩
          · refine own_go (fun _ k => XS.ifNo X58.here hx rfl (hb hby at_281) rfl (own_lcFe hc281_59).1 k) ?_
            refine own_go (fun _ k => XS.lloadN X58.here hx rfl (hb hby at_284) rfl k) ?_
            show own_Run p e below _ T58 (mkF m 285 #[.val (.long p1), .second, .val (.long mm), .second, .val (.int p3), .val (.int xk), .val (.long mm), .second, .val (.double (FP.ddiv (FP.l2d p1) (FP.l2d mm))), .second, .val (.int (1 : Int32)), .unset, .unset, .unset, .unset, .unset, .unset, .unset] [(.long p1)])
            refine own_go (fun _ k => XS.lconst X58.here hx rfl (hb hby at_285) k) ?_
            refine own_go (fun _ k => XS.lcmp X58.here hx rfl (hb hby at_286) rfl k) ?_
            by_cases hc287_60 : (0 : Int64) < p1
            · refine own_go (fun _ k => XS.ifNo X58.here hx rfl (hb hby at_287) rfl (own_lcT hc287_60).2.2.2 k) ?_
              refine own_go (fun _ k => XS.iconst X58.here hx rfl (hb hby at_290) k) ?_
              refine own_go (fun _ k => XS.goto X58.here hx rfl (pc0 := 291) (pc' := 295) rfl (hb hby at_291) (by decide) (by decide) k) ?_
              show own_Run p e below _ T58 (mkF m 295 #[.val (.long p1), .second, .val (.long mm), .second, .val (.int p3), .val (.int xk), .val (.long mm), .second, .val (.double (FP.ddiv (FP.l2d p1) (FP.l2d mm))), .second, .val (.int (1 : Int32)), .unset, .unset, .unset, .unset, .unset, .unset, .unset] [(.int (1 : Int32))])
              refine own_go (fun _ k => XS.lload X58.here hx rfl (hb hby at_295) rfl k) ?_
              refine own_go (fun _ k => XS.lconst X58.here hx rfl (hb hby at_297) k) ?_
              refine own_go (fun _ k => XS.lcmp X58.here hx rfl (hb hby at_298) rfl k) ?_
              by_cases hc299_61 : (0 : Int64) < mm
              · refine own_go (fun _ k => XS.ifNo X58.here hx rfl (hb hby at_299) rfl (own_lcT hc299_61).2.2.2 k) ?_
                refine own_go (fun _ k => XS.iconst X58.here hx rfl (hb hby at_302) k) ?_
                show own_Run p e below _ T58 (mkF m 303 #[.val (.long p1), .second, .val (.long mm), .second, .val (.int p3), .val (.int xk), .val (.long mm), .second, .val (.double (FP.ddiv (FP.l2d p1) (FP.l2d mm))), .second, .val (.int (1 : Int32)), .unset, .unset, .unset, .unset, .unset, .unset, .unset] [(.int (1 : Int32)), (.int (1 : Int32))])
                refine own_go (fun _ k => XS.goto X58.here hx rfl (pc0 := 303) (pc' := 307) rfl (hb hby at_303) (by decide) (by decide) k) ?_
                refine own_go (fun _ k => XS.icmpNo X58.here hx rfl (hb hby at_307) rfl (teq (by decide : (1 : Int32) = (1 : Int32))).2 k) ?_
                refine own_go (fun _ k => XS.iconst X58.here hx rfl (hb hby at_310) k) ?_
                refine own_go (fun _ k => XS.goto X58.here hx rfl (pc0 := 311) (pc' := 315) rfl (hb hby at_311) (by decide) (by decide) k) ?_
                refine own_go (fun _ k => XS.istore X58.here hx rfl (hb hby at_315) rfl (l' := #[.val (.long p1), .second, .val (.long mm), .second, .val (.int p3), .val (.int xk), .val (.long mm), .second, .val (.double (FP.ddiv (FP.l2d p1) (FP.l2d mm))), .second, .val (.int (1 : Int32)), .val (.int (1 : Int32)), .unset, .unset, .unset, .unset, .unset, .unset]) rfl k) ?_
                show own_Run p e below _ T58 (mkF m 317 #[.val (.long p1), .second, .val (.long mm), .second, .val (.int p3), .val (.int xk), .val (.long mm), .second, .val (.double (FP.ddiv (FP.l2d p1) (FP.l2d mm))), .second, .val (.int (1 : Int32)), .val (.int (1 : Int32)), .unset, .unset, .unset, .unset, .unset, .unset] [])
                refine own_go (fun _ k => XS.lloadN X58.here hx rfl (hb hby at_317) rfl k) ?_
                refine own_go (fun _ k => XS.lconst X58.here hx rfl (hb hby at_318) k) ?_
                refine own_go (fun _ k => XS.lcmp X58.here hx rfl (hb hby at_319) rfl k) ?_
                refine own_go (fun _ k => XS.ifNo X58.here hx rfl (hb hby at_320) rfl (own_lcFe hc281_59).1 k) ?_
                refine own_go (fun _ k => XS.lloadN X58.here hx rfl (hb hby at_323) rfl k) ?_
                show own_Run p e below _ T58 (mkF m 324 #[.val (.long p1), .second, .val (.long mm), .second, .val (.int p3), .val (.int xk), .val (.long mm), .second, .val (.double (FP.ddiv (FP.l2d p1) (FP.l2d mm))), .second, .val (.int (1 : Int32)), .val (.int (1 : Int32)), .unset, .unset, .unset, .unset, .unset, .unset] [(.long p1)])
                refine own_go (fun _ k => XS.lconst X58.here hx rfl (hb hby at_324) k) ?_
                refine own_go (fun _ k => XS.lcmp X58.here hx rfl (hb hby at_325) rfl k) ?_
                refine own_go (fun _ k => XS.ifNo X58.here hx rfl (hb hby at_326) rfl (own_lcT hc287_60).2.2.2 k) ?_
                refine own_go (fun _ k => XS.iconst X58.here hx rfl (hb hby at_329) k) ?_
                refine own_go (fun _ k => XS.goto X58.here hx rfl (pc0 := 330) (pc' := 334) rfl (hb hby at_330) (by decide) (by decide) k) ?_
                show own_Run p e below _ T58 (mkF m 334 #[.val (.long p1), .second, .val (.long mm), .second, .val (.int p3), .val (.int xk), .val (.long mm), .second, .val (.double (FP.ddiv (FP.l2d p1) (FP.l2d mm))), .second, .val (.int (1 : Int32)), .val (.int (1 : Int32)), .unset, .unset, .unset, .unset, .unset, .unset] [(.int (1 : Int32))])
                refine own_go (fun _ k => XS.lload X58.here hx rfl (hb hby at_334) rfl k) ?_
                refine own_go (fun _ k => XS.lconst X58.here hx rfl (hb hby at_336) k) ?_
                refine own_go (fun _ k => XS.lcmp X58.here hx rfl (hb hby at_337) rfl k) ?_
                refine own_go (fun _ k => XS.ifNo X58.here hx rfl (hb hby at_338) rfl (own_lcT hc299_61).2.2.2 k) ?_
                refine own_go (fun _ k => XS.iconst X58.here hx rfl (hb hby at_341) k) ?_
                show own_Run p e below _ T58 (mkF m 342 #[.val (.long p1), .second, .val (.long mm), .second, .val (.int p3), .val (.int xk), .val (.long mm), .second, .val (.double (FP.ddiv (FP.l2d p1) (FP.l2d mm))), .second, .val (.int (1 : Int32)), .val (.int (1 : Int32)), .unset, .unset, .unset, .unset, .unset, .unset] [(.int (1 : Int32)), (.int (1 : Int32))])
                refine own_go (fun _ k => XS.goto X58.here hx rfl (pc0 := 342) (pc' := 346) rfl (hb hby at_342) (by decide) (by decide) k) ?_
                refine own_go (fun _ k => XS.icmpYes X58.here hx rfl (pc0 := 346) (pc' := 353) rfl (hb hby at_346) rfl (teq (by decide : (1 : Int32) = (1 : Int32))).1 (by decide) (by decide) k) ?_
                refine own_go (fun _ k => XS.iconst X58.here hx rfl (hb hby at_353) k) ?_
                refine own_go (fun _ k => XS.istore X58.here hx rfl (hb hby at_354) rfl (l' := #[.val (.long p1), .second, .val (.long mm), .second, .val (.int p3), .val (.int xk), .val (.long mm), .second, .val (.double (FP.ddiv (FP.l2d p1) (FP.l2d mm))), .second, .val (.int (1 : Int32)), .val (.int (1 : Int32)), .val (.int (0 : Int32)), .unset, .unset, .unset, .unset, .unset]) rfl k) ?_
                refine own_go (fun _ k => XS.iload X58.here hx rfl (hb hby at_356) rfl k) ?_
                show own_Run p e below _ T58 (mkF m 358 #[.val (.long p1), .second, .val (.long mm), .second, .val (.int p3), .val (.int xk), .val (.long mm), .second, .val (.double (FP.ddiv (FP.l2d p1) (FP.l2d mm))), .second, .val (.int (1 : Int32)), .val (.int (1 : Int32)), .val (.int (0 : Int32)), .unset, .unset, .unset, .unset, .unset] [(.int (1 : Int32))])
                refine own_go (fun _ k => XS.ifNo X58.here hx rfl (hb hby at_358) rfl ((if0 _ _).trans (feq (by decide : ¬ ((1 : Int32) = (0 : Int32)))).1) k) ?_
                refine own_go (fun _ k => XS.dload X58.here hx rfl (hb hby at_361) rfl k) ?_
                refine own_go (fun _ k => XS.dconst0 X58.here hx rfl (hb hby at_363) rfl k) ?_
                refine own_go (fun _ k => XS.dcmpS X58.here hx rfl (hb hby at_364) rfl (own_k3s p1 mm hm hc281_59 (iff_of_true hc287_60 hc299_61) _) k) ?_
                refine own_go (fun _ k => XS.ifNo X58.here hx rfl (hb hby at_365) rfl ((if0 _ _).trans (tlt (by decide : (0 : Int32) < (1 : Int32))).2.2.2) k) ?_
                show own_Run p e below _ T58 (mkF m 368 #[.val (.long p1), .second, .val (.long mm), .second, .val (.int p3), .val (.int xk), .val (.long mm), .second, .val (.double (FP.ddiv (FP.l2d p1) (FP.l2d mm))), .second, .val (.int (1 : Int32)), .val (.int (1 : Int32)), .val (.int (0 : Int32)), .unset, .unset, .unset, .unset, .unset] [])
                refine own_go (fun _ k => XS.iconst X58.here hx rfl (hb hby at_368) k) ?_
                refine own_go (fun _ k => XS.goto X58.here hx rfl (pc0 := 369) (pc' := 373) rfl (hb hby at_369) (by decide) (by decide) k) ?_
                refine own_go (fun _ k => XS.iload X58.here hx rfl (hb hby at_373) rfl k) ?_
                refine own_go (fun _ k => XS.icmpNo X58.here hx rfl (hb hby at_375) rfl (teq (by decide : (1 : Int32) = (1 : Int32))).2 k) ?_
                refine own_go (fun _ k => XS.dload X58.here hx rfl (hb hby at_378) rfl k) ?_
                show own_Run p e below _ T58 (mkF m 380 #[.val (.long p1), .second, .val (.long mm), .second, .val (.int p3), .val (.int xk), .val (.long mm), .second, .val (.double (FP.ddiv (FP.l2d p1) (FP.l2d mm))), .second, .val (.int (1 : Int32)), .val (.int (1 : Int32)), .val (.int (0 : Int32)), .unset, .unset, .unset, .unset, .unset] [(.double (FP.ddiv (FP.l2d p1) (FP.l2d mm)))])
                refine own_go (fun _ k => XS.dconst0 X58.here hx rfl (hb hby at_380) rfl k) ?_
                refine own_go (fun _ k => XS.dcmpS X58.here hx rfl (hb hby at_381) rfl (own_k3s p1 mm hm hc281_59 (iff_of_true hc287_60 hc299_61) _) k) ?_
                refine own_go (fun _ k => XS.ifYes X58.here hx rfl (pc0 := 382) (pc' := 389) rfl (hb hby at_382) rfl ((if0 _ _).trans (flt (by decide : ¬ ((1 : Int32) < (0 : Int32)))).2.1) (by decide) (by decide) k) ?_
                refine own_go (fun _ k => XS.iconst X58.here hx rfl (hb hby at_389) k) ?_
                refine own_go (fun _ k => XS.iload X58.here hx rfl (hb hby at_390) rfl k) ?_
                show own_Run p e below _ T58 (mkF m 392 #[.val (.long p1), .second, .val (.long mm), .second, .val (.int p3), .val (.int xk), .val (.long mm), .second, .val (.double (FP.ddiv (FP.l2d p1) (FP.l2d mm))), .second, .val (.int (1 : Int32)), .val (.int (1 : Int32)), .val (.int (0 : Int32)), .unset, .unset, .unset, .unset, .unset] [(.int (0 : Int32)), (.int (0 : Int32))])
                refine own_go (fun _ k => XS.icmpNo X58.here hx rfl (hb hby at_392) rfl (teq (by decide : (0 : Int32) = (0 : Int32))).2 k) ?_
                refine own_go (fun _ k => XS.iconst X58.here hx rfl (hb hby at_395) k) ?_
                refine own_go (fun _ k => XS.goto X58.here hx rfl (pc0 := 396) (pc' := 400) rfl (hb hby at_396) (by decide) (by decide) k) ?_
                refine own_done (Q := fun v h L => Q0 Z p1 p2 p3 h0 n0 v h L) (v := (some (.int (1 : Int32)))) X58 (fun h => by rw [hret] at h; cases h) hlk (fun fs hr => retN X58 hx (t := .boolean) hret (by simp) (hb hby at_400) hr) ?_ (by decide) (by decide)
                show Q0 Z p1 p2 p3 h0 n0 _ T58.heap _
                rw [e58]
                exact ⟨rfl, N58⟩
              · refine own_go (fun _ k => XS.ifYes X58.here hx rfl (pc0 := 299) (pc' := 306) rfl (hb hby at_299) rfl (own_lcF hc299_61).2.2.2 (by decide) (by decide) k) ?_
                refine own_go (fun _ k => XS.iconst X58.here hx rfl (hb hby at_306) k) ?_
                show own_Run p e below _ T58 (mkF m 307 #[.val (.long p1), .second, .val (.long mm), .second, .val (.int p3), .val (.int xk), .val (.long mm), .second, .val (.double (FP.ddiv (FP.l2d p1) (FP.l2d mm))), .second, .val (.int (1 : Int32)), .unset, .unset, .unset, .unset, .unset, .unset, .unset] [(.int (0 : Int32)), (.int (1 : Int32))])
                refine own_go (fun _ k => XS.icmpYes X58.here hx rfl (pc0 := 307) (pc' := 314) rfl (hb hby at_307) rfl (feq (by decide : ¬ ((1 : Int32) = (0 : Int32)))).2 (by decide) (by decide) k) ?_
                refine own_go (fun _ k => XS.iconst X58.here hx rfl (hb hby at_314) k) ?_
                refine own_go (fun _ k => XS.istore X58.here hx rfl (hb hby at_315) rfl (l' := #[.val (.long p1), .second, .val (.long mm), .second, .val (.int p3), .val (.int xk), .val (.long mm), .second, .val (.double (FP.ddiv (FP.l2d p1) (FP.l2d mm))), .second, .val (.int (1 : Int32)), .val (.int (0 : Int32)), .unset, .unset, .unset, .unset, .unset, .unset]) rfl k) ?_
                refine own_go (fun _ k => XS.lloadN X58.here hx rfl (hb hby at_317) rfl k) ?_
                refine own_go (fun _ k => XS.lconst X58.here hx rfl (hb hby at_318) k) ?_
                show own_Run p e below _ T58 (mkF m 319 #[.val (.long p1), .second, .val (.long mm), .second, .val (.int p3), .val (.int xk), .val (.long mm), .second, .val (.double (FP.ddiv (FP.l2d p1) (FP.l2d mm))), .second, .val (.int (1 : Int32)), .val (.int (0 : Int32)), .unset, .unset, .unset, .unset, .unset, .unset] [(.long (0 : Int64)), (.long p1)])
                refine own_go (fun _ k => XS.lcmp X58.here hx rfl (hb hby at_319) rfl k) ?_
                refine own_go (fun _ k => XS.ifNo X58.here hx rfl (hb hby at_320) rfl (own_lcFe hc281_59).1 k) ?_
                refine own_go (fun _ k => XS.lloadN X58.here hx rfl (hb hby at_323) rfl k) ?_
                refine own_go (fun _ k => XS.lconst X58.here hx rfl (hb hby at_324) k) ?_
                refine own_go (fun _ k => XS.lcmp X58.here hx rfl (hb hby at_325) rfl k) ?_
                show own_Run p e below _ T58 (mkF m 326 #[.val (.long p1), .second, .val (.long mm), .second, .val (.int p3), .val (.int xk), .val (.long mm), .second, .val (.double (FP.ddiv (FP.l2d p1) (FP.l2d mm))), .second, .val (.int (1 : Int32)), .val (.int (0 : Int32)), .unset, .unset, .unset, .unset, .unset, .unset] [(.int (lcmpW p1 (0 : Int64)))])
                refine own_go (fun _ k => XS.ifNo X58.here hx rfl (hb hby at_326) rfl (own_lcT hc287_60).2.2.2 k) ?_
                refine own_go (fun _ k => XS.iconst X58.here hx rfl (hb hby at_329) k) ?_
                refine own_go (fun _ k => XS.goto X58.here hx rfl (pc0 := 330) (pc' := 334) rfl (hb hby at_330) (by decide) (by decide) k) ?_
                refine own_go (fun _ k => XS.lload X58.here hx rfl (hb hby at_334) rfl k) ?_
                refine own_go (fun _ k => XS.lconst X58.here hx rfl (hb hby at_336) k) ?_
                show own_Run p e below _ T58 (mkF m 337 #[.val (.long p1), .second, .val (.long mm), .second, .val (.int p3), .val (.int xk), .val (.long mm), .second, .val (.double (FP.ddiv (FP.l2d p1) (FP.l2d mm))), .second, .val (.int (1 : Int32)), .val (.int (0 : Int32)), .unset, .unset, .unset, .unset, .unset, .unset] [(.long (0 : Int64)), (.long mm), (.int (1 : Int32))])
                refine own_go (fun _ k => XS.lcmp X58.here hx rfl (hb hby at_337) rfl k) ?_
                refine own_go (fun _ k => XS.ifYes X58.here hx rfl (pc0 := 338) (pc' := 345) rfl (hb hby at_338) rfl (own_lcF hc299_61).2.2.2 (by decide) (by decide) k) ?_
                refine own_go (fun _ k => XS.iconst X58.here hx rfl (hb hby at_345) k) ?_
                refine own_go (fun _ k => XS.icmpNo X58.here hx rfl (hb hby at_346) rfl (feq (by decide : ¬ ((1 : Int32) = (0 : Int32)))).1 k) ?_
                refine own_go (fun _ k => XS.iconst X58.here hx rfl (hb hby at_349) k) ?_
                show own_Run p e below _ T58 (mkF m 350 #[.val (.long p1), .second, .val (.long mm), .second, .val (.int p3), .val (.int xk), .val (.long mm), .second, .val (.double (FP.ddiv (FP.l2d p1) (FP.l2d mm))), .second, .val (.int (1 : Int32)), .val (.int (0 : Int32)), .unset, .unset, .unset, .unset, .unset, .unset] [(.int (1 : Int32))])
                refine own_go (fun _ k => XS.goto X58.here hx rfl (pc0 := 350) (pc' := 354) rfl (hb hby at_350) (by decide) (by decide) k) ?_
                refine own_go (fun _ k => XS.istore X58.here hx rfl (hb hby at_354) rfl (l' := #[.val (.long p1), .second, .val (.long mm), .second, .val (.int p3), .val (.int xk), .val (.long mm), .second, .val (.double (FP.ddiv (FP.l2d p1) (FP.l2d mm))), .second, .val (.int (1 : Int32)), .val (.int (0 : Int32)), .val (.int (1 : Int32)), .unset, .unset, .unset, .unset, .unset]) rfl k) ?_
                refine own_go (fun _ k => XS.iload X58.here hx rfl (hb hby at_356) rfl k) ?_
                refine own_go (fun _ k => XS.ifNo X58.here hx rfl (hb hby at_358) rfl ((if0 _ _).trans (feq (by decide : ¬ ((1 : Int32) = (0 : Int32)))).1) k) ?_
                refine own_go (fun _ k => XS.dload X58.here hx rfl (hb hby at_361) rfl k) ?_
                show own_Run p e below _ T58 (mkF m 363 #[.val (.long p1), .second, .val (.long mm), .second, .val (.int p3), .val (.int xk), .val (.long mm), .second, .val (.double (FP.ddiv (FP.l2d p1) (FP.l2d mm))), .second, .val (.int (1 : Int32)), .val (.int (0 : Int32)), .val (.int (1 : Int32)), .unset, .unset, .unset, .unset, .unset] [(.double (FP.ddiv (FP.l2d p1) (FP.l2d mm)))])
                refine own_go (fun _ k => XS.dconst0 X58.here hx rfl (hb hby at_363) rfl k) ?_
                refine own_go (fun _ k => XS.dcmpS X58.here hx rfl (hb hby at_364) rfl (own_k3d p1 mm hm hc281_59 (fun q => hc299_61 (q.mp hc287_60)) _) k) ?_
                refine own_go (fun _ k => XS.ifYes X58.here hx rfl (pc0 := 365) (pc' := 372) rfl (hb hby at_365) rfl ((if0 _ _).trans (flt (by decide : ¬ ((0 : Int32) < (-1 : Int32)))).2.2.2) (by decide) (by decide) k) ?_
                refine own_go (fun _ k => XS.iconst X58.here hx rfl (hb hby at_372) k) ?_
                refine own_go (fun _ k => XS.iload X58.here hx rfl (hb hby at_373) rfl k) ?_
                show own_Run p e below _ T58 (mkF m 375 #[.val (.long p1), .second, .val (.long mm), .second, .val (.int p3), .val (.int xk), .val (.long mm), .second, .val (.double (FP.ddiv (FP.l2d p1) (FP.l2d mm))), .second, .val (.int (1 : Int32)), .val (.int (0 : Int32)), .val (.int (1 : Int32)), .unset, .unset, .unset, .unset, .unset] [(.int (0 : Int32)), (.int (0 : Int32))])
                refine own_go (fun _ k => XS.icmpNo X58.here hx rfl (hb hby at_375) rfl (teq (by decide : (0 : Int32) = (0 : Int32))).2 k) ?_
                refine own_go (fun _ k => XS.dload X58.here hx rfl (hb hby at_378) rfl k) ?_
                refine own_go (fun _ k => XS.dconst0 X58.here hx rfl (hb hby at_380) rfl k) ?_
                refine own_go (fun _ k => XS.dcmpS X58.here hx rfl (hb hby at_381) rfl (own_k3d p1 mm hm hc281_59 (fun q => hc299_61 (q.mp hc287_60)) _) k) ?_
                refine own_go (fun _ k => XS.ifNo X58.here hx rfl (hb hby at_382) rfl ((if0 _ _).trans (tlt (by decide : (-1 : Int32) < (0 : Int32))).2.1) k) ?_
                show own_Run p e below _ T58 (mkF m 385 #[.val (.long p1), .second, .val (.long mm), .second, .val (.int p3), .val (.int xk), .val (.long mm), .second, .val (.double (FP.ddiv (FP.l2d p1) (FP.l2d mm))), .second, .val (.int (1 : Int32)), .val (.int (0 : Int32)), .val (.int (1 : Int32)), .unset, .unset, .unset, .unset, .unset] [])
                refine own_go (fun _ k => XS.iconst X58.here hx rfl (hb hby at_385) k) ?_
                refine own_go (fun _ k => XS.goto X58.here hx rfl (pc0 := 386) (pc' := 390) rfl (hb hby at_386) (by decide) (by decide) k) ?_
                refine own_go (fun _ k => XS.iload X58.here hx rfl (hb hby at_390) rfl k) ?_
                refine own_go (fun _ k => XS.icmpNo X58.here hx rfl (hb hby at_392) rfl (teq (by decide : (1 : Int32) = (1 : Int32))).2 k) ?_
                refine own_go (fun _ k => XS.iconst X58.here hx rfl (hb hby at_395) k) ?_
                show own_Run p e below _ T58 (mkF m 396 #[.val (.long p1), .second, .val (.long mm), .second, .val (.int p3), .val (.int xk), .val (.long mm), .second, .val (.double (FP.ddiv (FP.l2d p1) (FP.l2d mm))), .second, .val (.int (1 : Int32)), .val (.int (0 : Int32)), .val (.int (1 : Int32)), .unset, .unset, .unset, .unset, .unset] [(.int (1 : Int32))])
                refine own_go (fun _ k => XS.goto X58.here hx rfl (pc0 := 396) (pc' := 400) rfl (hb hby at_396) (by decide) (by decide) k) ?_
                refine own_done (Q := fun v h L => Q0 Z p1 p2 p3 h0 n0 v h L) (v := (some (.int (1 : Int32)))) X58 (fun h => by rw [hret] at h; cases h) hlk (fun fs hr => retN X58 hx (t := .boolean) hret (by simp) (hb hby at_400) hr) ?_ (by decide) (by decide)
                show Q0 Z p1 p2 p3 h0 n0 _ T58.heap _
                rw [e58]
                exact ⟨rfl, N58⟩
            · refine own_go (fun _ k => XS.ifYes X58.here hx rfl (pc0 := 287) (pc' := 294) rfl (hb hby at_287) rfl (own_lcF hc287_60).2.2.2 (by decide) (by decide) k) ?_
              refine own_go (fun _ k => XS.iconst X58.here hx rfl (hb hby at_294) k) ?_
              refine own_go (fun _ k => XS.lload X58.here hx rfl (hb hby at_295) rfl k) ?_
              show own_Run p e below _ T58 (mkF m 297 #[.val (.long p1), .second, .val (.long mm), .second, .val (.int p3), .val (.int xk), .val (.long mm), .second, .val (.double (FP.ddiv (FP.l2d p1) (FP.l2d mm))), .second, .val (.int (1 : Int32)), .unset, .unset, .unset, .unset, .unset, .unset, .unset] [(.long mm), (.int (0 : Int32))])
              refine own_go (fun _ k => XS.lconst X58.here hx rfl (hb hby at_297) k) ?_
              refine own_go (fun _ k => XS.lcmp X58.here hx rfl (hb hby at_298) rfl k) ?_
              by_cases hc299_62 : (0 : Int64) < mm
              · refine own_go (fun _ k => XS.ifNo X58.here hx rfl (hb hby at_299) rfl (own_lcT hc299_62).2.2.2 k) ?_
                refine own_go (fun _ k => XS.iconst X58.here hx rfl (hb hby at_302) k) ?_
                refine own_go (fun _ k => XS.goto X58.here hx rfl (pc0 := 303) (pc' := 307) rfl (hb hby at_303) (by decide) (by decide) k) ?_
                show own_Run p e below _ T58 (mkF m 307 #[.val (.long p1), .second, .val (.long mm), .second, .val (.int p3), .val (.int xk), .val (.long mm), .second, .val (.double (FP.ddiv (FP.l2d p1) (FP.l2d mm))), .second, .val (.int (1 : Int32)), .unset, .unset, .unset, .unset, .unset, .unset, .unset] [(.int (1 : Int32)), (.int (0 : Int32))])
                refine own_go (fun _ k => XS.icmpYes X58.here hx rfl (pc0 := 307) (pc' := 314) rfl (hb hby at_307) rfl (feq (by decide : ¬ ((0 : Int32) = (1 : Int32)))).2 (by decide) (by decide) k) ?_
                refine own_go (fun _ k => XS.iconst X58.here hx rfl (hb hby at_314) k) ?_
                refine own_go (fun _ k => XS.istore X58.here hx rfl (hb hby at_315) rfl (l' := #[.val (.long p1), .second, .val (.long mm), .second, .val (.int p3), .val (.int xk), .val (.long mm), .second, .val (.double (FP.ddiv (FP.l2d p1) (FP.l2d mm))), .second, .val (.int (1 : Int32)), .val (.int (0 : Int32)), .unset, .unset, .unset, .unset, .unset, .unset]) rfl k) ?_
                refine own_go (fun _ k => XS.lloadN X58.here hx rfl (hb hby at_317) rfl k) ?_
                refine own_go (fun _ k => XS.lconst X58.here hx rfl (hb hby at_318) k) ?_
                show own_Run p e below _ T58 (mkF m 319 #[.val (.long p1), .second, .val (.long mm), .second, .val (.int p3), .val (.int xk), .val (.long mm), .second, .val (.double (FP.ddiv (FP.l2d p1) (FP.l2d mm))), .second, .val (.int (1 : Int32)), .val (.int (0 : Int32)), .unset, .unset, .unset, .unset, .unset, .unset] [(.long (0 : Int64)), (.long p1)])
                refine own_go (fun _ k => XS.lcmp X58.here hx rfl (hb hby at_319) rfl k) ?_
                refine own_go (fun _ k => XS.ifNo X58.here hx rfl (hb hby at_320) rfl (own_lcFe hc281_59).1 k) ?_
                refine own_go (fun _ k => XS.lloadN X58.here hx rfl (hb hby at_323) rfl k) ?_
                refine own_go (fun _ k => XS.lconst X58.here hx rfl (hb hby at_324) k) ?_
                refine own_go (fun _ k => XS.lcmp X58.here hx rfl (hb hby at_325) rfl k) ?_
                show own_Run p e below _ T58 (mkF m 326 #[.val (.long p1), .second, .val (.long mm), .second, .val (.int p3), .val (.int xk), .val (.long mm), .second, .val (.double (FP.ddiv (FP.l2d p1) (FP.l2d mm))), .second, .val (.int (1 : Int32)), .val (.int (0 : Int32)), .unset, .unset, .unset, .unset, .unset, .unset] [(.int (lcmpW p1 (0 : Int64)))])
                refine own_go (fun _ k => XS.ifYes X58.here hx rfl (pc0 := 326) (pc' := 333) rfl (hb hby at_326) rfl (own_lcF hc287_60).2.2.2 (by decide) (by decide) k) ?_
                refine own_go (fun _ k => XS.iconst X58.here hx rfl (hb hby at_333) k) ?_
                refine own_go (fun _ k => XS.lload X58.here hx rfl (hb hby at_334) rfl k) ?_
                refine own_go (fun _ k => XS.lconst X58.here hx rfl (hb hby at_336) k) ?_
                refine own_go (fun _ k => XS.lcmp X58.here hx rfl (hb hby at_337) rfl k) ?_
                show own_Run p e below _ T58 (mkF m 338 #[.val (.long p1), .second, .val (.long mm), .second, .val (.int p3), .val (.int xk), .val (.long mm), .second, .val (.double (FP.ddiv (FP.l2d p1) (FP.l2d mm))), .second, .val (.int (1 : Int32)), .val (.int (0 : Int32)), .unset, .unset, .unset, .unset, .unset, .unset] [(.int (lcmpW mm (0 : Int64))), (.int (0 : Int32))])
                refine own_go (fun _ k => XS.ifNo X58.here hx rfl (hb hby at_338) rfl (own_lcT hc299_62).2.2.2 k) ?_
                refine own_go (fun _ k => XS.iconst X58.here hx rfl (hb hby at_341) k) ?_
                refine own_go (fun _ k => XS.goto X58.here hx rfl (pc0 := 342) (pc' := 346) rfl (hb hby at_342) (by decide) (by decide) k) ?_
                refine own_go (fun _ k => XS.icmpNo X58.here hx rfl (hb hby at_346) rfl (feq (by decide : ¬ ((0 : Int32) = (1 : Int32)))).1 k) ?_
                refine own_go (fun _ k => XS.iconst X58.here hx rfl (hb hby at_349) k) ?_
                show own_Run p e below _ T58 (mkF m 350 #[.val (.long p1), .second, .val (.long mm), .second, .val (.int p3), .val (.int xk), .val (.long mm), .second, .val (.double (FP.ddiv (FP.l2d p1) (FP.l2d mm))), .second, .val (.int (1 : Int32)), .val (.int (0 : Int32)), .unset, .unset, .unset, .unset, .unset, .unset] [(.int (1 : Int32))])
                refine own_go (fun _ k => XS.goto X58.here hx rfl (pc0 := 350) (pc' := 354) rfl (hb hby at_350) (by decide) (by decide) k) ?_
                refine own_go (fun _ k => XS.istore X58.here hx rfl (hb hby at_354) rfl (l' := #[.val (.long p1), .second, .val (.long mm), .second, .val (.int p3), .val (.int xk), .val (.long mm), .second, .val (.double (FP.ddiv (FP.l2d p1) (FP.l2d mm))), .second, .val (.int (1 : Int32)), .val (.int (0 : Int32)), .val (.int (1 : Int32)), .unset, .unset, .unset, .unset, .unset]) rfl k) ?_
                refine own_go (fun _ k => XS.iload X58.here hx rfl (hb hby at_356) rfl k) ?_
                refine own_go (fun _ k => XS.ifNo X58.here hx rfl (hb hby at_358) rfl ((if0 _ _).trans (feq (by decide : ¬ ((1 : Int32) = (0 : Int32)))).1) k) ?_
                refine own_go (fun _ k => XS.dload X58.here hx rfl (hb hby at_361) rfl k) ?_
                show own_Run p e below _ T58 (mkF m 363 #[.val (.long p1), .second, .val (.long mm), .second, .val (.int p3), .val (.int xk), .val (.long mm), .second, .val (.double (FP.ddiv (FP.l2d p1) (FP.l2d mm))), .second, .val (.int (1 : Int32)), .val (.int (0 : Int32)), .val (.int (1 : Int32)), .unset, .unset, .unset, .unset, .unset] [(.double (FP.ddiv (FP.l2d p1) (FP.l2d mm)))])
                refine own_go (fun _ k => XS.dconst0 X58.here hx rfl (hb hby at_363) rfl k) ?_
                refine own_go (fun _ k => XS.dcmpS X58.here hx rfl (hb hby at_364) rfl (own_k3d p1 mm hm hc281_59 (fun q => hc287_60 (q.mpr hc299_62)) _) k) ?_
                refine own_go (fun _ k => XS.ifYes X58.here hx rfl (pc0 := 365) (pc' := 372) rfl (hb hby at_365) rfl ((if0 _ _).trans (flt (by decide : ¬ ((0 : Int32) < (-1 : Int32)))).2.2.2) (by decide) (by decide) k) ?_
                refine own_go (fun _ k => XS.iconst X58.here hx rfl (hb hby at_372) k) ?_
                refine own_go (fun _ k => XS.iload X58.here hx rfl (hb hby at_373) rfl k) ?_
                show own_Run p e below _ T58 (mkF m 375 #[.val (.long p1), .second, .val (.long mm), .second, .val (.int p3), .val (.int xk), .val (.long mm), .second, .val (.double (FP.ddiv (FP.l2d p1) (FP.l2d mm))), .second, .val (.int (1 : Int32)), .val (.int (0 : Int32)), .val (.int (1 : Int32)), .unset, .unset, .unset, .unset, .unset] [(.int (0 : Int32)), (.int (0 : Int32))])
                refine own_go (fun _ k => XS.icmpNo X58.here hx rfl (hb hby at_375) rfl (teq (by decide : (0 : Int32) = (0 : Int32))).2 k) ?_
                refine own_go (fun _ k => XS.dload X58.here hx rfl (hb hby at_378) rfl k) ?_
                refine own_go (fun _ k => XS.dconst0 X58.here hx rfl (hb hby at_380) rfl k) ?_
                refine own_go (fun _ k => XS.dcmpS X58.here hx rfl (hb hby at_381) rfl (own_k3d p1 mm hm hc281_59 (fun q => hc287_60 (q.mpr hc299_62)) _) k) ?_
                refine own_go (fun _ k => XS.ifNo X58.here hx rfl (hb hby at_382) rfl ((if0 _ _).trans (tlt (by decide : (-1 : Int32) < (0 : Int32))).2.1) k) ?_
                show own_Run p e below _ T58 (mkF m 385 #[.val (.long p1), .second, .val (.long mm), .second, .val (.int p3), .val (.int xk), .val (.long mm), .second, .val (.double (FP.ddiv (FP.l2d p1) (FP.l2d mm))), .second, .val (.int (1 : Int32)), .val (.int (0 : Int32)), .val (.int (1 : Int32)), .unset, .unset, .unset, .unset, .unset] [])
                refine own_go (fun _ k => XS.iconst X58.here hx rfl (hb hby at_385) k) ?_
                refine own_go (fun _ k => XS.goto X58.here hx rfl (pc0 := 386) (pc' := 390) rfl (hb hby at_386) (by decide) (by decide) k) ?_
                refine own_go (fun _ k => XS.iload X58.here hx rfl (hb hby at_390) rfl k) ?_
                refine own_go (fun _ k => XS.icmpNo X58.here hx rfl (hb hby at_392) rfl (teq (by decide : (1 : Int32) = (1 : Int32))).2 k) ?_
                refine own_go (fun _ k => XS.iconst X58.here hx rfl (hb hby at_395) k) ?_
                show own_Run p e below _ T58 (mkF m 396 #[.val (.long p1), .second, .val (.long mm), .second, .val (.int p3), .val (.int xk), .val (.long mm), .second, .val (.double (FP.ddiv (FP.l2d p1) (FP.l2d mm))), .second, .val (.int (1 : Int32)), .val (.int (0 : Int32)), .val (.int (1 : Int32)), .unset, .unset, .unset, .unset, .unset] [(.int (1 : Int32))])
                refine own_go (fun _ k => XS.goto X58.here hx rfl (pc0 := 396) (pc' := 400) rfl (hb hby at_396) (by decide) (by decide) k) ?_
                refine own_done (Q := fun v h L => Q0 Z p1 p2 p3 h0 n0 v h L) (v := (some (.int (1 : Int32)))) X58 (fun h => by rw [hret] at h; cases h) hlk (fun fs hr => retN X58 hx (t := .boolean) hret (by simp) (hb hby at_400) hr) ?_ (by decide) (by decide)
                show Q0 Z p1 p2 p3 h0 n0 _ T58.heap _
                rw [e58]
                exact ⟨rfl, N58⟩
              · refine own_go (fun _ k => XS.ifYes X58.here hx rfl (pc0 := 299) (pc' := 306) rfl (hb hby at_299) rfl (own_lcF hc299_62).2.2.2 (by decide) (by decide) k) ?_
                refine own_go (fun _ k => XS.iconst X58.here hx rfl (hb hby at_306) k) ?_
                refine own_go (fun _ k => XS.icmpNo X58.here hx rfl (hb hby at_307) rfl (teq (by decide : (0 : Int32) = (0 : Int32))).2 k) ?_
                show own_Run p e below _ T58 (mkF m 310 #[.val (.long p1), .second, .val (.long mm), .second, .val (.int p3), .val (.int xk), .val (.long mm), .second, .val (.double (FP.ddiv (FP.l2d p1) (FP.l2d mm))), .second, .val (.int (1 : Int32)), .unset, .unset, .unset, .unset, .unset, .unset, .unset] [])
                refine own_go (fun _ k => XS.iconst X58.here hx rfl (hb hby at_310) k) ?_
                refine own_go (fun _ k => XS.goto X58.here hx rfl (pc0 := 311) (pc' := 315) rfl (hb hby at_311) (by decide) (by decide) k) ?_
                refine own_go (fun _ k => XS.istore X58.here hx rfl (hb hby at_315) rfl (l' := #[.val (.long p1), .second, .val (.long mm), .second, .val (.int p3), .val (.int xk), .val (.long mm), .second, .val (.double (FP.ddiv (FP.l2d p1) (FP.l2d mm))), .second, .val (.int (1 : Int32)), .val (.int (1 : Int32)), .unset, .unset, .unset, .unset, .unset, .unset]) rfl k) ?_
                refine own_go (fun _ k => XS.lloadN X58.here hx rfl (hb hby at_317) rfl k) ?_
                refine own_go (fun _ k => XS.lconst X58.here hx rfl (hb hby at_318) k) ?_
                show own_Run p e below _ T58 (mkF m 319 #[.val (.long p1), .second, .val (.long mm), .second, .val (.int p3), .val (.int xk), .val (.long mm), .second, .val (.double (FP.ddiv (FP.l2d p1) (FP.l2d mm))), .second, .val (.int (1 : Int32)), .val (.int (1 : Int32)), .unset, .unset, .unset, .unset, .unset, .unset] [(.long (0 : Int64)), (.long p1)])
                refine own_go (fun _ k => XS.lcmp X58.here hx rfl (hb hby at_319) rfl k) ?_
                refine own_go (fun _ k => XS.ifNo X58.here hx rfl (hb hby at_320) rfl (own_lcFe hc281_59).1 k) ?_
                refine own_go (fun _ k => XS.lloadN X58.here hx rfl (hb hby at_323) rfl k) ?_
                refine own_go (fun _ k => XS.lconst X58.here hx rfl (hb hby at_324) k) ?_
                refine own_go (fun _ k => XS.lcmp X58.here hx rfl (hb hby at_325) rfl k) ?_
                show own_Run p e below _ T58 (mkF m 326 #[.val (.long p1), .second, .val (.long mm), .second, .val (.int p3), .val (.int xk), .val (.long mm), .second, .val (.double (FP.ddiv (FP.l2d p1) (FP.l2d mm))), .second, .val (.int (1 : Int32)), .val (.int (1 : Int32)), .unset, .unset, .unset, .unset, .unset, .unset] [(.int (lcmpW p1 (0 : Int64)))])
                refine own_go (fun _ k => XS.ifYes X58.here hx rfl (pc0 := 326) (pc' := 333) rfl (hb hby at_326) rfl (own_lcF hc287_60).2.2.2 (by decide) (by decide) k) ?_
                refine own_go (fun _ k => XS.iconst X58.here hx rfl (hb hby at_333) k) ?_
                refine own_go (fun _ k => XS.lload X58.here hx rfl (hb hby at_334) rfl k) ?_
                refine own_go (fun _ k => XS.lconst X58.here hx rfl (hb hby at_336) k) ?_
                refine own_go (fun _ k => XS.lcmp X58.here hx rfl (hb hby at_337) rfl k) ?_
                show own_Run p e below _ T58 (mkF m 338 #[.val (.long p1), .second, .val (.long mm), .second, .val (.int p3), .val (.int xk), .val (.long mm), .second, .val (.double (FP.ddiv (FP.l2d p1) (FP.l2d mm))), .second, .val (.int (1 : Int32)), .val (.int (1 : Int32)), .unset, .unset, .unset, .unset, .unset, .unset] [(.int (lcmpW mm (0 : Int64))), (.int (0 : Int32))])
                refine own_go (fun _ k => XS.ifYes X58.here hx rfl (pc0 := 338) (pc' := 345) rfl (hb hby at_338) rfl (own_lcF hc299_62).2.2.2 (by decide) (by decide) k) ?_
                refine own_go (fun _ k => XS.iconst X58.here hx rfl (hb hby at_345) k) ?_
                refine own_go (fun _ k => XS.icmpYes X58.here hx rfl (pc0 := 346) (pc' := 353) rfl (hb hby at_346) rfl (teq (by decide : (0 : Int32) = (0 : Int32))).1 (by decide) (by decide) k) ?_
                refine own_go (fun _ k => XS.iconst X58.here hx rfl (hb hby at_353) k) ?_
                refine own_go (fun _ k => XS.istore X58.here hx rfl (hb hby at_354) rfl (l' := #[.val (.long p1), .second, .val (.long mm), .second, .val (.int p3), .val (.int xk), .val (.long mm), .second, .val (.double (FP.ddiv (FP.l2d p1) (FP.l2d mm))), .second, .val (.int (1 : Int32)), .val (.int (1 : Int32)), .val (.int (0 : Int32)), .unset, .unset, .unset, .unset, .unset]) rfl k) ?_
                show own_Run p e below _ T58 (mkF m 356 #[.val (.long p1), .second, .val (.long mm), .second, .val (.int p3), .val (.int xk), .val (.long mm), .second, .val (.double (FP.ddiv (FP.l2d p1) (FP.l2d mm))), .second, .val (.int (1 : Int32)), .val (.int (1 : Int32)), .val (.int (0 : Int32)), .unset, .unset, .unset, .unset, .unset] [])
                refine own_go (fun _ k => XS.iload X58.here hx rfl (hb hby at_356) rfl k) ?_
                refine own_go (fun _ k => XS.ifNo X58.here hx rfl (hb hby at_358) rfl ((if0 _ _).trans (feq (by decide : ¬ ((1 : Int32) = (0 : Int32)))).1) k) ?_
                refine own_go (fun _ k => XS.dload X58.here hx rfl (hb hby at_361) rfl k) ?_
                refine own_go (fun _ k => XS.dconst0 X58.here hx rfl (hb hby at_363) rfl k) ?_
                refine own_go (fun _ k => XS.dcmpS X58.here hx rfl (hb hby at_364) rfl (own_k3s p1 mm hm hc281_59 (iff_of_false hc287_60 hc299_62) _) k) ?_
                show own_Run p e below _ T58 (mkF m 365 #[.val (.long p1), .second, .val (.long mm), .second, .val (.int p3), .val (.int xk), .val (.long mm), .second, .val (.double (FP.ddiv (FP.l2d p1) (FP.l2d mm))), .second, .val (.int (1 : Int32)), .val (.int (1 : Int32)), .val (.int (0 : Int32)), .unset, .unset, .unset, .unset, .unset] [(.int (1 : Int32))])
                refine own_go (fun _ k => XS.ifNo X58.here hx rfl (hb hby at_365) rfl ((if0 _ _).trans (tlt (by decide : (0 : Int32) < (1 : Int32))).2.2.2) k) ?_
                refine own_go (fun _ k => XS.iconst X58.here hx rfl (hb hby at_368) k) ?_
                refine own_go (fun _ k => XS.goto X58.here hx rfl (pc0 := 369) (pc' := 373) rfl (hb hby at_369) (by decide) (by decide) k) ?_
                refine own_go (fun _ k => XS.iload X58.here hx rfl (hb hby at_373) rfl k) ?_
                refine own_go (fun _ k => XS.icmpNo X58.here hx rfl (hb hby at_375) rfl (teq (by decide : (1 : Int32) = (1 : Int32))).2 k) ?_
                show own_Run p e below _ T58 (mkF m 378 #[.val (.long p1), .second, .val (.long mm), .second, .val (.int p3), .val (.int xk), .val (.long mm), .second, .val (.double (FP.ddiv (FP.l2d p1) (FP.l2d mm))), .second, .val (.int (1 : Int32)), .val (.int (1 : Int32)), .val (.int (0 : Int32)), .unset, .unset, .unset, .unset, .unset] [])
                refine own_go (fun _ k => XS.dload X58.here hx rfl (hb hby at_378) rfl k) ?_
                refine own_go (fun _ k => XS.dconst0 X58.here hx rfl (hb hby at_380) rfl k) ?_
                refine own_go (fun _ k => XS.dcmpS X58.here hx rfl (hb hby at_381) rfl (own_k3s p1 mm hm hc281_59 (iff_of_false hc287_60 hc299_62) _) k) ?_
                refine own_go (fun _ k => XS.ifYes X58.here hx rfl (pc0 := 382) (pc' := 389) rfl (hb hby at_382) rfl ((if0 _ _).trans (flt (by decide : ¬ ((1 : Int32) < (0 : Int32)))).2.1) (by decide) (by decide) k) ?_
                refine own_go (fun _ k => XS.iconst X58.here hx rfl (hb hby at_389) k) ?_
                show own_Run p e below _ T58 (mkF m 390 #[.val (.long p1), .second, .val (.long mm), .second, .val (.int p3), .val (.int xk), .val (.long mm), .second, .val (.double (FP.ddiv (FP.l2d p1) (FP.l2d mm))), .second, .val (.int (1 : Int32)), .val (.int (1 : Int32)), .val (.int (0 : Int32)), .unset, .unset, .unset, .unset, .unset] [(.int (0 : Int32))])
                refine own_go (fun _ k => XS.iload X58.here hx rfl (hb hby at_390) rfl k) ?_
                refine own_go (fun _ k => XS.icmpNo X58.here hx rfl (hb hby at_392) rfl (teq (by decide : (0 : Int32) = (0 : Int32))).2 k) ?_
                refine own_go (fun _ k => XS.iconst X58.here hx rfl (hb hby at_395) k) ?_
                refine own_go (fun _ k => XS.goto X58.here hx rfl (pc0 := 396) (pc' := 400) rfl (hb hby at_396) (by decide) (by decide) k) ?_
                refine own_done (Q := fun v h L => Q0 Z p1 p2 p3 h0 n0 v h L) (v := (some (.int (1 : Int32)))) X58 (fun h => by rw [hret] at h; cases h) hlk (fun fs hr => retN X58 hx (t := .boolean) hret (by simp) (hb hby at_400) hr) ?_ (by decide) (by decide)
                show Q0 Z p1 p2 p3 h0 n0 _ T58.heap _
                rw [e58]
                exact ⟨rfl, N58⟩
set_option maxRecDepth 65536 in
set_option maxHeartbeats 40000000 in
theorem comes_1 {Post : Tables → Env → Array Value → State → Outcome → State → Prop} (hpost : ∀ tb e args s v u, (limb_1_1.after args s (.returned v) u = true ∧ limb_1_2.after args s (.returned v) u = true ∧ True) → FrameEnd s (.returned v) u (Jvm.fieldLocs frame_1_writes args s ++ Jvm.arrayLocs frame_1_arrays args s ++ Jvm.staticLocs frame_1_statics s) 16 128 → Post tb e args s (.returned v) u) :
    ArmFor flags0 classFile x code maxLocals ret World_1 tables_1 room_1 Calls_1 rest_1 Pre_1 Post := by
  intro l hfl _ _ p e ha hc hk s m args below hf hA hF happ hP
  obtain ⟨hcalls, hrest, hpre⟩ := hP
  obtain ⟨-, -, -, hnamed, -, -, -, hat⟩ := (Spec.applies_iff hf).mp happ
  obtain ⟨hg, hn⟩ := and_e (Cond.before_iff.mp (show (Jvm.Cond.and given_1 narrow_1).before args s = true from hpre))
  obtain ⟨hcount, hr0⟩ := and_e hg
  obtain ⟨ha0, hr1⟩ := and_e hr0
  obtain ⟨ha1, hr2⟩ := and_e hr1
  have ha2 := hr2
  obtain ⟨w0, w1, w2, rfl⟩ : ∃ w0 w1 w2 : Value, args = #[w0, w1, w2] := by
    have hs : args.size = 3 := by simpa [Cond.value, given_1] using hcount
    obtain ⟨L⟩ := args
    match L, hs with
    | [w0, w1, w2], _ => exact ⟨w0, w1, w2, rfl⟩
  have hw := fun d (hd : d ∈ tables_1) => atoms_spec (ws := Jvm.Cond.code x code maxLocals ret :: tables_1) hat d (List.mem_cons_of_mem _ hd)
  have W := fun (k : Nat) {d : Jvm.Cond} (h : tables_1[k]? = some d) => hw d (List.mem_of_getElem? h)
  have hfit : Fit s := fun {y c} hc i hi => by
    obtain ⟨ha, rfl⟩ := Array.getElem?_eq_some_iff.mp hc
    have q := List.all_eq_true.mp ((Array.all_eq_true_iff_forall_mem.mp hF) _ (Array.getElem_mem ha)) i (List.mem_range.mpr hi)
    simpa [Array.getElem?_eq_getElem hi] using q
  obtain ⟨i0, ei0⟩ := isL_v ha0
  obtain rfl : w0 = (.long i0) := Option.some.inj ei0
  obtain ⟨i1, ei1⟩ := isL_v ha1
  obtain rfl : w1 = (.long i1) := Option.some.inj ei1
  obtain ⟨i2, ei2⟩ := is_v ha2
  obtain rfl : w2 = (.int i2) := Option.some.inj ei2
  obtain ⟨n, o, h1, h2, h3, _, L, rfl, ⟨rfl, N⟩, hq⟩ := rm0 l s _ hw tables_1 i0 i1 i2 s.heap s.heap.size (Nat.le_refl _) p e ha hc hk s m _ below hf ((Spec.applies_iff_loose hf).mp happ).1 ⟨rfl, State.Warmed39.refl s, rfl⟩ trivial
  refine ⟨n, _, h1, h2, h3, hpost _ _ _ _ _ _ ⟨Cond.after_iff.mpr rfl, Cond.after_iff.mpr (eq_i res_at (Term.int_eval (1)) rfl), trivial⟩ ⟨hq.1, hq.2.1, (hq.2.2.sift fun y hy => Or.inr (N y hy)).mono (by decide) (by decide)⟩⟩
theorem main_1_1 : Claimed_1_1 := comes_1 fun _ _ _ _ _ _ h hF => ⟨h.1, hF⟩
theorem main_1_2 : Claimed_1_2 := comes_1 fun _ _ _ _ _ _ h hF => ⟨h.2.1, hF⟩
end Jvm.Pilot.@@N@@
namespace Jvm.Pilot.@@N@@
open Jvm Jvm.ClassFile Sem Op Lib Jvm.Free Jvm.Stand Jvm.Pilot.@@N@@.Jvm.D
/-! MADE BY PROGRAM (witnessworld.py) out of the Statement's table words and the real class files: 11 classes; the members and pool entries that the words name. The judged class is class 1, her method 1. -/
namespace start1
open Jvm.ClassFile
def u (s : String) : CpInfo := .utf8 (stringToUtf16 s)
/-- a pool by its gaps: so many unusable entries, then the entry; so many at the end -/
def gap : Nat → List CpInfo → List CpInfo
  | 0, r => r
  | n + 1, r => .unusable :: gap n r
def poolList (es : List (Nat × CpInfo)) (last : Nat) : List CpInfo := es.foldr (fun e r => gap e.1 (e.2 :: r)) (gap last [])
def pool (es : List (Nat × CpInfo)) (last : Nat) : Array CpInfo := ⟨poolList es last⟩
def fileOf (pool : Array CpInfo) (this : Nat) (attrs : Array Attribute := #[]) (ms : Array MethodInfo := #[]) (fl : Nat := 33) (sup : Nat := 0) (ifs : Array Nat := #[]) (fds : Array FieldInfo := #[]) : ClassFile where
  minorVersion := 0
  majorVersion := 65
  constantPool := pool
  accessFlags := fl
  thisClass := this
  superClass := sup
  interfaces := ifs
  fields := fds
  methods := ms
  attributes := attrs
def plain (name : String) (sup : Option ClassId) : Class where
  name := name
  kind := .ordinary
  loader := none
  accessFlags := 33
  super := sup
  interfaces := #[]
  cf := none
  fields := #[]
  methods := #[]
  instanceTypes := #[]
  staticTypes := #[]
  resolved := #[]
  callSites := []
  init := .initialized
  statics := none
  mirror := none

def pool0 : Array CpInfo := pool [(5, u "<init>"), (0, u "()V"), (1, .class_ 10), (1, u "java/lang/Object")] 113

def k0c0 : Code := { maxStack := 0, maxLocals := 1, code := object_method_1_code, exceptionTable := #[], attributes := #[] }
def k0m0 : Method := { name := "<init>", desc := "()V", sig := { parameters := [], returnType := none }, accessFlags := 1, code := some k0c0 }
/-- java/lang/Object -/
def k0 : Class := { plain "java/lang/Object" none with
  accessFlags := 33
  interfaces := #[]
  cf := some (fileOf pool0 8 #[] #[{ accessFlags := 1, nameIndex := 5, descriptorIndex := 6, attributes := #[] }] 33 0 #[] #[])
  fields := #[]
  methods := #[k0m0]
  instanceTypes := #[]
  staticTypes := #[]
  resolved := Array.replicate 124 none
  statics := none }

def pool1 : Array CpInfo := pool [(2, .class_ 4), (1, u "java/lang/Object"), (0, u "<init>"), (0, u "()V"), (0, .class_ 8), (0, u "com/example/network_analytics_service/networkanalyticsservice/core/sliceload/Levels$InForce"), (0, .methodref 7 10), (0, .nameAndType 5 11), (0, u "(JJ)V"), (0, .methodref 7 13), (0, .nameAndType 14 15), (0, u "mean"), (0, u "()D"), (0, .long 9007199254740991), (1, .methodref 19 20), (0, .class_ 21), (0, .nameAndType 22 23), (0, u "java/lang/Math"), (0, u "max"), (0, u "(JJ)J"), (0, .class_ 25), (0, u "com/example/network_analytics_service/networkanalyticsservice/core/sliceload/InForceMeanPinLaw"), (2, u "law"), (0, u "(JJI)Z")] 7

def k1m0 : Method := { name := "<init>", desc := "()V", sig := { parameters := [], returnType := none }, accessFlags := 1, code := none }
def k1c1 : Code := { maxStack := 6, maxLocals := 18, code := code, exceptionTable := #[], attributes := #[] }
def k1m1 : Method := { name := "law", desc := "(JJI)Z", sig := { parameters := [.long, .long, .int], returnType := some .boolean }, accessFlags := 9, code := some k1c1 }
/-- com/example/network_analytics_service/networkanalyticsservice/core/sliceload/InForceMeanPinLaw -/
def k1 : Class := { plain "com/example/network_analytics_service/networkanalyticsservice/core/sliceload/InForceMeanPinLaw" (some 0) with
  accessFlags := 49
  interfaces := #[]
  cf := some (fileOf pool1 24 #[] #[{ accessFlags := 1, nameIndex := 5, descriptorIndex := 6, attributes := #[] }, { accessFlags := 9, nameIndex := 28, descriptorIndex := 29, attributes := #[] }] 49 2 #[] #[])
  fields := #[]
  methods := #[k1m0, k1m1]
  instanceTypes := #[]
  staticTypes := #[]
  resolved := Array.replicate 37 none
  statics := none }

def pool2 : Array CpInfo := pool [(1, .methodref 2 3), (0, .class_ 4), (0, .nameAndType 5 6), (0, u "java/lang/Object"), (0, u "<init>"), (0, u "()V"), (0, .class_ 8), (0, u "java/lang/Record")] 13

def k2c0 : Code := { maxStack := 1, maxLocals := 1, code := jdk_30_method_1_code, exceptionTable := #[], attributes := #[] }
def k2m0 : Method := { name := "<init>", desc := "()V", sig := { parameters := [], returnType := none }, accessFlags := 4, code := some k2c0 }
/-- java/lang/Record -/
def k2 : Class := { plain "java/lang/Record" (some 0) with
  accessFlags := 1057
  interfaces := #[]
  cf := some (fileOf pool2 7 #[] #[{ accessFlags := 4, nameIndex := 5, descriptorIndex := 6, attributes := #[] }] 1057 2 #[] #[])
  fields := #[]
  methods := #[k2m0]
  instanceTypes := #[]
  staticTypes := #[]
  resolved := Array.replicate 22 none
  statics := none }

def pool3 : Array CpInfo := pool [(1, .methodref 2 3), (0, .class_ 4), (0, .nameAndType 5 6), (0, u "java/lang/Record"), (0, u "<init>"), (0, u "()V"), (0, .fieldref 8 9), (0, .class_ 10), (0, .nameAndType 11 12), (0, u "com/example/network_analytics_service/networkanalyticsservice/core/sliceload/Levels$InForce"), (0, u "millis"), (0, u "J"), (0, .fieldref 8 14), (0, .nameAndType 15 12), (0, u "weighted"), (2, .double 9221120237041090560), (30, u "(JJ)V"), (3, u "mean"), (0, u "()D"), (11, .class_ 67), (0, u "com/example/network_analytics_service/networkanalyticsservice/core/sliceload/Levels")] 20

def k3c0 : Code := { maxStack := 3, maxLocals := 5, code := prog_6_method_1_code, exceptionTable := #[], attributes := #[] }
def k3m0 : Method := { name := "<init>", desc := "(JJ)V", sig := { parameters := [.long, .long], returnType := none }, accessFlags := 0, code := some k3c0 }
def k3c1 : Code := { maxStack := 4, maxLocals := 1, code := prog_6_method_2_code, exceptionTable := #[], attributes := #[] }
def k3m1 : Method := { name := "mean", desc := "()D", sig := { parameters := [], returnType := some .double }, accessFlags := 0, code := some k3c1 }
/-- com/example/network_analytics_service/networkanalyticsservice/core/sliceload/Levels$InForce -/
def k3 : Class := { plain "com/example/network_analytics_service/networkanalyticsservice/core/sliceload/Levels$InForce" (some 2) with
  accessFlags := 48
  interfaces := #[]
  cf := some (fileOf pool3 8 #[.nestHost 66] #[{ accessFlags := 0, nameIndex := 5, descriptorIndex := 49, attributes := #[] }, { accessFlags := 0, nameIndex := 53, descriptorIndex := 54, attributes := #[] }] 48 2 #[] #[{ accessFlags := 18, nameIndex := 11, descriptorIndex := 12, attributes := #[] }, { accessFlags := 18, nameIndex := 15, descriptorIndex := 12, attributes := #[] }])
  fields := #[{ name := "millis", type := .long, accessFlags := 18, slot := 0, constantValue := 0 }, { name := "weighted", type := .long, accessFlags := 18, slot := 1, constantValue := 0 }]
  methods := #[k3m0, k3m1]
  instanceTypes := #[.long, .long]
  staticTypes := #[]
  resolved := Array.replicate 88 none
  statics := none }

def pool4 : Array CpInfo := pool [(1, .class_ 2), (0, u "java/lang/Math"), (1, .class_ 6), (1, u "java/lang/Object"), (0, u "<init>"), (0, u "()V"), (89, .class_ 100), (1, u "java/lang/Math$RandomNumberGeneratorHolder"), (20, u "(JJ)J"), (50, u "negativeZeroFloatBits"), (0, u "J"), (2, u "negativeZeroDoubleBits"), (21, u "max"), (46, u "$assertionsDisabled"), (0, u "Z"), (91, u "twoToTheDoubleScaleDown"), (0, u "D"), (4, u "twoToTheDoubleScaleUp"), (9, u "E"), (3, u "PI"), (2, u "TAU"), (2, u "DEGREES_TO_RADIANS"), (0, u "RADIANS_TO_DEGREES")] 94

def k4m0 : Method := { name := "<init>", desc := "()V", sig := { parameters := [], returnType := none }, accessFlags := 2, code := none }
def k4c1 : Code := { maxStack := 4, maxLocals := 4, code := jdk_29_method_66_code, exceptionTable := #[], attributes := #[] }
def k4m1 : Method := { name := "max", desc := "(JJ)J", sig := { parameters := [.long, .long], returnType := some .long }, accessFlags := 9, code := some k4c1 }
/-- java/lang/Math -/
def k4 : Class := { plain "java/lang/Math" (some 0) with
  accessFlags := 49
  interfaces := #[]
  cf := some (fileOf pool4 1 #[.nestMembers #[98]] #[{ accessFlags := 2, nameIndex := 7, descriptorIndex := 8, attributes := #[] }, { accessFlags := 9, nameIndex := 198, descriptorIndex := 121, attributes := #[] }] 49 4 #[] #[{ accessFlags := 25, nameIndex := 354, descriptorIndex := 339, attributes := #[] }, { accessFlags := 25, nameIndex := 358, descriptorIndex := 339, attributes := #[] }, { accessFlags := 25, nameIndex := 361, descriptorIndex := 339, attributes := #[] }, { accessFlags := 26, nameIndex := 364, descriptorIndex := 339, attributes := #[] }, { accessFlags := 26, nameIndex := 365, descriptorIndex := 339, attributes := #[] }, { accessFlags := 26, nameIndex := 172, descriptorIndex := 173, attributes := #[] }, { accessFlags := 26, nameIndex := 176, descriptorIndex := 173, attributes := #[] }, { accessFlags := 8, nameIndex := 344, descriptorIndex := 339, attributes := #[] }, { accessFlags := 8, nameIndex := 338, descriptorIndex := 339, attributes := #[] }, { accessFlags := 4120, nameIndex := 245, descriptorIndex := 246, attributes := #[] }])
  fields := #[{ name := "E", type := .double, accessFlags := 25, slot := 0, constantValue := 0 }, { name := "PI", type := .double, accessFlags := 25, slot := 1, constantValue := 0 }, { name := "TAU", type := .double, accessFlags := 25, slot := 2, constantValue := 0 }, { name := "DEGREES_TO_RADIANS", type := .double, accessFlags := 26, slot := 3, constantValue := 0 }, { name := "RADIANS_TO_DEGREES", type := .double, accessFlags := 26, slot := 4, constantValue := 0 }, { name := "negativeZeroFloatBits", type := .long, accessFlags := 26, slot := 5, constantValue := 0 }, { name := "negativeZeroDoubleBits", type := .long, accessFlags := 26, slot := 6, constantValue := 0 }, { name := "twoToTheDoubleScaleUp", type := .double, accessFlags := 8, slot := 7, constantValue := 0 }, { name := "twoToTheDoubleScaleDown", type := .double, accessFlags := 8, slot := 8, constantValue := 0 }, { name := "$assertionsDisabled", type := .boolean, accessFlags := 4120, slot := 9, constantValue := 0 }]
  methods := #[k4m0, k4m1]
  instanceTypes := #[]
  staticTypes := #[.double, .double, .double, .double, .double, .long, .long, .double, .double, .boolean]
  resolved := Array.replicate 460 none
  statics := none }

def pool5 : Array CpInfo := pool [(1, u "java/lang/Cloneable"), (0, .class_ 1), (0, u "java/lang/Object"), (0, .class_ 3)] 3

/-- java/lang/Cloneable -/
def k5 : Class := { plain "java/lang/Cloneable" (some 0) with
  accessFlags := 1537
  interfaces := #[]
  cf := some (fileOf pool5 2 #[] #[] 1537 4 #[] #[])
  fields := #[]
  methods := #[]
  instanceTypes := #[]
  staticTypes := #[]
  resolved := Array.replicate 8 none
  statics := none }

def pool6 : Array CpInfo := pool [(1, u "java/io/Serializable"), (0, .class_ 1), (0, u "java/lang/Object"), (0, .class_ 3)] 3

/-- java/io/Serializable -/
def k6 : Class := { plain "java/io/Serializable" (some 0) with
  accessFlags := 1537
  interfaces := #[]
  cf := some (fileOf pool6 2 #[] #[] 1537 4 #[] #[])
  fields := #[]
  methods := #[]
  instanceTypes := #[]
  staticTypes := #[]
  resolved := Array.replicate 8 none
  statics := none }

/-- the primitive byte -/
def k7 : Class := { plain "byte" none with kind := .primitive 'B', accessFlags := 0x411 }
/-- [B -/
def k8 : Class := { plain "[B" (some 0) with kind := .array 7 .byte, interfaces := #[5, 6], accessFlags := 1041 }

/-- the primitive int -/
def k9 : Class := { plain "int" none with kind := .primitive 'I', accessFlags := 0x411 }
/-- [I -/
def k10 : Class := { plain "[I" (some 0) with kind := .array 9 .int, interfaces := #[5, 6], accessFlags := 1041 }

def heap : Heap := #[]
def classes : Array Class := #[k0, k1, k2, k3, k4, k5, k6, k7, k8, k9, k10]
def interned : List (Array UInt16 × Addr) := []
def slotsUsed : Nat := 0
def theMethod : MethodId := ⟨1, 1⟩
def args0 : Array Value := #[.long 5, .long 3, .int 2]
def aboutOver (below : List Frame) : State where
  vm := { classes := classes, interned := interned.toArray }
  heap := heap
  slotsUsed := slotsUsed
  threads := #[{ frames := .invoking theMethod args0 :: below }]
def below0 : List Frame := [.native { method := ⟨0, 0⟩, args := #[] }]
def about1 : State := aboutOver below0
def p0 : Program := .bare "" "" ""
def e0 : Env := launch0.env 0 0 0
theorem w_frames : about1.frames = Frame.invoking theMethod args0 :: below0 := rfl
set_option maxRecDepth 65536 in
theorem w_args : argsFit about1.vm theMethod args0 = true := by decide +kernel
set_option maxRecDepth 65536 in
theorem w_heap : heapFits about1 = true := by decide +kernel
set_option maxRecDepth 65536 in
theorem w_runnable : about1.curStatus? = some .runnable := by decide +kernel
set_option maxRecDepth 65536 in
theorem w_alone : about1.alone = true := by decide +kernel
set_option maxRecDepth 65536 in
theorem w_named : about1.methodNamed? x = some theMethod := by decide +kernel
set_option maxRecDepth 65536 in
theorem w_hears : about1.hears theMethod below0 = true := by decide +kernel
set_option maxRecDepth 65536 in
theorem w_ripe : about1.ripe theMethod args0 below0 = true := by decide +kernel
theorem w_running : about1.status = .running := rfl
set_option maxRecDepth 65536 in
theorem w_room : about1.hasRoom e0.platform room_1 = true :=
  launch0.hasRoom_least _ room_1 (by decide +kernel) (by decide +kernel) (by decide +kernel) (by decide +kernel) (by decide +kernel) (by decide +kernel)
theorem allAtoms_all (ts : List Jvm.Cond) (a : Array Jvm.Value) (st : Jvm.State) : (allAtoms ts).before a st = ts.all (fun c => c.before a st) := by
  induction ts with
  | nil => rfl
  | cons c t ih =>
    show (Jvm.Cond.and c (allAtoms t)).before a st = _
    rw [Jvm.Cond.before_and, ih, List.all_cons]
def words1 : List Jvm.Cond := Jvm.Cond.code x code maxLocals ret :: tables_1
/-- a 'code' word, met by the world's own term for the bytes: nothing is compared byte by byte -/
theorem code_word {y : MethodName} {bytes : ByteArray} {mx : Nat} {rt : Option FieldType} {a : Array Value} {s : State} {m : MethodId} {meth : Method} {c : Code} (h1 : s.methodNamed? y = some m) (h2 : s.vm.method? m = some meth) (h3 : meth.code = some c) (h4 : c.code = bytes)
    (h5 : (c.maxLocals == mx && c.exceptionTable.isEmpty && decide (c.maxStack ≤ mostOperands) && decide (meth.sig.returnType = rt) && !meth.locks && decide (parseMethodDescriptor y.desc = some meth.sig)) = true) : (Jvm.Cond.code y bytes mx rt).before a s = true := by
  simp only [Bool.and_eq_true, beq_iff_eq, Bool.not_eq_true', decide_eq_true_eq] at h5
  obtain ⟨⟨⟨⟨⟨g1, g2⟩, g3⟩, g4⟩, g5⟩, g6⟩ := h5
  simp [Cond.before, Cond.holds, Cond.value, h1, h2, h3, h4, g1, g2, g3, g4, g5, g6]
def isCode : Jvm.Cond → Bool
  | .code _ _ _ _ => true
  | _ => false
theorem all_split {L : List Jvm.Cond} {P : Jvm.Cond → Bool} (h1 : L.all (fun c => isCode c || P c) = true) (h2 : ∀ c ∈ L.filter isCode, P c = true) : L.all P = true := by
  refine List.all_eq_true.mpr fun c hc => ?_
  have h := List.all_eq_true.mp h1 c hc
  rcases Bool.eq_false_or_eq_true (isCode c) with hi | hi
  · exact h2 c (List.mem_filter.mpr ⟨hc, hi⟩)
  · simpa [hi] using h
set_option maxRecDepth 65536 in
theorem w_c0 : (Jvm.Cond.code x code maxLocals ret).before args0 about1 = true := code_word (m := ⟨1, 1⟩) (meth := k1m1) (c := k1c1) (by decide +kernel) rfl rfl rfl (by decide +kernel)
set_option maxRecDepth 65536 in
theorem w_c1 : (Jvm.Cond.code ({ cls := "com/example/network_analytics_service/networkanalyticsservice/core/sliceload/Levels$InForce", name := "<init>", desc := "(JJ)V" } : Jvm.MethodName) prog_6_method_1_code (5 : Nat) (Option.none : Option Jvm.ClassFile.FieldType)).before args0 about1 = true := code_word (m := ⟨3, 0⟩) (meth := k3m0) (c := k3c0) (by decide +kernel) rfl rfl rfl (by decide +kernel)
set_option maxRecDepth 65536 in
theorem w_c2 : (Jvm.Cond.code ({ cls := "java/lang/Record", name := "<init>", desc := "()V" } : Jvm.MethodName) jdk_30_method_1_code (1 : Nat) (Option.none : Option Jvm.ClassFile.FieldType)).before args0 about1 = true := code_word (m := ⟨2, 0⟩) (meth := k2m0) (c := k2c0) (by decide +kernel) rfl rfl rfl (by decide +kernel)
set_option maxRecDepth 65536 in
theorem w_c3 : (Jvm.Cond.code ({ cls := "java/lang/Object", name := "<init>", desc := "()V" } : Jvm.MethodName) object_method_1_code (1 : Nat) (Option.none : Option Jvm.ClassFile.FieldType)).before args0 about1 = true := code_word (m := ⟨0, 0⟩) (meth := k0m0) (c := k0c0) (by decide +kernel) rfl rfl rfl (by decide +kernel)
set_option maxRecDepth 65536 in
theorem w_c4 : (Jvm.Cond.code ({ cls := "com/example/network_analytics_service/networkanalyticsservice/core/sliceload/Levels$InForce", name := "mean", desc := "()D" } : Jvm.MethodName) prog_6_method_2_code (1 : Nat) (Option.some Jvm.ClassFile.FieldType.double)).before args0 about1 = true := code_word (m := ⟨3, 1⟩) (meth := k3m1) (c := k3c1) (by decide +kernel) rfl rfl rfl (by decide +kernel)
set_option maxRecDepth 65536 in
theorem w_c5 : (Jvm.Cond.code ({ cls := "java/lang/Math", name := "max", desc := "(JJ)J" } : Jvm.MethodName) jdk_29_method_66_code (4 : Nat) (Option.some Jvm.ClassFile.FieldType.long)).before args0 about1 = true := code_word (m := ⟨4, 1⟩) (meth := k4m1) (c := k4c1) (by decide +kernel) rfl rfl rfl (by decide +kernel)
def codes1 : List Jvm.Cond := [Jvm.Cond.code x code maxLocals ret, Jvm.Cond.code ({ cls := "com/example/network_analytics_service/networkanalyticsservice/core/sliceload/Levels$InForce", name := "<init>", desc := "(JJ)V" } : Jvm.MethodName) prog_6_method_1_code (5 : Nat) (Option.none : Option Jvm.ClassFile.FieldType), Jvm.Cond.code ({ cls := "java/lang/Record", name := "<init>", desc := "()V" } : Jvm.MethodName) jdk_30_method_1_code (1 : Nat) (Option.none : Option Jvm.ClassFile.FieldType), Jvm.Cond.code ({ cls := "java/lang/Object", name := "<init>", desc := "()V" } : Jvm.MethodName) object_method_1_code (1 : Nat) (Option.none : Option Jvm.ClassFile.FieldType), Jvm.Cond.code ({ cls := "com/example/network_analytics_service/networkanalyticsservice/core/sliceload/Levels$InForce", name := "mean", desc := "()D" } : Jvm.MethodName) prog_6_method_2_code (1 : Nat) (Option.some Jvm.ClassFile.FieldType.double), Jvm.Cond.code ({ cls := "java/lang/Math", name := "max", desc := "(JJ)J" } : Jvm.MethodName) jdk_29_method_66_code (4 : Nat) (Option.some Jvm.ClassFile.FieldType.long)]
set_option maxRecDepth 65536 in
theorem codes_eq : words1.filter isCode = codes1 := rfl
theorem w_codes : ∀ c ∈ words1.filter isCode, c.before args0 about1 = true := by
  rw [codes_eq]
  intro c hc
  simp only [codes1, List.mem_cons, List.not_mem_nil, or_false] at hc
  rcases hc with rfl | rfl | rfl | rfl | rfl | rfl
  · exact w_c0
  · exact w_c1
  · exact w_c2
  · exact w_c3
  · exact w_c4
  · exact w_c5
set_option maxRecDepth 65536 in
theorem w_t1 : (words1.take 24).all (fun c => isCode c || c.before args0 about1) = true := by decide +kernel
set_option maxRecDepth 65536 in
theorem w_t2 : (words1.drop 24).all (fun c => isCode c || c.before args0 about1) = true := by decide +kernel
theorem w_tables : (allAtoms (Jvm.Cond.code x code maxLocals ret :: tables_1)).before args0 about1 = true := by
  rw [allAtoms_all]
  show words1.all (fun c => c.before args0 about1) = true
  refine all_split ?_ w_codes
  rw [← List.take_append_drop 24 words1, List.all_append, w_t1, w_t2]
  rfl
set_option maxRecDepth 65536 in
theorem w_case : (Jvm.Cond.and given_1 narrow_1).before args0 about1 = true := by decide +kernel
theorem w_applies : (headSpec (Jvm.Cond.code x code maxLocals ret :: tables_1) room_1).applies x e0.platform about1 = true :=
  (Spec.applies_iff w_frames).mpr ⟨w_running, w_runnable, w_alone, w_named, w_hears, w_ripe, w_room, w_tables⟩
theorem atStart : AtStart classFile x code maxLocals ret World_1 tables_1 room_1 Calls_1 rest_1 Pre_1 launch0 p0 e0 about1 theMethod args0 below0 :=
  ⟨lists_1, trivial, launch0.admits_env _ _ _, launch0.least_env, fairChoices_fair.cas, fairChoices_fair.clock, w_frames, w_args, w_heap, w_applies, trivial, trivial, w_case⟩
end start1
theorem witness_1 : WitnessClaimed_1 := ⟨start1.p0, start1.e0, start1.about1, start1.theMethod, start1.args0, start1.below0, start1.atStart⟩
end Jvm.Pilot.@@N@@
