import JvmDerived
import JvmDerived.Pilot.@@N@@Statement
import JvmDerived.Pilot.@@N@@Code
set_option linter.unusedVariables false
set_option linter.unusedSimpArgs false
namespace Jvm.Pilot.@@N@@
open Jvm Jvm.ClassFile Sem Op Lib Jvm.Free Jvm.Stand Jvm.LawKit Jvm.RoadKit Bundle Jvm.Pilot.@@N@@.Jvm.D
section OwnRun
variable {p : Program} {l : Launch} {e : Env} {R : Room} {s : State} {m : MethodId} {args : Array Value} {below : List Frame} {meth : Method} {c : Code} {T T' : State} {locs : List Loc} {cells slots : Nat}
/-- from here the run ends, as G says -/
def own_Run (p : Program) (e : Env) (below : List Frame) (G : Outcome → State → Prop) (T : State) (g : JFrame) : Prop :=
  ∃ s₂ o, Steps p.tables e below (T.setTop g) s₂ ∧ s₂.status = .running ∧ Ended s₂ below o ∧ G o s₂
theorem own_go {G : Outcome → State → Prop} {g g' : JFrame} (h : ∀ t, Steps p.tables e below (T'.setTop g') t → Steps p.tables e below (T.setTop g) t) (k : own_Run p e below G T' g') : own_Run p e below G T g := by
  obtain ⟨s₂, o, h1, h2, h3, h4⟩ := k
  exact ⟨s₂, o, h _ h1, h2, h3, h4⟩
theorem own_goT {G : Outcome → State → Prop} {g g' : JFrame} (h : Steps p.tables e below (T.setTop g) (T'.setTop g')) (k : own_Run p e below G T' g') : own_Run p e below G T g :=
  own_go (fun _ q => h.trans q) k
theorem own_start {G : Outcome → State → Prop} {f f' : JFrame} (h : f = f') (k : own_Run p e below G T f') : ∃ s₂ o, Steps p.tables e below (T.setTop f) s₂ ∧ s₂.status = .running ∧ Ended s₂ below o ∧ G o s₂ := by
  subst h
  exact k
theorem own_done {Q : Option Value → Heap → List Loc → Prop} {C N : Nat} {g : JFrame} (X : Stand p l e R s m args below meth c T locs cells slots) {v : Option Value} (hv : meth.sig.returnType = none → v = none) (hlocks : meth.locks = false)
    (hstep : ∀ fs, (∀ (f : JFrame) (acts : List Action), f.method = m → f.locked = none → f.entered = [] → (doReturn e (T.setTop f) acts v).1 = T.setFrames fs) → Steps p.tables e below (T.setTop g) (T.setFrames fs))
    (hQ : Q v T.heap locs) (hc : cells ≤ C) (hs : slots ≤ N) :
    own_Run p e below (fun o U' => ∃ v L, o = .returned v ∧ Q v U'.heap L ∧ FrameEnd s o U' L C N) T g := by
  obtain ⟨fs, hr, hrun, hended, hW, hsame⟩ := X.leave hv hlocks
  exact ⟨_, _, hstep fs hr, hrun, hended, _, _, rfl, hQ, ⟨_, rfl⟩, hW, hsame.mono hc hs⟩
theorem own_doneW {vm₁ : Vm} {n : Nat} {Q : Option Value → Heap → List Loc → Prop} {C N : Nat} {g : JFrame} (X : Stand p l e R (s.setVm vm₁) m args below meth c T locs cells slots) (hS : s.Since vm₁ n) (hn : n ≤ T.heap.size) {v : Option Value} (hv : meth.sig.returnType = none → v = none) (hlocks : meth.locks = false)
    (hstep : ∀ fs, (∀ (f : JFrame) (acts : List Action), f.method = m → f.locked = none → f.entered = [] → (doReturn e (T.setTop f) acts v).1 = T.setFrames fs) → Steps p.tables e below (T.setTop g) (T.setFrames fs))
    (hQ : Q v T.heap locs) (hc : cells ≤ C) (hs : slots ≤ N) :
    own_Run p e below (fun o U' => ∃ v L, o = .returned v ∧ Q v U'.heap L ∧ ReturnedEndW s o U' L C N) T g := by
  obtain ⟨fs, hr, hrun, hended, a, b, d, hsame⟩ := X.leaveW hS hn hv hlocks
  exact ⟨_, _, hstep fs hr, hrun, hended, _, _, rfl, hQ, a, b, d, hsame.mono hc hs⟩
theorem own_mono {cells' slots' : Nat} (X : Stand p l e R s m args below meth c T locs cells slots) (hc : cells ≤ cells') (hs : slots ≤ slots') : Stand p l e R s m args below meth c T locs cells' slots' :=
  ⟨X.admits, X.cas, X.clock, X.frames, X.room, X.hears, X.method, X.code, X.here, X.tail, X.warmed, X.limits, X.bytes, X.same.mono hc hs⟩
theorem own_retI (X : Stand p l e R s m args below meth c T locs cells slots) (hx : p.tables.exec = Jvm.exec) {pc : Nat} {Ls : Array Slot} {z : Int32} {rest : List Value} (hret : meth.sig.returnType = some .int) (hd : decode c.code pc = .ok (.ireturn, 1)) {fs : List Frame}
    (hl : ∀ (f : JFrame) (acts : List Action), f.method = m → f.locked = none → f.entered = [] → (doReturn e (T.setTop f) acts (some (.int z))).1 = T.setFrames fs) : Steps p.tables e below (T.setTop (mkF m pc Ls (.int z :: rest))) (T.setFrames fs) :=
  retOut X hx hret rfl (Or.inl ⟨rfl, Or.inl rfl, z, rfl⟩) hd hl
theorem own_retL (X : Stand p l e R s m args below meth c T locs cells slots) (hx : p.tables.exec = Jvm.exec) {pc : Nat} {Ls : Array Slot} {z : Int64} {rest : List Value} (hret : meth.sig.returnType = some .long) (hd : decode c.code pc = .ok (.lreturn, 1)) {fs : List Frame}
    (hl : ∀ (f : JFrame) (acts : List Action), f.method = m → f.locked = none → f.entered = [] → (doReturn e (T.setTop f) acts (some (.long z))).1 = T.setFrames fs) : Steps p.tables e below (T.setTop (mkF m pc Ls (.long z :: rest))) (T.setFrames fs) :=
  retOut X hx hret rfl (Or.inr (Or.inl ⟨rfl, rfl, z, rfl⟩)) hd hl
theorem own_retA {t : FieldType} (X : Stand p l e R s m args below meth c T locs cells slots) (hx : p.tables.exec = Jvm.exec) {pc : Nat} {Ls : Array Slot} {w : Value} {rest : List Value} (hret : meth.sig.returnType = some t) (ht : t.isReference = true) (hn : narrow t w = w) (hw : w.isRef = true) (hd : decode c.code pc = .ok (.areturn, 1)) {fs : List Frame}
    (hl : ∀ (f : JFrame) (acts : List Action), f.method = m → f.locked = none → f.entered = [] → (doReturn e (T.setTop f) acts (some w)).1 = T.setFrames fs) : Steps p.tables e below (T.setTop (mkF m pc Ls (w :: rest))) (T.setFrames fs) :=
  retOut X hx hret hn (Or.inr (Or.inr (Or.inr (Or.inr ⟨rfl, ht, hw⟩)))) hd hl
theorem own_ns {Z : State} {h : Heap} {a : Addr} {C : String} (E : Exa Z h a C) : ∃ c : Cell, h[a]? = some c ∧ c.vm.isStatics = false := by
  obtain ⟨c, k, h1, -, -, h4, -⟩ := E
  exact ⟨c, h1, h4⟩
theorem own_nsV {Z : State} {h : Heap} {a : Addr} {k : ClassId} {ty : FieldType} {n : Int32} {vs : List Value} {d : Value} (V : Arv Z h a k ty n vs d) : ∃ c : Cell, h[a]? = some c ∧ c.vm.isStatics = false := by
  obtain ⟨c, A, -⟩ := V
  exact ⟨c, A.1, A.plain⟩
theorem own_staKeep {Z : State} {h h' : Heap} {ws : List Addr} {C n d : String} {w : Value} (F : Sta Z h C n d w) (K : Keep h h' ws) (q : ∀ x ∈ ws, ∃ c : Cell, h[x]? = some c ∧ c.vm.isStatics = false) : Sta Z h' C n d w := by
  obtain ⟨cf, i, k, f, st, cell, h1, h2, h3, h4, h5, h6, h7⟩ := F
  refine ⟨cf, i, k, f, st, cell, h1, h2, h3, h4, K.2.1 st cell h5 (fun hm => ?_), h6, h7⟩
  obtain ⟨c, e1, e2⟩ := q st hm
  cases h5.symm.trans e1
  rw [h6] at e2; cases e2
theorem own_eqL {args : Array Value} {first s : State} {o : Option Outcome} {idx : List Nat} {t : Term} {n : Int64} (h : (Jvm.Cond.eq t (Term.long n)).value args first o s idx = some true) : t.eval args first o idx s = some (.long n) := by
  cases ht : t.eval args first o idx s with
  | none => simp [Cond.value, ht] at h
  | some x => cases x <;> simp [Cond.value, ht, Term.eval] at h ⊢ <;> exact h
theorem own_eqI {args : Array Value} {first s : State} {o : Option Outcome} {idx : List Nat} {t : Term} {n : Int32} (h : (Jvm.Cond.eq t (Term.int n)).value args first o s idx = some true) : t.eval args first o idx s = some (.int n) := by
  cases ht : t.eval args first o idx s with
  | none => simp [Cond.value, ht] at h
  | some x => cases x <;> simp [Cond.value, ht, Term.eval] at h ⊢ <;> exact h
theorem own_eqR {args : Array Value} {first s : State} {o : Option Outcome} {idx : List Nat} {t u : Term} {x : Addr} (h : (Jvm.Cond.eq t u).value args first o s idx = some true) (hu : u.eval args first o idx s = some (.ref x)) : t.eval args first o idx s = some (.ref x) := by
  cases ht : t.eval args first o idx s with
  | none => simp [Cond.value, ht] at h
  | some y => cases y <;> simp [Cond.value, ht, hu] at h ⊢ <;> exact h
theorem own_nf {s : State} {args : Array Value} {C : String} {y y' : MethodName} (hsel : (Jvm.Cond.selects C y y).before args s = true) (hc : y'.cls = y.cls) : NotFace s y' := fun r0 h0 => by
  obtain ⟨c2, r2, m2, q1, q2, q3, q4, kP, hkP, hkPi⟩ := Cond.selects_spec hsel
  have a := findClass_of_methodNamed q3
  have b := findClass_of_methodNamed h0
  rw [hc] at b
  have e := Option.some.inj (a.symm.trans b)
  exact ⟨kP, by rw [← e]; exact hkP, hkPi⟩
theorem own_selP {s : State} {args args' : Array Value} {C : String} {y y' : MethodName} (hsel : (Jvm.Cond.selects C y' y').before args s = true) (hc : y.cls = y'.cls) (hpriv : s.PrivateAt y) (hinst : (Jvm.Cond.instanceMethod y).before args' s = true) (hy : y.cls ≠ "java/lang/invoke/MethodHandle" ∧ y.cls ≠ "java/lang/invoke/VarHandle") : (Jvm.Cond.selects y.cls y y).before args' s = true := by
  obtain ⟨mk, methM, hnamed, -, -, -⟩ := Cond.instanceMethod_spec hinst
  obtain ⟨k, hk, hni⟩ := own_nf hsel hc mk hnamed
  exact selects_self_of_private (findClass_of_methodNamed hnamed) hk hni hpriv hinst hy
end OwnRun
theorem own_lcLt {x y : Int64} (h : x < y) : lcmpW x y = -1 := by
  have h1 : ¬ (x > y) := by simp only [GT.gt, Int64.lt_iff_toInt_lt] at h ⊢; omega
  have h2 : ¬ (x = y) := by rintro rfl; exact Int64.lt_irrefl h
  simp [lcmpW, h1, h2]
theorem own_lcGt {x y : Int64} (h : y < x) : lcmpW x y = 1 := by
  have h1 : x > y := h
  simp [lcmpW, h1]
theorem own_lcEq {x y : Int64} (h : x = y) : lcmpW x y = 0 := by
  subst h
  have h1 : ¬ (x > x) := Int64.lt_irrefl
  simp [lcmpW, h1]
theorem own_lcNlt {x y : Int64} (h : ¬ x < y) : lcmpW x y = 0 ∨ lcmpW x y = 1 := by
  by_cases q : x = y
  · exact Or.inl (own_lcEq q)
  · refine Or.inr (own_lcGt ?_)
    simp only [Int64.lt_iff_toInt_lt, ← Int64.toInt_inj] at h q ⊢; omega
theorem own_lcNgt {x y : Int64} (h : ¬ y < x) : lcmpW x y = 0 ∨ lcmpW x y = -1 := by
  by_cases q : x = y
  · exact Or.inl (own_lcEq q)
  · refine Or.inr (own_lcLt ?_)
    simp only [Int64.lt_iff_toInt_lt, ← Int64.toInt_inj] at h q ⊢; omega
theorem own_lcNe {x y : Int64} (h : ¬ x = y) : lcmpW x y = 1 ∨ lcmpW x y = -1 := by
  by_cases q : x < y
  · exact Or.inr (own_lcLt q)
  · refine Or.inl (own_lcGt ?_)
    simp only [Int64.lt_iff_toInt_lt, ← Int64.toInt_inj] at h q ⊢; omega
theorem own_lcT {x y : Int64} (h : x < y) : ifCond.holds .lt (lcmpW x y) = true ∧ ifCond.holds .ge (lcmpW x y) = false ∧ ifCond.holds .gt (lcmpW y x) = true ∧ ifCond.holds .le (lcmpW y x) = false := by
  rw [own_lcLt h, own_lcGt h]; decide
theorem own_lcF {x y : Int64} (h : ¬ x < y) : ifCond.holds .lt (lcmpW x y) = false ∧ ifCond.holds .ge (lcmpW x y) = true ∧ ifCond.holds .gt (lcmpW y x) = false ∧ ifCond.holds .le (lcmpW y x) = true := by
  rcases own_lcNlt h with q | q <;> rcases own_lcNgt (x := y) (y := x) h with r | r <;> rw [q, r] <;> decide
theorem own_lcTe {x y : Int64} (h : x = y) : ifCond.holds .eq (lcmpW x y) = true ∧ ifCond.holds .ne (lcmpW x y) = false := by
  rw [own_lcEq h]; decide
theorem own_lcFe {x y : Int64} (h : ¬ x = y) : ifCond.holds .eq (lcmpW x y) = false ∧ ifCond.holds .ne (lcmpW x y) = true := by
  rcases own_lcNe h with q | q <;> rw [q] <;> decide
theorem own_maskI (x : Int32) (M : Nat) (hM : M < 2 ^ 31) : (x &&& Int32.ofNat M).toInt = ((x.toBitVec.toNat &&& M : Nat) : Int) := by
  have h1 : (x &&& Int32.ofNat M).toBitVec.toNat = x.toBitVec.toNat &&& M := by
    rw [Int32.toBitVec_and, BitVec.toNat_and]
    congr 1
    show (BitVec.ofNat 32 M).toNat = M
    rw [BitVec.toNat_ofNat]; omega
  have h2 : x.toBitVec.toNat &&& M ≤ M := Nat.and_le_right
  rw [Int32.toInt, BitVec.toInt_eq_toNat_of_lt (by rw [h1]; omega), h1]
theorem own_mask0 (x : Int32) (M : Nat) (hM : M < 2 ^ 31) : 0 ≤ (x &&& Int32.ofNat M).toInt ∧ (x &&& Int32.ofNat M).toInt ≤ M := by
  rw [own_maskI x M hM]
  have h2 : x.toBitVec.toNat &&& M ≤ M := Nat.and_le_right
  omega
theorem own_rem (x : Int32) (k : Int32) (hx : 0 ≤ x.toInt) (hk : 0 < k.toInt) : 0 ≤ (x % k).toInt ∧ (x % k).toInt < k.toInt := by
  rw [Int32.toInt_mod]
  exact ⟨Int.tmod_nonneg _ hx, Int.tmod_lt_of_pos _ hk⟩
theorem own_bm (z : Int) (h1 : -2147483648 ≤ z) (h2 : z < 2147483648) : z.bmod (2 ^ 32) = z := by
  rw [Int.bmod_def]; split <;> omega
theorem own_addI (a b : Int32) (h1 : -2147483648 ≤ a.toInt + b.toInt) (h2 : a.toInt + b.toInt < 2147483648) : (a + b).toInt = a.toInt + b.toInt := by
  rw [Int32.toInt_add, own_bm _ h1 h2]
theorem own_subI (a b : Int32) (h1 : -2147483648 ≤ a.toInt - b.toInt) (h2 : a.toInt - b.toInt < 2147483648) : (a - b).toInt = a.toInt - b.toInt := by
  rw [Int32.toInt_sub, own_bm _ h1 h2]
theorem own_nz (a : Int32) (h : 0 < a.toInt) : a ≠ 0 := by
  rintro rfl; exact absurd h (by decide)
theorem own_ushr (x k : Int32) (n : Nat) (h : ((k &&& 31).toUInt32.toBitVec % 32).toNat = n) (hn : 0 < n) : ((x.toUInt32 >>> (k &&& 31).toUInt32).toInt32).toInt = ((x.toBitVec.toNat >>> n : Nat) : Int) ∧ x.toBitVec.toNat >>> n < 2 ^ (32 - n) := by
  have e : ((x.toUInt32 >>> (k &&& 31).toUInt32).toInt32).toBitVec = x.toBitVec >>> n := by
    show x.toBitVec >>> ((k &&& 31).toUInt32.toBitVec % 32) = _
    rw [BitVec.ushiftRight_eq', h]
  have hx : x.toBitVec.toNat < 2 ^ 32 := x.toBitVec.isLt
  have e2 : x.toBitVec.toNat >>> n < 2 ^ (32 - n) := by
    rw [Nat.shiftRight_eq_div_pow]
    rcases Nat.lt_or_ge n 32 with q | q
    · rw [Nat.div_lt_iff_lt_mul (Nat.two_pow_pos n), ← Nat.pow_add, Nat.sub_add_cancel (by omega)]; exact hx
    · rw [Nat.div_eq_of_lt (Nat.lt_of_lt_of_le hx (Nat.pow_le_pow_right (by decide) q))]; exact Nat.two_pow_pos _
  refine ⟨?_, e2⟩
  have e3 : 2 ^ (32 - n) ≤ 2 ^ 31 := Nat.pow_le_pow_right (by decide) (by omega)
  rw [Int32.toInt, e, BitVec.toInt_eq_toNat_of_lt (by rw [BitVec.toNat_ushiftRight]; omega), BitVec.toNat_ushiftRight]
theorem own_lit (a : Int32) (n : Int) (b : Int32) (h : a.toInt = n) (hb : b.toInt = n) : a = b := Int32.toInt_inj.mp (h.trans hb.symm)
theorem own_four (a : Int32) (h0 : 0 ≤ a.toInt) (h1 : a.toInt < 4) : a = 0 ∨ a = 1 ∨ a = 2 ∨ a = 3 := by
  have q : a.toInt = 0 ∨ a.toInt = 1 ∨ a.toInt = 2 ∨ a.toInt = 3 := by omega
  rcases q with q | q | q | q
  · exact Or.inl (own_lit _ _ _ q rfl)
  · exact Or.inr (Or.inl (own_lit _ _ _ q rfl))
  · exact Or.inr (Or.inr (Or.inl (own_lit _ _ _ q rfl)))
  · exact Or.inr (Or.inr (Or.inr (own_lit _ _ _ q rfl)))
theorem own_byte (a : Int32) (h0 : 0 ≤ a.toInt) (h1 : a.toInt < 128) : a.toInt8.toInt32 = a := by
  apply Int32.toInt_inj.mp
  rw [Int8.toInt_toInt32, Int32.toInt_toInt8, Int.bmod_def]; split <;> omega
def own_Cache (Z : State) (h : Heap) (a : Addr) : Prop := ∃ cl : Cell, Arr Z h a cl (.object "java/lang/Integer") ∧ cl.slots.size = 256 ∧ ∀ i, i < 256 → ∃ y : Addr, cl.slots[i]? = some (.ref y) ∧ Exa Z h y "java/lang/Integer"
theorem own_Cache.ext {Z : State} {h h' : Heap} {a : Addr} (F : own_Cache Z h a) (E : Ext h h') : own_Cache Z h' a := by
  obtain ⟨cl, A, S, H⟩ := F
  refine ⟨cl, A.ext E, S, fun i hi => ?_⟩
  obtain ⟨y, h1, h2⟩ := H i hi
  exact ⟨y, h1, h2.ext E⟩
theorem own_Cache.other {Z : State} {h h' : Heap} {a b : Addr} {sl : Nat} {v : Value} (F : own_Cache Z h b) (W : Wr h h' a sl v) (q : b ≠ a) : own_Cache Z h' b := by
  obtain ⟨cl, A, S, H⟩ := F
  refine ⟨cl, A.other W q, S, fun i hi => ?_⟩
  obtain ⟨y, h1, h2⟩ := H i hi
  exact ⟨y, h1, h2.wr W⟩
theorem own_Cache.keep {Z : State} {h h' : Heap} {a : Addr} {ws : List Addr} (F : own_Cache Z h a) (K : Keep h h' ws) (q : a ∉ ws) : own_Cache Z h' a := by
  obtain ⟨cl, A, S, H⟩ := F
  refine ⟨cl, ⟨K.2.1 a cl A.1 q, A.2⟩, S, fun i hi => ?_⟩
  obtain ⟨y, h1, h2⟩ := H i hi
  exact ⟨y, h1, h2.keep K⟩
theorem own_Cache.lt {Z : State} {h : Heap} {a : Addr} (F : own_Cache Z h a) : a < h.size := by
  obtain ⟨cl, A, -⟩ := F
  exact A.lt
theorem own_idx (p : Int32) (h1 : ¬ (p < (1 : Int32))) (h2 : ¬ ((127 : Int32) < p)) : ¬ (p + (128 : Int32) < 0) ∧ (p + (128 : Int32)).toNatClampNeg < 256 := by
  have e1 : (1 : Int32).toInt = 1 := rfl
  have e2 : (127 : Int32).toInt = 127 := rfl
  have e3 : (128 : Int32).toInt = 128 := rfl
  have e0 : (0 : Int32).toInt = 0 := rfl
  rw [Int32.lt_iff_toInt_lt, e1] at h1
  rw [Int32.lt_iff_toInt_lt, e2] at h2
  have q : (p + (128 : Int32)).toInt = p.toInt + 128 := by rw [own_addI _ _ (by omega) (by omega), e3]
  refine ⟨by rw [Int32.lt_iff_toInt_lt, e0, q]; omega, ?_⟩
  simp only [Int32.toNatClampNeg, q]; omega
theorem own_ge (x y : Int32) (h : x = (if (1 : Int32) < y then y else (1 : Int32))) : ¬ (x < (1 : Int32)) := by
  rw [h]
  split
  · rename_i k
    rw [Int32.lt_iff_toInt_lt] at k ⊢; omega
  · exact Int32.lt_irrefl
theorem own_low (x : Int32) (h : ¬ (x < (1 : Int32))) : ¬ (x < (-128 : Int32)) := by
  have e1 : (1 : Int32).toInt = 1 := rfl
  have e2 : (-128 : Int32).toInt = -128 := rfl
  rw [Int32.lt_iff_toInt_lt, e1] at h
  rw [Int32.lt_iff_toInt_lt, e2]; omega
theorem own_notSub {Z : State} {a0 : Array Value} {C S O K : String} {n : Nat} (w1 : (Jvm.Cond.superclass C S).before a0 Z = true) (w2 : (Jvm.Cond.superclass S O).before a0 Z = true) (w3 : (Jvm.Cond.noSuperclass O).before a0 Z = true) (wi : (Jvm.Cond.instantiable K n).before a0 Z = true) (h1 : C ≠ K) (h2 : S ≠ K) (h3 : O ≠ K) : ∃ c t, Z.vm.findClass C = some c ∧ Z.vm.findClass K = some t ∧ Z.vm.assignable c t = false := by
  obtain ⟨t, kt, g1, g2, g3, g4, -, -⟩ := Cond.instantiable_spec wi
  have n0 : NS Z O K := by
    obtain ⟨c, k, f1, f2, f3, -, -⟩ := Cond.noSuperclass_spec w3
    have ne := ids_ne f1 g1 h3
    refine ⟨c, t, f1, g1, fun fuel => ?_⟩
    cases fuel with
    | zero => rfl
    | succ f => simp [Vm.isSubclassAux, ne, f2, f3]
  obtain ⟨c, t', f0, f1, f2⟩ := NS.step w1 (NS.step w2 n0 h2) h1
  cases g1.symm.trans f1
  obtain ⟨p, k, kp, q1, q2, q3, q4, q5, -, q7⟩ := Cond.superclass_spec f0 w1
  have ne := ids_ne f0 g1 h1
  have gi : kt.isInterface = false := (Bool.or_eq_false_iff.mp g4).1
  refine ⟨c, t, f0, g1, ?_⟩
  show Z.vm.assignableAux (255 + 1) c t = false
  simp [Vm.assignableAux, ne, q2, g2, q5, g3, gi, Vm.isSubclass, f2]
theorem d1_0 : decode jdk_29_method_65_code 0 = .ok (.iload_n 0, 1) := by decide +kernel
theorem d1_1 : decode jdk_29_method_65_code 1 = .ok (.iload_n 1, 1) := by decide +kernel
theorem d1_2 : decode jdk_29_method_65_code 2 = .ok (.if_icmp .lt 7, 3) := by decide +kernel
theorem d1_5 : decode jdk_29_method_65_code 5 = .ok (.iload_n 0, 1) := by decide +kernel
theorem d1_6 : decode jdk_29_method_65_code 6 = .ok (.goto 4, 3) := by decide +kernel
theorem d1_9 : decode jdk_29_method_65_code 9 = .ok (.iload_n 1, 1) := by decide +kernel
theorem d1_10 : decode jdk_29_method_65_code 10 = .ok (.ireturn, 1) := by decide +kernel
theorem ef_1 (m : MethodId) (x0 : Int32) (x1 : Int32) : entryFrame m #[(.int x0), (.int x1)] 2 = mkF m 0 #[.val (.int x0), .val (.int x1)] [] := by first | (simp [entryFrame, mkF, argsToLocals, Value.category]; done) | rfl
def Q1 (Z : State) (p1 : Int32) (p2 : Int32) (h0 : Heap) (n0 : Nat) (v : Option Value) (h : Heap) (L : List Loc) : Prop := v = some (.int (if p1 < p2 then p2 else p1)) ∧ Fr n0 L ∧ h = h0
set_option maxRecDepth 65536 in
set_option maxHeartbeats 40000000 in
theorem rm1 (l : Launch) (Z : State) (a0 : Array Value) (hw : ∀ d ∈ tables_1, d.before a0 Z = true) (ws : List Jvm.Cond) (p1 : Int32) (p2 : Int32) (h0 : Heap) (n0 : Nat) (Z0 : n0 ≤ h0.size) :
    MetFree l (⟨"java/lang/Math", "max", "(II)I"⟩ : MethodName) (head1 (Jvm.Cond.code (⟨"java/lang/Math", "max", "(II)I"⟩ : MethodName) jdk_29_method_65_code 2 (some .int) :: ws) ({ frames := 0, cells := 0, slots := 0, locals := 0 } : Room)) (fun a U => a = #[(.int p1), (.int p2)] ∧ Z.Warmed39 U.vm ∧ U.heap = h0) (fun _ _ _ _ _ => True) (fun _ U o U' => ∃ v L, o = .returned v ∧ Q1 Z p1 p2 h0 n0 v U'.heap L ∧ FrameEnd U o U' L ({ frames := 0, cells := 0, slots := 0, locals := 0 } : Room).cells ({ frames := 0, cells := 0, slots := 0, locals := 0 } : Room).slots) := by
  refine MetFree.of_bodySF (Jvm.Free.JP.mathPlain rfl (by decide +kernel)) hisR ?_
  intro p e s m args below meth c s₁ Bd hml0 hP hK
  obtain ⟨rfl, hZ, hh⟩ := hP
  have hx := Bd.exec
  have hby := Bd.bytes
  have hml : c.maxLocals = 2 := hml0
  have hown : s.vm.findClass "java/lang/Math" = some m.cls := findClass_of_methodNamed Bd.named
  have hnm := (name_of_methodNamed Bd.named Bd.method).1
  have hret := Bd.returns
  have hlk : meth.locks = false := BodyLoose.notSynchronized Bd
  have X0 : Stand p l e ({ frames := 0, cells := 0, slots := 0, locals := 0 } : Room) s m #[(.int p1), (.int p2)] below meth c s₁ [] 0 0 := Stand.of_body Bd
  have e0 : s₁.heap = h0 := by rw [← hh, Bd.state]; rfl
  have N0 := Fr.nil n0
  have W := fun (k : Nat) {d : Jvm.Cond} (h : tables_1[k]? = some d) => hw d (List.mem_of_getElem? h)
  have K0 : Keep h0 h0 [] := Keep.refl _ _
  refine own_start (ef_1 m p1 p2) ?_
  show own_Run p e below _ s₁ (mkF m 0 #[.val (.int p1), .val (.int p2)] [])
  refine own_go (fun _ k => XS.iloadN X0.here hx rfl (hb hby d1_0) rfl k) ?_
  refine own_go (fun _ k => XS.iloadN X0.here hx rfl (hb hby d1_1) rfl k) ?_
  show own_Run p e below _ s₁ (mkF m 2 #[.val (.int p1), .val (.int p2)] [(.int p2), (.int p1)])
  by_cases hc2_1 : p1 < p2
  · refine own_go (fun _ k => XS.icmpYes X0.here hx rfl (pc0 := 2) (pc' := 9) rfl (hb hby d1_2) rfl (tlt hc2_1).1 (by decide) (by decide) k) ?_
    show own_Run p e below _ s₁ (mkF m 9 #[.val (.int p1), .val (.int p2)] [])
    refine own_go (fun _ k => XS.iloadN X0.here hx rfl (hb hby d1_9) rfl k) ?_
    show own_Run p e below _ s₁ (mkF m 10 #[.val (.int p1), .val (.int p2)] [(.int p2)])
    refine own_done (Q := fun v h L => Q1 Z p1 p2 h0 n0 v h L) (v := (some (.int p2))) X0 (fun h => by rw [hret] at h; cases h) hlk (fun fs hr => own_retI X0 hx hret (hb hby d1_10) hr) ?_ (by decide) (by decide)
    show Q1 Z p1 p2 h0 n0 _ s₁.heap _
    rw [e0]
    exact ⟨by rw [if_pos hc2_1], N0, rfl⟩
  · refine own_go (fun _ k => XS.icmpNo X0.here hx rfl (hb hby d1_2) rfl (flt hc2_1).1 k) ?_
    show own_Run p e below _ s₁ (mkF m 5 #[.val (.int p1), .val (.int p2)] [])
    refine own_go (fun _ k => XS.iloadN X0.here hx rfl (hb hby d1_5) rfl k) ?_
    refine own_go (fun _ k => XS.goto X0.here hx rfl (pc0 := 6) (pc' := 10) rfl (hb hby d1_6) (by decide) (by decide) k) ?_
    show own_Run p e below _ s₁ (mkF m 10 #[.val (.int p1), .val (.int p2)] [(.int p1)])
    refine own_done (Q := fun v h L => Q1 Z p1 p2 h0 n0 v h L) (v := (some (.int p1))) X0 (fun h => by rw [hret] at h; cases h) hlk (fun fs hr => own_retI X0 hx hret (hb hby d1_10) hr) ?_ (by decide) (by decide)
    show Q1 Z p1 p2 h0 n0 _ s₁.heap _
    rw [e0]
    exact ⟨by rw [if_neg hc2_1], N0, rfl⟩
theorem d4_0 : decode jdk_31_method_11_code 0 = .ok (.aload_n 0, 1) := by decide +kernel
theorem d4_1 : decode jdk_31_method_11_code 1 = .ok (.ifnonnull 12, 3) := by decide +kernel
theorem d4_4 : decode jdk_31_method_11_code 4 = .ok (.new 84, 3) := by decide +kernel
theorem d4_7 : decode jdk_31_method_11_code 7 = .ok (.dup, 1) := by decide +kernel
theorem d4_8 : decode jdk_31_method_11_code 8 = .ok (.aload_n 1, 1) := by decide +kernel
theorem d4_9 : decode jdk_31_method_11_code 9 = .ok (.invokespecial 87, 3) := by decide +kernel
theorem d4_12 : decode jdk_31_method_11_code 12 = .ok (.athrow, 1) := by decide +kernel
theorem d4_13 : decode jdk_31_method_11_code 13 = .ok (.aload_n 0, 1) := by decide +kernel
theorem d4_14 : decode jdk_31_method_11_code 14 = .ok (.areturn, 1) := by decide +kernel
theorem pn_4 : plainName "java/util/Objects" = true := by first | (simp [plainName, overriddenIn]; done) | decide +kernel
theorem ef_4 (m : MethodId) (x0 : Addr) (x1 : Addr) : entryFrame m #[(.ref x0), (.ref x1)] 2 = mkF m 0 #[.val (.ref x0), .val (.ref x1)] [] := by first | (simp [entryFrame, mkF, argsToLocals, Value.category]; done) | rfl
def Q4 (Z : State) (a1 : Addr) (a2 : Addr) (h0 : Heap) (n0 : Nat) (v : Option Value) (h : Heap) (L : List Loc) : Prop := v = some (.ref a1) ∧ Fr n0 L ∧ h = h0
set_option maxRecDepth 65536 in
set_option maxHeartbeats 40000000 in
theorem rm4 (l : Launch) (Z : State) (a0 : Array Value) (hw : ∀ d ∈ tables_1, d.before a0 Z = true) (ws : List Jvm.Cond) (a1 : Addr) (a2 : Addr) (h0 : Heap) (n0 : Nat) (Z0 : n0 ≤ h0.size) :
    MetFree l (⟨"java/util/Objects", "requireNonNull", "(Ljava/lang/Object;Ljava/lang/String;)Ljava/lang/Object;"⟩ : MethodName) (head1 (Jvm.Cond.code (⟨"java/util/Objects", "requireNonNull", "(Ljava/lang/Object;Ljava/lang/String;)Ljava/lang/Object;"⟩ : MethodName) jdk_31_method_11_code 2 (some (.object "java/lang/Object")) :: ws) ({ frames := 0, cells := 0, slots := 0, locals := 0 } : Room)) (fun a U => a = #[(.ref a1), (.ref a2)] ∧ Z.Warmed39 U.vm ∧ U.heap = h0) (fun _ _ _ _ _ => True) (fun _ U o U' => ∃ v L, o = .returned v ∧ Q4 Z a1 a2 h0 n0 v U'.heap L ∧ FrameEnd U o U' L ({ frames := 0, cells := 0, slots := 0, locals := 0 } : Room).cells ({ frames := 0, cells := 0, slots := 0, locals := 0 } : Room).slots) := by
  refine MetFree.of_bodySF (plainFor_of_name pn_4) hisR ?_
  intro p e s m args below meth c s₁ Bd hml0 hP hK
  obtain ⟨rfl, hZ, hh⟩ := hP
  have hx := Bd.exec
  have hby := Bd.bytes
  have hml : c.maxLocals = 2 := hml0
  have hown : s.vm.findClass "java/util/Objects" = some m.cls := findClass_of_methodNamed Bd.named
  have hnm := (name_of_methodNamed Bd.named Bd.method).1
  have hret := Bd.returns
  have hlk : meth.locks = false := BodyLoose.notSynchronized Bd
  have X0 : Stand p l e ({ frames := 0, cells := 0, slots := 0, locals := 0 } : Room) s m #[(.ref a1), (.ref a2)] below meth c s₁ [] 0 0 := Stand.of_body Bd
  have e0 : s₁.heap = h0 := by rw [← hh, Bd.state]; rfl
  have N0 := Fr.nil n0
  have W := fun (k : Nat) {d : Jvm.Cond} (h : tables_1[k]? = some d) => hw d (List.mem_of_getElem? h)
  have K0 : Keep h0 h0 [] := Keep.refl _ _
  refine own_start (ef_4 m a1 a2) ?_
  show own_Run p e below _ s₁ (mkF m 0 #[.val (.ref a1), .val (.ref a2)] [])
  refine own_go (fun _ k => XS.aloadN X0.here hx rfl (hb hby d4_0) rfl rfl k) ?_
  show own_Run p e below _ s₁ (mkF m 1 #[.val (.ref a1), .val (.ref a2)] [(.ref a1)])
  refine own_go (fun _ k => XS.ifnonnullYes X0.here hx rfl (pc0 := 1) (pc' := 13) rfl (hb hby d4_1) rfl (by decide) (by decide) k) ?_
  show own_Run p e below _ s₁ (mkF m 13 #[.val (.ref a1), .val (.ref a2)] [])
  refine own_go (fun _ k => XS.aloadN X0.here hx rfl (hb hby d4_13) rfl rfl k) ?_
  show own_Run p e below _ s₁ (mkF m 14 #[.val (.ref a1), .val (.ref a2)] [(.ref a1)])
  refine own_done (Q := fun v h L => Q4 Z a1 a2 h0 n0 v h L) (v := (some (.ref a1))) X0 (fun h => by rw [hret] at h; cases h) hlk (fun fs hr => own_retA X0 hx hret rfl rfl rfl (hb hby d4_14) hr) ?_ (by decide) (by decide)
  show Q4 Z a1 a2 h0 n0 _ s₁.heap _
  rw [e0]
  exact ⟨rfl, N0, rfl⟩
theorem d2_0 : decode prog_35_method_1_code 0 = .ok (.aload_n 0, 1) := by decide +kernel
theorem d2_1 : decode prog_35_method_1_code 1 = .ok (.invokespecial 1, 3) := by decide +kernel
theorem d2_4 : decode prog_35_method_1_code 4 = .ok (.aload_n 0, 1) := by decide +kernel
theorem d2_5 : decode prog_35_method_1_code 5 = .ok (.aload_n 1, 1) := by decide +kernel
theorem d2_6 : decode prog_35_method_1_code 6 = .ok (.ldc 7, 2) := by decide +kernel
theorem d2_8 : decode prog_35_method_1_code 8 = .ok (.invokestatic 9, 3) := by decide +kernel
theorem d2_11 : decode prog_35_method_1_code 11 = .ok (.checkcast 15, 3) := by decide +kernel
theorem d2_14 : decode prog_35_method_1_code 14 = .ok (.putfield 17, 3) := by decide +kernel
theorem d2_17 : decode prog_35_method_1_code 17 = .ok (.iload_n 2, 1) := by decide +kernel
theorem d2_18 : decode prog_35_method_1_code 18 = .ok (.iconst 1, 1) := by decide +kernel
theorem d2_19 : decode prog_35_method_1_code 19 = .ok (.if_icmp .ge 17, 3) := by decide +kernel
theorem d2_22 : decode prog_35_method_1_code 22 = .ok (.new 22, 3) := by decide +kernel
theorem d2_25 : decode prog_35_method_1_code 25 = .ok (.dup, 1) := by decide +kernel
theorem d2_26 : decode prog_35_method_1_code 26 = .ok (.iload_n 2, 1) := by decide +kernel
theorem d2_32 : decode prog_35_method_1_code 32 = .ok (.invokespecial 28, 3) := by decide +kernel
theorem d2_35 : decode prog_35_method_1_code 35 = .ok (.athrow, 1) := by decide +kernel
theorem d2_36 : decode prog_35_method_1_code 36 = .ok (.aload_n 0, 1) := by decide +kernel
theorem d2_37 : decode prog_35_method_1_code 37 = .ok (.iload_n 2, 1) := by decide +kernel
theorem d2_38 : decode prog_35_method_1_code 38 = .ok (.putfield 31, 3) := by decide +kernel
theorem d2_41 : decode prog_35_method_1_code 41 = .ok (.return_, 1) := by decide +kernel
theorem pn_2 : plainName "com/example/near_duplicate_finder/nearduplicatefinder/Shingling" = true := by first | (simp [plainName, overriddenIn]; done) | decide +kernel
theorem ef_2 (m : MethodId) (x0 : Addr) (x1 : Addr) (x2 : Int32) : entryFrame m #[(.ref x0), (.ref x1), (.int x2)] 3 = mkF m 0 #[.val (.ref x0), .val (.ref x1), .val (.int x2)] [] := by first | (simp [entryFrame, mkF, argsToLocals, Value.category]; done) | rfl
theorem pd_1 : parseMethodDescriptor "(Ljava/lang/Object;Ljava/lang/String;)Ljava/lang/Object;" = some ⟨[(.object "java/lang/Object"), (.object "java/lang/String")], some (.object "java/lang/Object")⟩ := by decide +kernel
def Q2 (Z : State) (a1 : Addr) (a2 : Addr) (p3 : Int32) (u1 : Value) (u2 : Value) (h0 : Heap) (n0 : Nat) (v : Option Value) (h : Heap) (L : List Loc) : Prop := v = none ∧ Fr n0 L ∧ Keep h0 h [a1] ∧ Exa Z h a1 "com/example/near_duplicate_finder/nearduplicatefinder/Shingling" ∧ Fld Z h a1 "com/example/near_duplicate_finder/nearduplicatefinder/Shingling" "unit" "Lcom/example/near_duplicate_finder/nearduplicatefinder/Shingling$Unit;" (.ref a2) ∧ Fld Z h a1 "com/example/near_duplicate_finder/nearduplicatefinder/Shingling" "size" "I" (.int p3)
set_option maxRecDepth 65536 in
set_option maxHeartbeats 40000000 in
theorem rm2 (l : Launch) (Z : State) (a0 : Array Value) (hw : ∀ d ∈ tables_1, d.before a0 Z = true) (ws : List Jvm.Cond) (a1 : Addr) (a2 : Addr) (p3 : Int32) (u1 : Value) (u2 : Value) (h0 : Heap) (n0 : Nat) (Z0 : n0 ≤ h0.size) (E_a1 : Exa Z h0 a1 "com/example/near_duplicate_finder/nearduplicatefinder/Shingling") (F_unit_a1 : Fld Z h0 a1 "com/example/near_duplicate_finder/nearduplicatefinder/Shingling" "unit" "Lcom/example/near_duplicate_finder/nearduplicatefinder/Shingling$Unit;" u1) (F_size_a1 : Fld Z h0 a1 "com/example/near_duplicate_finder/nearduplicatefinder/Shingling" "size" "I" u2) (g_a1 : n0 ≤ a1) (E_a2 : Exa Z h0 a2 "com/example/near_duplicate_finder/nearduplicatefinder/Shingling$Unit") (hsz : ¬ (p3 < (1 : Int32))) :
    MetFree l (⟨"com/example/near_duplicate_finder/nearduplicatefinder/Shingling", "<init>", "(Lcom/example/near_duplicate_finder/nearduplicatefinder/Shingling$Unit;I)V"⟩ : MethodName) (head1 (Jvm.Cond.code (⟨"com/example/near_duplicate_finder/nearduplicatefinder/Shingling", "<init>", "(Lcom/example/near_duplicate_finder/nearduplicatefinder/Shingling$Unit;I)V"⟩ : MethodName) prog_35_method_1_code 3 none :: ws) ({ frames := 1, cells := 2, slots := 20, locals := 14 } : Room)) (fun a U => a = #[(.ref a1), (.ref a2), (.int p3)] ∧ Z.Warmed39 U.vm ∧ U.heap = h0) (fun _ _ _ _ _ => True) (fun _ U o U' => ∃ v L, o = .returned v ∧ Q2 Z a1 a2 p3 u1 u2 h0 n0 v U'.heap L ∧ ReturnedEndW U o U' L ({ frames := 1, cells := 2, slots := 20, locals := 14 } : Room).cells ({ frames := 1, cells := 2, slots := 20, locals := 14 } : Room).slots) := by
  refine MetFree.of_bodySF (plainFor_of_name pn_2) hisR ?_
  intro p e s m args below meth c s₁ Bd hml0 hP hK
  obtain ⟨rfl, hZ, hh⟩ := hP
  have hx := Bd.exec
  have hby := Bd.bytes
  have hml : c.maxLocals = 3 := hml0
  have hown : s.vm.findClass "com/example/near_duplicate_finder/nearduplicatefinder/Shingling" = some m.cls := findClass_of_methodNamed Bd.named
  have hnm := (name_of_methodNamed Bd.named Bd.method).1
  have hret := Bd.returns
  have hlk : meth.locks = false := BodyLoose.notSynchronized Bd
  have X0 : Stand p l e ({ frames := 1, cells := 2, slots := 20, locals := 14 } : Room) s m #[(.ref a1), (.ref a2), (.int p3)] below meth c s₁ [] 0 0 := Stand.of_body Bd
  have e0 : s₁.heap = h0 := by rw [← hh, Bd.state]; rfl
  have N0 := Fr.nil n0
  have W := fun (k : Nat) {d : Jvm.Cond} (h : tables_1[k]? = some d) => hw d (List.mem_of_getElem? h)
  have K0 : Keep h0 h0 [a1] := Keep.refl _ _
  refine own_start (ef_2 m a1 a2 p3) ?_
  show own_Run p e below _ s₁ (mkF m 0 #[.val (.ref a1), .val (.ref a2), .val (.int p3)] [])
  have hS0 : s.Since s.vm 0 := (State.WarmedH.refl s).since 0
  have Y0 : 0 ≤ h0.size := Nat.zero_le _
  refine own_go (fun _ k => XS.aloadN X0.here hx rfl (hb hby d2_0) rfl rfl k) ?_
  show own_Run p e below _ s₁ (mkF m 1 #[.val (.ref a1), .val (.ref a2), .val (.int p3)] [(.ref a1)])
  obtain ⟨T2, X2, e2, st2⟩ := initO X0 hx hZ hown (W 14 rfl) (W 15 rfl) (W 16 rfl) e0 (g := (mkF m 1 #[.val (.ref a1), .val (.ref a2), .val (.int p3)] [(.ref a1)])) rfl (by rw [hml]; rfl) rfl (hb hby d2_1) (by decide) (W := 0) (by show 2 * 0 + _ ≤ _; exact Nat.le_of_eq rfl) (by decide)
  refine own_go st2 ?_
  show own_Run p e below _ T2 (mkF m 4 #[.val (.ref a1), .val (.ref a2), .val (.int p3)] [])
  refine own_go (fun _ k => XS.aloadN X2.here hx rfl (hb hby d2_4) rfl rfl k) ?_
  refine own_go (fun _ k => XS.aloadN X2.here hx rfl (hb hby d2_5) rfl rfl k) ?_
  show own_Run p e below _ T2 (mkF m 6 #[.val (.ref a1), .val (.ref a2), .val (.int p3)] [(.ref a2), (.ref a1)])
  have wS3 : ∀ a ∈ Bundle.stringAtoms, a.before a0 Z = true := by
    intro a ha
    simp only [Bundle.stringAtoms, List.mem_cons, List.not_mem_nil, or_false] at ha
    rcases ha with rfl | rfl | rfl | rfl | rfl | rfl | rfl
    · exact (W 18 rfl)
    · exact (W 19 rfl)
    · exact (W 20 rfl)
    · exact (W 21 rfl)
    · exact (W 22 rfl)
    · exact (W 23 rfl)
    · exact (W 24 rfl)
  obtain ⟨ad3, T3, h3, kk3, X3, e3, E3, hS3, Y3, hZ3, hown3, st3⟩ := ldcS (s := s) (vm0 := s.vm) X2 hx hZ hown (W 17 rfl) wS3 e2 (k0 := 0) hS0 Y0 (g := (mkF m 6 #[.val (.ref a1), .val (.ref a2), .val (.int p3)] [(.ref a2), (.ref a1)])) rfl (hb hby d2_6) (n := 16) (by decide) (by decide) (by decide) (by decide)
  refine own_go st3 ?_
  show own_Run p e below _ T3 (mkF m 8 #[.val (.ref a1), .val (.ref a2), .val (.int p3)] [(.ref ad3), (.ref a2), (.ref a1)])
  have Z0_c4 := Nat.le_trans Z0 E3.1
  have K0_c4 := K0.ext E3
  have E_a1_c4 := E_a1.ext E3
  have F_unit_a1_c4 := F_unit_a1.ext E3
  have F_size_a1_c4 := F_size_a1.ext E3
  have E_a2_c4 := E_a2.ext E3
  obtain ⟨_, _, ⟨T5, L5, k5, n5⟩, -, X5, ⟨Lc5, hQ5, l5, y5, z5⟩, st5⟩ := Jvm.LawKit.callS X3 hx (y := (⟨"java/util/Objects", "requireNonNull", "(Ljava/lang/Object;Ljava/lang/String;)Ljava/lang/Object;"⟩ : MethodName)) hown3 (mvT hZ3 (W 25 rfl)) (mvT hZ3 (W 26 rfl)) (mvT hZ3 (W 27 rfl)) (mvT hZ3 (W 28 rfl)) (by decide) (backOf (W := 1) (rm4 l Z a0 hw [] a2 ad3 h3 n0 Z0_c4 ) hZ3 (W 28 rfl) (W 27 rfl) (by decide) (by decide)) (g := (mkF m 8 #[.val (.ref a1), .val (.ref a2), .val (.int p3)] [(.ref ad3), (.ref a2), (.ref a1)])) rfl (by rw [hml]; rfl) (argsL := [(.ref a2), (.ref ad3)]) (rest := [(.ref a1)]) (lenOf pd_1 rfl) rfl (by show 2 * 0 + _ ≤ _; exact Nat.le_of_eq rfl) (hb hby d2_8) (fun _ _ => ⟨rfl, e3, (by decide : 2 + 0 ≤ _), (by decide : 20 + 0 ≤ _)⟩)
  dsimp only [Pt.U, Pt.locs, Pt.cells, Pt.slots] at X5 l5 y5 z5 st5 hQ5
  subst l5 y5 z5
  obtain ⟨rfl, N5q, e5⟩ := hQ5
  have N5 := Fr.app N0 N5q
  refine own_go st5 ?_
  show own_Run p e below _ T5 (mkF m 11 #[.val (.ref a1), .val (.ref a2), .val (.int p3)] [(.ref a2), (.ref a1)])
  obtain ⟨T6, X6, e6, st6⟩ := castY X5 hx hZ3 hown3 (W 29 rfl) e5 (Ins.self E_a2_c4) (g := (mkF m 11 #[.val (.ref a1), .val (.ref a2), .val (.int p3)] [(.ref a2), (.ref a1)])) rfl rfl (hb hby d2_11)
  refine own_go st6 ?_
  show own_Run p e below _ T6 (mkF m 14 #[.val (.ref a1), .val (.ref a2), .val (.int p3)] [(.ref a2), (.ref a1)])
  obtain ⟨T7, h7, X7, e7, W7, st7⟩ := putF X6 hx hZ3 hown3 (host := "") (Or.inl (W 31 rfl)) Via.refl e6 F_unit_a1_c4 E_a1_c4 (Or.inr ⟨(W 32 rfl), rfl, hnm⟩) (W 9 rfl) (ty := (.object "com/example/near_duplicate_finder/nearduplicatefinder/Shingling$Unit")) (by decide) rfl rfl (g := (mkF m 14 #[.val (.ref a1), .val (.ref a2), .val (.int p3)] [(.ref a2), (.ref a1)])) rfl rfl (hb hby d2_14)
  refine own_go st7 ?_
  show own_Run p e below _ T7 (mkF m 17 #[.val (.ref a1), .val (.ref a2), .val (.int p3)] [])
  have Z0_c8 := Nat.le_trans Z0_c4 (Keep.of_wr W7).1
  have K0_c8 := K0_c4.wr W7 (Or.inl (List.mem_of_getElem? (i := 0) rfl))
  have E_a1_c8 := E_a1_c4.wr W7
  have F_size_a1_c8 := F_size_a1_c4.other W7 (Or.inr (slot_ne (Or.inr (W 34 rfl)) (Or.inr (W 32 rfl)) (by decide) (t := .int) (t' := (.object "com/example/near_duplicate_finder/nearduplicatefinder/Shingling$Unit")) (by decide) (by decide)))
  have E_a2_c8 := E_a2_c4.wr W7
  have Y3_c8 := Nat.le_trans Y3 (Keep.of_wr W7).1
  have F_unit_a1_c7 : Fld Z h7 a1 "com/example/near_duplicate_finder/nearduplicatefinder/Shingling" "unit" "Lcom/example/near_duplicate_finder/nearduplicatefinder/Shingling$Unit;" (.ref a2) := F_unit_a1_c4.same W7
  have N7 := Fr.snoc X7 N5 g_a1
  refine own_go (fun _ k => XS.iloadN X7.here hx rfl (hb hby d2_17) rfl k) ?_
  refine own_go (fun _ k => XS.iconst X7.here hx rfl (hb hby d2_18) k) ?_
  show own_Run p e below _ T7 (mkF m 19 #[.val (.ref a1), .val (.ref a2), .val (.int p3)] [(.int (1 : Int32)), (.int p3)])
  refine own_go (fun _ k => XS.icmpYes X7.here hx rfl (pc0 := 19) (pc' := 36) rfl (hb hby d2_19) rfl (flt hsz).2.1 (by decide) (by decide) k) ?_
  show own_Run p e below _ T7 (mkF m 36 #[.val (.ref a1), .val (.ref a2), .val (.int p3)] [])
  refine own_go (fun _ k => XS.aloadN X7.here hx rfl (hb hby d2_36) rfl rfl k) ?_
  refine own_go (fun _ k => XS.iloadN X7.here hx rfl (hb hby d2_37) rfl k) ?_
  show own_Run p e below _ T7 (mkF m 38 #[.val (.ref a1), .val (.ref a2), .val (.int p3)] [(.int p3), (.ref a1)])
  obtain ⟨T9, h9, X9, e9, W9, st9⟩ := putF X7 hx hZ3 hown3 (host := "") (Or.inl (W 33 rfl)) Via.refl e7 F_size_a1_c8 E_a1_c8 (Or.inr ⟨(W 34 rfl), rfl, hnm⟩) (W 9 rfl) (ty := .int) (by decide) rfl rfl (g := (mkF m 38 #[.val (.ref a1), .val (.ref a2), .val (.int p3)] [(.int p3), (.ref a1)])) rfl rfl (hb hby d2_38)
  refine own_go st9 ?_
  show own_Run p e below _ T9 (mkF m 41 #[.val (.ref a1), .val (.ref a2), .val (.int p3)] [])
  have Z0_c10 := Nat.le_trans Z0_c8 (Keep.of_wr W9).1
  have K0_c10 := K0_c8.wr W9 (Or.inl (List.mem_of_getElem? (i := 0) rfl))
  have E_a1_c10 := E_a1_c8.wr W9
  have E_a2_c10 := E_a2_c8.wr W9
  have Y3_c10 := Nat.le_trans Y3_c8 (Keep.of_wr W9).1
  have F_unit_a1_c10 := F_unit_a1_c7.other W9 (Or.inr (slot_ne (Or.inr (W 32 rfl)) (Or.inr (W 34 rfl)) (by decide) (t := (.object "com/example/near_duplicate_finder/nearduplicatefinder/Shingling$Unit")) (t' := .int) (by decide) (by decide)))
  have F_size_a1_c9 : Fld Z h9 a1 "com/example/near_duplicate_finder/nearduplicatefinder/Shingling" "size" "I" (.int p3) := F_size_a1_c8.same W9
  have N9 := Fr.snoc X9 N7 g_a1
  refine own_doneW (vm₁ := T3.vm) (Q := fun v h L => Q2 Z a1 a2 p3 u1 u2 h0 n0 v h L) (v := none) X9 hS3 (by rw [e9]; exact Y3_c10) (fun _ => rfl) hlk (fun fs hr => X9.returnOut hx hret (hb hby d2_41) hr) ?_ (by decide) (by decide)
  show Q2 Z a1 a2 p3 u1 u2 h0 n0 _ T9.heap _
  rw [e9]
  exact ⟨rfl, N9, K0_c10, E_a1_c10, F_unit_a1_c10, F_size_a1_c9⟩
theorem d8_0 : decode jdk_18_method_1_code 0 = .ok (.aload_n 0, 1) := by decide +kernel
theorem d8_1 : decode jdk_18_method_1_code 1 = .ok (.invokespecial 1, 3) := by decide +kernel
theorem d8_4 : decode jdk_18_method_1_code 4 = .ok (.return_, 1) := by decide +kernel
theorem pn_8 : plainName "java/lang/Number" = true := by first | (simp [plainName, overriddenIn]; done) | decide +kernel
theorem ef_8 (m : MethodId) (x0 : Addr) : entryFrame m #[(.ref x0)] 1 = mkF m 0 #[.val (.ref x0)] [] := by first | (simp [entryFrame, mkF, argsToLocals, Value.category]; done) | rfl
def Q8 (Z : State) (a1 : Addr) (h0 : Heap) (n0 : Nat) (v : Option Value) (h : Heap) (L : List Loc) : Prop := v = none ∧ Fr n0 L ∧ h = h0
set_option maxRecDepth 65536 in
set_option maxHeartbeats 40000000 in
theorem rm8 (l : Launch) (Z : State) (a0 : Array Value) (hw : ∀ d ∈ tables_1, d.before a0 Z = true) (ws : List Jvm.Cond) (a1 : Addr) (h0 : Heap) (n0 : Nat) (Z0 : n0 ≤ h0.size) :
    MetFree l (⟨"java/lang/Number", "<init>", "()V"⟩ : MethodName) (head1 (Jvm.Cond.code (⟨"java/lang/Number", "<init>", "()V"⟩ : MethodName) jdk_18_method_1_code 1 none :: ws) ({ frames := 1, cells := 0, slots := 0, locals := 12 } : Room)) (fun a U => a = #[(.ref a1)] ∧ Z.Warmed39 U.vm ∧ U.heap = h0) (fun _ _ _ _ _ => True) (fun _ U o U' => ∃ v L, o = .returned v ∧ Q8 Z a1 h0 n0 v U'.heap L ∧ FrameEnd U o U' L ({ frames := 1, cells := 0, slots := 0, locals := 12 } : Room).cells ({ frames := 1, cells := 0, slots := 0, locals := 12 } : Room).slots) := by
  refine MetFree.of_bodySF (plainFor_of_name pn_8) hisR ?_
  intro p e s m args below meth c s₁ Bd hml0 hP hK
  obtain ⟨rfl, hZ, hh⟩ := hP
  have hx := Bd.exec
  have hby := Bd.bytes
  have hml : c.maxLocals = 1 := hml0
  have hown : s.vm.findClass "java/lang/Number" = some m.cls := findClass_of_methodNamed Bd.named
  have hnm := (name_of_methodNamed Bd.named Bd.method).1
  have hret := Bd.returns
  have hlk : meth.locks = false := BodyLoose.notSynchronized Bd
  have X0 : Stand p l e ({ frames := 1, cells := 0, slots := 0, locals := 12 } : Room) s m #[(.ref a1)] below meth c s₁ [] 0 0 := Stand.of_body Bd
  have e0 : s₁.heap = h0 := by rw [← hh, Bd.state]; rfl
  have N0 := Fr.nil n0
  have W := fun (k : Nat) {d : Jvm.Cond} (h : tables_1[k]? = some d) => hw d (List.mem_of_getElem? h)
  have K0 : Keep h0 h0 [] := Keep.refl _ _
  refine own_start (ef_8 m a1) ?_
  show own_Run p e below _ s₁ (mkF m 0 #[.val (.ref a1)] [])
  refine own_go (fun _ k => XS.aloadN X0.here hx rfl (hb hby d8_0) rfl rfl k) ?_
  show own_Run p e below _ s₁ (mkF m 1 #[.val (.ref a1)] [(.ref a1)])
  obtain ⟨T11, X11, e11, st11⟩ := initO X0 hx hZ hown (W 66 rfl) (W 15 rfl) (W 16 rfl) e0 (g := (mkF m 1 #[.val (.ref a1)] [(.ref a1)])) rfl (by rw [hml]; rfl) rfl (hb hby d8_1) (by decide) (W := 0) (by show 2 * 0 + _ ≤ _; exact Nat.le_of_eq rfl) (by decide)
  refine own_go st11 ?_
  show own_Run p e below _ T11 (mkF m 4 #[.val (.ref a1)] [])
  refine own_done (Q := fun v h L => Q8 Z a1 h0 n0 v h L) (v := none) X11 (fun _ => rfl) hlk (fun fs hr => X11.returnOut hx hret (hb hby d8_4) hr) ?_ (by decide) (by decide)
  show Q8 Z a1 h0 n0 _ T11.heap _
  rw [e11]
  exact ⟨rfl, N0, rfl⟩
theorem d7_0 : decode jdk_33_method_23_code 0 = .ok (.aload_n 0, 1) := by decide +kernel
theorem d7_1 : decode jdk_33_method_23_code 1 = .ok (.invokespecial 202, 3) := by decide +kernel
theorem d7_4 : decode jdk_33_method_23_code 4 = .ok (.aload_n 0, 1) := by decide +kernel
theorem d7_5 : decode jdk_33_method_23_code 5 = .ok (.iload_n 1, 1) := by decide +kernel
theorem d7_6 : decode jdk_33_method_23_code 6 = .ok (.putfield 205, 3) := by decide +kernel
theorem d7_9 : decode jdk_33_method_23_code 9 = .ok (.return_, 1) := by decide +kernel
theorem pn_7 : plainName "java/lang/Integer" = true := by first | (simp [plainName, overriddenIn]; done) | decide +kernel
theorem ef_7 (m : MethodId) (x0 : Addr) (x1 : Int32) : entryFrame m #[(.ref x0), (.int x1)] 2 = mkF m 0 #[.val (.ref x0), .val (.int x1)] [] := by first | (simp [entryFrame, mkF, argsToLocals, Value.category]; done) | rfl
theorem pd_2 : parseMethodDescriptor "()V" = some ⟨[], none⟩ := by decide +kernel
def Q7 (Z : State) (a1 : Addr) (p2 : Int32) (u1 : Value) (h0 : Heap) (n0 : Nat) (v : Option Value) (h : Heap) (L : List Loc) : Prop := v = none ∧ Fr n0 L ∧ Keep h0 h [a1] ∧ Exa Z h a1 "java/lang/Integer"
set_option maxRecDepth 65536 in
set_option maxHeartbeats 40000000 in
theorem rm7 (l : Launch) (Z : State) (a0 : Array Value) (hw : ∀ d ∈ tables_1, d.before a0 Z = true) (ws : List Jvm.Cond) (a1 : Addr) (p2 : Int32) (u1 : Value) (h0 : Heap) (n0 : Nat) (Z0 : n0 ≤ h0.size) (E_a1 : Exa Z h0 a1 "java/lang/Integer") (F_value_a1 : Fld Z h0 a1 "java/lang/Integer" "value" "I" u1) (g_a1 : n0 ≤ a1) :
    MetFree l (⟨"java/lang/Integer", "<init>", "(I)V"⟩ : MethodName) (head1 (Jvm.Cond.code (⟨"java/lang/Integer", "<init>", "(I)V"⟩ : MethodName) jdk_33_method_23_code 2 none :: ws) ({ frames := 2, cells := 0, slots := 0, locals := 24 } : Room)) (fun a U => a = #[(.ref a1), (.int p2)] ∧ Z.Warmed39 U.vm ∧ U.heap = h0) (fun _ _ _ _ _ => True) (fun _ U o U' => ∃ v L, o = .returned v ∧ Q7 Z a1 p2 u1 h0 n0 v U'.heap L ∧ FrameEnd U o U' L ({ frames := 2, cells := 0, slots := 0, locals := 24 } : Room).cells ({ frames := 2, cells := 0, slots := 0, locals := 24 } : Room).slots) := by
  refine MetFree.of_bodySF (plainFor_of_name pn_7) hisR ?_
  intro p e s m args below meth c s₁ Bd hml0 hP hK
  obtain ⟨rfl, hZ, hh⟩ := hP
  have hx := Bd.exec
  have hby := Bd.bytes
  have hml : c.maxLocals = 2 := hml0
  have hown : s.vm.findClass "java/lang/Integer" = some m.cls := findClass_of_methodNamed Bd.named
  have hnm := (name_of_methodNamed Bd.named Bd.method).1
  have hret := Bd.returns
  have hlk : meth.locks = false := BodyLoose.notSynchronized Bd
  have X0 : Stand p l e ({ frames := 2, cells := 0, slots := 0, locals := 24 } : Room) s m #[(.ref a1), (.int p2)] below meth c s₁ [] 0 0 := Stand.of_body Bd
  have e0 : s₁.heap = h0 := by rw [← hh, Bd.state]; rfl
  have N0 := Fr.nil n0
  have W := fun (k : Nat) {d : Jvm.Cond} (h : tables_1[k]? = some d) => hw d (List.mem_of_getElem? h)
  have K0 : Keep h0 h0 [a1] := Keep.refl _ _
  refine own_start (ef_7 m a1 p2) ?_
  show own_Run p e below _ s₁ (mkF m 0 #[.val (.ref a1), .val (.int p2)] [])
  refine own_go (fun _ k => XS.aloadN X0.here hx rfl (hb hby d7_0) rfl rfl k) ?_
  show own_Run p e below _ s₁ (mkF m 1 #[.val (.ref a1), .val (.int p2)] [(.ref a1)])
  obtain ⟨_, _, ⟨T12, L12, k12, n12⟩, -, X12, ⟨Lc12, hQ12, l12, y12, z12⟩, st12⟩ := X0.specialBack hx (y := (⟨"java/lang/Number", "<init>", "()V"⟩ : MethodName)) rfl hown (mvT hZ (W 60 rfl)) (mvT hZ (W 61 rfl)) (mvT hZ (W 65 rfl)) (by decide) (backOf (W := 0) (rm8 l Z a0 hw [] a1 h0 n0 Z0 ) hZ (W 65 rfl) (W 64 rfl) (by decide) (by decide)) (g := (mkF m 1 #[.val (.ref a1), .val (.int p2)] [(.ref a1)])) rfl (by rw [hml]; rfl) (Steps.refl _) (a := a1) (argsL := []) (rest := []) (lenOf pd_2 rfl) rfl (by show 2 * 0 + _ ≤ _; exact Nat.le_of_eq rfl) (hb hby d7_1) (fun _ _ => ⟨rfl, e0, (by decide : 0 + 0 ≤ _), (by decide : 0 + 0 ≤ _)⟩)
  dsimp only [Pt.U, Pt.locs, Pt.cells, Pt.slots] at X12 l12 y12 z12 st12 hQ12
  subst l12 y12 z12
  obtain ⟨rfl, N12q, e12⟩ := hQ12
  have N12 := Fr.app N0 N12q
  refine own_goT st12 ?_
  show own_Run p e below _ T12 (mkF m 4 #[.val (.ref a1), .val (.int p2)] [])
  refine own_go (fun _ k => XS.aloadN X12.here hx rfl (hb hby d7_4) rfl rfl k) ?_
  refine own_go (fun _ k => XS.iloadN X12.here hx rfl (hb hby d7_5) rfl k) ?_
  show own_Run p e below _ T12 (mkF m 6 #[.val (.ref a1), .val (.int p2)] [(.int p2), (.ref a1)])
  obtain ⟨T13, h13, X13, e13, W13, st13⟩ := putF X12 hx hZ hown (host := "") (Or.inl (W 67 rfl)) Via.refl e12 F_value_a1 E_a1 (Or.inr ⟨(W 68 rfl), rfl, hnm⟩) (W 55 rfl) (ty := .int) (by decide) rfl rfl (g := (mkF m 6 #[.val (.ref a1), .val (.int p2)] [(.int p2), (.ref a1)])) rfl rfl (hb hby d7_6)
  refine own_go st13 ?_
  show own_Run p e below _ T13 (mkF m 9 #[.val (.ref a1), .val (.int p2)] [])
  have Z0_c14 := Nat.le_trans Z0 (Keep.of_wr W13).1
  have K0_c14 := K0.wr W13 (Or.inl (List.mem_of_getElem? (i := 0) rfl))
  have E_a1_c14 := E_a1.wr W13
  have F_value_a1_c13 : Fld Z h13 a1 "java/lang/Integer" "value" "I" (.int p2) := F_value_a1.same W13
  have N13 := Fr.snoc X13 N12 g_a1
  refine own_done (Q := fun v h L => Q7 Z a1 p2 u1 h0 n0 v h L) (v := none) X13 (fun _ => rfl) hlk (fun fs hr => X13.returnOut hx hret (hb hby d7_9) hr) ?_ (by decide) (by decide)
  show Q7 Z a1 p2 u1 h0 n0 _ T13.heap _
  rw [e13]
  exact ⟨rfl, N13, K0_c14, E_a1_c14⟩
theorem d5_0 : decode jdk_33_method_22_code 0 = .ok (.iload_n 0, 1) := by decide +kernel
theorem d5_1 : decode jdk_33_method_22_code 1 = .ok (.bipush (-128), 2) := by decide +kernel
theorem d5_3 : decode jdk_33_method_22_code 3 = .ok (.if_icmp .lt 20, 3) := by decide +kernel
theorem d5_6 : decode jdk_33_method_22_code 6 = .ok (.iload_n 0, 1) := by decide +kernel
theorem d5_7 : decode jdk_33_method_22_code 7 = .ok (.getstatic 191, 3) := by decide +kernel
theorem d5_10 : decode jdk_33_method_22_code 10 = .ok (.if_icmp .gt 13, 3) := by decide +kernel
theorem d5_13 : decode jdk_33_method_22_code 13 = .ok (.getstatic 195, 3) := by decide +kernel
theorem d5_16 : decode jdk_33_method_22_code 16 = .ok (.iload_n 0, 1) := by decide +kernel
theorem d5_17 : decode jdk_33_method_22_code 17 = .ok (.sipush 128, 3) := by decide +kernel
theorem d5_20 : decode jdk_33_method_22_code 20 = .ok (.iadd, 1) := by decide +kernel
theorem d5_21 : decode jdk_33_method_22_code 21 = .ok (.aaload, 1) := by decide +kernel
theorem d5_22 : decode jdk_33_method_22_code 22 = .ok (.areturn, 1) := by decide +kernel
theorem d5_23 : decode jdk_33_method_22_code 23 = .ok (.new 1, 3) := by decide +kernel
theorem d5_26 : decode jdk_33_method_22_code 26 = .ok (.dup, 1) := by decide +kernel
theorem d5_27 : decode jdk_33_method_22_code 27 = .ok (.iload_n 0, 1) := by decide +kernel
theorem d5_28 : decode jdk_33_method_22_code 28 = .ok (.invokespecial 199, 3) := by decide +kernel
theorem d5_31 : decode jdk_33_method_22_code 31 = .ok (.areturn, 1) := by decide +kernel
theorem pn_5 : plainName "java/lang/Integer" = true := by first | (simp [plainName, overriddenIn]; done) | decide +kernel
theorem ef_5 (m : MethodId) (x0 : Int32) : entryFrame m #[(.int x0)] 1 = mkF m 0 #[.val (.int x0)] [] := by first | (simp [entryFrame, mkF, argsToLocals, Value.category]; done) | rfl
theorem pd_3 : parseMethodDescriptor "(I)V" = some ⟨[.int], none⟩ := by decide +kernel
def Q5 (Z : State) (p1 : Int32) (ca : Addr) (h0 : Heap) (n0 : Nat) (v : Option Value) (h : Heap) (L : List Loc) : Prop := ∃ (b : Addr), v = some (.ref b) ∧ Fr n0 L ∧ Keep h0 h [] ∧ Exa Z h b "java/lang/Integer"
set_option maxRecDepth 65536 in
set_option maxHeartbeats 40000000 in
theorem rm5 (l : Launch) (Z : State) (a0 : Array Value) (hw : ∀ d ∈ tables_1, d.before a0 Z = true) (ws : List Jvm.Cond) (p1 : Int32) (ca : Addr) (h0 : Heap) (n0 : Nat) (Z0 : n0 ≤ h0.size) (S_high : Sta Z h0 "java/lang/Integer$IntegerCache" "high" "I" (.int (127 : Int32))) (S_cache : Sta Z h0 "java/lang/Integer$IntegerCache" "cache" "[Ljava/lang/Integer;" (.ref ca)) (X_own_Cache_ca : own_Cache Z h0 ca ) (hp1 : ¬ (p1 < (1 : Int32))) :
    MetFree l (⟨"java/lang/Integer", "valueOf", "(I)Ljava/lang/Integer;"⟩ : MethodName) (head1 (Jvm.Cond.code (⟨"java/lang/Integer", "valueOf", "(I)Ljava/lang/Integer;"⟩ : MethodName) jdk_33_method_22_code 1 (some (.object "java/lang/Integer")) :: ws) ({ frames := 3, cells := 1, slots := 1, locals := 38 } : Room)) (fun a U => a = #[(.int p1)] ∧ Z.Warmed39 U.vm ∧ U.heap = h0) (fun _ _ _ _ _ => True) (fun _ U o U' => ∃ v L, o = .returned v ∧ Q5 Z p1 ca h0 n0 v U'.heap L ∧ FrameEnd U o U' L ({ frames := 3, cells := 1, slots := 1, locals := 38 } : Room).cells ({ frames := 3, cells := 1, slots := 1, locals := 38 } : Room).slots) := by
  refine MetFree.of_bodySF (plainFor_of_name pn_5) hisR ?_
  intro p e s m args below meth c s₁ Bd hml0 hP hK
  obtain ⟨rfl, hZ, hh⟩ := hP
  have hx := Bd.exec
  have hby := Bd.bytes
  have hml : c.maxLocals = 1 := hml0
  have hown : s.vm.findClass "java/lang/Integer" = some m.cls := findClass_of_methodNamed Bd.named
  have hnm := (name_of_methodNamed Bd.named Bd.method).1
  have hret := Bd.returns
  have hlk : meth.locks = false := BodyLoose.notSynchronized Bd
  have X0 : Stand p l e ({ frames := 3, cells := 1, slots := 1, locals := 38 } : Room) s m #[(.int p1)] below meth c s₁ [] 0 0 := Stand.of_body Bd
  have e0 : s₁.heap = h0 := by rw [← hh, Bd.state]; rfl
  have N0 := Fr.nil n0
  have W := fun (k : Nat) {d : Jvm.Cond} (h : tables_1[k]? = some d) => hw d (List.mem_of_getElem? h)
  have K0 : Keep h0 h0 [] := Keep.refl _ _
  refine own_start (ef_5 m p1) ?_
  show own_Run p e below _ s₁ (mkF m 0 #[.val (.int p1)] [])
  refine own_go (fun _ k => XS.iloadN X0.here hx rfl (hb hby d5_0) rfl k) ?_
  refine own_go (fun _ k => XS.bipush X0.here hx rfl (hb hby d5_1) k) ?_
  show own_Run p e below _ s₁ (mkF m 3 #[.val (.int p1)] [(.int (-128 : Int32)), (.int p1)])
  refine own_go (fun _ k => XS.icmpNo X0.here hx rfl (hb hby d5_3) rfl (flt (own_low p1 hp1 : ¬ (p1 < (-128 : Int32)))).1 k) ?_
  show own_Run p e below _ s₁ (mkF m 6 #[.val (.int p1)] [])
  refine own_go (fun _ k => XS.iloadN X0.here hx rfl (hb hby d5_6) rfl k) ?_
  show own_Run p e below _ s₁ (mkF m 7 #[.val (.int p1)] [(.int p1)])
  obtain ⟨T15, X15, e15, st15⟩ := getS2 X0 hx hZ hown (host := "") (Or.inl (W 39 rfl)) Via.refl e0 S_high (g := (mkF m 7 #[.val (.int p1)] [(.int p1)])) rfl (hb hby d5_7)
  refine own_go st15 ?_
  show own_Run p e below _ T15 (mkF m 10 #[.val (.int p1)] [(.int (127 : Int32)), (.int p1)])
  by_cases hhi : (127 : Int32) < p1
  · refine own_go (fun _ k => XS.icmpYes X15.here hx rfl (pc0 := 10) (pc' := 23) rfl (hb hby d5_10) rfl (tlt hhi).2.2.1 (by decide) (by decide) k) ?_
    show own_Run p e below _ T15 (mkF m 23 #[.val (.int p1)] [])
    obtain ⟨T16, h16, X16, e16, E16, A16, D16, -, st16⟩ := newO X15 hx hZ hown (W 54 rfl) (W 55 rfl) (W 37 rfl) e15 (g := (mkF m 23 #[.val (.int p1)] [])) rfl (hb hby d5_23) (by decide) (by decide)
    refine own_go st16 ?_
    obtain ⟨b16, g16⟩ : ∃ z, z = h0.size := ⟨_, rfl⟩
    rw [← g16] at A16 D16
    rw [← g16]
    show own_Run p e below _ T16 (mkF m 26 #[.val (.int p1)] [(.ref b16)])
    have ne_ca_b16 : ca ≠ b16 := Nat.ne_of_lt (Nat.lt_of_lt_of_eq X_own_Cache_ca.lt g16.symm)
    have g_b16 : n0 ≤ b16 := Nat.le_trans Z0 (Nat.le_of_eq g16.symm)
    have sz_b16 : h0.size ≤ b16 := Nat.le_trans K0.1 (Nat.le_of_eq g16.symm)
    have Z0_c17 := Nat.le_trans Z0 E16.1
    have K0_c17 := K0.ext E16
    have S_high_c17 := S_high.ext E16
    have S_cache_c17 := S_cache.ext E16
    have X_own_Cache_ca_c17 := X_own_Cache_ca.ext E16
    have F_value_b16 : Fld Z h16 b16 "java/lang/Integer" "value" "I" (.int (0 : Int32)) := D16 (Or.inr (W 68 rfl)) (ty := .int) (by decide)
    refine own_go (fun _ k => XS.dup X16.here hx rfl (hb hby d5_26) rfl rfl k) ?_
    refine own_go (fun _ k => XS.iloadN X16.here hx rfl (hb hby d5_27) rfl k) ?_
    show own_Run p e below _ T16 (mkF m 28 #[.val (.int p1)] [(.int p1), (.ref b16), (.ref b16)])
    obtain ⟨_, _, ⟨T18, L18, k18, n18⟩, -, X18, ⟨Lc18, hQ18, l18, y18, z18⟩, st18⟩ := X16.specialBack hx (y := (⟨"java/lang/Integer", "<init>", "(I)V"⟩ : MethodName)) rfl hown (mvT hZ (W 56 rfl)) (mvT hZ (W 57 rfl)) (mvT hZ (W 59 rfl)) (by decide) (backOf (W := 1) (rm7 l Z a0 hw [] b16 p1 (.int (0 : Int32)) h16 n0 Z0_c17 A16 F_value_b16 g_b16) hZ (W 59 rfl) (W 37 rfl) (by decide) (by decide)) (g := (mkF m 28 #[.val (.int p1)] [(.int p1), (.ref b16), (.ref b16)])) rfl (by rw [hml]; rfl) (Steps.refl _) (a := b16) (argsL := [(.int p1)]) (rest := [(.ref b16)]) (lenOf pd_3 rfl) rfl (by show 2 * 0 + _ ≤ _; exact Nat.le_of_eq rfl) (hb hby d5_28) (fun _ _ => ⟨rfl, e16, (by decide : 1 + 0 ≤ _), (by decide : 1 + 0 ≤ _)⟩)
    dsimp only [Pt.U, Pt.locs, Pt.cells, Pt.slots] at X18 l18 y18 z18 st18 hQ18
    subst l18 y18 z18
    obtain ⟨rfl, N18q, K18, P18_0⟩ := hQ18
    have N18 := Fr.app N0 N18q
    refine own_goT st18 ?_
    show own_Run p e below _ T18 (mkF m 31 #[.val (.int p1)] [(.ref b16)])
    have Z0_c19 := Nat.le_trans Z0_c17 K18.1
    have K0_c19 := K0_c17.trans K18 (allS (Or.inr sz_b16) all0)
    have S_high_c19 := own_staKeep S_high_c17 K18 (allS (own_ns A16) all0)
    have S_cache_c19 := own_staKeep S_cache_c17 K18 (allS (own_ns A16) all0)
    have X_own_Cache_ca_c19 := X_own_Cache_ca_c17.keep K18 (ninS ne_ca_b16 nin0)
    have A16_c19 := A16.keep K18
    refine own_done (Q := fun v h L => Q5 Z p1 ca h0 n0 v h L) (v := (some (.ref b16))) X18 (fun h => by rw [hret] at h; cases h) hlk (fun fs hr => own_retA X18 hx hret rfl rfl rfl (hb hby d5_31) hr) ?_ (by decide) (by decide)
    show Q5 Z p1 ca h0 n0 _ T18.heap _
    exact ⟨b16, rfl, N18, K0_c19, P18_0⟩
  · refine own_go (fun _ k => XS.icmpNo X15.here hx rfl (hb hby d5_10) rfl (flt hhi).2.2.1 k) ?_
    show own_Run p e below _ T15 (mkF m 13 #[.val (.int p1)] [])
    obtain ⟨T20, X20, e20, st20⟩ := getS2 X15 hx hZ hown (host := "") (Or.inl (W 41 rfl)) Via.refl e15 S_cache (g := (mkF m 13 #[.val (.int p1)] [])) rfl (hb hby d5_13)
    refine own_go st20 ?_
    show own_Run p e below _ T20 (mkF m 16 #[.val (.int p1)] [(.ref ca)])
    refine own_go (fun _ k => XS.iloadN X20.here hx rfl (hb hby d5_16) rfl k) ?_
    refine own_go (fun _ k => XS.sipush X20.here hx rfl (hb hby d5_17) k) ?_
    refine own_go (fun _ k => XS.iadd X20.here hx rfl (hb hby d5_20) rfl k) ?_
    show own_Run p e below _ T20 (mkF m 21 #[.val (.int p1)] [(.int (p1 + (128 : Int32))), (.ref ca)])
    have hix := own_idx p1 hp1 hhi
    obtain ⟨clc, Arc, Szc, Hc⟩ := id X_own_Cache_ca
    obtain ⟨y, hy, Ey⟩ := Hc _ hix.2
    have hinc : ¬ ((p1 + (128 : Int32)) < 0 ∨ clc.slots.size ≤ ((p1 + (128 : Int32))).toNatClampNeg) := by
      rw [Szc]
      rintro (k | k)
      · exact hix.1 k
      · exact absurd k (Nat.not_le_of_lt hix.2)
    refine own_go (X20.aaload hx (j := (p1 + (128 : Int32))) (v := (.ref y)) (by rw [e20]; exact Arc.1) (State.isArrayOf_alike hZ.alike Arc.2.1) rfl Arc.2.2 hinc hy (g := (mkF m 21 #[.val (.int p1)] [(.int (p1 + (128 : Int32))), (.ref ca)])) rfl rfl (hb hby d5_21)) ?_
    show own_Run p e below _ T20 (mkF m 22 #[.val (.int p1)] [(.ref y)])
    refine own_done (Q := fun v h L => Q5 Z p1 ca h0 n0 v h L) (v := (some (.ref y))) X20 (fun h => by rw [hret] at h; cases h) hlk (fun fs hr => own_retA X20 hx hret rfl rfl rfl (hb hby d5_22) hr) ?_ (by decide) (by decide)
    show Q5 Z p1 ca h0 n0 _ T20.heap _
    rw [e20]
    exact ⟨y, rfl, N0, K0, Ey⟩
theorem d6_0 : decode prog_35_method_6_code 0 = .ok (.aload_n 1, 1) := by decide +kernel
theorem d6_1 : decode prog_35_method_6_code 1 = .ok (.instanceof 18, 3) := by decide +kernel
theorem d6_4 : decode prog_35_method_6_code 4 = .ok (.ifCond .eq 34, 3) := by decide +kernel
theorem d6_7 : decode prog_35_method_6_code 7 = .ok (.aload_n 1, 1) := by decide +kernel
theorem d6_8 : decode prog_35_method_6_code 8 = .ok (.checkcast 18, 3) := by decide +kernel
theorem d6_11 : decode prog_35_method_6_code 11 = .ok (.astore_n 2, 1) := by decide +kernel
theorem d6_12 : decode prog_35_method_6_code 12 = .ok (.aload_n 0, 1) := by decide +kernel
theorem d6_13 : decode prog_35_method_6_code 13 = .ok (.getfield 17, 3) := by decide +kernel
theorem d6_16 : decode prog_35_method_6_code 16 = .ok (.aload_n 2, 1) := by decide +kernel
theorem d6_17 : decode prog_35_method_6_code 17 = .ok (.getfield 17, 3) := by decide +kernel
theorem d6_20 : decode prog_35_method_6_code 20 = .ok (.if_acmp .ne 18, 3) := by decide +kernel
theorem d6_23 : decode prog_35_method_6_code 23 = .ok (.aload_n 0, 1) := by decide +kernel
theorem d6_24 : decode prog_35_method_6_code 24 = .ok (.getfield 31, 3) := by decide +kernel
theorem d6_27 : decode prog_35_method_6_code 27 = .ok (.aload_n 2, 1) := by decide +kernel
theorem d6_28 : decode prog_35_method_6_code 28 = .ok (.getfield 31, 3) := by decide +kernel
theorem d6_31 : decode prog_35_method_6_code 31 = .ok (.if_icmp .ne 7, 3) := by decide +kernel
theorem d6_34 : decode prog_35_method_6_code 34 = .ok (.iconst 1, 1) := by decide +kernel
theorem d6_35 : decode prog_35_method_6_code 35 = .ok (.goto 4, 3) := by decide +kernel
theorem d6_38 : decode prog_35_method_6_code 38 = .ok (.iconst 0, 1) := by decide +kernel
theorem d6_39 : decode prog_35_method_6_code 39 = .ok (.ireturn, 1) := by decide +kernel
theorem pn_6 : plainName "com/example/near_duplicate_finder/nearduplicatefinder/Shingling" = true := by first | (simp [plainName, overriddenIn]; done) | decide +kernel
theorem ef_6 (m : MethodId) (x0 : Addr) (x1 : Addr) : entryFrame m #[(.ref x0), (.ref x1)] 3 = mkF m 0 #[.val (.ref x0), .val (.ref x1), .unset] [] := by first | (simp [entryFrame, mkF, argsToLocals, Value.category]; done) | rfl
def Q6S (Z : State) (a1 : Addr) (a2 : Addr) (u : Addr) (w1 : Int32) (w2 : Int32) (r : Int32) (h0 : Heap) (n0 : Nat) (v : Option Value) (h : Heap) (L : List Loc) : Prop := v = some (.int r) ∧ Fr n0 L ∧ h = h0
set_option maxRecDepth 65536 in
set_option maxHeartbeats 40000000 in
theorem rm6S (l : Launch) (Z : State) (a0 : Array Value) (hw : ∀ d ∈ tables_1, d.before a0 Z = true) (ws : List Jvm.Cond) (a1 : Addr) (a2 : Addr) (u : Addr) (w1 : Int32) (w2 : Int32) (r : Int32) (h0 : Heap) (n0 : Nat) (Z0 : n0 ≤ h0.size) (F_unit_a1 : Fld Z h0 a1 "com/example/near_duplicate_finder/nearduplicatefinder/Shingling" "unit" "Lcom/example/near_duplicate_finder/nearduplicatefinder/Shingling$Unit;" (.ref u)) (F_size_a1 : Fld Z h0 a1 "com/example/near_duplicate_finder/nearduplicatefinder/Shingling" "size" "I" (.int w1)) (E_a2 : Exa Z h0 a2 "com/example/near_duplicate_finder/nearduplicatefinder/Shingling") (F_unit_a2 : Fld Z h0 a2 "com/example/near_duplicate_finder/nearduplicatefinder/Shingling" "unit" "Lcom/example/near_duplicate_finder/nearduplicatefinder/Shingling$Unit;" (.ref u)) (F_size_a2 : Fld Z h0 a2 "com/example/near_duplicate_finder/nearduplicatefinder/Shingling" "size" "I" (.int w2)) (hp : (w1 = w2 ∧ r = (1 : Int32)) ∨ (¬ (w1 = w2) ∧ r = (0 : Int32))) :
    MetFree l (⟨"com/example/near_duplicate_finder/nearduplicatefinder/Shingling", "equals", "(Ljava/lang/Object;)Z"⟩ : MethodName) (head1 (Jvm.Cond.code (⟨"com/example/near_duplicate_finder/nearduplicatefinder/Shingling", "equals", "(Ljava/lang/Object;)Z"⟩ : MethodName) prog_35_method_6_code 3 (some .boolean) :: ws) ({ frames := 0, cells := 0, slots := 0, locals := 0 } : Room)) (fun a U => a = #[(.ref a1), (.ref a2)] ∧ Z.Warmed39 U.vm ∧ U.heap = h0) (fun _ _ _ _ _ => True) (fun _ U o U' => ∃ v L, o = .returned v ∧ Q6S Z a1 a2 u w1 w2 r h0 n0 v U'.heap L ∧ FrameEnd U o U' L ({ frames := 0, cells := 0, slots := 0, locals := 0 } : Room).cells ({ frames := 0, cells := 0, slots := 0, locals := 0 } : Room).slots) := by
  refine MetFree.of_bodySF (plainFor_of_name pn_6) hisR ?_
  intro p e s m args below meth c s₁ Bd hml0 hP hK
  obtain ⟨rfl, hZ, hh⟩ := hP
  have hx := Bd.exec
  have hby := Bd.bytes
  have hml : c.maxLocals = 3 := hml0
  have hown : s.vm.findClass "com/example/near_duplicate_finder/nearduplicatefinder/Shingling" = some m.cls := findClass_of_methodNamed Bd.named
  have hnm := (name_of_methodNamed Bd.named Bd.method).1
  have hret := Bd.returns
  have hlk : meth.locks = false := BodyLoose.notSynchronized Bd
  have X0 : Stand p l e ({ frames := 0, cells := 0, slots := 0, locals := 0 } : Room) s m #[(.ref a1), (.ref a2)] below meth c s₁ [] 0 0 := Stand.of_body Bd
  have e0 : s₁.heap = h0 := by rw [← hh, Bd.state]; rfl
  have N0 := Fr.nil n0
  have W := fun (k : Nat) {d : Jvm.Cond} (h : tables_1[k]? = some d) => hw d (List.mem_of_getElem? h)
  have K0 : Keep h0 h0 [] := Keep.refl _ _
  refine own_start (ef_6 m a1 a2) ?_
  show own_Run p e below _ s₁ (mkF m 0 #[.val (.ref a1), .val (.ref a2), .unset] [])
  rcases hp with ⟨hc, rfl⟩ | ⟨hc, rfl⟩
  · show own_Run p e below _ s₁ (mkF m 0 #[.val (.ref a1), .val (.ref a2), .unset] [])
    refine own_go (fun _ k => XS.aloadN X0.here hx rfl (hb hby d6_0) rfl rfl k) ?_
    show own_Run p e below _ s₁ (mkF m 1 #[.val (.ref a1), .val (.ref a2), .unset] [(.ref a2)])
    obtain ⟨T21, X21, e21, st21⟩ := instY X0 hx hZ hown (W 47 rfl) e0 (Ins.self E_a2) (g := (mkF m 1 #[.val (.ref a1), .val (.ref a2), .unset] [(.ref a2)])) rfl rfl (hb hby d6_1)
    refine own_go st21 ?_
    show own_Run p e below _ T21 (mkF m 4 #[.val (.ref a1), .val (.ref a2), .unset] [(.int (1 : Int32))])
    refine own_go (fun _ k => XS.ifNo X21.here hx rfl (hb hby d6_4) rfl ((if0 _ _).trans (feq (by decide : ¬ ((1 : Int32) = (0 : Int32)))).1) k) ?_
    show own_Run p e below _ T21 (mkF m 7 #[.val (.ref a1), .val (.ref a2), .unset] [])
    refine own_go (fun _ k => XS.aloadN X21.here hx rfl (hb hby d6_7) rfl rfl k) ?_
    show own_Run p e below _ T21 (mkF m 8 #[.val (.ref a1), .val (.ref a2), .unset] [(.ref a2)])
    obtain ⟨T22, X22, e22, st22⟩ := castY X21 hx hZ hown (W 47 rfl) e21 (Ins.self E_a2) (g := (mkF m 8 #[.val (.ref a1), .val (.ref a2), .unset] [(.ref a2)])) rfl rfl (hb hby d6_8)
    refine own_go st22 ?_
    show own_Run p e below _ T22 (mkF m 11 #[.val (.ref a1), .val (.ref a2), .unset] [(.ref a2)])
    refine own_go (fun _ k => XS.astoreN X22.here hx rfl (hb hby d6_11) rfl rfl (l' := #[.val (.ref a1), .val (.ref a2), .val (.ref a2)]) rfl k) ?_
    refine own_go (fun _ k => XS.aloadN X22.here hx rfl (hb hby d6_12) rfl rfl k) ?_
    show own_Run p e below _ T22 (mkF m 13 #[.val (.ref a1), .val (.ref a2), .val (.ref a2)] [(.ref a1)])
    obtain ⟨T23, X23, e23, st23⟩ := getF X22 hx hZ hown (host := "") (Or.inl (W 31 rfl)) Via.refl e22 F_unit_a1 (g := (mkF m 13 #[.val (.ref a1), .val (.ref a2), .val (.ref a2)] [(.ref a1)])) rfl rfl (hb hby d6_13)
    refine own_go st23 ?_
    show own_Run p e below _ T23 (mkF m 16 #[.val (.ref a1), .val (.ref a2), .val (.ref a2)] [(.ref u)])
    refine own_go (fun _ k => XS.aloadN X23.here hx rfl (hb hby d6_16) rfl rfl k) ?_
    show own_Run p e below _ T23 (mkF m 17 #[.val (.ref a1), .val (.ref a2), .val (.ref a2)] [(.ref a2), (.ref u)])
    obtain ⟨T24, X24, e24, st24⟩ := getF X23 hx hZ hown (host := "") (Or.inl (W 31 rfl)) Via.refl e23 F_unit_a2 (g := (mkF m 17 #[.val (.ref a1), .val (.ref a2), .val (.ref a2)] [(.ref a2), (.ref u)])) rfl rfl (hb hby d6_17)
    refine own_go st24 ?_
    show own_Run p e below _ T24 (mkF m 20 #[.val (.ref a1), .val (.ref a2), .val (.ref a2)] [(.ref u), (.ref u)])
    refine own_go (fun _ k => Jvm.RoadKit.acmp (g := (mkF m 20 #[.val (.ref a1), .val (.ref a2), .val (.ref a2)] [(.ref u), (.ref u)])) X24 hx rfl rfl rfl (pc0 := 20) (pc' := 23) (same := true) rfl (hb hby d6_20) rfl (decide_eq_true rfl) (by decide) (by decide) k) ?_
    show own_Run p e below _ T24 (mkF m 23 #[.val (.ref a1), .val (.ref a2), .val (.ref a2)] [])
    refine own_go (fun _ k => XS.aloadN X24.here hx rfl (hb hby d6_23) rfl rfl k) ?_
    show own_Run p e below _ T24 (mkF m 24 #[.val (.ref a1), .val (.ref a2), .val (.ref a2)] [(.ref a1)])
    obtain ⟨T25, X25, e25, st25⟩ := getF X24 hx hZ hown (host := "") (Or.inl (W 33 rfl)) Via.refl e24 F_size_a1 (g := (mkF m 24 #[.val (.ref a1), .val (.ref a2), .val (.ref a2)] [(.ref a1)])) rfl rfl (hb hby d6_24)
    refine own_go st25 ?_
    show own_Run p e below _ T25 (mkF m 27 #[.val (.ref a1), .val (.ref a2), .val (.ref a2)] [(.int w1)])
    refine own_go (fun _ k => XS.aloadN X25.here hx rfl (hb hby d6_27) rfl rfl k) ?_
    show own_Run p e below _ T25 (mkF m 28 #[.val (.ref a1), .val (.ref a2), .val (.ref a2)] [(.ref a2), (.int w1)])
    obtain ⟨T26, X26, e26, st26⟩ := getF X25 hx hZ hown (host := "") (Or.inl (W 33 rfl)) Via.refl e25 F_size_a2 (g := (mkF m 28 #[.val (.ref a1), .val (.ref a2), .val (.ref a2)] [(.ref a2), (.int w1)])) rfl rfl (hb hby d6_28)
    refine own_go st26 ?_
    show own_Run p e below _ T26 (mkF m 31 #[.val (.ref a1), .val (.ref a2), .val (.ref a2)] [(.int w2), (.int w1)])
    refine own_go (fun _ k => XS.icmpNo X26.here hx rfl (hb hby d6_31) rfl (teq hc).2 k) ?_
    show own_Run p e below _ T26 (mkF m 34 #[.val (.ref a1), .val (.ref a2), .val (.ref a2)] [])
    refine own_go (fun _ k => XS.iconst X26.here hx rfl (hb hby d6_34) k) ?_
    refine own_go (fun _ k => XS.goto X26.here hx rfl (pc0 := 35) (pc' := 39) rfl (hb hby d6_35) (by decide) (by decide) k) ?_
    show own_Run p e below _ T26 (mkF m 39 #[.val (.ref a1), .val (.ref a2), .val (.ref a2)] [(.int (1 : Int32))])
    refine own_done (Q := fun v h L => Q6S Z a1 a2 u w1 w2 (1 : Int32) h0 n0 v h L) (v := (some (.int (1 : Int32)))) X26 (fun h => by rw [hret] at h; cases h) hlk (fun fs hr => retN X26 hx (t := .boolean) hret (by simp) (hb hby d6_39) hr) ?_ (by decide) (by decide)
    show Q6S Z a1 a2 u w1 w2 (1 : Int32) h0 n0 _ T26.heap _
    rw [e26]
    exact ⟨rfl, N0, rfl⟩
  · show own_Run p e below _ s₁ (mkF m 0 #[.val (.ref a1), .val (.ref a2), .unset] [])
    refine own_go (fun _ k => XS.aloadN X0.here hx rfl (hb hby d6_0) rfl rfl k) ?_
    show own_Run p e below _ s₁ (mkF m 1 #[.val (.ref a1), .val (.ref a2), .unset] [(.ref a2)])
    obtain ⟨T27, X27, e27, st27⟩ := instY X0 hx hZ hown (W 47 rfl) e0 (Ins.self E_a2) (g := (mkF m 1 #[.val (.ref a1), .val (.ref a2), .unset] [(.ref a2)])) rfl rfl (hb hby d6_1)
    refine own_go st27 ?_
    show own_Run p e below _ T27 (mkF m 4 #[.val (.ref a1), .val (.ref a2), .unset] [(.int (1 : Int32))])
    refine own_go (fun _ k => XS.ifNo X27.here hx rfl (hb hby d6_4) rfl ((if0 _ _).trans (feq (by decide : ¬ ((1 : Int32) = (0 : Int32)))).1) k) ?_
    show own_Run p e below _ T27 (mkF m 7 #[.val (.ref a1), .val (.ref a2), .unset] [])
    refine own_go (fun _ k => XS.aloadN X27.here hx rfl (hb hby d6_7) rfl rfl k) ?_
    show own_Run p e below _ T27 (mkF m 8 #[.val (.ref a1), .val (.ref a2), .unset] [(.ref a2)])
    obtain ⟨T28, X28, e28, st28⟩ := castY X27 hx hZ hown (W 47 rfl) e27 (Ins.self E_a2) (g := (mkF m 8 #[.val (.ref a1), .val (.ref a2), .unset] [(.ref a2)])) rfl rfl (hb hby d6_8)
    refine own_go st28 ?_
    show own_Run p e below _ T28 (mkF m 11 #[.val (.ref a1), .val (.ref a2), .unset] [(.ref a2)])
    refine own_go (fun _ k => XS.astoreN X28.here hx rfl (hb hby d6_11) rfl rfl (l' := #[.val (.ref a1), .val (.ref a2), .val (.ref a2)]) rfl k) ?_
    refine own_go (fun _ k => XS.aloadN X28.here hx rfl (hb hby d6_12) rfl rfl k) ?_
    show own_Run p e below _ T28 (mkF m 13 #[.val (.ref a1), .val (.ref a2), .val (.ref a2)] [(.ref a1)])
    obtain ⟨T29, X29, e29, st29⟩ := getF X28 hx hZ hown (host := "") (Or.inl (W 31 rfl)) Via.refl e28 F_unit_a1 (g := (mkF m 13 #[.val (.ref a1), .val (.ref a2), .val (.ref a2)] [(.ref a1)])) rfl rfl (hb hby d6_13)
    refine own_go st29 ?_
    show own_Run p e below _ T29 (mkF m 16 #[.val (.ref a1), .val (.ref a2), .val (.ref a2)] [(.ref u)])
    refine own_go (fun _ k => XS.aloadN X29.here hx rfl (hb hby d6_16) rfl rfl k) ?_
    show own_Run p e below _ T29 (mkF m 17 #[.val (.ref a1), .val (.ref a2), .val (.ref a2)] [(.ref a2), (.ref u)])
    obtain ⟨T30, X30, e30, st30⟩ := getF X29 hx hZ hown (host := "") (Or.inl (W 31 rfl)) Via.refl e29 F_unit_a2 (g := (mkF m 17 #[.val (.ref a1), .val (.ref a2), .val (.ref a2)] [(.ref a2), (.ref u)])) rfl rfl (hb hby d6_17)
    refine own_go st30 ?_
    show own_Run p e below _ T30 (mkF m 20 #[.val (.ref a1), .val (.ref a2), .val (.ref a2)] [(.ref u), (.ref u)])
    refine own_go (fun _ k => Jvm.RoadKit.acmp (g := (mkF m 20 #[.val (.ref a1), .val (.ref a2), .val (.ref a2)] [(.ref u), (.ref u)])) X30 hx rfl rfl rfl (pc0 := 20) (pc' := 23) (same := true) rfl (hb hby d6_20) rfl (decide_eq_true rfl) (by decide) (by decide) k) ?_
    show own_Run p e below _ T30 (mkF m 23 #[.val (.ref a1), .val (.ref a2), .val (.ref a2)] [])
    refine own_go (fun _ k => XS.aloadN X30.here hx rfl (hb hby d6_23) rfl rfl k) ?_
    show own_Run p e below _ T30 (mkF m 24 #[.val (.ref a1), .val (.ref a2), .val (.ref a2)] [(.ref a1)])
    obtain ⟨T31, X31, e31, st31⟩ := getF X30 hx hZ hown (host := "") (Or.inl (W 33 rfl)) Via.refl e30 F_size_a1 (g := (mkF m 24 #[.val (.ref a1), .val (.ref a2), .val (.ref a2)] [(.ref a1)])) rfl rfl (hb hby d6_24)
    refine own_go st31 ?_
    show own_Run p e below _ T31 (mkF m 27 #[.val (.ref a1), .val (.ref a2), .val (.ref a2)] [(.int w1)])
    refine own_go (fun _ k => XS.aloadN X31.here hx rfl (hb hby d6_27) rfl rfl k) ?_
    show own_Run p e below _ T31 (mkF m 28 #[.val (.ref a1), .val (.ref a2), .val (.ref a2)] [(.ref a2), (.int w1)])
    obtain ⟨T32, X32, e32, st32⟩ := getF X31 hx hZ hown (host := "") (Or.inl (W 33 rfl)) Via.refl e31 F_size_a2 (g := (mkF m 28 #[.val (.ref a1), .val (.ref a2), .val (.ref a2)] [(.ref a2), (.int w1)])) rfl rfl (hb hby d6_28)
    refine own_go st32 ?_
    show own_Run p e below _ T32 (mkF m 31 #[.val (.ref a1), .val (.ref a2), .val (.ref a2)] [(.int w2), (.int w1)])
    refine own_go (fun _ k => XS.icmpYes X32.here hx rfl (pc0 := 31) (pc' := 38) rfl (hb hby d6_31) rfl (feq hc).2 (by decide) (by decide) k) ?_
    show own_Run p e below _ T32 (mkF m 38 #[.val (.ref a1), .val (.ref a2), .val (.ref a2)] [])
    refine own_go (fun _ k => XS.iconst X32.here hx rfl (hb hby d6_38) k) ?_
    show own_Run p e below _ T32 (mkF m 39 #[.val (.ref a1), .val (.ref a2), .val (.ref a2)] [(.int (0 : Int32))])
    refine own_done (Q := fun v h L => Q6S Z a1 a2 u w1 w2 (0 : Int32) h0 n0 v h L) (v := (some (.int (0 : Int32)))) X32 (fun h => by rw [hret] at h; cases h) hlk (fun fs hr => retN X32 hx (t := .boolean) hret (by simp) (hb hby d6_39) hr) ?_ (by decide) (by decide)
    show Q6S Z a1 a2 u w1 w2 (0 : Int32) h0 n0 _ T32.heap _
    rw [e32]
    exact ⟨rfl, N0, rfl⟩
def Q6D (Z : State) (a1 : Addr) (a2 : Addr) (u : Addr) (uv : Addr) (h0 : Heap) (n0 : Nat) (v : Option Value) (h : Heap) (L : List Loc) : Prop := v = some (.int (0 : Int32)) ∧ Fr n0 L ∧ h = h0
set_option maxRecDepth 65536 in
set_option maxHeartbeats 40000000 in
theorem rm6D (l : Launch) (Z : State) (a0 : Array Value) (hw : ∀ d ∈ tables_1, d.before a0 Z = true) (ws : List Jvm.Cond) (a1 : Addr) (a2 : Addr) (u : Addr) (uv : Addr) (h0 : Heap) (n0 : Nat) (Z0 : n0 ≤ h0.size) (F_unit_a1 : Fld Z h0 a1 "com/example/near_duplicate_finder/nearduplicatefinder/Shingling" "unit" "Lcom/example/near_duplicate_finder/nearduplicatefinder/Shingling$Unit;" (.ref u)) (E_a2 : Exa Z h0 a2 "com/example/near_duplicate_finder/nearduplicatefinder/Shingling") (F_unit_a2 : Fld Z h0 a2 "com/example/near_duplicate_finder/nearduplicatefinder/Shingling" "unit" "Lcom/example/near_duplicate_finder/nearduplicatefinder/Shingling$Unit;" (.ref uv)) (ne_u_uv : u ≠ uv) :
    MetFree l (⟨"com/example/near_duplicate_finder/nearduplicatefinder/Shingling", "equals", "(Ljava/lang/Object;)Z"⟩ : MethodName) (head1 (Jvm.Cond.code (⟨"com/example/near_duplicate_finder/nearduplicatefinder/Shingling", "equals", "(Ljava/lang/Object;)Z"⟩ : MethodName) prog_35_method_6_code 3 (some .boolean) :: ws) ({ frames := 0, cells := 0, slots := 0, locals := 0 } : Room)) (fun a U => a = #[(.ref a1), (.ref a2)] ∧ Z.Warmed39 U.vm ∧ U.heap = h0) (fun _ _ _ _ _ => True) (fun _ U o U' => ∃ v L, o = .returned v ∧ Q6D Z a1 a2 u uv h0 n0 v U'.heap L ∧ FrameEnd U o U' L ({ frames := 0, cells := 0, slots := 0, locals := 0 } : Room).cells ({ frames := 0, cells := 0, slots := 0, locals := 0 } : Room).slots) := by
  refine MetFree.of_bodySF (plainFor_of_name pn_6) hisR ?_
  intro p e s m args below meth c s₁ Bd hml0 hP hK
  obtain ⟨rfl, hZ, hh⟩ := hP
  have hx := Bd.exec
  have hby := Bd.bytes
  have hml : c.maxLocals = 3 := hml0
  have hown : s.vm.findClass "com/example/near_duplicate_finder/nearduplicatefinder/Shingling" = some m.cls := findClass_of_methodNamed Bd.named
  have hnm := (name_of_methodNamed Bd.named Bd.method).1
  have hret := Bd.returns
  have hlk : meth.locks = false := BodyLoose.notSynchronized Bd
  have X0 : Stand p l e ({ frames := 0, cells := 0, slots := 0, locals := 0 } : Room) s m #[(.ref a1), (.ref a2)] below meth c s₁ [] 0 0 := Stand.of_body Bd
  have e0 : s₁.heap = h0 := by rw [← hh, Bd.state]; rfl
  have N0 := Fr.nil n0
  have W := fun (k : Nat) {d : Jvm.Cond} (h : tables_1[k]? = some d) => hw d (List.mem_of_getElem? h)
  have K0 : Keep h0 h0 [] := Keep.refl _ _
  refine own_start (ef_6 m a1 a2) ?_
  show own_Run p e below _ s₁ (mkF m 0 #[.val (.ref a1), .val (.ref a2), .unset] [])
  refine own_go (fun _ k => XS.aloadN X0.here hx rfl (hb hby d6_0) rfl rfl k) ?_
  show own_Run p e below _ s₁ (mkF m 1 #[.val (.ref a1), .val (.ref a2), .unset] [(.ref a2)])
  obtain ⟨T33, X33, e33, st33⟩ := instY X0 hx hZ hown (W 47 rfl) e0 (Ins.self E_a2) (g := (mkF m 1 #[.val (.ref a1), .val (.ref a2), .unset] [(.ref a2)])) rfl rfl (hb hby d6_1)
  refine own_go st33 ?_
  show own_Run p e below _ T33 (mkF m 4 #[.val (.ref a1), .val (.ref a2), .unset] [(.int (1 : Int32))])
  refine own_go (fun _ k => XS.ifNo X33.here hx rfl (hb hby d6_4) rfl ((if0 _ _).trans (feq (by decide : ¬ ((1 : Int32) = (0 : Int32)))).1) k) ?_
  show own_Run p e below _ T33 (mkF m 7 #[.val (.ref a1), .val (.ref a2), .unset] [])
  refine own_go (fun _ k => XS.aloadN X33.here hx rfl (hb hby d6_7) rfl rfl k) ?_
  show own_Run p e below _ T33 (mkF m 8 #[.val (.ref a1), .val (.ref a2), .unset] [(.ref a2)])
  obtain ⟨T34, X34, e34, st34⟩ := castY X33 hx hZ hown (W 47 rfl) e33 (Ins.self E_a2) (g := (mkF m 8 #[.val (.ref a1), .val (.ref a2), .unset] [(.ref a2)])) rfl rfl (hb hby d6_8)
  refine own_go st34 ?_
  show own_Run p e below _ T34 (mkF m 11 #[.val (.ref a1), .val (.ref a2), .unset] [(.ref a2)])
  refine own_go (fun _ k => XS.astoreN X34.here hx rfl (hb hby d6_11) rfl rfl (l' := #[.val (.ref a1), .val (.ref a2), .val (.ref a2)]) rfl k) ?_
  refine own_go (fun _ k => XS.aloadN X34.here hx rfl (hb hby d6_12) rfl rfl k) ?_
  show own_Run p e below _ T34 (mkF m 13 #[.val (.ref a1), .val (.ref a2), .val (.ref a2)] [(.ref a1)])
  obtain ⟨T35, X35, e35, st35⟩ := getF X34 hx hZ hown (host := "") (Or.inl (W 31 rfl)) Via.refl e34 F_unit_a1 (g := (mkF m 13 #[.val (.ref a1), .val (.ref a2), .val (.ref a2)] [(.ref a1)])) rfl rfl (hb hby d6_13)
  refine own_go st35 ?_
  show own_Run p e below _ T35 (mkF m 16 #[.val (.ref a1), .val (.ref a2), .val (.ref a2)] [(.ref u)])
  refine own_go (fun _ k => XS.aloadN X35.here hx rfl (hb hby d6_16) rfl rfl k) ?_
  show own_Run p e below _ T35 (mkF m 17 #[.val (.ref a1), .val (.ref a2), .val (.ref a2)] [(.ref a2), (.ref u)])
  obtain ⟨T36, X36, e36, st36⟩ := getF X35 hx hZ hown (host := "") (Or.inl (W 31 rfl)) Via.refl e35 F_unit_a2 (g := (mkF m 17 #[.val (.ref a1), .val (.ref a2), .val (.ref a2)] [(.ref a2), (.ref u)])) rfl rfl (hb hby d6_17)
  refine own_go st36 ?_
  show own_Run p e below _ T36 (mkF m 20 #[.val (.ref a1), .val (.ref a2), .val (.ref a2)] [(.ref uv), (.ref u)])
  refine own_go (fun _ k => Jvm.RoadKit.acmp (g := (mkF m 20 #[.val (.ref a1), .val (.ref a2), .val (.ref a2)] [(.ref uv), (.ref u)])) X36 hx rfl rfl rfl (pc0 := 20) (pc' := 38) (same := false) rfl (hb hby d6_20) rfl (decide_eq_false fun q => ne_u_uv (Value.ref.inj q)) (by decide) (by decide) k) ?_
  show own_Run p e below _ T36 (mkF m 38 #[.val (.ref a1), .val (.ref a2), .val (.ref a2)] [])
  refine own_go (fun _ k => XS.iconst X36.here hx rfl (hb hby d6_38) k) ?_
  show own_Run p e below _ T36 (mkF m 39 #[.val (.ref a1), .val (.ref a2), .val (.ref a2)] [(.int (0 : Int32))])
  refine own_done (Q := fun v h L => Q6D Z a1 a2 u uv h0 n0 v h L) (v := (some (.int (0 : Int32)))) X36 (fun h => by rw [hret] at h; cases h) hlk (fun fs hr => retN X36 hx (t := .boolean) hret (by simp) (hb hby d6_39) hr) ?_ (by decide) (by decide)
  show Q6D Z a1 a2 u uv h0 n0 _ T36.heap _
  rw [e36]
  exact ⟨rfl, N0, rfl⟩
theorem ef_6n (m : MethodId) (x0 : Addr) : entryFrame m #[(.ref x0), .null] 3 = mkF m 0 #[.val (.ref x0), .val .null, .unset] [] := by first | (simp [entryFrame, mkF, argsToLocals, Value.category]; done) | rfl
def Q6N (Z : State) (a1 : Addr) (h0 : Heap) (n0 : Nat) (v : Option Value) (h : Heap) (L : List Loc) : Prop := v = some (.int (0 : Int32)) ∧ Fr n0 L ∧ h = h0
set_option maxRecDepth 65536 in
set_option maxHeartbeats 40000000 in
theorem rm6N (l : Launch) (Z : State) (a0 : Array Value) (hw : ∀ d ∈ tables_1, d.before a0 Z = true) (ws : List Jvm.Cond) (a1 : Addr) (h0 : Heap) (n0 : Nat) (Z0 : n0 ≤ h0.size) :
    MetFree l (⟨"com/example/near_duplicate_finder/nearduplicatefinder/Shingling", "equals", "(Ljava/lang/Object;)Z"⟩ : MethodName) (head1 (Jvm.Cond.code (⟨"com/example/near_duplicate_finder/nearduplicatefinder/Shingling", "equals", "(Ljava/lang/Object;)Z"⟩ : MethodName) prog_35_method_6_code 3 (some .boolean) :: ws) ({ frames := 0, cells := 0, slots := 0, locals := 0 } : Room)) (fun a U => a = #[(.ref a1), .null] ∧ Z.Warmed39 U.vm ∧ U.heap = h0) (fun _ _ _ _ _ => True) (fun _ U o U' => ∃ v L, o = .returned v ∧ Q6N Z a1 h0 n0 v U'.heap L ∧ FrameEnd U o U' L ({ frames := 0, cells := 0, slots := 0, locals := 0 } : Room).cells ({ frames := 0, cells := 0, slots := 0, locals := 0 } : Room).slots) := by
  refine MetFree.of_bodySF (plainFor_of_name pn_6) hisR ?_
  intro p e s m args below meth c s₁ Bd hml0 hP hK
  obtain ⟨rfl, hZ, hh⟩ := hP
  have hx := Bd.exec
  have hby := Bd.bytes
  have hml : c.maxLocals = 3 := hml0
  have hown : s.vm.findClass "com/example/near_duplicate_finder/nearduplicatefinder/Shingling" = some m.cls := findClass_of_methodNamed Bd.named
  have hnm := (name_of_methodNamed Bd.named Bd.method).1
  have hret := Bd.returns
  have hlk : meth.locks = false := BodyLoose.notSynchronized Bd
  have X0 : Stand p l e ({ frames := 0, cells := 0, slots := 0, locals := 0 } : Room) s m #[(.ref a1), .null] below meth c s₁ [] 0 0 := Stand.of_body Bd
  have e0 : s₁.heap = h0 := by rw [← hh, Bd.state]; rfl
  have N0 := Fr.nil n0
  have W := fun (k : Nat) {d : Jvm.Cond} (h : tables_1[k]? = some d) => hw d (List.mem_of_getElem? h)
  have K0 : Keep h0 h0 [] := Keep.refl _ _
  refine own_start (ef_6n m a1) ?_
  show own_Run p e below _ s₁ (mkF m 0 #[.val (.ref a1), .val .null, .unset] [])
  refine own_go (fun _ k => XS.aloadN X0.here hx rfl (hb hby d6_0) rfl rfl k) ?_
  show own_Run p e below _ s₁ (mkF m 1 #[.val (.ref a1), .val .null, .unset] [.null])
  refine own_go (X0.instanceofNull hx (g := (mkF m 1 #[.val (.ref a1), .val .null, .unset] [.null])) rfl rfl (hb hby d6_1)) ?_
  show own_Run p e below _ s₁ (mkF m 4 #[.val (.ref a1), .val .null, .unset] [(.int (0 : Int32))])
  refine own_go (fun _ k => XS.ifYes X0.here hx rfl (pc0 := 4) (pc' := 38) rfl (hb hby d6_4) rfl ((if0 _ _).trans (teq (by decide : (0 : Int32) = (0 : Int32))).1) (by decide) (by decide) k) ?_
  show own_Run p e below _ s₁ (mkF m 38 #[.val (.ref a1), .val .null, .unset] [])
  refine own_go (fun _ k => XS.iconst X0.here hx rfl (hb hby d6_38) k) ?_
  show own_Run p e below _ s₁ (mkF m 39 #[.val (.ref a1), .val .null, .unset] [(.int (0 : Int32))])
  refine own_done (Q := fun v h L => Q6N Z a1 h0 n0 v h L) (v := (some (.int (0 : Int32)))) X0 (fun h => by rw [hret] at h; cases h) hlk (fun fs hr => retN X0 hx (t := .boolean) hret (by simp) (hb hby d6_39) hr) ?_ (by decide) (by decide)
  show Q6N Z a1 h0 n0 _ s₁.heap _
  rw [e0]
  exact ⟨rfl, N0, rfl⟩
def Q6I (Z : State) (a1 : Addr) (a2 : Addr) (h0 : Heap) (n0 : Nat) (v : Option Value) (h : Heap) (L : List Loc) : Prop := v = some (.int (0 : Int32)) ∧ Fr n0 L ∧ h = h0
set_option maxRecDepth 65536 in
set_option maxHeartbeats 40000000 in
theorem rm6I (l : Launch) (Z : State) (a0 : Array Value) (hw : ∀ d ∈ tables_1, d.before a0 Z = true) (ws : List Jvm.Cond) (a1 : Addr) (a2 : Addr) (h0 : Heap) (n0 : Nat) (Z0 : n0 ≤ h0.size) (E_a2 : Exa Z h0 a2 "java/lang/Integer") :
    MetFree l (⟨"com/example/near_duplicate_finder/nearduplicatefinder/Shingling", "equals", "(Ljava/lang/Object;)Z"⟩ : MethodName) (head1 (Jvm.Cond.code (⟨"com/example/near_duplicate_finder/nearduplicatefinder/Shingling", "equals", "(Ljava/lang/Object;)Z"⟩ : MethodName) prog_35_method_6_code 3 (some .boolean) :: ws) ({ frames := 0, cells := 0, slots := 0, locals := 0 } : Room)) (fun a U => a = #[(.ref a1), (.ref a2)] ∧ Z.Warmed39 U.vm ∧ U.heap = h0) (fun _ _ _ _ _ => True) (fun _ U o U' => ∃ v L, o = .returned v ∧ Q6I Z a1 a2 h0 n0 v U'.heap L ∧ FrameEnd U o U' L ({ frames := 0, cells := 0, slots := 0, locals := 0 } : Room).cells ({ frames := 0, cells := 0, slots := 0, locals := 0 } : Room).slots) := by
  refine MetFree.of_bodySF (plainFor_of_name pn_6) hisR ?_
  intro p e s m args below meth c s₁ Bd hml0 hP hK
  obtain ⟨rfl, hZ, hh⟩ := hP
  have hx := Bd.exec
  have hby := Bd.bytes
  have hml : c.maxLocals = 3 := hml0
  have hown : s.vm.findClass "com/example/near_duplicate_finder/nearduplicatefinder/Shingling" = some m.cls := findClass_of_methodNamed Bd.named
  have hnm := (name_of_methodNamed Bd.named Bd.method).1
  have hret := Bd.returns
  have hlk : meth.locks = false := BodyLoose.notSynchronized Bd
  have X0 : Stand p l e ({ frames := 0, cells := 0, slots := 0, locals := 0 } : Room) s m #[(.ref a1), (.ref a2)] below meth c s₁ [] 0 0 := Stand.of_body Bd
  have e0 : s₁.heap = h0 := by rw [← hh, Bd.state]; rfl
  have N0 := Fr.nil n0
  have W := fun (k : Nat) {d : Jvm.Cond} (h : tables_1[k]? = some d) => hw d (List.mem_of_getElem? h)
  have K0 : Keep h0 h0 [] := Keep.refl _ _
  refine own_start (ef_6 m a1 a2) ?_
  show own_Run p e below _ s₁ (mkF m 0 #[.val (.ref a1), .val (.ref a2), .unset] [])
  refine own_go (fun _ k => XS.aloadN X0.here hx rfl (hb hby d6_0) rfl rfl k) ?_
  show own_Run p e below _ s₁ (mkF m 1 #[.val (.ref a1), .val (.ref a2), .unset] [(.ref a2)])
  obtain ⟨T37, X37, e37, st37⟩ := instNo X0 hx hZ hown (W 47 rfl) e0 E_a2 (own_notSub (W 49 rfl) (W 50 rfl) (W 51 rfl) (W 9 rfl) (by decide) (by decide) (by decide)) (g := (mkF m 1 #[.val (.ref a1), .val (.ref a2), .unset] [(.ref a2)])) rfl rfl (hb hby d6_1)
  refine own_go st37 ?_
  show own_Run p e below _ T37 (mkF m 4 #[.val (.ref a1), .val (.ref a2), .unset] [(.int (0 : Int32))])
  refine own_go (fun _ k => XS.ifYes X37.here hx rfl (pc0 := 4) (pc' := 38) rfl (hb hby d6_4) rfl ((if0 _ _).trans (teq (by decide : (0 : Int32) = (0 : Int32))).1) (by decide) (by decide) k) ?_
  show own_Run p e below _ T37 (mkF m 38 #[.val (.ref a1), .val (.ref a2), .unset] [])
  refine own_go (fun _ k => XS.iconst X37.here hx rfl (hb hby d6_38) k) ?_
  show own_Run p e below _ T37 (mkF m 39 #[.val (.ref a1), .val (.ref a2), .unset] [(.int (0 : Int32))])
  refine own_done (Q := fun v h L => Q6I Z a1 a2 h0 n0 v h L) (v := (some (.int (0 : Int32)))) X37 (fun h => by rw [hret] at h; cases h) hlk (fun fs hr => retN X37 hx (t := .boolean) hret (by simp) (hb hby d6_39) hr) ?_ (by decide) (by decide)
  show Q6I Z a1 a2 h0 n0 _ T37.heap _
  rw [e37]
  exact ⟨rfl, N0, rfl⟩
def Q0 (Z : State) (p1 : Int32) (p2 : Int32) (p3 : Int32) (oC : Addr) (oW : Addr) (ca : Addr) (h0 : Heap) (n0 : Nat) (v : Option Value) (h : Heap) (L : List Loc) : Prop := v = some (.int (1 : Int32)) ∧ Fr n0 L
theorem pn_0 : plainName "com/example/near_duplicate_finder/nearduplicatefinder/ShinglingEqualsPinLaw" = true := by first | (simp [plainName, overriddenIn]; done) | decide +kernel
theorem pd_4 : parseMethodDescriptor "(Lcom/example/near_duplicate_finder/nearduplicatefinder/Shingling$Unit;I)V" = some ⟨[(.object "com/example/near_duplicate_finder/nearduplicatefinder/Shingling$Unit"), .int], none⟩ := by decide +kernel
theorem pd_5 : parseMethodDescriptor "(I)Ljava/lang/Integer;" = some ⟨[.int], some (.object "java/lang/Integer")⟩ := by decide +kernel
theorem pd_6 : parseMethodDescriptor "(Ljava/lang/Object;)Z" = some ⟨[(.object "java/lang/Object")], some .boolean⟩ := by decide +kernel
set_option maxRecDepth 65536 in
set_option maxHeartbeats 40000000 in
theorem tailS {p : Program} {l : Launch} {e : Env} {s : State} {m : MethodId} {args : Array Value} {below : List Frame} {meth : Method} {c : Code} {Z : State} {a0 : Array Value} (p1 : Int32) (p2 : Int32) (p3 : Int32) (oC : Addr) (oW : Addr) (ca : Addr) (h0 : Heap) (n0 : Nat) (hx : p.tables.exec = Jvm.exec) (hZ : Z.Warmed39 s.vm) (hw : ∀ d ∈ tables_1, d.before a0 Z = true) (hby : c.code = code) (hml : c.maxLocals = 11) (hown : s.vm.findClass "com/example/near_duplicate_finder/nearduplicatefinder/ShinglingEqualsPinLaw" = some m.cls) (hnm : meth.name = "law") (hret : meth.sig.returnType = some .boolean) (hlk : meth.locks = false)
    (x3 : Int32) (x4 : Int32) (u : Addr) (T0 : State) (hh : Heap) (locs : List Loc) (X0 : Stand p l e room_1 s m args below meth c T0 locs 0 0) (e0 : T0.heap = hh) (N0 : Fr n0 locs) (Z0 : n0 ≤ hh.size) (K0 : Keep h0 hh []) (E_u : Exa Z hh u "com/example/near_duplicate_finder/nearduplicatefinder/Shingling$Unit") (S_high : Sta Z hh "java/lang/Integer$IntegerCache" "high" "I" (.int (127 : Int32))) (S_cache : Sta Z hh "java/lang/Integer$IntegerCache" "cache" "[Ljava/lang/Integer;" (.ref ca)) (X_own_Cache_ca : own_Cache Z hh ca ) (h3 : ¬ (x3 < (1 : Int32))) (h4 : ¬ (x4 < (1 : Int32))) :
    own_Run p e below (fun o U' => ∃ v L, o = .returned v ∧ Q0 Z p1 p2 p3 oC oW ca h0 n0 v U'.heap L ∧ ReturnedEndW s o U' L room_1.cells room_1.slots) T0 (mkF m 63 #[.val (.int p1), .val (.int p2), .val (.int p3), .val (.int x3), .val (.int x4), .val (.ref u), .val (.ref u), .unset, .unset, .unset, .unset] []) := by
  have W := fun (k : Nat) {d : Jvm.Cond} (h : tables_1[k]? = some d) => hw d (List.mem_of_getElem? h)
  show own_Run p e below _ T0 (mkF m 63 #[.val (.int p1), .val (.int p2), .val (.int p3), .val (.int x3), .val (.int x4), .val (.ref u), .val (.ref u), .unset, .unset, .unset, .unset] [])
  have hS0 : s.Since s.vm 0 := (State.WarmedH.refl s).since 0
  have Y0 : 0 ≤ hh.size := Nat.zero_le _
  obtain ⟨T38, h38, X38, e38, E38, A38, D38, -, st38⟩ := newO X0 hx hZ hown (W 8 rfl) (W 9 rfl) (W 10 rfl) e0 (g := (mkF m 63 #[.val (.int p1), .val (.int p2), .val (.int p3), .val (.int x3), .val (.int x4), .val (.ref u), .val (.ref u), .unset, .unset, .unset, .unset] [])) rfl (hb hby at_63) (by decide) (by decide)
  refine own_go st38 ?_
  obtain ⟨b38, g38⟩ : ∃ z, z = hh.size := ⟨_, rfl⟩
  rw [← g38] at A38 D38
  rw [← g38]
  show own_Run p e below _ T38 (mkF m 66 #[.val (.int p1), .val (.int p2), .val (.int p3), .val (.int x3), .val (.int x4), .val (.ref u), .val (.ref u), .unset, .unset, .unset, .unset] [(.ref b38)])
  have ne_u_b38 : u ≠ b38 := Nat.ne_of_lt (Nat.lt_of_lt_of_eq E_u.lt g38.symm)
  have ne_ca_b38 : ca ≠ b38 := Nat.ne_of_lt (Nat.lt_of_lt_of_eq X_own_Cache_ca.lt g38.symm)
  have g_b38 : n0 ≤ b38 := Nat.le_trans Z0 (Nat.le_of_eq g38.symm)
  have sz_b38 : h0.size ≤ b38 := Nat.le_trans K0.1 (Nat.le_of_eq g38.symm)
  have Z0_c39 := Nat.le_trans Z0 E38.1
  have K0_c39 := K0.ext E38
  have E_u_c39 := E_u.ext E38
  have S_high_c39 := S_high.ext E38
  have S_cache_c39 := S_cache.ext E38
  have X_own_Cache_ca_c39 := X_own_Cache_ca.ext E38
  have Y0_c39 := Nat.le_trans Y0 E38.1
  have F_unit_b38 : Fld Z h38 b38 "com/example/near_duplicate_finder/nearduplicatefinder/Shingling" "unit" "Lcom/example/near_duplicate_finder/nearduplicatefinder/Shingling$Unit;" .null := D38 (Or.inr (W 32 rfl)) (ty := (.object "com/example/near_duplicate_finder/nearduplicatefinder/Shingling$Unit")) (by decide)
  have F_size_b38 : Fld Z h38 b38 "com/example/near_duplicate_finder/nearduplicatefinder/Shingling" "size" "I" (.int (0 : Int32)) := D38 (Or.inr (W 34 rfl)) (ty := .int) (by decide)
  refine own_go (fun _ k => XS.dup X38.here hx rfl (hb hby at_66) rfl rfl k) ?_
  refine own_go (fun _ k => XS.aload X38.here hx rfl (hb hby at_67) rfl rfl k) ?_
  refine own_go (fun _ k => XS.iloadN X38.here hx rfl (hb hby at_69) rfl k) ?_
  show own_Run p e below _ T38 (mkF m 70 #[.val (.int p1), .val (.int p2), .val (.int p3), .val (.int x3), .val (.int x4), .val (.ref u), .val (.ref u), .unset, .unset, .unset, .unset] [(.int x3), (.ref u), (.ref b38), (.ref b38)])
  obtain ⟨_, _, ⟨T40, L40, k40, n40⟩, -, Xw40, hSw40, hgw40, ⟨Lc40, hQ40, l40, y40, z40⟩, st40⟩ := X38.specialBackS hx (y := (⟨"com/example/near_duplicate_finder/nearduplicatefinder/Shingling", "<init>", "(Lcom/example/near_duplicate_finder/nearduplicatefinder/Shingling$Unit;I)V"⟩ : MethodName)) rfl hown (mvT hZ (W 11 rfl)) (mvT hZ (W 12 rfl)) (mvT hZ (W 13 rfl)) (by decide) (backOfS (W := 1) (rm2 l Z a0 hw [] b38 u x3 .null (.int (0 : Int32)) h38 n0 Z0_c39 A38 F_unit_b38 F_size_b38 g_b38 E_u_c39 (h3)) hZ (W 13 rfl) (W 10 rfl) (by decide) (by decide)) (g := (mkF m 70 #[.val (.int p1), .val (.int p2), .val (.int p3), .val (.int x3), .val (.int x4), .val (.ref u), .val (.ref u), .unset, .unset, .unset, .unset] [(.int x3), (.ref u), (.ref b38), (.ref b38)])) rfl (by rw [hml]; rfl) (Steps.refl _) (a := b38) (argsL := [(.ref u), (.int x3)]) (rest := [(.ref b38)]) (lenOf pd_4 rfl) rfl (by show 2 * 0 + _ ≤ _; exact Nat.le_of_eq rfl) (hb hby at_70) (fun _ _ => ⟨rfl, e38, (by decide : 1 + 2 ≤ _), (by decide : 2 + 20 ≤ _)⟩)
  dsimp only [Pt.U, Pt.locs, Pt.cells, Pt.slots] at hSw40 hgw40 Xw40
  obtain ⟨X40, hS40, hZ40, hown40⟩ := rebS (s := s) (vm0 := s.vm) hS0 (n1 := T38.heap.size) (by rw [e38]; exact Y0_c39) Xw40 hSw40 hgw40 hZ hown
  dsimp only [Pt.U, Pt.locs, Pt.cells, Pt.slots] at X40 l40 y40 z40 st40 hQ40
  subst l40 y40 z40
  obtain ⟨rfl, N40q, K40, P40_0, P40_1, P40_2⟩ := hQ40
  have N40 := Fr.app N0 N40q
  refine own_goT st40 ?_
  show own_Run p e below _ T40 (mkF m 73 #[.val (.int p1), .val (.int p2), .val (.int p3), .val (.int x3), .val (.int x4), .val (.ref u), .val (.ref u), .unset, .unset, .unset, .unset] [(.ref b38)])
  have Z0_c41 := Nat.le_trans Z0_c39 K40.1
  have K0_c41 := K0_c39.trans K40 (allS (Or.inr sz_b38) all0)
  have E_u_c41 := E_u_c39.keep K40
  have S_high_c41 := own_staKeep S_high_c39 K40 (allS (own_ns A38) all0)
  have S_cache_c41 := own_staKeep S_cache_c39 K40 (allS (own_ns A38) all0)
  have X_own_Cache_ca_c41 := X_own_Cache_ca_c39.keep K40 (ninS ne_ca_b38 nin0)
  have A38_c41 := A38.keep K40
  have Y40 : T40.heap.size ≤ T40.heap.size := Nat.le_refl _
  refine own_go (fun _ k => XS.astore X40.here hx rfl (hb hby at_73) rfl rfl (l' := #[.val (.int p1), .val (.int p2), .val (.int p3), .val (.int x3), .val (.int x4), .val (.ref u), .val (.ref u), .val (.ref b38), .unset, .unset, .unset]) rfl k) ?_
  show own_Run p e below _ T40 (mkF m 75 #[.val (.int p1), .val (.int p2), .val (.int p3), .val (.int x3), .val (.int x4), .val (.ref u), .val (.ref u), .val (.ref b38), .unset, .unset, .unset] [])
  obtain ⟨T42, h42, X42, e42, E42, A42, D42, -, st42⟩ := newO X40 hx hZ40 hown40 (W 8 rfl) (W 9 rfl) (W 10 rfl) rfl (g := (mkF m 75 #[.val (.int p1), .val (.int p2), .val (.int p3), .val (.int x3), .val (.int x4), .val (.ref u), .val (.ref u), .val (.ref b38), .unset, .unset, .unset] [])) rfl (hb hby at_75) (by decide) (by decide)
  refine own_go st42 ?_
  obtain ⟨b42, g42⟩ : ∃ z, z = T40.heap.size := ⟨_, rfl⟩
  rw [← g42] at A42 D42
  rw [← g42]
  show own_Run p e below _ T42 (mkF m 78 #[.val (.int p1), .val (.int p2), .val (.int p3), .val (.int x3), .val (.int x4), .val (.ref u), .val (.ref u), .val (.ref b38), .unset, .unset, .unset] [(.ref b42)])
  have ne_u_b42 : u ≠ b42 := Nat.ne_of_lt (Nat.lt_of_lt_of_eq E_u_c41.lt g42.symm)
  have ne_ca_b42 : ca ≠ b42 := Nat.ne_of_lt (Nat.lt_of_lt_of_eq X_own_Cache_ca_c41.lt g42.symm)
  have ne_b38_b42 : b38 ≠ b42 := Nat.ne_of_lt (Nat.lt_of_lt_of_eq P40_0.lt g42.symm)
  have g_b42 : n0 ≤ b42 := Nat.le_trans Z0_c41 (Nat.le_of_eq g42.symm)
  have sz_b42 : h0.size ≤ b42 := Nat.le_trans K0_c41.1 (Nat.le_of_eq g42.symm)
  have Z0_c43 := Nat.le_trans Z0_c41 E42.1
  have K0_c43 := K0_c41.ext E42
  have E_u_c43 := E_u_c41.ext E42
  have S_high_c43 := S_high_c41.ext E42
  have S_cache_c43 := S_cache_c41.ext E42
  have X_own_Cache_ca_c43 := X_own_Cache_ca_c41.ext E42
  have P40_0_c43 := P40_0.ext E42
  have Y40_c43 := Nat.le_trans Y40 E42.1
  have P40_1_c43 := P40_1.ext E42
  have P40_2_c43 := P40_2.ext E42
  have F_unit_b42 : Fld Z h42 b42 "com/example/near_duplicate_finder/nearduplicatefinder/Shingling" "unit" "Lcom/example/near_duplicate_finder/nearduplicatefinder/Shingling$Unit;" .null := D42 (Or.inr (W 32 rfl)) (ty := (.object "com/example/near_duplicate_finder/nearduplicatefinder/Shingling$Unit")) (by decide)
  have F_size_b42 : Fld Z h42 b42 "com/example/near_duplicate_finder/nearduplicatefinder/Shingling" "size" "I" (.int (0 : Int32)) := D42 (Or.inr (W 34 rfl)) (ty := .int) (by decide)
  refine own_go (fun _ k => XS.dup X42.here hx rfl (hb hby at_78) rfl rfl k) ?_
  refine own_go (fun _ k => XS.aload X42.here hx rfl (hb hby at_79) rfl rfl k) ?_
  refine own_go (fun _ k => XS.iload X42.here hx rfl (hb hby at_81) rfl k) ?_
  show own_Run p e below _ T42 (mkF m 83 #[.val (.int p1), .val (.int p2), .val (.int p3), .val (.int x3), .val (.int x4), .val (.ref u), .val (.ref u), .val (.ref b38), .unset, .unset, .unset] [(.int x4), (.ref u), (.ref b42), (.ref b42)])
  obtain ⟨_, _, ⟨T44, L44, k44, n44⟩, -, Xw44, hSw44, hgw44, ⟨Lc44, hQ44, l44, y44, z44⟩, st44⟩ := X42.specialBackS hx (y := (⟨"com/example/near_duplicate_finder/nearduplicatefinder/Shingling", "<init>", "(Lcom/example/near_duplicate_finder/nearduplicatefinder/Shingling$Unit;I)V"⟩ : MethodName)) rfl hown40 (mvT hZ40 (W 11 rfl)) (mvT hZ40 (W 12 rfl)) (mvT hZ40 (W 13 rfl)) (by decide) (backOfS (W := 1) (rm2 l Z a0 hw [] b42 u x4 .null (.int (0 : Int32)) h42 n0 Z0_c43 A42 F_unit_b42 F_size_b42 g_b42 E_u_c43 (h4)) hZ40 (W 13 rfl) (W 10 rfl) (by decide) (by decide)) (g := (mkF m 83 #[.val (.int p1), .val (.int p2), .val (.int p3), .val (.int x3), .val (.int x4), .val (.ref u), .val (.ref u), .val (.ref b38), .unset, .unset, .unset] [(.int x4), (.ref u), (.ref b42), (.ref b42)])) rfl (by rw [hml]; rfl) (Steps.refl _) (a := b42) (argsL := [(.ref u), (.int x4)]) (rest := [(.ref b42)]) (lenOf pd_4 rfl) rfl (by show 2 * 0 + _ ≤ _; exact Nat.le_of_eq rfl) (hb hby at_83) (fun _ _ => ⟨rfl, e42, (by decide : 4 + 2 ≤ _), (by decide : 24 + 20 ≤ _)⟩)
  dsimp only [Pt.U, Pt.locs, Pt.cells, Pt.slots] at hSw44 hgw44 Xw44
  obtain ⟨X44, hS44, hZ44, hown44⟩ := rebS (s := s) (vm0 := T40.vm) hS40 (n1 := T42.heap.size) (by rw [e42]; exact Y40_c43) Xw44 hSw44 hgw44 hZ40 hown40
  dsimp only [Pt.U, Pt.locs, Pt.cells, Pt.slots] at X44 l44 y44 z44 st44 hQ44
  subst l44 y44 z44
  obtain ⟨rfl, N44q, K44, P44_0, P44_1, P44_2⟩ := hQ44
  have N44 := Fr.app N40 N44q
  refine own_goT st44 ?_
  show own_Run p e below _ T44 (mkF m 86 #[.val (.int p1), .val (.int p2), .val (.int p3), .val (.int x3), .val (.int x4), .val (.ref u), .val (.ref u), .val (.ref b38), .unset, .unset, .unset] [(.ref b42)])
  have Z0_c45 := Nat.le_trans Z0_c43 K44.1
  have K0_c45 := K0_c43.trans K44 (allS (Or.inr sz_b42) all0)
  have E_u_c45 := E_u_c43.keep K44
  have S_high_c45 := own_staKeep S_high_c43 K44 (allS (own_ns A42) all0)
  have S_cache_c45 := own_staKeep S_cache_c43 K44 (allS (own_ns A42) all0)
  have X_own_Cache_ca_c45 := X_own_Cache_ca_c43.keep K44 (ninS ne_ca_b42 nin0)
  have P40_0_c45 := P40_0_c43.keep K44
  have P40_1_c45 := P40_1_c43.keep K44 (ninS ne_b38_b42 nin0)
  have P40_2_c45 := P40_2_c43.keep K44 (ninS ne_b38_b42 nin0)
  have A42_c45 := A42.keep K44
  have Y44 : T44.heap.size ≤ T44.heap.size := Nat.le_refl _
  refine own_go (fun _ k => XS.astore X44.here hx rfl (hb hby at_86) rfl rfl (l' := #[.val (.int p1), .val (.int p2), .val (.int p3), .val (.int x3), .val (.int x4), .val (.ref u), .val (.ref u), .val (.ref b38), .val (.ref b42), .unset, .unset]) rfl k) ?_
  refine own_go (fun _ k => XS.aload X44.here hx rfl (hb hby at_88) rfl rfl k) ?_
  refine own_go (fun _ k => XS.aload X44.here hx rfl (hb hby at_90) rfl rfl k) ?_
  show own_Run p e below _ T44 (mkF m 92 #[.val (.int p1), .val (.int p2), .val (.int p3), .val (.int x3), .val (.int x4), .val (.ref u), .val (.ref u), .val (.ref b38), .val (.ref b42), .unset, .unset] [(.ref u), (.ref u)])
  refine own_go (fun _ k => Jvm.RoadKit.acmp (g := (mkF m 92 #[.val (.int p1), .val (.int p2), .val (.int p3), .val (.int x3), .val (.int x4), .val (.ref u), .val (.ref u), .val (.ref b38), .val (.ref b42), .unset, .unset] [(.ref u), (.ref u)])) X44 hx rfl rfl rfl (pc0 := 92) (pc' := 95) (same := true) rfl (hb hby at_92) rfl (decide_eq_true rfl) (by decide) (by decide) k) ?_
  show own_Run p e below _ T44 (mkF m 95 #[.val (.int p1), .val (.int p2), .val (.int p3), .val (.int x3), .val (.int x4), .val (.ref u), .val (.ref u), .val (.ref b38), .val (.ref b42), .unset, .unset] [])
  refine own_go (fun _ k => XS.iloadN X44.here hx rfl (hb hby at_95) rfl k) ?_
  refine own_go (fun _ k => XS.iload X44.here hx rfl (hb hby at_96) rfl k) ?_
  show own_Run p e below _ T44 (mkF m 98 #[.val (.int p1), .val (.int p2), .val (.int p3), .val (.int x3), .val (.int x4), .val (.ref u), .val (.ref u), .val (.ref b38), .val (.ref b42), .unset, .unset] [(.int x4), (.int x3)])
  by_cases hxx : x3 = x4
  · refine own_go (fun _ k => XS.icmpNo X44.here hx rfl (hb hby at_98) rfl (teq hxx).2 k) ?_
    show own_Run p e below _ T44 (mkF m 101 #[.val (.int p1), .val (.int p2), .val (.int p3), .val (.int x3), .val (.int x4), .val (.ref u), .val (.ref u), .val (.ref b38), .val (.ref b42), .unset, .unset] [])
    refine own_go (fun _ k => XS.iconst X44.here hx rfl (hb hby at_101) k) ?_
    refine own_go (fun _ k => XS.goto X44.here hx rfl (pc0 := 102) (pc' := 106) rfl (hb hby at_102) (by decide) (by decide) k) ?_
    refine own_go (fun _ k => XS.istore X44.here hx rfl (hb hby at_106) rfl (l' := #[.val (.int p1), .val (.int p2), .val (.int p3), .val (.int x3), .val (.int x4), .val (.ref u), .val (.ref u), .val (.ref b38), .val (.ref b42), .val (.int (1 : Int32)), .unset]) rfl k) ?_
    refine own_go (fun _ k => XS.iloadN X44.here hx rfl (hb hby at_108) rfl k) ?_
    show own_Run p e below _ T44 (mkF m 109 #[.val (.int p1), .val (.int p2), .val (.int p3), .val (.int x3), .val (.int x4), .val (.ref u), .val (.ref u), .val (.ref b38), .val (.ref b42), .val (.int (1 : Int32)), .unset] [(.int x3)])
    obtain ⟨_, _, ⟨T46, L46, k46, n46⟩, -, X46, ⟨Lc46, hQ46, l46, y46, z46⟩, st46⟩ := Jvm.LawKit.callS X44 hx (y := (⟨"java/lang/Integer", "valueOf", "(I)Ljava/lang/Integer;"⟩ : MethodName)) hown44 (mvT hZ44 (W 35 rfl)) (mvT hZ44 (W 36 rfl)) (mvT hZ44 (W 37 rfl)) (mvT hZ44 (W 38 rfl)) (by decide) (backOf (W := 0) (rm5 l Z a0 hw [] x3 ca T44.heap n0 Z0_c45 S_high_c45 S_cache_c45 X_own_Cache_ca_c45 (h3)) hZ44 (W 38 rfl) (W 37 rfl) (by decide) (by decide)) (g := (mkF m 109 #[.val (.int p1), .val (.int p2), .val (.int p3), .val (.int x3), .val (.int x4), .val (.ref u), .val (.ref u), .val (.ref b38), .val (.ref b42), .val (.int (1 : Int32)), .unset] [(.int x3)])) rfl (by rw [hml]; rfl) (argsL := [(.int x3)]) (rest := []) (lenOf pd_5 rfl) rfl (by show 2 * 0 + _ ≤ _; exact Nat.le_of_eq rfl) (hb hby at_109) (fun _ _ => ⟨rfl, rfl, (by decide : 6 + 1 ≤ _), (by decide : 44 + 1 ≤ _)⟩)
    dsimp only [Pt.U, Pt.locs, Pt.cells, Pt.slots] at X46 l46 y46 z46 st46 hQ46
    subst l46 y46 z46
    obtain ⟨b_46, rfl, N46q, K46, P46_0⟩ := hQ46
    have N46 := Fr.app N44 N46q
    refine own_go st46 ?_
    show own_Run p e below _ T46 (mkF m 112 #[.val (.int p1), .val (.int p2), .val (.int p3), .val (.int x3), .val (.int x4), .val (.ref u), .val (.ref u), .val (.ref b38), .val (.ref b42), .val (.int (1 : Int32)), .unset] [(.ref b_46)])
    have Z0_c47 := Nat.le_trans Z0_c45 K46.1
    have K0_c47 := K0_c45.trans K46 all0
    have E_u_c47 := E_u_c45.keep K46
    have S_high_c47 := own_staKeep S_high_c45 K46 all0
    have S_cache_c47 := own_staKeep S_cache_c45 K46 all0
    have X_own_Cache_ca_c47 := X_own_Cache_ca_c45.keep K46 nin0
    have P40_0_c47 := P40_0_c45.keep K46
    have P40_1_c47 := P40_1_c45.keep K46 nin0
    have P40_2_c47 := P40_2_c45.keep K46 nin0
    have P44_0_c47 := P44_0.keep K46
    have Y44_c47 := Nat.le_trans Y44 K46.1
    have P44_1_c47 := P44_1.keep K46 nin0
    have P44_2_c47 := P44_2.keep K46 nin0
    refine own_go (fun _ k => XS.astore X46.here hx rfl (hb hby at_112) rfl rfl (l' := #[.val (.int p1), .val (.int p2), .val (.int p3), .val (.int x3), .val (.int x4), .val (.ref u), .val (.ref u), .val (.ref b38), .val (.ref b42), .val (.int (1 : Int32)), .val (.ref b_46)]) rfl k) ?_
    refine own_go (fun _ k => XS.aload X46.here hx rfl (hb hby at_114) rfl rfl k) ?_
    refine own_go (fun _ k => XS.aload X46.here hx rfl (hb hby at_116) rfl rfl k) ?_
    show own_Run p e below _ T46 (mkF m 118 #[.val (.int p1), .val (.int p2), .val (.int p3), .val (.int x3), .val (.int x4), .val (.ref u), .val (.ref u), .val (.ref b38), .val (.ref b42), .val (.int (1 : Int32)), .val (.ref b_46)] [(.ref b42), (.ref b38)])
    obtain ⟨cq48, kq48, q48a, q48b, q48c⟩ := isOf hZ44 rfl P40_0_c47
    obtain ⟨_, _, ⟨T48, L48, k48, n48⟩, -, X48, ⟨Lc48, hQ48, l48, y48, z48⟩, st48⟩ := X46.virtualBack hx (y := (⟨"com/example/near_duplicate_finder/nearduplicatefinder/Shingling", "equals", "(Ljava/lang/Object;)Z"⟩ : MethodName)) (z := (⟨"com/example/near_duplicate_finder/nearduplicatefinder/Shingling", "equals", "(Ljava/lang/Object;)Z"⟩ : MethodName)) hown44 (mvT hZ44 (W 42 rfl)) (mvT hZ44 (W 43 rfl)) (notFace_of_selects (args := #[]) (mvT hZ44 (W 45 rfl))) (mvT hZ44 (W 45 rfl)) (mvT hZ44 (W 44 rfl)) (by decide) (backOf (W := 0) (rm6S l Z a0 hw [] b38 b42 u x3 x4 (1 : Int32) T46.heap n0 Z0_c47 P40_1_c47 P40_2_c47 P44_0_c47 P44_1_c47 P44_2_c47 (Or.inl ⟨hxx, rfl⟩)) hZ44 (W 46 rfl) (W 10 rfl) (by decide) (by decide)) q48a q48c (g := (mkF m 118 #[.val (.int p1), .val (.int p2), .val (.int p3), .val (.int x3), .val (.int x4), .val (.ref u), .val (.ref u), .val (.ref b38), .val (.ref b42), .val (.int (1 : Int32)), .val (.ref b_46)] [(.ref b42), (.ref b38)])) rfl (by rw [hml]; rfl) (Steps.refl _) (argsL := [(.ref b42)]) (rest := []) (lenOf pd_6 rfl) rfl (by show 2 * 0 + _ ≤ _; exact Nat.le_of_eq rfl) (hb hby at_118) (fun _ _ => ⟨rfl, rfl, (by decide : 7 + 0 ≤ _), (by decide : 45 + 0 ≤ _)⟩)
    dsimp only [Pt.U, Pt.locs, Pt.cells, Pt.slots] at X48 l48 y48 z48 st48 hQ48
    subst l48 y48 z48
    obtain ⟨rfl, N48q, e48⟩ := hQ48
    have N48 := Fr.app N46 N48q
    refine own_goT st48 ?_
    show own_Run p e below _ T48 (mkF m 121 #[.val (.int p1), .val (.int p2), .val (.int p3), .val (.int x3), .val (.int x4), .val (.ref u), .val (.ref u), .val (.ref b38), .val (.ref b42), .val (.int (1 : Int32)), .val (.ref b_46)] [(.int (1 : Int32))])
    refine own_go (fun _ k => XS.iload X48.here hx rfl (hb hby at_121) rfl k) ?_
    show own_Run p e below _ T48 (mkF m 123 #[.val (.int p1), .val (.int p2), .val (.int p3), .val (.int x3), .val (.int x4), .val (.ref u), .val (.ref u), .val (.ref b38), .val (.ref b42), .val (.int (1 : Int32)), .val (.ref b_46)] [(.int (1 : Int32)), (.int (1 : Int32))])
    refine own_go (fun _ k => XS.icmpNo X48.here hx rfl (hb hby at_123) rfl (teq (by decide : (1 : Int32) = (1 : Int32))).2 k) ?_
    show own_Run p e below _ T48 (mkF m 126 #[.val (.int p1), .val (.int p2), .val (.int p3), .val (.int x3), .val (.int x4), .val (.ref u), .val (.ref u), .val (.ref b38), .val (.ref b42), .val (.int (1 : Int32)), .val (.ref b_46)] [])
    refine own_go (fun _ k => XS.aload X48.here hx rfl (hb hby at_126) rfl rfl k) ?_
    refine own_go (fun _ k => XS.aload X48.here hx rfl (hb hby at_128) rfl rfl k) ?_
    show own_Run p e below _ T48 (mkF m 130 #[.val (.int p1), .val (.int p2), .val (.int p3), .val (.int x3), .val (.int x4), .val (.ref u), .val (.ref u), .val (.ref b38), .val (.ref b42), .val (.int (1 : Int32)), .val (.ref b_46)] [(.ref b38), (.ref b42)])
    obtain ⟨cq49, kq49, q49a, q49b, q49c⟩ := isOf hZ44 e48 P44_0_c47
    obtain ⟨_, _, ⟨T49, L49, k49, n49⟩, -, X49, ⟨Lc49, hQ49, l49, y49, z49⟩, st49⟩ := X48.virtualBack hx (y := (⟨"com/example/near_duplicate_finder/nearduplicatefinder/Shingling", "equals", "(Ljava/lang/Object;)Z"⟩ : MethodName)) (z := (⟨"com/example/near_duplicate_finder/nearduplicatefinder/Shingling", "equals", "(Ljava/lang/Object;)Z"⟩ : MethodName)) hown44 (mvT hZ44 (W 42 rfl)) (mvT hZ44 (W 43 rfl)) (notFace_of_selects (args := #[]) (mvT hZ44 (W 45 rfl))) (mvT hZ44 (W 45 rfl)) (mvT hZ44 (W 44 rfl)) (by decide) (backOf (W := 0) (rm6S l Z a0 hw [] b42 b38 u x4 x3 (1 : Int32) T46.heap n0 Z0_c47 P44_1_c47 P44_2_c47 P40_0_c47 P40_1_c47 P40_2_c47 (Or.inl ⟨hxx.symm, rfl⟩)) hZ44 (W 46 rfl) (W 10 rfl) (by decide) (by decide)) q49a q49c (g := (mkF m 130 #[.val (.int p1), .val (.int p2), .val (.int p3), .val (.int x3), .val (.int x4), .val (.ref u), .val (.ref u), .val (.ref b38), .val (.ref b42), .val (.int (1 : Int32)), .val (.ref b_46)] [(.ref b38), (.ref b42)])) rfl (by rw [hml]; rfl) (Steps.refl _) (argsL := [(.ref b38)]) (rest := []) (lenOf pd_6 rfl) rfl (by show 2 * 0 + _ ≤ _; exact Nat.le_of_eq rfl) (hb hby at_130) (fun _ _ => ⟨rfl, e48, (by decide : 7 + 0 ≤ _), (by decide : 45 + 0 ≤ _)⟩)
    dsimp only [Pt.U, Pt.locs, Pt.cells, Pt.slots] at X49 l49 y49 z49 st49 hQ49
    subst l49 y49 z49
    obtain ⟨rfl, N49q, e49⟩ := hQ49
    have N49 := Fr.app N48 N49q
    refine own_goT st49 ?_
    show own_Run p e below _ T49 (mkF m 133 #[.val (.int p1), .val (.int p2), .val (.int p3), .val (.int x3), .val (.int x4), .val (.ref u), .val (.ref u), .val (.ref b38), .val (.ref b42), .val (.int (1 : Int32)), .val (.ref b_46)] [(.int (1 : Int32))])
    refine own_go (fun _ k => XS.iload X49.here hx rfl (hb hby at_133) rfl k) ?_
    show own_Run p e below _ T49 (mkF m 135 #[.val (.int p1), .val (.int p2), .val (.int p3), .val (.int x3), .val (.int x4), .val (.ref u), .val (.ref u), .val (.ref b38), .val (.ref b42), .val (.int (1 : Int32)), .val (.ref b_46)] [(.int (1 : Int32)), (.int (1 : Int32))])
    refine own_go (fun _ k => XS.icmpNo X49.here hx rfl (hb hby at_135) rfl (teq (by decide : (1 : Int32) = (1 : Int32))).2 k) ?_
    show own_Run p e below _ T49 (mkF m 138 #[.val (.int p1), .val (.int p2), .val (.int p3), .val (.int x3), .val (.int x4), .val (.ref u), .val (.ref u), .val (.ref b38), .val (.ref b42), .val (.int (1 : Int32)), .val (.ref b_46)] [])
    refine own_go (fun _ k => XS.aload X49.here hx rfl (hb hby at_138) rfl rfl k) ?_
    refine own_go (fun _ k => XS.aload X49.here hx rfl (hb hby at_140) rfl rfl k) ?_
    show own_Run p e below _ T49 (mkF m 142 #[.val (.int p1), .val (.int p2), .val (.int p3), .val (.int x3), .val (.int x4), .val (.ref u), .val (.ref u), .val (.ref b38), .val (.ref b42), .val (.int (1 : Int32)), .val (.ref b_46)] [(.ref b38), (.ref b38)])
    obtain ⟨cq50, kq50, q50a, q50b, q50c⟩ := isOf hZ44 e49 P40_0_c47
    obtain ⟨_, _, ⟨T50, L50, k50, n50⟩, -, X50, ⟨Lc50, hQ50, l50, y50, z50⟩, st50⟩ := X49.virtualBack hx (y := (⟨"com/example/near_duplicate_finder/nearduplicatefinder/Shingling", "equals", "(Ljava/lang/Object;)Z"⟩ : MethodName)) (z := (⟨"com/example/near_duplicate_finder/nearduplicatefinder/Shingling", "equals", "(Ljava/lang/Object;)Z"⟩ : MethodName)) hown44 (mvT hZ44 (W 42 rfl)) (mvT hZ44 (W 43 rfl)) (notFace_of_selects (args := #[]) (mvT hZ44 (W 45 rfl))) (mvT hZ44 (W 45 rfl)) (mvT hZ44 (W 44 rfl)) (by decide) (backOf (W := 0) (rm6S l Z a0 hw [] b38 b38 u x3 x3 (1 : Int32) T46.heap n0 Z0_c47 P40_1_c47 P40_2_c47 P40_0_c47 P40_1_c47 P40_2_c47 (Or.inl ⟨rfl, rfl⟩)) hZ44 (W 46 rfl) (W 10 rfl) (by decide) (by decide)) q50a q50c (g := (mkF m 142 #[.val (.int p1), .val (.int p2), .val (.int p3), .val (.int x3), .val (.int x4), .val (.ref u), .val (.ref u), .val (.ref b38), .val (.ref b42), .val (.int (1 : Int32)), .val (.ref b_46)] [(.ref b38), (.ref b38)])) rfl (by rw [hml]; rfl) (Steps.refl _) (argsL := [(.ref b38)]) (rest := []) (lenOf pd_6 rfl) rfl (by show 2 * 0 + _ ≤ _; exact Nat.le_of_eq rfl) (hb hby at_142) (fun _ _ => ⟨rfl, e49, (by decide : 7 + 0 ≤ _), (by decide : 45 + 0 ≤ _)⟩)
    dsimp only [Pt.U, Pt.locs, Pt.cells, Pt.slots] at X50 l50 y50 z50 st50 hQ50
    subst l50 y50 z50
    obtain ⟨rfl, N50q, e50⟩ := hQ50
    have N50 := Fr.app N49 N50q
    refine own_goT st50 ?_
    show own_Run p e below _ T50 (mkF m 145 #[.val (.int p1), .val (.int p2), .val (.int p3), .val (.int x3), .val (.int x4), .val (.ref u), .val (.ref u), .val (.ref b38), .val (.ref b42), .val (.int (1 : Int32)), .val (.ref b_46)] [(.int (1 : Int32))])
    refine own_go (fun _ k => XS.ifNo X50.here hx rfl (hb hby at_145) rfl ((if0 _ _).trans (feq (by decide : ¬ ((1 : Int32) = (0 : Int32)))).1) k) ?_
    show own_Run p e below _ T50 (mkF m 148 #[.val (.int p1), .val (.int p2), .val (.int p3), .val (.int x3), .val (.int x4), .val (.ref u), .val (.ref u), .val (.ref b38), .val (.ref b42), .val (.int (1 : Int32)), .val (.ref b_46)] [])
    refine own_go (fun _ k => XS.aload X50.here hx rfl (hb hby at_148) rfl rfl k) ?_
    refine own_go (fun _ k => XS.aconstNull X50.here hx rfl (hb hby at_150) k) ?_
    show own_Run p e below _ T50 (mkF m 151 #[.val (.int p1), .val (.int p2), .val (.int p3), .val (.int x3), .val (.int x4), .val (.ref u), .val (.ref u), .val (.ref b38), .val (.ref b42), .val (.int (1 : Int32)), .val (.ref b_46)] [.null, (.ref b38)])
    obtain ⟨cq51, kq51, q51a, q51b, q51c⟩ := isOf hZ44 e50 P40_0_c47
    obtain ⟨_, _, ⟨T51, L51, k51, n51⟩, -, X51, ⟨Lc51, hQ51, l51, y51, z51⟩, st51⟩ := X50.virtualBack hx (y := (⟨"com/example/near_duplicate_finder/nearduplicatefinder/Shingling", "equals", "(Ljava/lang/Object;)Z"⟩ : MethodName)) (z := (⟨"com/example/near_duplicate_finder/nearduplicatefinder/Shingling", "equals", "(Ljava/lang/Object;)Z"⟩ : MethodName)) hown44 (mvT hZ44 (W 42 rfl)) (mvT hZ44 (W 43 rfl)) (notFace_of_selects (args := #[]) (mvT hZ44 (W 45 rfl))) (mvT hZ44 (W 45 rfl)) (mvT hZ44 (W 44 rfl)) (by decide) (backOf (W := 0) (rm6N l Z a0 hw [] b38 T46.heap n0 Z0_c47 ) hZ44 (W 46 rfl) (W 10 rfl) (by decide) (by decide)) q51a q51c (g := (mkF m 151 #[.val (.int p1), .val (.int p2), .val (.int p3), .val (.int x3), .val (.int x4), .val (.ref u), .val (.ref u), .val (.ref b38), .val (.ref b42), .val (.int (1 : Int32)), .val (.ref b_46)] [.null, (.ref b38)])) rfl (by rw [hml]; rfl) (Steps.refl _) (argsL := [.null]) (rest := []) (lenOf pd_6 rfl) rfl (by show 2 * 0 + _ ≤ _; exact Nat.le_of_eq rfl) (hb hby at_151) (fun _ _ => ⟨rfl, e50, (by decide : 7 + 0 ≤ _), (by decide : 45 + 0 ≤ _)⟩)
    dsimp only [Pt.U, Pt.locs, Pt.cells, Pt.slots] at X51 l51 y51 z51 st51 hQ51
    subst l51 y51 z51
    obtain ⟨rfl, N51q, e51⟩ := hQ51
    have N51 := Fr.app N50 N51q
    refine own_goT st51 ?_
    show own_Run p e below _ T51 (mkF m 154 #[.val (.int p1), .val (.int p2), .val (.int p3), .val (.int x3), .val (.int x4), .val (.ref u), .val (.ref u), .val (.ref b38), .val (.ref b42), .val (.int (1 : Int32)), .val (.ref b_46)] [(.int (0 : Int32))])
    refine own_go (fun _ k => XS.ifNo X51.here hx rfl (hb hby at_154) rfl ((if0 _ _).trans (teq (by decide : (0 : Int32) = (0 : Int32))).2) k) ?_
    show own_Run p e below _ T51 (mkF m 157 #[.val (.int p1), .val (.int p2), .val (.int p3), .val (.int x3), .val (.int x4), .val (.ref u), .val (.ref u), .val (.ref b38), .val (.ref b42), .val (.int (1 : Int32)), .val (.ref b_46)] [])
    refine own_go (fun _ k => XS.aload X51.here hx rfl (hb hby at_157) rfl rfl k) ?_
    refine own_go (fun _ k => XS.aload X51.here hx rfl (hb hby at_159) rfl rfl k) ?_
    show own_Run p e below _ T51 (mkF m 161 #[.val (.int p1), .val (.int p2), .val (.int p3), .val (.int x3), .val (.int x4), .val (.ref u), .val (.ref u), .val (.ref b38), .val (.ref b42), .val (.int (1 : Int32)), .val (.ref b_46)] [(.ref b_46), (.ref b38)])
    obtain ⟨cq52, kq52, q52a, q52b, q52c⟩ := isOf hZ44 e51 P40_0_c47
    obtain ⟨_, _, ⟨T52, L52, k52, n52⟩, -, X52, ⟨Lc52, hQ52, l52, y52, z52⟩, st52⟩ := X51.virtualBack hx (y := (⟨"com/example/near_duplicate_finder/nearduplicatefinder/Shingling", "equals", "(Ljava/lang/Object;)Z"⟩ : MethodName)) (z := (⟨"com/example/near_duplicate_finder/nearduplicatefinder/Shingling", "equals", "(Ljava/lang/Object;)Z"⟩ : MethodName)) hown44 (mvT hZ44 (W 42 rfl)) (mvT hZ44 (W 43 rfl)) (notFace_of_selects (args := #[]) (mvT hZ44 (W 45 rfl))) (mvT hZ44 (W 45 rfl)) (mvT hZ44 (W 44 rfl)) (by decide) (backOf (W := 0) (rm6I l Z a0 hw [] b38 b_46 T46.heap n0 Z0_c47 P46_0) hZ44 (W 46 rfl) (W 10 rfl) (by decide) (by decide)) q52a q52c (g := (mkF m 161 #[.val (.int p1), .val (.int p2), .val (.int p3), .val (.int x3), .val (.int x4), .val (.ref u), .val (.ref u), .val (.ref b38), .val (.ref b42), .val (.int (1 : Int32)), .val (.ref b_46)] [(.ref b_46), (.ref b38)])) rfl (by rw [hml]; rfl) (Steps.refl _) (argsL := [(.ref b_46)]) (rest := []) (lenOf pd_6 rfl) rfl (by show 2 * 0 + _ ≤ _; exact Nat.le_of_eq rfl) (hb hby at_161) (fun _ _ => ⟨rfl, e51, (by decide : 7 + 0 ≤ _), (by decide : 45 + 0 ≤ _)⟩)
    dsimp only [Pt.U, Pt.locs, Pt.cells, Pt.slots] at X52 l52 y52 z52 st52 hQ52
    subst l52 y52 z52
    obtain ⟨rfl, N52q, e52⟩ := hQ52
    have N52 := Fr.app N51 N52q
    refine own_goT st52 ?_
    show own_Run p e below _ T52 (mkF m 164 #[.val (.int p1), .val (.int p2), .val (.int p3), .val (.int x3), .val (.int x4), .val (.ref u), .val (.ref u), .val (.ref b38), .val (.ref b42), .val (.int (1 : Int32)), .val (.ref b_46)] [(.int (0 : Int32))])
    refine own_go (fun _ k => XS.ifNo X52.here hx rfl (hb hby at_164) rfl ((if0 _ _).trans (teq (by decide : (0 : Int32) = (0 : Int32))).2) k) ?_
    show own_Run p e below _ T52 (mkF m 167 #[.val (.int p1), .val (.int p2), .val (.int p3), .val (.int x3), .val (.int x4), .val (.ref u), .val (.ref u), .val (.ref b38), .val (.ref b42), .val (.int (1 : Int32)), .val (.ref b_46)] [])
    refine own_go (fun _ k => XS.iconst X52.here hx rfl (hb hby at_167) k) ?_
    refine own_go (fun _ k => XS.goto X52.here hx rfl (pc0 := 168) (pc' := 172) rfl (hb hby at_168) (by decide) (by decide) k) ?_
    show own_Run p e below _ T52 (mkF m 172 #[.val (.int p1), .val (.int p2), .val (.int p3), .val (.int x3), .val (.int x4), .val (.ref u), .val (.ref u), .val (.ref b38), .val (.ref b42), .val (.int (1 : Int32)), .val (.ref b_46)] [(.int (1 : Int32))])
    refine own_doneW (vm₁ := T44.vm) (Q := fun v h L => Q0 Z p1 p2 p3 oC oW ca h0 n0 v h L) (v := (some (.int (1 : Int32)))) X52 hS44 (by rw [e52]; exact Y44_c47) (fun h => by rw [hret] at h; cases h) hlk (fun fs hr => retN X52 hx (t := .boolean) hret (by simp) (hb hby at_172) hr) ?_ (by decide) (by decide)
    show Q0 Z p1 p2 p3 oC oW ca h0 n0 _ T52.heap _
    rw [e52]
    exact ⟨rfl, N52⟩
  · refine own_go (fun _ k => XS.icmpYes X44.here hx rfl (pc0 := 98) (pc' := 105) rfl (hb hby at_98) rfl (feq hxx).2 (by decide) (by decide) k) ?_
    show own_Run p e below _ T44 (mkF m 105 #[.val (.int p1), .val (.int p2), .val (.int p3), .val (.int x3), .val (.int x4), .val (.ref u), .val (.ref u), .val (.ref b38), .val (.ref b42), .unset, .unset] [])
    refine own_go (fun _ k => XS.iconst X44.here hx rfl (hb hby at_105) k) ?_
    refine own_go (fun _ k => XS.istore X44.here hx rfl (hb hby at_106) rfl (l' := #[.val (.int p1), .val (.int p2), .val (.int p3), .val (.int x3), .val (.int x4), .val (.ref u), .val (.ref u), .val (.ref b38), .val (.ref b42), .val (.int (0 : Int32)), .unset]) rfl k) ?_
    refine own_go (fun _ k => XS.iloadN X44.here hx rfl (hb hby at_108) rfl k) ?_
    show own_Run p e below _ T44 (mkF m 109 #[.val (.int p1), .val (.int p2), .val (.int p3), .val (.int x3), .val (.int x4), .val (.ref u), .val (.ref u), .val (.ref b38), .val (.ref b42), .val (.int (0 : Int32)), .unset] [(.int x3)])
    obtain ⟨_, _, ⟨T53, L53, k53, n53⟩, -, X53, ⟨Lc53, hQ53, l53, y53, z53⟩, st53⟩ := Jvm.LawKit.callS X44 hx (y := (⟨"java/lang/Integer", "valueOf", "(I)Ljava/lang/Integer;"⟩ : MethodName)) hown44 (mvT hZ44 (W 35 rfl)) (mvT hZ44 (W 36 rfl)) (mvT hZ44 (W 37 rfl)) (mvT hZ44 (W 38 rfl)) (by decide) (backOf (W := 0) (rm5 l Z a0 hw [] x3 ca T44.heap n0 Z0_c45 S_high_c45 S_cache_c45 X_own_Cache_ca_c45 (h3)) hZ44 (W 38 rfl) (W 37 rfl) (by decide) (by decide)) (g := (mkF m 109 #[.val (.int p1), .val (.int p2), .val (.int p3), .val (.int x3), .val (.int x4), .val (.ref u), .val (.ref u), .val (.ref b38), .val (.ref b42), .val (.int (0 : Int32)), .unset] [(.int x3)])) rfl (by rw [hml]; rfl) (argsL := [(.int x3)]) (rest := []) (lenOf pd_5 rfl) rfl (by show 2 * 0 + _ ≤ _; exact Nat.le_of_eq rfl) (hb hby at_109) (fun _ _ => ⟨rfl, rfl, (by decide : 6 + 1 ≤ _), (by decide : 44 + 1 ≤ _)⟩)
    dsimp only [Pt.U, Pt.locs, Pt.cells, Pt.slots] at X53 l53 y53 z53 st53 hQ53
    subst l53 y53 z53
    obtain ⟨b_53, rfl, N53q, K53, P53_0⟩ := hQ53
    have N53 := Fr.app N44 N53q
    refine own_go st53 ?_
    show own_Run p e below _ T53 (mkF m 112 #[.val (.int p1), .val (.int p2), .val (.int p3), .val (.int x3), .val (.int x4), .val (.ref u), .val (.ref u), .val (.ref b38), .val (.ref b42), .val (.int (0 : Int32)), .unset] [(.ref b_53)])
    have Z0_c54 := Nat.le_trans Z0_c45 K53.1
    have K0_c54 := K0_c45.trans K53 all0
    have E_u_c54 := E_u_c45.keep K53
    have S_high_c54 := own_staKeep S_high_c45 K53 all0
    have S_cache_c54 := own_staKeep S_cache_c45 K53 all0
    have X_own_Cache_ca_c54 := X_own_Cache_ca_c45.keep K53 nin0
    have P40_0_c54 := P40_0_c45.keep K53
    have P40_1_c54 := P40_1_c45.keep K53 nin0
    have P40_2_c54 := P40_2_c45.keep K53 nin0
    have P44_0_c54 := P44_0.keep K53
    have Y44_c54 := Nat.le_trans Y44 K53.1
    have P44_1_c54 := P44_1.keep K53 nin0
    have P44_2_c54 := P44_2.keep K53 nin0
    refine own_go (fun _ k => XS.astore X53.here hx rfl (hb hby at_112) rfl rfl (l' := #[.val (.int p1), .val (.int p2), .val (.int p3), .val (.int x3), .val (.int x4), .val (.ref u), .val (.ref u), .val (.ref b38), .val (.ref b42), .val (.int (0 : Int32)), .val (.ref b_53)]) rfl k) ?_
    refine own_go (fun _ k => XS.aload X53.here hx rfl (hb hby at_114) rfl rfl k) ?_
    refine own_go (fun _ k => XS.aload X53.here hx rfl (hb hby at_116) rfl rfl k) ?_
    show own_Run p e below _ T53 (mkF m 118 #[.val (.int p1), .val (.int p2), .val (.int p3), .val (.int x3), .val (.int x4), .val (.ref u), .val (.ref u), .val (.ref b38), .val (.ref b42), .val (.int (0 : Int32)), .val (.ref b_53)] [(.ref b42), (.ref b38)])
    obtain ⟨cq55, kq55, q55a, q55b, q55c⟩ := isOf hZ44 rfl P40_0_c54
    obtain ⟨_, _, ⟨T55, L55, k55, n55⟩, -, X55, ⟨Lc55, hQ55, l55, y55, z55⟩, st55⟩ := X53.virtualBack hx (y := (⟨"com/example/near_duplicate_finder/nearduplicatefinder/Shingling", "equals", "(Ljava/lang/Object;)Z"⟩ : MethodName)) (z := (⟨"com/example/near_duplicate_finder/nearduplicatefinder/Shingling", "equals", "(Ljava/lang/Object;)Z"⟩ : MethodName)) hown44 (mvT hZ44 (W 42 rfl)) (mvT hZ44 (W 43 rfl)) (notFace_of_selects (args := #[]) (mvT hZ44 (W 45 rfl))) (mvT hZ44 (W 45 rfl)) (mvT hZ44 (W 44 rfl)) (by decide) (backOf (W := 0) (rm6S l Z a0 hw [] b38 b42 u x3 x4 (0 : Int32) T53.heap n0 Z0_c54 P40_1_c54 P40_2_c54 P44_0_c54 P44_1_c54 P44_2_c54 (Or.inr ⟨hxx, rfl⟩)) hZ44 (W 46 rfl) (W 10 rfl) (by decide) (by decide)) q55a q55c (g := (mkF m 118 #[.val (.int p1), .val (.int p2), .val (.int p3), .val (.int x3), .val (.int x4), .val (.ref u), .val (.ref u), .val (.ref b38), .val (.ref b42), .val (.int (0 : Int32)), .val (.ref b_53)] [(.ref b42), (.ref b38)])) rfl (by rw [hml]; rfl) (Steps.refl _) (argsL := [(.ref b42)]) (rest := []) (lenOf pd_6 rfl) rfl (by show 2 * 0 + _ ≤ _; exact Nat.le_of_eq rfl) (hb hby at_118) (fun _ _ => ⟨rfl, rfl, (by decide : 7 + 0 ≤ _), (by decide : 45 + 0 ≤ _)⟩)
    dsimp only [Pt.U, Pt.locs, Pt.cells, Pt.slots] at X55 l55 y55 z55 st55 hQ55
    subst l55 y55 z55
    obtain ⟨rfl, N55q, e55⟩ := hQ55
    have N55 := Fr.app N53 N55q
    refine own_goT st55 ?_
    show own_Run p e below _ T55 (mkF m 121 #[.val (.int p1), .val (.int p2), .val (.int p3), .val (.int x3), .val (.int x4), .val (.ref u), .val (.ref u), .val (.ref b38), .val (.ref b42), .val (.int (0 : Int32)), .val (.ref b_53)] [(.int (0 : Int32))])
    refine own_go (fun _ k => XS.iload X55.here hx rfl (hb hby at_121) rfl k) ?_
    show own_Run p e below _ T55 (mkF m 123 #[.val (.int p1), .val (.int p2), .val (.int p3), .val (.int x3), .val (.int x4), .val (.ref u), .val (.ref u), .val (.ref b38), .val (.ref b42), .val (.int (0 : Int32)), .val (.ref b_53)] [(.int (0 : Int32)), (.int (0 : Int32))])
    refine own_go (fun _ k => XS.icmpNo X55.here hx rfl (hb hby at_123) rfl (teq (by decide : (0 : Int32) = (0 : Int32))).2 k) ?_
    show own_Run p e below _ T55 (mkF m 126 #[.val (.int p1), .val (.int p2), .val (.int p3), .val (.int x3), .val (.int x4), .val (.ref u), .val (.ref u), .val (.ref b38), .val (.ref b42), .val (.int (0 : Int32)), .val (.ref b_53)] [])
    refine own_go (fun _ k => XS.aload X55.here hx rfl (hb hby at_126) rfl rfl k) ?_
    refine own_go (fun _ k => XS.aload X55.here hx rfl (hb hby at_128) rfl rfl k) ?_
    show own_Run p e below _ T55 (mkF m 130 #[.val (.int p1), .val (.int p2), .val (.int p3), .val (.int x3), .val (.int x4), .val (.ref u), .val (.ref u), .val (.ref b38), .val (.ref b42), .val (.int (0 : Int32)), .val (.ref b_53)] [(.ref b38), (.ref b42)])
    obtain ⟨cq56, kq56, q56a, q56b, q56c⟩ := isOf hZ44 e55 P44_0_c54
    obtain ⟨_, _, ⟨T56, L56, k56, n56⟩, -, X56, ⟨Lc56, hQ56, l56, y56, z56⟩, st56⟩ := X55.virtualBack hx (y := (⟨"com/example/near_duplicate_finder/nearduplicatefinder/Shingling", "equals", "(Ljava/lang/Object;)Z"⟩ : MethodName)) (z := (⟨"com/example/near_duplicate_finder/nearduplicatefinder/Shingling", "equals", "(Ljava/lang/Object;)Z"⟩ : MethodName)) hown44 (mvT hZ44 (W 42 rfl)) (mvT hZ44 (W 43 rfl)) (notFace_of_selects (args := #[]) (mvT hZ44 (W 45 rfl))) (mvT hZ44 (W 45 rfl)) (mvT hZ44 (W 44 rfl)) (by decide) (backOf (W := 0) (rm6S l Z a0 hw [] b42 b38 u x4 x3 (0 : Int32) T53.heap n0 Z0_c54 P44_1_c54 P44_2_c54 P40_0_c54 P40_1_c54 P40_2_c54 (Or.inr ⟨(fun k => hxx k.symm), rfl⟩)) hZ44 (W 46 rfl) (W 10 rfl) (by decide) (by decide)) q56a q56c (g := (mkF m 130 #[.val (.int p1), .val (.int p2), .val (.int p3), .val (.int x3), .val (.int x4), .val (.ref u), .val (.ref u), .val (.ref b38), .val (.ref b42), .val (.int (0 : Int32)), .val (.ref b_53)] [(.ref b38), (.ref b42)])) rfl (by rw [hml]; rfl) (Steps.refl _) (argsL := [(.ref b38)]) (rest := []) (lenOf pd_6 rfl) rfl (by show 2 * 0 + _ ≤ _; exact Nat.le_of_eq rfl) (hb hby at_130) (fun _ _ => ⟨rfl, e55, (by decide : 7 + 0 ≤ _), (by decide : 45 + 0 ≤ _)⟩)
    dsimp only [Pt.U, Pt.locs, Pt.cells, Pt.slots] at X56 l56 y56 z56 st56 hQ56
    subst l56 y56 z56
    obtain ⟨rfl, N56q, e56⟩ := hQ56
    have N56 := Fr.app N55 N56q
    refine own_goT st56 ?_
    show own_Run p e below _ T56 (mkF m 133 #[.val (.int p1), .val (.int p2), .val (.int p3), .val (.int x3), .val (.int x4), .val (.ref u), .val (.ref u), .val (.ref b38), .val (.ref b42), .val (.int (0 : Int32)), .val (.ref b_53)] [(.int (0 : Int32))])
    refine own_go (fun _ k => XS.iload X56.here hx rfl (hb hby at_133) rfl k) ?_
    show own_Run p e below _ T56 (mkF m 135 #[.val (.int p1), .val (.int p2), .val (.int p3), .val (.int x3), .val (.int x4), .val (.ref u), .val (.ref u), .val (.ref b38), .val (.ref b42), .val (.int (0 : Int32)), .val (.ref b_53)] [(.int (0 : Int32)), (.int (0 : Int32))])
    refine own_go (fun _ k => XS.icmpNo X56.here hx rfl (hb hby at_135) rfl (teq (by decide : (0 : Int32) = (0 : Int32))).2 k) ?_
    show own_Run p e below _ T56 (mkF m 138 #[.val (.int p1), .val (.int p2), .val (.int p3), .val (.int x3), .val (.int x4), .val (.ref u), .val (.ref u), .val (.ref b38), .val (.ref b42), .val (.int (0 : Int32)), .val (.ref b_53)] [])
    refine own_go (fun _ k => XS.aload X56.here hx rfl (hb hby at_138) rfl rfl k) ?_
    refine own_go (fun _ k => XS.aload X56.here hx rfl (hb hby at_140) rfl rfl k) ?_
    show own_Run p e below _ T56 (mkF m 142 #[.val (.int p1), .val (.int p2), .val (.int p3), .val (.int x3), .val (.int x4), .val (.ref u), .val (.ref u), .val (.ref b38), .val (.ref b42), .val (.int (0 : Int32)), .val (.ref b_53)] [(.ref b38), (.ref b38)])
    obtain ⟨cq57, kq57, q57a, q57b, q57c⟩ := isOf hZ44 e56 P40_0_c54
    obtain ⟨_, _, ⟨T57, L57, k57, n57⟩, -, X57, ⟨Lc57, hQ57, l57, y57, z57⟩, st57⟩ := X56.virtualBack hx (y := (⟨"com/example/near_duplicate_finder/nearduplicatefinder/Shingling", "equals", "(Ljava/lang/Object;)Z"⟩ : MethodName)) (z := (⟨"com/example/near_duplicate_finder/nearduplicatefinder/Shingling", "equals", "(Ljava/lang/Object;)Z"⟩ : MethodName)) hown44 (mvT hZ44 (W 42 rfl)) (mvT hZ44 (W 43 rfl)) (notFace_of_selects (args := #[]) (mvT hZ44 (W 45 rfl))) (mvT hZ44 (W 45 rfl)) (mvT hZ44 (W 44 rfl)) (by decide) (backOf (W := 0) (rm6S l Z a0 hw [] b38 b38 u x3 x3 (1 : Int32) T53.heap n0 Z0_c54 P40_1_c54 P40_2_c54 P40_0_c54 P40_1_c54 P40_2_c54 (Or.inl ⟨rfl, rfl⟩)) hZ44 (W 46 rfl) (W 10 rfl) (by decide) (by decide)) q57a q57c (g := (mkF m 142 #[.val (.int p1), .val (.int p2), .val (.int p3), .val (.int x3), .val (.int x4), .val (.ref u), .val (.ref u), .val (.ref b38), .val (.ref b42), .val (.int (0 : Int32)), .val (.ref b_53)] [(.ref b38), (.ref b38)])) rfl (by rw [hml]; rfl) (Steps.refl _) (argsL := [(.ref b38)]) (rest := []) (lenOf pd_6 rfl) rfl (by show 2 * 0 + _ ≤ _; exact Nat.le_of_eq rfl) (hb hby at_142) (fun _ _ => ⟨rfl, e56, (by decide : 7 + 0 ≤ _), (by decide : 45 + 0 ≤ _)⟩)
    dsimp only [Pt.U, Pt.locs, Pt.cells, Pt.slots] at X57 l57 y57 z57 st57 hQ57
    subst l57 y57 z57
    obtain ⟨rfl, N57q, e57⟩ := hQ57
    have N57 := Fr.app N56 N57q
    refine own_goT st57 ?_
    show own_Run p e below _ T57 (mkF m 145 #[.val (.int p1), .val (.int p2), .val (.int p3), .val (.int x3), .val (.int x4), .val (.ref u), .val (.ref u), .val (.ref b38), .val (.ref b42), .val (.int (0 : Int32)), .val (.ref b_53)] [(.int (1 : Int32))])
    refine own_go (fun _ k => XS.ifNo X57.here hx rfl (hb hby at_145) rfl ((if0 _ _).trans (feq (by decide : ¬ ((1 : Int32) = (0 : Int32)))).1) k) ?_
    show own_Run p e below _ T57 (mkF m 148 #[.val (.int p1), .val (.int p2), .val (.int p3), .val (.int x3), .val (.int x4), .val (.ref u), .val (.ref u), .val (.ref b38), .val (.ref b42), .val (.int (0 : Int32)), .val (.ref b_53)] [])
    refine own_go (fun _ k => XS.aload X57.here hx rfl (hb hby at_148) rfl rfl k) ?_
    refine own_go (fun _ k => XS.aconstNull X57.here hx rfl (hb hby at_150) k) ?_
    show own_Run p e below _ T57 (mkF m 151 #[.val (.int p1), .val (.int p2), .val (.int p3), .val (.int x3), .val (.int x4), .val (.ref u), .val (.ref u), .val (.ref b38), .val (.ref b42), .val (.int (0 : Int32)), .val (.ref b_53)] [.null, (.ref b38)])
    obtain ⟨cq58, kq58, q58a, q58b, q58c⟩ := isOf hZ44 e57 P40_0_c54
    obtain ⟨_, _, ⟨T58, L58, k58, n58⟩, -, X58, ⟨Lc58, hQ58, l58, y58, z58⟩, st58⟩ := X57.virtualBack hx (y := (⟨"com/example/near_duplicate_finder/nearduplicatefinder/Shingling", "equals", "(Ljava/lang/Object;)Z"⟩ : MethodName)) (z := (⟨"com/example/near_duplicate_finder/nearduplicatefinder/Shingling", "equals", "(Ljava/lang/Object;)Z"⟩ : MethodName)) hown44 (mvT hZ44 (W 42 rfl)) (mvT hZ44 (W 43 rfl)) (notFace_of_selects (args := #[]) (mvT hZ44 (W 45 rfl))) (mvT hZ44 (W 45 rfl)) (mvT hZ44 (W 44 rfl)) (by decide) (backOf (W := 0) (rm6N l Z a0 hw [] b38 T53.heap n0 Z0_c54 ) hZ44 (W 46 rfl) (W 10 rfl) (by decide) (by decide)) q58a q58c (g := (mkF m 151 #[.val (.int p1), .val (.int p2), .val (.int p3), .val (.int x3), .val (.int x4), .val (.ref u), .val (.ref u), .val (.ref b38), .val (.ref b42), .val (.int (0 : Int32)), .val (.ref b_53)] [.null, (.ref b38)])) rfl (by rw [hml]; rfl) (Steps.refl _) (argsL := [.null]) (rest := []) (lenOf pd_6 rfl) rfl (by show 2 * 0 + _ ≤ _; exact Nat.le_of_eq rfl) (hb hby at_151) (fun _ _ => ⟨rfl, e57, (by decide : 7 + 0 ≤ _), (by decide : 45 + 0 ≤ _)⟩)
    dsimp only [Pt.U, Pt.locs, Pt.cells, Pt.slots] at X58 l58 y58 z58 st58 hQ58
    subst l58 y58 z58
    obtain ⟨rfl, N58q, e58⟩ := hQ58
    have N58 := Fr.app N57 N58q
    refine own_goT st58 ?_
    show own_Run p e below _ T58 (mkF m 154 #[.val (.int p1), .val (.int p2), .val (.int p3), .val (.int x3), .val (.int x4), .val (.ref u), .val (.ref u), .val (.ref b38), .val (.ref b42), .val (.int (0 : Int32)), .val (.ref b_53)] [(.int (0 : Int32))])
    refine own_go (fun _ k => XS.ifNo X58.here hx rfl (hb hby at_154) rfl ((if0 _ _).trans (teq (by decide : (0 : Int32) = (0 : Int32))).2) k) ?_
    show own_Run p e below _ T58 (mkF m 157 #[.val (.int p1), .val (.int p2), .val (.int p3), .val (.int x3), .val (.int x4), .val (.ref u), .val (.ref u), .val (.ref b38), .val (.ref b42), .val (.int (0 : Int32)), .val (.ref b_53)] [])
    refine own_go (fun _ k => XS.aload X58.here hx rfl (hb hby at_157) rfl rfl k) ?_
    refine own_go (fun _ k => XS.aload X58.here hx rfl (hb hby at_159) rfl rfl k) ?_
    show own_Run p e below _ T58 (mkF m 161 #[.val (.int p1), .val (.int p2), .val (.int p3), .val (.int x3), .val (.int x4), .val (.ref u), .val (.ref u), .val (.ref b38), .val (.ref b42), .val (.int (0 : Int32)), .val (.ref b_53)] [(.ref b_53), (.ref b38)])
    obtain ⟨cq59, kq59, q59a, q59b, q59c⟩ := isOf hZ44 e58 P40_0_c54
    obtain ⟨_, _, ⟨T59, L59, k59, n59⟩, -, X59, ⟨Lc59, hQ59, l59, y59, z59⟩, st59⟩ := X58.virtualBack hx (y := (⟨"com/example/near_duplicate_finder/nearduplicatefinder/Shingling", "equals", "(Ljava/lang/Object;)Z"⟩ : MethodName)) (z := (⟨"com/example/near_duplicate_finder/nearduplicatefinder/Shingling", "equals", "(Ljava/lang/Object;)Z"⟩ : MethodName)) hown44 (mvT hZ44 (W 42 rfl)) (mvT hZ44 (W 43 rfl)) (notFace_of_selects (args := #[]) (mvT hZ44 (W 45 rfl))) (mvT hZ44 (W 45 rfl)) (mvT hZ44 (W 44 rfl)) (by decide) (backOf (W := 0) (rm6I l Z a0 hw [] b38 b_53 T53.heap n0 Z0_c54 P53_0) hZ44 (W 46 rfl) (W 10 rfl) (by decide) (by decide)) q59a q59c (g := (mkF m 161 #[.val (.int p1), .val (.int p2), .val (.int p3), .val (.int x3), .val (.int x4), .val (.ref u), .val (.ref u), .val (.ref b38), .val (.ref b42), .val (.int (0 : Int32)), .val (.ref b_53)] [(.ref b_53), (.ref b38)])) rfl (by rw [hml]; rfl) (Steps.refl _) (argsL := [(.ref b_53)]) (rest := []) (lenOf pd_6 rfl) rfl (by show 2 * 0 + _ ≤ _; exact Nat.le_of_eq rfl) (hb hby at_161) (fun _ _ => ⟨rfl, e58, (by decide : 7 + 0 ≤ _), (by decide : 45 + 0 ≤ _)⟩)
    dsimp only [Pt.U, Pt.locs, Pt.cells, Pt.slots] at X59 l59 y59 z59 st59 hQ59
    subst l59 y59 z59
    obtain ⟨rfl, N59q, e59⟩ := hQ59
    have N59 := Fr.app N58 N59q
    refine own_goT st59 ?_
    show own_Run p e below _ T59 (mkF m 164 #[.val (.int p1), .val (.int p2), .val (.int p3), .val (.int x3), .val (.int x4), .val (.ref u), .val (.ref u), .val (.ref b38), .val (.ref b42), .val (.int (0 : Int32)), .val (.ref b_53)] [(.int (0 : Int32))])
    refine own_go (fun _ k => XS.ifNo X59.here hx rfl (hb hby at_164) rfl ((if0 _ _).trans (teq (by decide : (0 : Int32) = (0 : Int32))).2) k) ?_
    show own_Run p e below _ T59 (mkF m 167 #[.val (.int p1), .val (.int p2), .val (.int p3), .val (.int x3), .val (.int x4), .val (.ref u), .val (.ref u), .val (.ref b38), .val (.ref b42), .val (.int (0 : Int32)), .val (.ref b_53)] [])
    refine own_go (fun _ k => XS.iconst X59.here hx rfl (hb hby at_167) k) ?_
    refine own_go (fun _ k => XS.goto X59.here hx rfl (pc0 := 168) (pc' := 172) rfl (hb hby at_168) (by decide) (by decide) k) ?_
    show own_Run p e below _ T59 (mkF m 172 #[.val (.int p1), .val (.int p2), .val (.int p3), .val (.int x3), .val (.int x4), .val (.ref u), .val (.ref u), .val (.ref b38), .val (.ref b42), .val (.int (0 : Int32)), .val (.ref b_53)] [(.int (1 : Int32))])
    refine own_doneW (vm₁ := T44.vm) (Q := fun v h L => Q0 Z p1 p2 p3 oC oW ca h0 n0 v h L) (v := (some (.int (1 : Int32)))) X59 hS44 (by rw [e59]; exact Y44_c54) (fun h => by rw [hret] at h; cases h) hlk (fun fs hr => retN X59 hx (t := .boolean) hret (by simp) (hb hby at_172) hr) ?_ (by decide) (by decide)
    show Q0 Z p1 p2 p3 oC oW ca h0 n0 _ T59.heap _
    rw [e59]
    exact ⟨rfl, N59⟩
set_option maxRecDepth 65536 in
set_option maxHeartbeats 40000000 in
theorem tailD {p : Program} {l : Launch} {e : Env} {s : State} {m : MethodId} {args : Array Value} {below : List Frame} {meth : Method} {c : Code} {Z : State} {a0 : Array Value} (p1 : Int32) (p2 : Int32) (p3 : Int32) (oC : Addr) (oW : Addr) (ca : Addr) (h0 : Heap) (n0 : Nat) (hx : p.tables.exec = Jvm.exec) (hZ : Z.Warmed39 s.vm) (hw : ∀ d ∈ tables_1, d.before a0 Z = true) (hby : c.code = code) (hml : c.maxLocals = 11) (hown : s.vm.findClass "com/example/near_duplicate_finder/nearduplicatefinder/ShinglingEqualsPinLaw" = some m.cls) (hnm : meth.name = "law") (hret : meth.sig.returnType = some .boolean) (hlk : meth.locks = false)
    (x3 : Int32) (x4 : Int32) (u : Addr) (uv : Addr) (T0 : State) (hh : Heap) (locs : List Loc) (X0 : Stand p l e room_1 s m args below meth c T0 locs 0 0) (e0 : T0.heap = hh) (N0 : Fr n0 locs) (Z0 : n0 ≤ hh.size) (K0 : Keep h0 hh []) (E_u : Exa Z hh u "com/example/near_duplicate_finder/nearduplicatefinder/Shingling$Unit") (E_uv : Exa Z hh uv "com/example/near_duplicate_finder/nearduplicatefinder/Shingling$Unit") (S_high : Sta Z hh "java/lang/Integer$IntegerCache" "high" "I" (.int (127 : Int32))) (S_cache : Sta Z hh "java/lang/Integer$IntegerCache" "cache" "[Ljava/lang/Integer;" (.ref ca)) (X_own_Cache_ca : own_Cache Z hh ca ) (h3 : ¬ (x3 < (1 : Int32))) (h4 : ¬ (x4 < (1 : Int32))) (ne_u_uv : u ≠ uv) :
    own_Run p e below (fun o U' => ∃ v L, o = .returned v ∧ Q0 Z p1 p2 p3 oC oW ca h0 n0 v U'.heap L ∧ ReturnedEndW s o U' L room_1.cells room_1.slots) T0 (mkF m 63 #[.val (.int p1), .val (.int p2), .val (.int p3), .val (.int x3), .val (.int x4), .val (.ref u), .val (.ref uv), .unset, .unset, .unset, .unset] []) := by
  have W := fun (k : Nat) {d : Jvm.Cond} (h : tables_1[k]? = some d) => hw d (List.mem_of_getElem? h)
  show own_Run p e below _ T0 (mkF m 63 #[.val (.int p1), .val (.int p2), .val (.int p3), .val (.int x3), .val (.int x4), .val (.ref u), .val (.ref uv), .unset, .unset, .unset, .unset] [])
  have hS0 : s.Since s.vm 0 := (State.WarmedH.refl s).since 0
  have Y0 : 0 ≤ hh.size := Nat.zero_le _
  obtain ⟨T60, h60, X60, e60, E60, A60, D60, -, st60⟩ := newO X0 hx hZ hown (W 8 rfl) (W 9 rfl) (W 10 rfl) e0 (g := (mkF m 63 #[.val (.int p1), .val (.int p2), .val (.int p3), .val (.int x3), .val (.int x4), .val (.ref u), .val (.ref uv), .unset, .unset, .unset, .unset] [])) rfl (hb hby at_63) (by decide) (by decide)
  refine own_go st60 ?_
  obtain ⟨b60, g60⟩ : ∃ z, z = hh.size := ⟨_, rfl⟩
  rw [← g60] at A60 D60
  rw [← g60]
  show own_Run p e below _ T60 (mkF m 66 #[.val (.int p1), .val (.int p2), .val (.int p3), .val (.int x3), .val (.int x4), .val (.ref u), .val (.ref uv), .unset, .unset, .unset, .unset] [(.ref b60)])
  have ne_u_b60 : u ≠ b60 := Nat.ne_of_lt (Nat.lt_of_lt_of_eq E_u.lt g60.symm)
  have ne_uv_b60 : uv ≠ b60 := Nat.ne_of_lt (Nat.lt_of_lt_of_eq E_uv.lt g60.symm)
  have ne_ca_b60 : ca ≠ b60 := Nat.ne_of_lt (Nat.lt_of_lt_of_eq X_own_Cache_ca.lt g60.symm)
  have g_b60 : n0 ≤ b60 := Nat.le_trans Z0 (Nat.le_of_eq g60.symm)
  have sz_b60 : h0.size ≤ b60 := Nat.le_trans K0.1 (Nat.le_of_eq g60.symm)
  have Z0_c61 := Nat.le_trans Z0 E60.1
  have K0_c61 := K0.ext E60
  have E_u_c61 := E_u.ext E60
  have E_uv_c61 := E_uv.ext E60
  have S_high_c61 := S_high.ext E60
  have S_cache_c61 := S_cache.ext E60
  have X_own_Cache_ca_c61 := X_own_Cache_ca.ext E60
  have Y0_c61 := Nat.le_trans Y0 E60.1
  have F_unit_b60 : Fld Z h60 b60 "com/example/near_duplicate_finder/nearduplicatefinder/Shingling" "unit" "Lcom/example/near_duplicate_finder/nearduplicatefinder/Shingling$Unit;" .null := D60 (Or.inr (W 32 rfl)) (ty := (.object "com/example/near_duplicate_finder/nearduplicatefinder/Shingling$Unit")) (by decide)
  have F_size_b60 : Fld Z h60 b60 "com/example/near_duplicate_finder/nearduplicatefinder/Shingling" "size" "I" (.int (0 : Int32)) := D60 (Or.inr (W 34 rfl)) (ty := .int) (by decide)
  refine own_go (fun _ k => XS.dup X60.here hx rfl (hb hby at_66) rfl rfl k) ?_
  refine own_go (fun _ k => XS.aload X60.here hx rfl (hb hby at_67) rfl rfl k) ?_
  refine own_go (fun _ k => XS.iloadN X60.here hx rfl (hb hby at_69) rfl k) ?_
  show own_Run p e below _ T60 (mkF m 70 #[.val (.int p1), .val (.int p2), .val (.int p3), .val (.int x3), .val (.int x4), .val (.ref u), .val (.ref uv), .unset, .unset, .unset, .unset] [(.int x3), (.ref u), (.ref b60), (.ref b60)])
  obtain ⟨_, _, ⟨T62, L62, k62, n62⟩, -, Xw62, hSw62, hgw62, ⟨Lc62, hQ62, l62, y62, z62⟩, st62⟩ := X60.specialBackS hx (y := (⟨"com/example/near_duplicate_finder/nearduplicatefinder/Shingling", "<init>", "(Lcom/example/near_duplicate_finder/nearduplicatefinder/Shingling$Unit;I)V"⟩ : MethodName)) rfl hown (mvT hZ (W 11 rfl)) (mvT hZ (W 12 rfl)) (mvT hZ (W 13 rfl)) (by decide) (backOfS (W := 1) (rm2 l Z a0 hw [] b60 u x3 .null (.int (0 : Int32)) h60 n0 Z0_c61 A60 F_unit_b60 F_size_b60 g_b60 E_u_c61 (h3)) hZ (W 13 rfl) (W 10 rfl) (by decide) (by decide)) (g := (mkF m 70 #[.val (.int p1), .val (.int p2), .val (.int p3), .val (.int x3), .val (.int x4), .val (.ref u), .val (.ref uv), .unset, .unset, .unset, .unset] [(.int x3), (.ref u), (.ref b60), (.ref b60)])) rfl (by rw [hml]; rfl) (Steps.refl _) (a := b60) (argsL := [(.ref u), (.int x3)]) (rest := [(.ref b60)]) (lenOf pd_4 rfl) rfl (by show 2 * 0 + _ ≤ _; exact Nat.le_of_eq rfl) (hb hby at_70) (fun _ _ => ⟨rfl, e60, (by decide : 1 + 2 ≤ _), (by decide : 2 + 20 ≤ _)⟩)
  dsimp only [Pt.U, Pt.locs, Pt.cells, Pt.slots] at hSw62 hgw62 Xw62
  obtain ⟨X62, hS62, hZ62, hown62⟩ := rebS (s := s) (vm0 := s.vm) hS0 (n1 := T60.heap.size) (by rw [e60]; exact Y0_c61) Xw62 hSw62 hgw62 hZ hown
  dsimp only [Pt.U, Pt.locs, Pt.cells, Pt.slots] at X62 l62 y62 z62 st62 hQ62
  subst l62 y62 z62
  obtain ⟨rfl, N62q, K62, P62_0, P62_1, P62_2⟩ := hQ62
  have N62 := Fr.app N0 N62q
  refine own_goT st62 ?_
  show own_Run p e below _ T62 (mkF m 73 #[.val (.int p1), .val (.int p2), .val (.int p3), .val (.int x3), .val (.int x4), .val (.ref u), .val (.ref uv), .unset, .unset, .unset, .unset] [(.ref b60)])
  have Z0_c63 := Nat.le_trans Z0_c61 K62.1
  have K0_c63 := K0_c61.trans K62 (allS (Or.inr sz_b60) all0)
  have E_u_c63 := E_u_c61.keep K62
  have E_uv_c63 := E_uv_c61.keep K62
  have S_high_c63 := own_staKeep S_high_c61 K62 (allS (own_ns A60) all0)
  have S_cache_c63 := own_staKeep S_cache_c61 K62 (allS (own_ns A60) all0)
  have X_own_Cache_ca_c63 := X_own_Cache_ca_c61.keep K62 (ninS ne_ca_b60 nin0)
  have A60_c63 := A60.keep K62
  have Y62 : T62.heap.size ≤ T62.heap.size := Nat.le_refl _
  refine own_go (fun _ k => XS.astore X62.here hx rfl (hb hby at_73) rfl rfl (l' := #[.val (.int p1), .val (.int p2), .val (.int p3), .val (.int x3), .val (.int x4), .val (.ref u), .val (.ref uv), .val (.ref b60), .unset, .unset, .unset]) rfl k) ?_
  show own_Run p e below _ T62 (mkF m 75 #[.val (.int p1), .val (.int p2), .val (.int p3), .val (.int x3), .val (.int x4), .val (.ref u), .val (.ref uv), .val (.ref b60), .unset, .unset, .unset] [])
  obtain ⟨T64, h64, X64, e64, E64, A64, D64, -, st64⟩ := newO X62 hx hZ62 hown62 (W 8 rfl) (W 9 rfl) (W 10 rfl) rfl (g := (mkF m 75 #[.val (.int p1), .val (.int p2), .val (.int p3), .val (.int x3), .val (.int x4), .val (.ref u), .val (.ref uv), .val (.ref b60), .unset, .unset, .unset] [])) rfl (hb hby at_75) (by decide) (by decide)
  refine own_go st64 ?_
  obtain ⟨b64, g64⟩ : ∃ z, z = T62.heap.size := ⟨_, rfl⟩
  rw [← g64] at A64 D64
  rw [← g64]
  show own_Run p e below _ T64 (mkF m 78 #[.val (.int p1), .val (.int p2), .val (.int p3), .val (.int x3), .val (.int x4), .val (.ref u), .val (.ref uv), .val (.ref b60), .unset, .unset, .unset] [(.ref b64)])
  have ne_u_b64 : u ≠ b64 := Nat.ne_of_lt (Nat.lt_of_lt_of_eq E_u_c63.lt g64.symm)
  have ne_uv_b64 : uv ≠ b64 := Nat.ne_of_lt (Nat.lt_of_lt_of_eq E_uv_c63.lt g64.symm)
  have ne_ca_b64 : ca ≠ b64 := Nat.ne_of_lt (Nat.lt_of_lt_of_eq X_own_Cache_ca_c63.lt g64.symm)
  have ne_b60_b64 : b60 ≠ b64 := Nat.ne_of_lt (Nat.lt_of_lt_of_eq P62_0.lt g64.symm)
  have g_b64 : n0 ≤ b64 := Nat.le_trans Z0_c63 (Nat.le_of_eq g64.symm)
  have sz_b64 : h0.size ≤ b64 := Nat.le_trans K0_c63.1 (Nat.le_of_eq g64.symm)
  have Z0_c65 := Nat.le_trans Z0_c63 E64.1
  have K0_c65 := K0_c63.ext E64
  have E_u_c65 := E_u_c63.ext E64
  have E_uv_c65 := E_uv_c63.ext E64
  have S_high_c65 := S_high_c63.ext E64
  have S_cache_c65 := S_cache_c63.ext E64
  have X_own_Cache_ca_c65 := X_own_Cache_ca_c63.ext E64
  have P62_0_c65 := P62_0.ext E64
  have Y62_c65 := Nat.le_trans Y62 E64.1
  have P62_1_c65 := P62_1.ext E64
  have P62_2_c65 := P62_2.ext E64
  have F_unit_b64 : Fld Z h64 b64 "com/example/near_duplicate_finder/nearduplicatefinder/Shingling" "unit" "Lcom/example/near_duplicate_finder/nearduplicatefinder/Shingling$Unit;" .null := D64 (Or.inr (W 32 rfl)) (ty := (.object "com/example/near_duplicate_finder/nearduplicatefinder/Shingling$Unit")) (by decide)
  have F_size_b64 : Fld Z h64 b64 "com/example/near_duplicate_finder/nearduplicatefinder/Shingling" "size" "I" (.int (0 : Int32)) := D64 (Or.inr (W 34 rfl)) (ty := .int) (by decide)
  refine own_go (fun _ k => XS.dup X64.here hx rfl (hb hby at_78) rfl rfl k) ?_
  refine own_go (fun _ k => XS.aload X64.here hx rfl (hb hby at_79) rfl rfl k) ?_
  refine own_go (fun _ k => XS.iload X64.here hx rfl (hb hby at_81) rfl k) ?_
  show own_Run p e below _ T64 (mkF m 83 #[.val (.int p1), .val (.int p2), .val (.int p3), .val (.int x3), .val (.int x4), .val (.ref u), .val (.ref uv), .val (.ref b60), .unset, .unset, .unset] [(.int x4), (.ref uv), (.ref b64), (.ref b64)])
  obtain ⟨_, _, ⟨T66, L66, k66, n66⟩, -, Xw66, hSw66, hgw66, ⟨Lc66, hQ66, l66, y66, z66⟩, st66⟩ := X64.specialBackS hx (y := (⟨"com/example/near_duplicate_finder/nearduplicatefinder/Shingling", "<init>", "(Lcom/example/near_duplicate_finder/nearduplicatefinder/Shingling$Unit;I)V"⟩ : MethodName)) rfl hown62 (mvT hZ62 (W 11 rfl)) (mvT hZ62 (W 12 rfl)) (mvT hZ62 (W 13 rfl)) (by decide) (backOfS (W := 1) (rm2 l Z a0 hw [] b64 uv x4 .null (.int (0 : Int32)) h64 n0 Z0_c65 A64 F_unit_b64 F_size_b64 g_b64 E_uv_c65 (h4)) hZ62 (W 13 rfl) (W 10 rfl) (by decide) (by decide)) (g := (mkF m 83 #[.val (.int p1), .val (.int p2), .val (.int p3), .val (.int x3), .val (.int x4), .val (.ref u), .val (.ref uv), .val (.ref b60), .unset, .unset, .unset] [(.int x4), (.ref uv), (.ref b64), (.ref b64)])) rfl (by rw [hml]; rfl) (Steps.refl _) (a := b64) (argsL := [(.ref uv), (.int x4)]) (rest := [(.ref b64)]) (lenOf pd_4 rfl) rfl (by show 2 * 0 + _ ≤ _; exact Nat.le_of_eq rfl) (hb hby at_83) (fun _ _ => ⟨rfl, e64, (by decide : 4 + 2 ≤ _), (by decide : 24 + 20 ≤ _)⟩)
  dsimp only [Pt.U, Pt.locs, Pt.cells, Pt.slots] at hSw66 hgw66 Xw66
  obtain ⟨X66, hS66, hZ66, hown66⟩ := rebS (s := s) (vm0 := T62.vm) hS62 (n1 := T64.heap.size) (by rw [e64]; exact Y62_c65) Xw66 hSw66 hgw66 hZ62 hown62
  dsimp only [Pt.U, Pt.locs, Pt.cells, Pt.slots] at X66 l66 y66 z66 st66 hQ66
  subst l66 y66 z66
  obtain ⟨rfl, N66q, K66, P66_0, P66_1, P66_2⟩ := hQ66
  have N66 := Fr.app N62 N66q
  refine own_goT st66 ?_
  show own_Run p e below _ T66 (mkF m 86 #[.val (.int p1), .val (.int p2), .val (.int p3), .val (.int x3), .val (.int x4), .val (.ref u), .val (.ref uv), .val (.ref b60), .unset, .unset, .unset] [(.ref b64)])
  have Z0_c67 := Nat.le_trans Z0_c65 K66.1
  have K0_c67 := K0_c65.trans K66 (allS (Or.inr sz_b64) all0)
  have E_u_c67 := E_u_c65.keep K66
  have E_uv_c67 := E_uv_c65.keep K66
  have S_high_c67 := own_staKeep S_high_c65 K66 (allS (own_ns A64) all0)
  have S_cache_c67 := own_staKeep S_cache_c65 K66 (allS (own_ns A64) all0)
  have X_own_Cache_ca_c67 := X_own_Cache_ca_c65.keep K66 (ninS ne_ca_b64 nin0)
  have P62_0_c67 := P62_0_c65.keep K66
  have P62_1_c67 := P62_1_c65.keep K66 (ninS ne_b60_b64 nin0)
  have P62_2_c67 := P62_2_c65.keep K66 (ninS ne_b60_b64 nin0)
  have A64_c67 := A64.keep K66
  have Y66 : T66.heap.size ≤ T66.heap.size := Nat.le_refl _
  refine own_go (fun _ k => XS.astore X66.here hx rfl (hb hby at_86) rfl rfl (l' := #[.val (.int p1), .val (.int p2), .val (.int p3), .val (.int x3), .val (.int x4), .val (.ref u), .val (.ref uv), .val (.ref b60), .val (.ref b64), .unset, .unset]) rfl k) ?_
  refine own_go (fun _ k => XS.aload X66.here hx rfl (hb hby at_88) rfl rfl k) ?_
  refine own_go (fun _ k => XS.aload X66.here hx rfl (hb hby at_90) rfl rfl k) ?_
  show own_Run p e below _ T66 (mkF m 92 #[.val (.int p1), .val (.int p2), .val (.int p3), .val (.int x3), .val (.int x4), .val (.ref u), .val (.ref uv), .val (.ref b60), .val (.ref b64), .unset, .unset] [(.ref uv), (.ref u)])
  refine own_go (fun _ k => Jvm.RoadKit.acmp (g := (mkF m 92 #[.val (.int p1), .val (.int p2), .val (.int p3), .val (.int x3), .val (.int x4), .val (.ref u), .val (.ref uv), .val (.ref b60), .val (.ref b64), .unset, .unset] [(.ref uv), (.ref u)])) X66 hx rfl rfl rfl (pc0 := 92) (pc' := 105) (same := false) rfl (hb hby at_92) rfl (decide_eq_false fun q => ne_u_uv (Value.ref.inj q)) (by decide) (by decide) k) ?_
  show own_Run p e below _ T66 (mkF m 105 #[.val (.int p1), .val (.int p2), .val (.int p3), .val (.int x3), .val (.int x4), .val (.ref u), .val (.ref uv), .val (.ref b60), .val (.ref b64), .unset, .unset] [])
  refine own_go (fun _ k => XS.iconst X66.here hx rfl (hb hby at_105) k) ?_
  refine own_go (fun _ k => XS.istore X66.here hx rfl (hb hby at_106) rfl (l' := #[.val (.int p1), .val (.int p2), .val (.int p3), .val (.int x3), .val (.int x4), .val (.ref u), .val (.ref uv), .val (.ref b60), .val (.ref b64), .val (.int (0 : Int32)), .unset]) rfl k) ?_
  refine own_go (fun _ k => XS.iloadN X66.here hx rfl (hb hby at_108) rfl k) ?_
  show own_Run p e below _ T66 (mkF m 109 #[.val (.int p1), .val (.int p2), .val (.int p3), .val (.int x3), .val (.int x4), .val (.ref u), .val (.ref uv), .val (.ref b60), .val (.ref b64), .val (.int (0 : Int32)), .unset] [(.int x3)])
  obtain ⟨_, _, ⟨T68, L68, k68, n68⟩, -, X68, ⟨Lc68, hQ68, l68, y68, z68⟩, st68⟩ := Jvm.LawKit.callS X66 hx (y := (⟨"java/lang/Integer", "valueOf", "(I)Ljava/lang/Integer;"⟩ : MethodName)) hown66 (mvT hZ66 (W 35 rfl)) (mvT hZ66 (W 36 rfl)) (mvT hZ66 (W 37 rfl)) (mvT hZ66 (W 38 rfl)) (by decide) (backOf (W := 0) (rm5 l Z a0 hw [] x3 ca T66.heap n0 Z0_c67 S_high_c67 S_cache_c67 X_own_Cache_ca_c67 (h3)) hZ66 (W 38 rfl) (W 37 rfl) (by decide) (by decide)) (g := (mkF m 109 #[.val (.int p1), .val (.int p2), .val (.int p3), .val (.int x3), .val (.int x4), .val (.ref u), .val (.ref uv), .val (.ref b60), .val (.ref b64), .val (.int (0 : Int32)), .unset] [(.int x3)])) rfl (by rw [hml]; rfl) (argsL := [(.int x3)]) (rest := []) (lenOf pd_5 rfl) rfl (by show 2 * 0 + _ ≤ _; exact Nat.le_of_eq rfl) (hb hby at_109) (fun _ _ => ⟨rfl, rfl, (by decide : 6 + 1 ≤ _), (by decide : 44 + 1 ≤ _)⟩)
  dsimp only [Pt.U, Pt.locs, Pt.cells, Pt.slots] at X68 l68 y68 z68 st68 hQ68
  subst l68 y68 z68
  obtain ⟨b_68, rfl, N68q, K68, P68_0⟩ := hQ68
  have N68 := Fr.app N66 N68q
  refine own_go st68 ?_
  show own_Run p e below _ T68 (mkF m 112 #[.val (.int p1), .val (.int p2), .val (.int p3), .val (.int x3), .val (.int x4), .val (.ref u), .val (.ref uv), .val (.ref b60), .val (.ref b64), .val (.int (0 : Int32)), .unset] [(.ref b_68)])
  have Z0_c69 := Nat.le_trans Z0_c67 K68.1
  have K0_c69 := K0_c67.trans K68 all0
  have E_u_c69 := E_u_c67.keep K68
  have E_uv_c69 := E_uv_c67.keep K68
  have S_high_c69 := own_staKeep S_high_c67 K68 all0
  have S_cache_c69 := own_staKeep S_cache_c67 K68 all0
  have X_own_Cache_ca_c69 := X_own_Cache_ca_c67.keep K68 nin0
  have P62_0_c69 := P62_0_c67.keep K68
  have P62_1_c69 := P62_1_c67.keep K68 nin0
  have P62_2_c69 := P62_2_c67.keep K68 nin0
  have P66_0_c69 := P66_0.keep K68
  have Y66_c69 := Nat.le_trans Y66 K68.1
  have P66_1_c69 := P66_1.keep K68 nin0
  have P66_2_c69 := P66_2.keep K68 nin0
  refine own_go (fun _ k => XS.astore X68.here hx rfl (hb hby at_112) rfl rfl (l' := #[.val (.int p1), .val (.int p2), .val (.int p3), .val (.int x3), .val (.int x4), .val (.ref u), .val (.ref uv), .val (.ref b60), .val (.ref b64), .val (.int (0 : Int32)), .val (.ref b_68)]) rfl k) ?_
  refine own_go (fun _ k => XS.aload X68.here hx rfl (hb hby at_114) rfl rfl k) ?_
  refine own_go (fun _ k => XS.aload X68.here hx rfl (hb hby at_116) rfl rfl k) ?_
  show own_Run p e below _ T68 (mkF m 118 #[.val (.int p1), .val (.int p2), .val (.int p3), .val (.int x3), .val (.int x4), .val (.ref u), .val (.ref uv), .val (.ref b60), .val (.ref b64), .val (.int (0 : Int32)), .val (.ref b_68)] [(.ref b64), (.ref b60)])
  obtain ⟨cq70, kq70, q70a, q70b, q70c⟩ := isOf hZ66 rfl P62_0_c69
  obtain ⟨_, _, ⟨T70, L70, k70, n70⟩, -, X70, ⟨Lc70, hQ70, l70, y70, z70⟩, st70⟩ := X68.virtualBack hx (y := (⟨"com/example/near_duplicate_finder/nearduplicatefinder/Shingling", "equals", "(Ljava/lang/Object;)Z"⟩ : MethodName)) (z := (⟨"com/example/near_duplicate_finder/nearduplicatefinder/Shingling", "equals", "(Ljava/lang/Object;)Z"⟩ : MethodName)) hown66 (mvT hZ66 (W 42 rfl)) (mvT hZ66 (W 43 rfl)) (notFace_of_selects (args := #[]) (mvT hZ66 (W 45 rfl))) (mvT hZ66 (W 45 rfl)) (mvT hZ66 (W 44 rfl)) (by decide) (backOf (W := 0) (rm6D l Z a0 hw [] b60 b64 u uv T68.heap n0 Z0_c69 P62_1_c69 P66_0_c69 P66_1_c69 ne_u_uv) hZ66 (W 46 rfl) (W 10 rfl) (by decide) (by decide)) q70a q70c (g := (mkF m 118 #[.val (.int p1), .val (.int p2), .val (.int p3), .val (.int x3), .val (.int x4), .val (.ref u), .val (.ref uv), .val (.ref b60), .val (.ref b64), .val (.int (0 : Int32)), .val (.ref b_68)] [(.ref b64), (.ref b60)])) rfl (by rw [hml]; rfl) (Steps.refl _) (argsL := [(.ref b64)]) (rest := []) (lenOf pd_6 rfl) rfl (by show 2 * 0 + _ ≤ _; exact Nat.le_of_eq rfl) (hb hby at_118) (fun _ _ => ⟨rfl, rfl, (by decide : 7 + 0 ≤ _), (by decide : 45 + 0 ≤ _)⟩)
  dsimp only [Pt.U, Pt.locs, Pt.cells, Pt.slots] at X70 l70 y70 z70 st70 hQ70
  subst l70 y70 z70
  obtain ⟨rfl, N70q, e70⟩ := hQ70
  have N70 := Fr.app N68 N70q
  refine own_goT st70 ?_
  show own_Run p e below _ T70 (mkF m 121 #[.val (.int p1), .val (.int p2), .val (.int p3), .val (.int x3), .val (.int x4), .val (.ref u), .val (.ref uv), .val (.ref b60), .val (.ref b64), .val (.int (0 : Int32)), .val (.ref b_68)] [(.int (0 : Int32))])
  refine own_go (fun _ k => XS.iload X70.here hx rfl (hb hby at_121) rfl k) ?_
  show own_Run p e below _ T70 (mkF m 123 #[.val (.int p1), .val (.int p2), .val (.int p3), .val (.int x3), .val (.int x4), .val (.ref u), .val (.ref uv), .val (.ref b60), .val (.ref b64), .val (.int (0 : Int32)), .val (.ref b_68)] [(.int (0 : Int32)), (.int (0 : Int32))])
  refine own_go (fun _ k => XS.icmpNo X70.here hx rfl (hb hby at_123) rfl (teq (by decide : (0 : Int32) = (0 : Int32))).2 k) ?_
  show own_Run p e below _ T70 (mkF m 126 #[.val (.int p1), .val (.int p2), .val (.int p3), .val (.int x3), .val (.int x4), .val (.ref u), .val (.ref uv), .val (.ref b60), .val (.ref b64), .val (.int (0 : Int32)), .val (.ref b_68)] [])
  refine own_go (fun _ k => XS.aload X70.here hx rfl (hb hby at_126) rfl rfl k) ?_
  refine own_go (fun _ k => XS.aload X70.here hx rfl (hb hby at_128) rfl rfl k) ?_
  show own_Run p e below _ T70 (mkF m 130 #[.val (.int p1), .val (.int p2), .val (.int p3), .val (.int x3), .val (.int x4), .val (.ref u), .val (.ref uv), .val (.ref b60), .val (.ref b64), .val (.int (0 : Int32)), .val (.ref b_68)] [(.ref b60), (.ref b64)])
  obtain ⟨cq71, kq71, q71a, q71b, q71c⟩ := isOf hZ66 e70 P66_0_c69
  obtain ⟨_, _, ⟨T71, L71, k71, n71⟩, -, X71, ⟨Lc71, hQ71, l71, y71, z71⟩, st71⟩ := X70.virtualBack hx (y := (⟨"com/example/near_duplicate_finder/nearduplicatefinder/Shingling", "equals", "(Ljava/lang/Object;)Z"⟩ : MethodName)) (z := (⟨"com/example/near_duplicate_finder/nearduplicatefinder/Shingling", "equals", "(Ljava/lang/Object;)Z"⟩ : MethodName)) hown66 (mvT hZ66 (W 42 rfl)) (mvT hZ66 (W 43 rfl)) (notFace_of_selects (args := #[]) (mvT hZ66 (W 45 rfl))) (mvT hZ66 (W 45 rfl)) (mvT hZ66 (W 44 rfl)) (by decide) (backOf (W := 0) (rm6D l Z a0 hw [] b64 b60 uv u T68.heap n0 Z0_c69 P66_1_c69 P62_0_c69 P62_1_c69 (Ne.symm ne_u_uv)) hZ66 (W 46 rfl) (W 10 rfl) (by decide) (by decide)) q71a q71c (g := (mkF m 130 #[.val (.int p1), .val (.int p2), .val (.int p3), .val (.int x3), .val (.int x4), .val (.ref u), .val (.ref uv), .val (.ref b60), .val (.ref b64), .val (.int (0 : Int32)), .val (.ref b_68)] [(.ref b60), (.ref b64)])) rfl (by rw [hml]; rfl) (Steps.refl _) (argsL := [(.ref b60)]) (rest := []) (lenOf pd_6 rfl) rfl (by show 2 * 0 + _ ≤ _; exact Nat.le_of_eq rfl) (hb hby at_130) (fun _ _ => ⟨rfl, e70, (by decide : 7 + 0 ≤ _), (by decide : 45 + 0 ≤ _)⟩)
  dsimp only [Pt.U, Pt.locs, Pt.cells, Pt.slots] at X71 l71 y71 z71 st71 hQ71
  subst l71 y71 z71
  obtain ⟨rfl, N71q, e71⟩ := hQ71
  have N71 := Fr.app N70 N71q
  refine own_goT st71 ?_
  show own_Run p e below _ T71 (mkF m 133 #[.val (.int p1), .val (.int p2), .val (.int p3), .val (.int x3), .val (.int x4), .val (.ref u), .val (.ref uv), .val (.ref b60), .val (.ref b64), .val (.int (0 : Int32)), .val (.ref b_68)] [(.int (0 : Int32))])
  refine own_go (fun _ k => XS.iload X71.here hx rfl (hb hby at_133) rfl k) ?_
  show own_Run p e below _ T71 (mkF m 135 #[.val (.int p1), .val (.int p2), .val (.int p3), .val (.int x3), .val (.int x4), .val (.ref u), .val (.ref uv), .val (.ref b60), .val (.ref b64), .val (.int (0 : Int32)), .val (.ref b_68)] [(.int (0 : Int32)), (.int (0 : Int32))])
  refine own_go (fun _ k => XS.icmpNo X71.here hx rfl (hb hby at_135) rfl (teq (by decide : (0 : Int32) = (0 : Int32))).2 k) ?_
  show own_Run p e below _ T71 (mkF m 138 #[.val (.int p1), .val (.int p2), .val (.int p3), .val (.int x3), .val (.int x4), .val (.ref u), .val (.ref uv), .val (.ref b60), .val (.ref b64), .val (.int (0 : Int32)), .val (.ref b_68)] [])
  refine own_go (fun _ k => XS.aload X71.here hx rfl (hb hby at_138) rfl rfl k) ?_
  refine own_go (fun _ k => XS.aload X71.here hx rfl (hb hby at_140) rfl rfl k) ?_
  show own_Run p e below _ T71 (mkF m 142 #[.val (.int p1), .val (.int p2), .val (.int p3), .val (.int x3), .val (.int x4), .val (.ref u), .val (.ref uv), .val (.ref b60), .val (.ref b64), .val (.int (0 : Int32)), .val (.ref b_68)] [(.ref b60), (.ref b60)])
  obtain ⟨cq72, kq72, q72a, q72b, q72c⟩ := isOf hZ66 e71 P62_0_c69
  obtain ⟨_, _, ⟨T72, L72, k72, n72⟩, -, X72, ⟨Lc72, hQ72, l72, y72, z72⟩, st72⟩ := X71.virtualBack hx (y := (⟨"com/example/near_duplicate_finder/nearduplicatefinder/Shingling", "equals", "(Ljava/lang/Object;)Z"⟩ : MethodName)) (z := (⟨"com/example/near_duplicate_finder/nearduplicatefinder/Shingling", "equals", "(Ljava/lang/Object;)Z"⟩ : MethodName)) hown66 (mvT hZ66 (W 42 rfl)) (mvT hZ66 (W 43 rfl)) (notFace_of_selects (args := #[]) (mvT hZ66 (W 45 rfl))) (mvT hZ66 (W 45 rfl)) (mvT hZ66 (W 44 rfl)) (by decide) (backOf (W := 0) (rm6S l Z a0 hw [] b60 b60 u x3 x3 (1 : Int32) T68.heap n0 Z0_c69 P62_1_c69 P62_2_c69 P62_0_c69 P62_1_c69 P62_2_c69 (Or.inl ⟨rfl, rfl⟩)) hZ66 (W 46 rfl) (W 10 rfl) (by decide) (by decide)) q72a q72c (g := (mkF m 142 #[.val (.int p1), .val (.int p2), .val (.int p3), .val (.int x3), .val (.int x4), .val (.ref u), .val (.ref uv), .val (.ref b60), .val (.ref b64), .val (.int (0 : Int32)), .val (.ref b_68)] [(.ref b60), (.ref b60)])) rfl (by rw [hml]; rfl) (Steps.refl _) (argsL := [(.ref b60)]) (rest := []) (lenOf pd_6 rfl) rfl (by show 2 * 0 + _ ≤ _; exact Nat.le_of_eq rfl) (hb hby at_142) (fun _ _ => ⟨rfl, e71, (by decide : 7 + 0 ≤ _), (by decide : 45 + 0 ≤ _)⟩)
  dsimp only [Pt.U, Pt.locs, Pt.cells, Pt.slots] at X72 l72 y72 z72 st72 hQ72
  subst l72 y72 z72
  obtain ⟨rfl, N72q, e72⟩ := hQ72
  have N72 := Fr.app N71 N72q
  refine own_goT st72 ?_
  show own_Run p e below _ T72 (mkF m 145 #[.val (.int p1), .val (.int p2), .val (.int p3), .val (.int x3), .val (.int x4), .val (.ref u), .val (.ref uv), .val (.ref b60), .val (.ref b64), .val (.int (0 : Int32)), .val (.ref b_68)] [(.int (1 : Int32))])
  refine own_go (fun _ k => XS.ifNo X72.here hx rfl (hb hby at_145) rfl ((if0 _ _).trans (feq (by decide : ¬ ((1 : Int32) = (0 : Int32)))).1) k) ?_
  show own_Run p e below _ T72 (mkF m 148 #[.val (.int p1), .val (.int p2), .val (.int p3), .val (.int x3), .val (.int x4), .val (.ref u), .val (.ref uv), .val (.ref b60), .val (.ref b64), .val (.int (0 : Int32)), .val (.ref b_68)] [])
  refine own_go (fun _ k => XS.aload X72.here hx rfl (hb hby at_148) rfl rfl k) ?_
  refine own_go (fun _ k => XS.aconstNull X72.here hx rfl (hb hby at_150) k) ?_
  show own_Run p e below _ T72 (mkF m 151 #[.val (.int p1), .val (.int p2), .val (.int p3), .val (.int x3), .val (.int x4), .val (.ref u), .val (.ref uv), .val (.ref b60), .val (.ref b64), .val (.int (0 : Int32)), .val (.ref b_68)] [.null, (.ref b60)])
  obtain ⟨cq73, kq73, q73a, q73b, q73c⟩ := isOf hZ66 e72 P62_0_c69
  obtain ⟨_, _, ⟨T73, L73, k73, n73⟩, -, X73, ⟨Lc73, hQ73, l73, y73, z73⟩, st73⟩ := X72.virtualBack hx (y := (⟨"com/example/near_duplicate_finder/nearduplicatefinder/Shingling", "equals", "(Ljava/lang/Object;)Z"⟩ : MethodName)) (z := (⟨"com/example/near_duplicate_finder/nearduplicatefinder/Shingling", "equals", "(Ljava/lang/Object;)Z"⟩ : MethodName)) hown66 (mvT hZ66 (W 42 rfl)) (mvT hZ66 (W 43 rfl)) (notFace_of_selects (args := #[]) (mvT hZ66 (W 45 rfl))) (mvT hZ66 (W 45 rfl)) (mvT hZ66 (W 44 rfl)) (by decide) (backOf (W := 0) (rm6N l Z a0 hw [] b60 T68.heap n0 Z0_c69 ) hZ66 (W 46 rfl) (W 10 rfl) (by decide) (by decide)) q73a q73c (g := (mkF m 151 #[.val (.int p1), .val (.int p2), .val (.int p3), .val (.int x3), .val (.int x4), .val (.ref u), .val (.ref uv), .val (.ref b60), .val (.ref b64), .val (.int (0 : Int32)), .val (.ref b_68)] [.null, (.ref b60)])) rfl (by rw [hml]; rfl) (Steps.refl _) (argsL := [.null]) (rest := []) (lenOf pd_6 rfl) rfl (by show 2 * 0 + _ ≤ _; exact Nat.le_of_eq rfl) (hb hby at_151) (fun _ _ => ⟨rfl, e72, (by decide : 7 + 0 ≤ _), (by decide : 45 + 0 ≤ _)⟩)
  dsimp only [Pt.U, Pt.locs, Pt.cells, Pt.slots] at X73 l73 y73 z73 st73 hQ73
  subst l73 y73 z73
  obtain ⟨rfl, N73q, e73⟩ := hQ73
  have N73 := Fr.app N72 N73q
  refine own_goT st73 ?_
  show own_Run p e below _ T73 (mkF m 154 #[.val (.int p1), .val (.int p2), .val (.int p3), .val (.int x3), .val (.int x4), .val (.ref u), .val (.ref uv), .val (.ref b60), .val (.ref b64), .val (.int (0 : Int32)), .val (.ref b_68)] [(.int (0 : Int32))])
  refine own_go (fun _ k => XS.ifNo X73.here hx rfl (hb hby at_154) rfl ((if0 _ _).trans (teq (by decide : (0 : Int32) = (0 : Int32))).2) k) ?_
  show own_Run p e below _ T73 (mkF m 157 #[.val (.int p1), .val (.int p2), .val (.int p3), .val (.int x3), .val (.int x4), .val (.ref u), .val (.ref uv), .val (.ref b60), .val (.ref b64), .val (.int (0 : Int32)), .val (.ref b_68)] [])
  refine own_go (fun _ k => XS.aload X73.here hx rfl (hb hby at_157) rfl rfl k) ?_
  refine own_go (fun _ k => XS.aload X73.here hx rfl (hb hby at_159) rfl rfl k) ?_
  show own_Run p e below _ T73 (mkF m 161 #[.val (.int p1), .val (.int p2), .val (.int p3), .val (.int x3), .val (.int x4), .val (.ref u), .val (.ref uv), .val (.ref b60), .val (.ref b64), .val (.int (0 : Int32)), .val (.ref b_68)] [(.ref b_68), (.ref b60)])
  obtain ⟨cq74, kq74, q74a, q74b, q74c⟩ := isOf hZ66 e73 P62_0_c69
  obtain ⟨_, _, ⟨T74, L74, k74, n74⟩, -, X74, ⟨Lc74, hQ74, l74, y74, z74⟩, st74⟩ := X73.virtualBack hx (y := (⟨"com/example/near_duplicate_finder/nearduplicatefinder/Shingling", "equals", "(Ljava/lang/Object;)Z"⟩ : MethodName)) (z := (⟨"com/example/near_duplicate_finder/nearduplicatefinder/Shingling", "equals", "(Ljava/lang/Object;)Z"⟩ : MethodName)) hown66 (mvT hZ66 (W 42 rfl)) (mvT hZ66 (W 43 rfl)) (notFace_of_selects (args := #[]) (mvT hZ66 (W 45 rfl))) (mvT hZ66 (W 45 rfl)) (mvT hZ66 (W 44 rfl)) (by decide) (backOf (W := 0) (rm6I l Z a0 hw [] b60 b_68 T68.heap n0 Z0_c69 P68_0) hZ66 (W 46 rfl) (W 10 rfl) (by decide) (by decide)) q74a q74c (g := (mkF m 161 #[.val (.int p1), .val (.int p2), .val (.int p3), .val (.int x3), .val (.int x4), .val (.ref u), .val (.ref uv), .val (.ref b60), .val (.ref b64), .val (.int (0 : Int32)), .val (.ref b_68)] [(.ref b_68), (.ref b60)])) rfl (by rw [hml]; rfl) (Steps.refl _) (argsL := [(.ref b_68)]) (rest := []) (lenOf pd_6 rfl) rfl (by show 2 * 0 + _ ≤ _; exact Nat.le_of_eq rfl) (hb hby at_161) (fun _ _ => ⟨rfl, e73, (by decide : 7 + 0 ≤ _), (by decide : 45 + 0 ≤ _)⟩)
  dsimp only [Pt.U, Pt.locs, Pt.cells, Pt.slots] at X74 l74 y74 z74 st74 hQ74
  subst l74 y74 z74
  obtain ⟨rfl, N74q, e74⟩ := hQ74
  have N74 := Fr.app N73 N74q
  refine own_goT st74 ?_
  show own_Run p e below _ T74 (mkF m 164 #[.val (.int p1), .val (.int p2), .val (.int p3), .val (.int x3), .val (.int x4), .val (.ref u), .val (.ref uv), .val (.ref b60), .val (.ref b64), .val (.int (0 : Int32)), .val (.ref b_68)] [(.int (0 : Int32))])
  refine own_go (fun _ k => XS.ifNo X74.here hx rfl (hb hby at_164) rfl ((if0 _ _).trans (teq (by decide : (0 : Int32) = (0 : Int32))).2) k) ?_
  show own_Run p e below _ T74 (mkF m 167 #[.val (.int p1), .val (.int p2), .val (.int p3), .val (.int x3), .val (.int x4), .val (.ref u), .val (.ref uv), .val (.ref b60), .val (.ref b64), .val (.int (0 : Int32)), .val (.ref b_68)] [])
  refine own_go (fun _ k => XS.iconst X74.here hx rfl (hb hby at_167) k) ?_
  refine own_go (fun _ k => XS.goto X74.here hx rfl (pc0 := 168) (pc' := 172) rfl (hb hby at_168) (by decide) (by decide) k) ?_
  show own_Run p e below _ T74 (mkF m 172 #[.val (.int p1), .val (.int p2), .val (.int p3), .val (.int x3), .val (.int x4), .val (.ref u), .val (.ref uv), .val (.ref b60), .val (.ref b64), .val (.int (0 : Int32)), .val (.ref b_68)] [(.int (1 : Int32))])
  refine own_doneW (vm₁ := T66.vm) (Q := fun v h L => Q0 Z p1 p2 p3 oC oW ca h0 n0 v h L) (v := (some (.int (1 : Int32)))) X74 hS66 (by rw [e74]; exact Y66_c69) (fun h => by rw [hret] at h; cases h) hlk (fun fs hr => retN X74 hx (t := .boolean) hret (by simp) (hb hby at_172) hr) ?_ (by decide) (by decide)
  show Q0 Z p1 p2 p3 oC oW ca h0 n0 _ T74.heap _
  rw [e74]
  exact ⟨rfl, N74⟩
theorem ef_0 (m : MethodId) (x0 : Int32) (x1 : Int32) (x2 : Int32) : entryFrame m #[(.int x0), (.int x1), (.int x2)] maxLocals = mkF m 0 #[.val (.int x0), .val (.int x1), .val (.int x2), .unset, .unset, .unset, .unset, .unset, .unset, .unset, .unset] [] := by first | (simp [entryFrame, mkF, argsToLocals, Value.category, maxLocals]; done) | rfl
theorem pd_7 : parseMethodDescriptor "(II)I" = some ⟨[.int, .int], some .int⟩ := by decide +kernel
set_option maxRecDepth 65536 in
set_option maxHeartbeats 40000000 in
theorem rm0 (l : Launch) (Z : State) (a0 : Array Value) (hw : ∀ d ∈ tables_1, d.before a0 Z = true) (ws : List Jvm.Cond) (p1 : Int32) (p2 : Int32) (p3 : Int32) (oC : Addr) (oW : Addr) (ca : Addr) (h0 : Heap) (n0 : Nat) (Z0 : n0 ≤ h0.size) (S_CHAR : Sta Z h0 "com/example/near_duplicate_finder/nearduplicatefinder/Shingling$Unit" "CHAR" "Lcom/example/near_duplicate_finder/nearduplicatefinder/Shingling$Unit;" (.ref oC)) (E_oC : Exa Z h0 oC "com/example/near_duplicate_finder/nearduplicatefinder/Shingling$Unit") (S_WORD : Sta Z h0 "com/example/near_duplicate_finder/nearduplicatefinder/Shingling$Unit" "WORD" "Lcom/example/near_duplicate_finder/nearduplicatefinder/Shingling$Unit;" (.ref oW)) (E_oW : Exa Z h0 oW "com/example/near_duplicate_finder/nearduplicatefinder/Shingling$Unit") (ne_oC_oW : oC ≠ oW) (S_high : Sta Z h0 "java/lang/Integer$IntegerCache" "high" "I" (.int (127 : Int32))) (S_cache : Sta Z h0 "java/lang/Integer$IntegerCache" "cache" "[Ljava/lang/Integer;" (.ref ca)) (X_own_Cache_ca : own_Cache Z h0 ca ) :
    MetFree l x (head1 (Jvm.Cond.code x code maxLocals ret :: ws) room_1) (fun a U => a = #[(.int p1), (.int p2), (.int p3)] ∧ Z.Warmed39 U.vm ∧ U.heap = h0) (fun _ _ _ _ _ => True) (fun _ U o U' => ∃ v L, o = .returned v ∧ Q0 Z p1 p2 p3 oC oW ca h0 n0 v U'.heap L ∧ ReturnedEndW U o U' L room_1.cells room_1.slots) := by
  refine MetFree.of_bodySF (plainFor_of_name pn_0) hisR ?_
  intro p e s m args below meth c s₁ Bd hml0 hP hK
  obtain ⟨rfl, hZ, hh⟩ := hP
  have hx := Bd.exec
  have hby := Bd.bytes
  have hml : c.maxLocals = 11 := hml0
  have hown : s.vm.findClass "com/example/near_duplicate_finder/nearduplicatefinder/ShinglingEqualsPinLaw" = some m.cls := findClass_of_methodNamed Bd.named
  have hnm := (name_of_methodNamed Bd.named Bd.method).1
  have hret := Bd.returns
  have hlk : meth.locks = false := BodyLoose.notSynchronized Bd
  have X0 : Stand p l e room_1 s m #[(.int p1), (.int p2), (.int p3)] below meth c s₁ [] 0 0 := Stand.of_body Bd
  have e0 : s₁.heap = h0 := by rw [← hh, Bd.state]; rfl
  have N0 := Fr.nil n0
  have W := fun (k : Nat) {d : Jvm.Cond} (h : tables_1[k]? = some d) => hw d (List.mem_of_getElem? h)
  have K0 : Keep h0 h0 [] := Keep.refl _ _
  refine own_start (ef_0 m p1 p2 p3) ?_
  show own_Run p e below _ s₁ (mkF m 0 #[.val (.int p1), .val (.int p2), .val (.int p3), .unset, .unset, .unset, .unset, .unset, .unset, .unset, .unset] [])
  have hS0 : s.Since s.vm 0 := (State.WarmedH.refl s).since 0
  have Y0 : 0 ≤ h0.size := Nat.zero_le _
  refine own_go (fun _ k => XS.iconst X0.here hx rfl (hb hby at_0) k) ?_
  refine own_go (fun _ k => XS.iloadN X0.here hx rfl (hb hby at_1) rfl k) ?_
  show own_Run p e below _ s₁ (mkF m 2 #[.val (.int p1), .val (.int p2), .val (.int p3), .unset, .unset, .unset, .unset, .unset, .unset, .unset, .unset] [(.int p1), (.int (1 : Int32))])
  refine own_go (X0.ldcInt hx hown (mvT hZ (W 0 rfl)) (g := (mkF m 2 #[.val (.int p1), .val (.int p2), .val (.int p3), .unset, .unset, .unset, .unset, .unset, .unset, .unset, .unset] [(.int p1), (.int (1 : Int32))])) rfl (hb hby at_2)) ?_
  show own_Run p e below _ s₁ (mkF m 4 #[.val (.int p1), .val (.int p2), .val (.int p3), .unset, .unset, .unset, .unset, .unset, .unset, .unset, .unset] [(.int (2147483647 : Int32)), (.int p1), (.int (1 : Int32))])
  refine own_go (fun _ k => XS.iand X0.here hx rfl (hb hby at_4) rfl k) ?_
  show own_Run p e below _ s₁ (mkF m 5 #[.val (.int p1), .val (.int p2), .val (.int p3), .unset, .unset, .unset, .unset, .unset, .unset, .unset, .unset] [(.int (p1 &&& (2147483647 : Int32))), (.int (1 : Int32))])
  obtain ⟨_, _, ⟨T75, L75, k75, n75⟩, -, X75, ⟨Lc75, hQ75, l75, y75, z75⟩, st75⟩ := Jvm.LawKit.callS X0 hx (y := (⟨"java/lang/Math", "max", "(II)I"⟩ : MethodName)) hown (mvT hZ (W 1 rfl)) (mvT hZ (W 2 rfl)) (mvT hZ (W 3 rfl)) (mvT hZ (W 4 rfl)) (by decide) (backOf (W := 0) (rm1 l Z a0 hw [] (1 : Int32) (p1 &&& (2147483647 : Int32)) h0 n0 Z0 ) hZ (W 4 rfl) (W 3 rfl) (by decide) (by decide)) (g := (mkF m 5 #[.val (.int p1), .val (.int p2), .val (.int p3), .unset, .unset, .unset, .unset, .unset, .unset, .unset, .unset] [(.int (p1 &&& (2147483647 : Int32))), (.int (1 : Int32))])) rfl (by rw [hml]; rfl) (argsL := [(.int (1 : Int32)), (.int (p1 &&& (2147483647 : Int32)))]) (rest := []) (lenOf pd_7 rfl) rfl (by show 2 * 0 + _ ≤ _; exact Nat.le_of_eq rfl) (hb hby at_5) (fun _ _ => ⟨rfl, e0, (by decide : 0 + 0 ≤ _), (by decide : 0 + 0 ≤ _)⟩)
  dsimp only [Pt.U, Pt.locs, Pt.cells, Pt.slots] at X75 l75 y75 z75 st75 hQ75
  subst l75 y75 z75
  obtain ⟨rfl, N75q, e75⟩ := hQ75
  have N75 := Fr.app N0 N75q
  refine own_go st75 ?_
  show own_Run p e below _ T75 (mkF m 8 #[.val (.int p1), .val (.int p2), .val (.int p3), .unset, .unset, .unset, .unset, .unset, .unset, .unset, .unset] [(.int (if (1 : Int32) < (p1 &&& (2147483647 : Int32)) then (p1 &&& (2147483647 : Int32)) else (1 : Int32)))])
  obtain ⟨x3, hx3⟩ : ∃ z, z = (if (1 : Int32) < (p1 &&& (2147483647 : Int32)) then (p1 &&& (2147483647 : Int32)) else (1 : Int32)) := ⟨_, rfl⟩
  rw [← hx3]
  show own_Run p e below _ T75 (mkF m 8 #[.val (.int p1), .val (.int p2), .val (.int p3), .unset, .unset, .unset, .unset, .unset, .unset, .unset, .unset] [(.int x3)])
  have h3 := own_ge x3 _ hx3
  refine own_go (fun _ k => XS.istoreN X75.here hx rfl (hb hby at_8) rfl (l' := #[.val (.int p1), .val (.int p2), .val (.int p3), .val (.int x3), .unset, .unset, .unset, .unset, .unset, .unset, .unset]) rfl k) ?_
  refine own_go (fun _ k => XS.iloadN X75.here hx rfl (hb hby at_9) rfl k) ?_
  refine own_go (fun _ k => XS.iconst X75.here hx rfl (hb hby at_10) k) ?_
  refine own_go (fun _ k => XS.iand X75.here hx rfl (hb hby at_11) rfl k) ?_
  show own_Run p e below _ T75 (mkF m 12 #[.val (.int p1), .val (.int p2), .val (.int p3), .val (.int x3), .unset, .unset, .unset, .unset, .unset, .unset, .unset] [(.int (p3 &&& (2 : Int32)))])
  by_cases hc12_76 : (p3 &&& (2 : Int32)) = (0 : Int32)
  · refine own_go (fun _ k => XS.ifYes X75.here hx rfl (pc0 := 12) (pc' := 19) rfl (hb hby at_12) rfl ((if0 _ _).trans (teq hc12_76).1) (by decide) (by decide) k) ?_
    show own_Run p e below _ T75 (mkF m 19 #[.val (.int p1), .val (.int p2), .val (.int p3), .val (.int x3), .unset, .unset, .unset, .unset, .unset, .unset, .unset] [])
    refine own_go (fun _ k => XS.iconst X75.here hx rfl (hb hby at_19) k) ?_
    refine own_go (fun _ k => XS.iloadN X75.here hx rfl (hb hby at_20) rfl k) ?_
    show own_Run p e below _ T75 (mkF m 21 #[.val (.int p1), .val (.int p2), .val (.int p3), .val (.int x3), .unset, .unset, .unset, .unset, .unset, .unset, .unset] [(.int p2), (.int (1 : Int32))])
    refine own_go (X75.ldcInt hx hown (mvT hZ (W 0 rfl)) (g := (mkF m 21 #[.val (.int p1), .val (.int p2), .val (.int p3), .val (.int x3), .unset, .unset, .unset, .unset, .unset, .unset, .unset] [(.int p2), (.int (1 : Int32))])) rfl (hb hby at_21)) ?_
    show own_Run p e below _ T75 (mkF m 23 #[.val (.int p1), .val (.int p2), .val (.int p3), .val (.int x3), .unset, .unset, .unset, .unset, .unset, .unset, .unset] [(.int (2147483647 : Int32)), (.int p2), (.int (1 : Int32))])
    refine own_go (fun _ k => XS.iand X75.here hx rfl (hb hby at_23) rfl k) ?_
    show own_Run p e below _ T75 (mkF m 24 #[.val (.int p1), .val (.int p2), .val (.int p3), .val (.int x3), .unset, .unset, .unset, .unset, .unset, .unset, .unset] [(.int (p2 &&& (2147483647 : Int32))), (.int (1 : Int32))])
    obtain ⟨_, _, ⟨T77, L77, k77, n77⟩, -, X77, ⟨Lc77, hQ77, l77, y77, z77⟩, st77⟩ := Jvm.LawKit.callS X75 hx (y := (⟨"java/lang/Math", "max", "(II)I"⟩ : MethodName)) hown (mvT hZ (W 1 rfl)) (mvT hZ (W 2 rfl)) (mvT hZ (W 3 rfl)) (mvT hZ (W 4 rfl)) (by decide) (backOf (W := 0) (rm1 l Z a0 hw [] (1 : Int32) (p2 &&& (2147483647 : Int32)) h0 n0 Z0 ) hZ (W 4 rfl) (W 3 rfl) (by decide) (by decide)) (g := (mkF m 24 #[.val (.int p1), .val (.int p2), .val (.int p3), .val (.int x3), .unset, .unset, .unset, .unset, .unset, .unset, .unset] [(.int (p2 &&& (2147483647 : Int32))), (.int (1 : Int32))])) rfl (by rw [hml]; rfl) (argsL := [(.int (1 : Int32)), (.int (p2 &&& (2147483647 : Int32)))]) (rest := []) (lenOf pd_7 rfl) rfl (by show 2 * 0 + _ ≤ _; exact Nat.le_of_eq rfl) (hb hby at_24) (fun _ _ => ⟨rfl, e75, (by decide : 0 + 0 ≤ _), (by decide : 0 + 0 ≤ _)⟩)
    dsimp only [Pt.U, Pt.locs, Pt.cells, Pt.slots] at X77 l77 y77 z77 st77 hQ77
    subst l77 y77 z77
    obtain ⟨rfl, N77q, e77⟩ := hQ77
    have N77 := Fr.app N75 N77q
    refine own_go st77 ?_
    show own_Run p e below _ T77 (mkF m 27 #[.val (.int p1), .val (.int p2), .val (.int p3), .val (.int x3), .unset, .unset, .unset, .unset, .unset, .unset, .unset] [(.int (if (1 : Int32) < (p2 &&& (2147483647 : Int32)) then (p2 &&& (2147483647 : Int32)) else (1 : Int32)))])
    obtain ⟨x4, hx4⟩ : ∃ z, z = (if (1 : Int32) < (p2 &&& (2147483647 : Int32)) then (p2 &&& (2147483647 : Int32)) else (1 : Int32)) := ⟨_, rfl⟩
    rw [← hx4]
    show own_Run p e below _ T77 (mkF m 27 #[.val (.int p1), .val (.int p2), .val (.int p3), .val (.int x3), .unset, .unset, .unset, .unset, .unset, .unset, .unset] [(.int x4)])
    have h4 := own_ge x4 _ hx4
    refine own_go (fun _ k => XS.istore X77.here hx rfl (hb hby at_27) rfl (l' := #[.val (.int p1), .val (.int p2), .val (.int p3), .val (.int x3), .val (.int x4), .unset, .unset, .unset, .unset, .unset, .unset]) rfl k) ?_
    refine own_go (fun _ k => XS.iloadN X77.here hx rfl (hb hby at_29) rfl k) ?_
    refine own_go (fun _ k => XS.iconst X77.here hx rfl (hb hby at_30) k) ?_
    refine own_go (fun _ k => XS.iand X77.here hx rfl (hb hby at_31) rfl k) ?_
    show own_Run p e below _ T77 (mkF m 32 #[.val (.int p1), .val (.int p2), .val (.int p3), .val (.int x3), .val (.int x4), .unset, .unset, .unset, .unset, .unset, .unset] [(.int (p3 &&& (1 : Int32)))])
    by_cases hc32_78 : (p3 &&& (1 : Int32)) = (0 : Int32)
    · refine own_go (fun _ k => XS.ifYes X77.here hx rfl (pc0 := 32) (pc' := 41) rfl (hb hby at_32) rfl ((if0 _ _).trans (teq hc32_78).1) (by decide) (by decide) k) ?_
      show own_Run p e below _ T77 (mkF m 41 #[.val (.int p1), .val (.int p2), .val (.int p3), .val (.int x3), .val (.int x4), .unset, .unset, .unset, .unset, .unset, .unset] [])
      obtain ⟨T79, X79, e79, st79⟩ := getS2 X77 hx hZ hown (host := "") (Or.inl (W 5 rfl)) Via.refl e77 S_CHAR (g := (mkF m 41 #[.val (.int p1), .val (.int p2), .val (.int p3), .val (.int x3), .val (.int x4), .unset, .unset, .unset, .unset, .unset, .unset] [])) rfl (hb hby at_41)
      refine own_go st79 ?_
      show own_Run p e below _ T79 (mkF m 44 #[.val (.int p1), .val (.int p2), .val (.int p3), .val (.int x3), .val (.int x4), .unset, .unset, .unset, .unset, .unset, .unset] [(.ref oC)])
      refine own_go (fun _ k => XS.astore X79.here hx rfl (hb hby at_44) rfl rfl (l' := #[.val (.int p1), .val (.int p2), .val (.int p3), .val (.int x3), .val (.int x4), .val (.ref oC), .unset, .unset, .unset, .unset, .unset]) rfl k) ?_
      refine own_go (fun _ k => XS.iloadN X79.here hx rfl (hb hby at_46) rfl k) ?_
      refine own_go (fun _ k => XS.iconst X79.here hx rfl (hb hby at_47) k) ?_
      refine own_go (fun _ k => XS.iand X79.here hx rfl (hb hby at_48) rfl k) ?_
      show own_Run p e below _ T79 (mkF m 49 #[.val (.int p1), .val (.int p2), .val (.int p3), .val (.int x3), .val (.int x4), .val (.ref oC), .unset, .unset, .unset, .unset, .unset] [(.int (p3 &&& (4 : Int32)))])
      by_cases hc49_80 : (p3 &&& (4 : Int32)) = (0 : Int32)
      · refine own_go (fun _ k => XS.ifYes X79.here hx rfl (pc0 := 49) (pc' := 58) rfl (hb hby at_49) rfl ((if0 _ _).trans (teq hc49_80).1) (by decide) (by decide) k) ?_
        show own_Run p e below _ T79 (mkF m 58 #[.val (.int p1), .val (.int p2), .val (.int p3), .val (.int x3), .val (.int x4), .val (.ref oC), .unset, .unset, .unset, .unset, .unset] [])
        obtain ⟨T81, X81, e81, st81⟩ := getS2 X79 hx hZ hown (host := "") (Or.inl (W 5 rfl)) Via.refl e79 S_CHAR (g := (mkF m 58 #[.val (.int p1), .val (.int p2), .val (.int p3), .val (.int x3), .val (.int x4), .val (.ref oC), .unset, .unset, .unset, .unset, .unset] [])) rfl (hb hby at_58)
        refine own_go st81 ?_
        show own_Run p e below _ T81 (mkF m 61 #[.val (.int p1), .val (.int p2), .val (.int p3), .val (.int x3), .val (.int x4), .val (.ref oC), .unset, .unset, .unset, .unset, .unset] [(.ref oC)])
        refine own_go (fun _ k => XS.astore X81.here hx rfl (hb hby at_61) rfl rfl (l' := #[.val (.int p1), .val (.int p2), .val (.int p3), .val (.int x3), .val (.int x4), .val (.ref oC), .val (.ref oC), .unset, .unset, .unset, .unset]) rfl k) ?_
        show own_Run p e below _ T81 (mkF m 63 #[.val (.int p1), .val (.int p2), .val (.int p3), .val (.int x3), .val (.int x4), .val (.ref oC), .val (.ref oC), .unset, .unset, .unset, .unset] [])
        exact tailS p1 p2 p3 oC oW ca h0 n0 hx hZ hw hby hml hown hnm hret hlk x3 x4 oC T81 h0 _ X81 e81 N77 Z0 K0 E_oC S_high S_cache X_own_Cache_ca (h3) (h4) 
      · refine own_go (fun _ k => XS.ifNo X79.here hx rfl (hb hby at_49) rfl ((if0 _ _).trans (feq hc49_80).1) k) ?_
        show own_Run p e below _ T79 (mkF m 52 #[.val (.int p1), .val (.int p2), .val (.int p3), .val (.int x3), .val (.int x4), .val (.ref oC), .unset, .unset, .unset, .unset, .unset] [])
        obtain ⟨T82, X82, e82, st82⟩ := getS2 X79 hx hZ hown (host := "") (Or.inl (W 52 rfl)) Via.refl e79 S_WORD (g := (mkF m 52 #[.val (.int p1), .val (.int p2), .val (.int p3), .val (.int x3), .val (.int x4), .val (.ref oC), .unset, .unset, .unset, .unset, .unset] [])) rfl (hb hby at_52)
        refine own_go st82 ?_
        show own_Run p e below _ T82 (mkF m 55 #[.val (.int p1), .val (.int p2), .val (.int p3), .val (.int x3), .val (.int x4), .val (.ref oC), .unset, .unset, .unset, .unset, .unset] [(.ref oW)])
        refine own_go (fun _ k => XS.goto X82.here hx rfl (pc0 := 55) (pc' := 61) rfl (hb hby at_55) (by decide) (by decide) k) ?_
        refine own_go (fun _ k => XS.astore X82.here hx rfl (hb hby at_61) rfl rfl (l' := #[.val (.int p1), .val (.int p2), .val (.int p3), .val (.int x3), .val (.int x4), .val (.ref oC), .val (.ref oW), .unset, .unset, .unset, .unset]) rfl k) ?_
        show own_Run p e below _ T82 (mkF m 63 #[.val (.int p1), .val (.int p2), .val (.int p3), .val (.int x3), .val (.int x4), .val (.ref oC), .val (.ref oW), .unset, .unset, .unset, .unset] [])
        exact tailD p1 p2 p3 oC oW ca h0 n0 hx hZ hw hby hml hown hnm hret hlk x3 x4 oC oW T82 h0 _ X82 e82 N77 Z0 K0 E_oC E_oW S_high S_cache X_own_Cache_ca (h3) (h4) ne_oC_oW 
    · refine own_go (fun _ k => XS.ifNo X77.here hx rfl (hb hby at_32) rfl ((if0 _ _).trans (feq hc32_78).1) k) ?_
      show own_Run p e below _ T77 (mkF m 35 #[.val (.int p1), .val (.int p2), .val (.int p3), .val (.int x3), .val (.int x4), .unset, .unset, .unset, .unset, .unset, .unset] [])
      obtain ⟨T83, X83, e83, st83⟩ := getS2 X77 hx hZ hown (host := "") (Or.inl (W 52 rfl)) Via.refl e77 S_WORD (g := (mkF m 35 #[.val (.int p1), .val (.int p2), .val (.int p3), .val (.int x3), .val (.int x4), .unset, .unset, .unset, .unset, .unset, .unset] [])) rfl (hb hby at_35)
      refine own_go st83 ?_
      show own_Run p e below _ T83 (mkF m 38 #[.val (.int p1), .val (.int p2), .val (.int p3), .val (.int x3), .val (.int x4), .unset, .unset, .unset, .unset, .unset, .unset] [(.ref oW)])
      refine own_go (fun _ k => XS.goto X83.here hx rfl (pc0 := 38) (pc' := 44) rfl (hb hby at_38) (by decide) (by decide) k) ?_
      refine own_go (fun _ k => XS.astore X83.here hx rfl (hb hby at_44) rfl rfl (l' := #[.val (.int p1), .val (.int p2), .val (.int p3), .val (.int x3), .val (.int x4), .val (.ref oW), .unset, .unset, .unset, .unset, .unset]) rfl k) ?_
      refine own_go (fun _ k => XS.iloadN X83.here hx rfl (hb hby at_46) rfl k) ?_
      refine own_go (fun _ k => XS.iconst X83.here hx rfl (hb hby at_47) k) ?_
      show own_Run p e below _ T83 (mkF m 48 #[.val (.int p1), .val (.int p2), .val (.int p3), .val (.int x3), .val (.int x4), .val (.ref oW), .unset, .unset, .unset, .unset, .unset] [(.int (4 : Int32)), (.int p3)])
      refine own_go (fun _ k => XS.iand X83.here hx rfl (hb hby at_48) rfl k) ?_
      show own_Run p e below _ T83 (mkF m 49 #[.val (.int p1), .val (.int p2), .val (.int p3), .val (.int x3), .val (.int x4), .val (.ref oW), .unset, .unset, .unset, .unset, .unset] [(.int (p3 &&& (4 : Int32)))])
      by_cases hc49_84 : (p3 &&& (4 : Int32)) = (0 : Int32)
      · refine own_go (fun _ k => XS.ifYes X83.here hx rfl (pc0 := 49) (pc' := 58) rfl (hb hby at_49) rfl ((if0 _ _).trans (teq hc49_84).1) (by decide) (by decide) k) ?_
        show own_Run p e below _ T83 (mkF m 58 #[.val (.int p1), .val (.int p2), .val (.int p3), .val (.int x3), .val (.int x4), .val (.ref oW), .unset, .unset, .unset, .unset, .unset] [])
        obtain ⟨T85, X85, e85, st85⟩ := getS2 X83 hx hZ hown (host := "") (Or.inl (W 5 rfl)) Via.refl e83 S_CHAR (g := (mkF m 58 #[.val (.int p1), .val (.int p2), .val (.int p3), .val (.int x3), .val (.int x4), .val (.ref oW), .unset, .unset, .unset, .unset, .unset] [])) rfl (hb hby at_58)
        refine own_go st85 ?_
        show own_Run p e below _ T85 (mkF m 61 #[.val (.int p1), .val (.int p2), .val (.int p3), .val (.int x3), .val (.int x4), .val (.ref oW), .unset, .unset, .unset, .unset, .unset] [(.ref oC)])
        refine own_go (fun _ k => XS.astore X85.here hx rfl (hb hby at_61) rfl rfl (l' := #[.val (.int p1), .val (.int p2), .val (.int p3), .val (.int x3), .val (.int x4), .val (.ref oW), .val (.ref oC), .unset, .unset, .unset, .unset]) rfl k) ?_
        show own_Run p e below _ T85 (mkF m 63 #[.val (.int p1), .val (.int p2), .val (.int p3), .val (.int x3), .val (.int x4), .val (.ref oW), .val (.ref oC), .unset, .unset, .unset, .unset] [])
        exact tailD p1 p2 p3 oC oW ca h0 n0 hx hZ hw hby hml hown hnm hret hlk x3 x4 oW oC T85 h0 _ X85 e85 N77 Z0 K0 E_oW E_oC S_high S_cache X_own_Cache_ca (h3) (h4) (Ne.symm ne_oC_oW) 
      · refine own_go (fun _ k => XS.ifNo X83.here hx rfl (hb hby at_49) rfl ((if0 _ _).trans (feq hc49_84).1) k) ?_
        show own_Run p e below _ T83 (mkF m 52 #[.val (.int p1), .val (.int p2), .val (.int p3), .val (.int x3), .val (.int x4), .val (.ref oW), .unset, .unset, .unset, .unset, .unset] [])
        obtain ⟨T86, X86, e86, st86⟩ := getS2 X83 hx hZ hown (host := "") (Or.inl (W 52 rfl)) Via.refl e83 S_WORD (g := (mkF m 52 #[.val (.int p1), .val (.int p2), .val (.int p3), .val (.int x3), .val (.int x4), .val (.ref oW), .unset, .unset, .unset, .unset, .unset] [])) rfl (hb hby at_52)
        refine own_go st86 ?_
        show own_Run p e below _ T86 (mkF m 55 #[.val (.int p1), .val (.int p2), .val (.int p3), .val (.int x3), .val (.int x4), .val (.ref oW), .unset, .unset, .unset, .unset, .unset] [(.ref oW)])
        refine own_go (fun _ k => XS.goto X86.here hx rfl (pc0 := 55) (pc' := 61) rfl (hb hby at_55) (by decide) (by decide) k) ?_
        refine own_go (fun _ k => XS.astore X86.here hx rfl (hb hby at_61) rfl rfl (l' := #[.val (.int p1), .val (.int p2), .val (.int p3), .val (.int x3), .val (.int x4), .val (.ref oW), .val (.ref oW), .unset, .unset, .unset, .unset]) rfl k) ?_
        show own_Run p e below _ T86 (mkF m 63 #[.val (.int p1), .val (.int p2), .val (.int p3), .val (.int x3), .val (.int x4), .val (.ref oW), .val (.ref oW), .unset, .unset, .unset, .unset] [])
        exact tailS p1 p2 p3 oC oW ca h0 n0 hx hZ hw hby hml hown hnm hret hlk x3 x4 oW T86 h0 _ X86 e86 N77 Z0 K0 E_oW S_high S_cache X_own_Cache_ca (h3) (h4) 
  · refine own_go (fun _ k => XS.ifNo X75.here hx rfl (hb hby at_12) rfl ((if0 _ _).trans (feq hc12_76).1) k) ?_
    show own_Run p e below _ T75 (mkF m 15 #[.val (.int p1), .val (.int p2), .val (.int p3), .val (.int x3), .unset, .unset, .unset, .unset, .unset, .unset, .unset] [])
    refine own_go (fun _ k => XS.iloadN X75.here hx rfl (hb hby at_15) rfl k) ?_
    refine own_go (fun _ k => XS.goto X75.here hx rfl (pc0 := 16) (pc' := 27) rfl (hb hby at_16) (by decide) (by decide) k) ?_
    refine own_go (fun _ k => XS.istore X75.here hx rfl (hb hby at_27) rfl (l' := #[.val (.int p1), .val (.int p2), .val (.int p3), .val (.int x3), .val (.int x3), .unset, .unset, .unset, .unset, .unset, .unset]) rfl k) ?_
    refine own_go (fun _ k => XS.iloadN X75.here hx rfl (hb hby at_29) rfl k) ?_
    show own_Run p e below _ T75 (mkF m 30 #[.val (.int p1), .val (.int p2), .val (.int p3), .val (.int x3), .val (.int x3), .unset, .unset, .unset, .unset, .unset, .unset] [(.int p3)])
    refine own_go (fun _ k => XS.iconst X75.here hx rfl (hb hby at_30) k) ?_
    refine own_go (fun _ k => XS.iand X75.here hx rfl (hb hby at_31) rfl k) ?_
    show own_Run p e below _ T75 (mkF m 32 #[.val (.int p1), .val (.int p2), .val (.int p3), .val (.int x3), .val (.int x3), .unset, .unset, .unset, .unset, .unset, .unset] [(.int (p3 &&& (1 : Int32)))])
    by_cases hc32_87 : (p3 &&& (1 : Int32)) = (0 : Int32)
    · refine own_go (fun _ k => XS.ifYes X75.here hx rfl (pc0 := 32) (pc' := 41) rfl (hb hby at_32) rfl ((if0 _ _).trans (teq hc32_87).1) (by decide) (by decide) k) ?_
      show own_Run p e below _ T75 (mkF m 41 #[.val (.int p1), .val (.int p2), .val (.int p3), .val (.int x3), .val (.int x3), .unset, .unset, .unset, .unset, .unset, .unset] [])
      obtain ⟨T88, X88, e88, st88⟩ := getS2 X75 hx hZ hown (host := "") (Or.inl (W 5 rfl)) Via.refl e75 S_CHAR (g := (mkF m 41 #[.val (.int p1), .val (.int p2), .val (.int p3), .val (.int x3), .val (.int x3), .unset, .unset, .unset, .unset, .unset, .unset] [])) rfl (hb hby at_41)
      refine own_go st88 ?_
      show own_Run p e below _ T88 (mkF m 44 #[.val (.int p1), .val (.int p2), .val (.int p3), .val (.int x3), .val (.int x3), .unset, .unset, .unset, .unset, .unset, .unset] [(.ref oC)])
      refine own_go (fun _ k => XS.astore X88.here hx rfl (hb hby at_44) rfl rfl (l' := #[.val (.int p1), .val (.int p2), .val (.int p3), .val (.int x3), .val (.int x3), .val (.ref oC), .unset, .unset, .unset, .unset, .unset]) rfl k) ?_
      refine own_go (fun _ k => XS.iloadN X88.here hx rfl (hb hby at_46) rfl k) ?_
      refine own_go (fun _ k => XS.iconst X88.here hx rfl (hb hby at_47) k) ?_
      refine own_go (fun _ k => XS.iand X88.here hx rfl (hb hby at_48) rfl k) ?_
      show own_Run p e below _ T88 (mkF m 49 #[.val (.int p1), .val (.int p2), .val (.int p3), .val (.int x3), .val (.int x3), .val (.ref oC), .unset, .unset, .unset, .unset, .unset] [(.int (p3 &&& (4 : Int32)))])
      by_cases hc49_89 : (p3 &&& (4 : Int32)) = (0 : Int32)
      · refine own_go (fun _ k => XS.ifYes X88.here hx rfl (pc0 := 49) (pc' := 58) rfl (hb hby at_49) rfl ((if0 _ _).trans (teq hc49_89).1) (by decide) (by decide) k) ?_
        show own_Run p e below _ T88 (mkF m 58 #[.val (.int p1), .val (.int p2), .val (.int p3), .val (.int x3), .val (.int x3), .val (.ref oC), .unset, .unset, .unset, .unset, .unset] [])
        obtain ⟨T90, X90, e90, st90⟩ := getS2 X88 hx hZ hown (host := "") (Or.inl (W 5 rfl)) Via.refl e88 S_CHAR (g := (mkF m 58 #[.val (.int p1), .val (.int p2), .val (.int p3), .val (.int x3), .val (.int x3), .val (.ref oC), .unset, .unset, .unset, .unset, .unset] [])) rfl (hb hby at_58)
        refine own_go st90 ?_
        show own_Run p e below _ T90 (mkF m 61 #[.val (.int p1), .val (.int p2), .val (.int p3), .val (.int x3), .val (.int x3), .val (.ref oC), .unset, .unset, .unset, .unset, .unset] [(.ref oC)])
        refine own_go (fun _ k => XS.astore X90.here hx rfl (hb hby at_61) rfl rfl (l' := #[.val (.int p1), .val (.int p2), .val (.int p3), .val (.int x3), .val (.int x3), .val (.ref oC), .val (.ref oC), .unset, .unset, .unset, .unset]) rfl k) ?_
        show own_Run p e below _ T90 (mkF m 63 #[.val (.int p1), .val (.int p2), .val (.int p3), .val (.int x3), .val (.int x3), .val (.ref oC), .val (.ref oC), .unset, .unset, .unset, .unset] [])
        exact tailS p1 p2 p3 oC oW ca h0 n0 hx hZ hw hby hml hown hnm hret hlk x3 x3 oC T90 h0 _ X90 e90 N75 Z0 K0 E_oC S_high S_cache X_own_Cache_ca (h3) (h3) 
      · refine own_go (fun _ k => XS.ifNo X88.here hx rfl (hb hby at_49) rfl ((if0 _ _).trans (feq hc49_89).1) k) ?_
        show own_Run p e below _ T88 (mkF m 52 #[.val (.int p1), .val (.int p2), .val (.int p3), .val (.int x3), .val (.int x3), .val (.ref oC), .unset, .unset, .unset, .unset, .unset] [])
        obtain ⟨T91, X91, e91, st91⟩ := getS2 X88 hx hZ hown (host := "") (Or.inl (W 52 rfl)) Via.refl e88 S_WORD (g := (mkF m 52 #[.val (.int p1), .val (.int p2), .val (.int p3), .val (.int x3), .val (.int x3), .val (.ref oC), .unset, .unset, .unset, .unset, .unset] [])) rfl (hb hby at_52)
        refine own_go st91 ?_
        show own_Run p e below _ T91 (mkF m 55 #[.val (.int p1), .val (.int p2), .val (.int p3), .val (.int x3), .val (.int x3), .val (.ref oC), .unset, .unset, .unset, .unset, .unset] [(.ref oW)])
        refine own_go (fun _ k => XS.goto X91.here hx rfl (pc0 := 55) (pc' := 61) rfl (hb hby at_55) (by decide) (by decide) k) ?_
        refine own_go (fun _ k => XS.astore X91.here hx rfl (hb hby at_61) rfl rfl (l' := #[.val (.int p1), .val (.int p2), .val (.int p3), .val (.int x3), .val (.int x3), .val (.ref oC), .val (.ref oW), .unset, .unset, .unset, .unset]) rfl k) ?_
        show own_Run p e below _ T91 (mkF m 63 #[.val (.int p1), .val (.int p2), .val (.int p3), .val (.int x3), .val (.int x3), .val (.ref oC), .val (.ref oW), .unset, .unset, .unset, .unset] [])
        exact tailD p1 p2 p3 oC oW ca h0 n0 hx hZ hw hby hml hown hnm hret hlk x3 x3 oC oW T91 h0 _ X91 e91 N75 Z0 K0 E_oC E_oW S_high S_cache X_own_Cache_ca (h3) (h3) ne_oC_oW 
    · refine own_go (fun _ k => XS.ifNo X75.here hx rfl (hb hby at_32) rfl ((if0 _ _).trans (feq hc32_87).1) k) ?_
      show own_Run p e below _ T75 (mkF m 35 #[.val (.int p1), .val (.int p2), .val (.int p3), .val (.int x3), .val (.int x3), .unset, .unset, .unset, .unset, .unset, .unset] [])
      obtain ⟨T92, X92, e92, st92⟩ := getS2 X75 hx hZ hown (host := "") (Or.inl (W 52 rfl)) Via.refl e75 S_WORD (g := (mkF m 35 #[.val (.int p1), .val (.int p2), .val (.int p3), .val (.int x3), .val (.int x3), .unset, .unset, .unset, .unset, .unset, .unset] [])) rfl (hb hby at_35)
      refine own_go st92 ?_
      show own_Run p e below _ T92 (mkF m 38 #[.val (.int p1), .val (.int p2), .val (.int p3), .val (.int x3), .val (.int x3), .unset, .unset, .unset, .unset, .unset, .unset] [(.ref oW)])
      refine own_go (fun _ k => XS.goto X92.here hx rfl (pc0 := 38) (pc' := 44) rfl (hb hby at_38) (by decide) (by decide) k) ?_
      refine own_go (fun _ k => XS.astore X92.here hx rfl (hb hby at_44) rfl rfl (l' := #[.val (.int p1), .val (.int p2), .val (.int p3), .val (.int x3), .val (.int x3), .val (.ref oW), .unset, .unset, .unset, .unset, .unset]) rfl k) ?_
      refine own_go (fun _ k => XS.iloadN X92.here hx rfl (hb hby at_46) rfl k) ?_
      refine own_go (fun _ k => XS.iconst X92.here hx rfl (hb hby at_47) k) ?_
      show own_Run p e below _ T92 (mkF m 48 #[.val (.int p1), .val (.int p2), .val (.int p3), .val (.int x3), .val (.int x3), .val (.ref oW), .unset, .unset, .unset, .unset, .unset] [(.int (4 : Int32)), (.int p3)])
      refine own_go (fun _ k => XS.iand X92.here hx rfl (hb hby at_48) rfl k) ?_
      show own_Run p e below _ T92 (mkF m 49 #[.val (.int p1), .val (.int p2), .val (.int p3), .val (.int x3), .val (.int x3), .val (.ref oW), .unset, .unset, .unset, .unset, .unset] [(.int (p3 &&& (4 : Int32)))])
      by_cases hc49_93 : (p3 &&& (4 : Int32)) = (0 : Int32)
      · refine own_go (fun _ k => XS.ifYes X92.here hx rfl (pc0 := 49) (pc' := 58) rfl (hb hby at_49) rfl ((if0 _ _).trans (teq hc49_93).1) (by decide) (by decide) k) ?_
        show own_Run p e below _ T92 (mkF m 58 #[.val (.int p1), .val (.int p2), .val (.int p3), .val (.int x3), .val (.int x3), .val (.ref oW), .unset, .unset, .unset, .unset, .unset] [])
        obtain ⟨T94, X94, e94, st94⟩ := getS2 X92 hx hZ hown (host := "") (Or.inl (W 5 rfl)) Via.refl e92 S_CHAR (g := (mkF m 58 #[.val (.int p1), .val (.int p2), .val (.int p3), .val (.int x3), .val (.int x3), .val (.ref oW), .unset, .unset, .unset, .unset, .unset] [])) rfl (hb hby at_58)
        refine own_go st94 ?_
        show own_Run p e below _ T94 (mkF m 61 #[.val (.int p1), .val (.int p2), .val (.int p3), .val (.int x3), .val (.int x3), .val (.ref oW), .unset, .unset, .unset, .unset, .unset] [(.ref oC)])
        refine own_go (fun _ k => XS.astore X94.here hx rfl (hb hby at_61) rfl rfl (l' := #[.val (.int p1), .val (.int p2), .val (.int p3), .val (.int x3), .val (.int x3), .val (.ref oW), .val (.ref oC), .unset, .unset, .unset, .unset]) rfl k) ?_
        show own_Run p e below _ T94 (mkF m 63 #[.val (.int p1), .val (.int p2), .val (.int p3), .val (.int x3), .val (.int x3), .val (.ref oW), .val (.ref oC), .unset, .unset, .unset, .unset] [])
        exact tailD p1 p2 p3 oC oW ca h0 n0 hx hZ hw hby hml hown hnm hret hlk x3 x3 oW oC T94 h0 _ X94 e94 N75 Z0 K0 E_oW E_oC S_high S_cache X_own_Cache_ca (h3) (h3) (Ne.symm ne_oC_oW) 
      · refine own_go (fun _ k => XS.ifNo X92.here hx rfl (hb hby at_49) rfl ((if0 _ _).trans (feq hc49_93).1) k) ?_
        show own_Run p e below _ T92 (mkF m 52 #[.val (.int p1), .val (.int p2), .val (.int p3), .val (.int x3), .val (.int x3), .val (.ref oW), .unset, .unset, .unset, .unset, .unset] [])
        obtain ⟨T95, X95, e95, st95⟩ := getS2 X92 hx hZ hown (host := "") (Or.inl (W 52 rfl)) Via.refl e92 S_WORD (g := (mkF m 52 #[.val (.int p1), .val (.int p2), .val (.int p3), .val (.int x3), .val (.int x3), .val (.ref oW), .unset, .unset, .unset, .unset, .unset] [])) rfl (hb hby at_52)
        refine own_go st95 ?_
        show own_Run p e below _ T95 (mkF m 55 #[.val (.int p1), .val (.int p2), .val (.int p3), .val (.int x3), .val (.int x3), .val (.ref oW), .unset, .unset, .unset, .unset, .unset] [(.ref oW)])
        refine own_go (fun _ k => XS.goto X95.here hx rfl (pc0 := 55) (pc' := 61) rfl (hb hby at_55) (by decide) (by decide) k) ?_
        refine own_go (fun _ k => XS.astore X95.here hx rfl (hb hby at_61) rfl rfl (l' := #[.val (.int p1), .val (.int p2), .val (.int p3), .val (.int x3), .val (.int x3), .val (.ref oW), .val (.ref oW), .unset, .unset, .unset, .unset]) rfl k) ?_
        show own_Run p e below _ T95 (mkF m 63 #[.val (.int p1), .val (.int p2), .val (.int p3), .val (.int x3), .val (.int x3), .val (.ref oW), .val (.ref oW), .unset, .unset, .unset, .unset] [])
        exact tailS p1 p2 p3 oC oW ca h0 n0 hx hZ hw hby hml hown hnm hret hlk x3 x3 oW T95 h0 _ X95 e95 N75 Z0 K0 E_oW S_high S_cache X_own_Cache_ca (h3) (h3) 
theorem own_cacheStart {s : State} {args : Array Value} {t u : Term} {a : Addr} (et : ∀ idx, t.eval args s none idx s = some (.ref a)) (h1 : (Jvm.Cond.arrayOf t (.object "java/lang/Integer")).value args s none s [] = some true) (h2 : (Jvm.Cond.eq (Term.length t) (Term.int (256 : Int32))).value args s none s [] = some true)
    (h3 : (Jvm.Cond.all t (Jvm.Cond.and (Jvm.Cond.exactly (Term.elem t (Term.index 0)) "java/lang/Integer") (Jvm.Cond.eq (Term.field (Term.elem t (Term.index 0)) "java/lang/Integer" "value" "I") u))).value args s none s [] = some true) : own_Cache s s.heap a := by
  have ev := et []
  obtain ⟨cl, A⟩ := Arr.start ev h1
  have q := own_eqI h2
  have hsz : cl.slots.size < 2 ^ 31 := by
    rcases Nat.lt_or_ge cl.slots.size (2 ^ 31) with k | k
    · exact k
    · have k' : ¬ cl.slots.size < 2147483648 := by omega
      simp [Term.eval, ev, A.fin (Vm.Alike.refl _), k'] at q
  rw [len_f ev (A.fin (Vm.Alike.refl _)) hsz] at q
  have e : cl.slots.size.toInt32 = (256 : Int32) := by injection q with q; injection q
  have e2 : cl.slots.size = 256 := by
    have e3 := congrArg Int32.toInt e
    rw [len_toInt hsz] at e3
    have e4 : (256 : Int32).toInt = 256 := rfl
    omega
  refine ⟨cl, A, e2, fun i hi => ?_⟩
  obtain ⟨u1, u2⟩ := and_e (Cond.all_elim ev (A.fin (Vm.Alike.refl _)) h3 i (by rw [e2]; exact hi))
  obtain ⟨y, ey⟩ := exa_v u1
  have e1 : (Nat.toInt32 i).toNatClampNeg = i := by simp only [Int32.toNatClampNeg, len_toInt (show i < 2 ^ 31 by omega)]; rfl
  have hn : ¬ (Nat.toInt32 i < 0) := fun x => idx_in (n := 256) hi (by decide) (Or.inl x)
  have q2 := (elem_f (et [i]) (Term.index_eval i) (A.fin (Vm.Alike.refl _)) hn).symm.trans ey
  rw [e1] at q2
  exact ⟨y, q2, exa_at ey u1⟩
set_option maxRecDepth 65536 in
set_option maxHeartbeats 40000000 in
theorem comes_1 {Post : Tables → Env → Array Value → State → Outcome → State → Prop} (hpost : ∀ tb e args s v u, (limb_1_1.after args s (.returned v) u = true ∧ limb_1_2.after args s (.returned v) u = true ∧ True) → ReturnedEndW s (.returned v) u (Jvm.fieldLocs frame_1_writes args s ++ Jvm.arrayLocs frame_1_arrays args s ++ Jvm.staticLocs frame_1_statics s) 16 1152 → Post tb e args s (.returned v) u) :
    ArmFor flags0 classFile x code maxLocals ret World_1 tables_1 room_1 Calls_1 rest_1 Pre_1 Post := by
  intro l hfl _ _ p e ha hc hk s m args below hf hA hF happ hP
  obtain ⟨hcalls, hrest, hpre⟩ := hP
  obtain ⟨-, -, -, hnamed, -, -, -, hat⟩ := (Spec.applies_iff hf).mp happ
  obtain ⟨hg, hn⟩ := and_e (Cond.before_iff.mp (show (Jvm.Cond.and given_1 narrow_1).before args s = true from hpre))
  obtain ⟨hcount, hr0⟩ := and_e hg
  obtain ⟨ha0, hr1⟩ := and_e hr0
  obtain ⟨ha1, hr2⟩ := and_e hr1
  have ha2 := hr2
  obtain ⟨w0, w1, w2, rfl⟩ : ∃ w0 w1 w2 : Value, args = #[w0, w1, w2] := by
    have hs : args.size = 3 := by simpa [Cond.value, given_1] using hcount
    obtain ⟨L⟩ := args
    match L, hs with
    | [w0, w1, w2], _ => exact ⟨w0, w1, w2, rfl⟩
  have hw := fun d (hd : d ∈ tables_1) => atoms_spec (ws := Jvm.Cond.code x code maxLocals ret :: tables_1) hat d (List.mem_cons_of_mem _ hd)
  have W := fun (k : Nat) {d : Jvm.Cond} (h : tables_1[k]? = some d) => hw d (List.mem_of_getElem? h)
  have hfit : Fit s := fun {y c} hc i hi => by
    obtain ⟨ha, rfl⟩ := Array.getElem?_eq_some_iff.mp hc
    have q := List.all_eq_true.mp ((Array.all_eq_true_iff_forall_mem.mp hF) _ (Array.getElem_mem ha)) i (List.mem_range.mpr hi)
    simpa [Array.getElem?_eq_getElem hi] using q
  obtain ⟨i0, ei0⟩ := is_v ha0
  obtain rfl : w0 = (.int i0) := Option.some.inj ei0
  obtain ⟨i1, ei1⟩ := is_v ha1
  obtain rfl : w1 = (.int i1) := Option.some.inj ei1
  obtain ⟨i2, ei2⟩ := is_v ha2
  obtain rfl : w2 = (.int i2) := Option.some.inj ei2
  obtain ⟨hsets, hown0⟩ := atoms_of _ (rest_1_c_eq ▸ (show rest_1_c.before _ s = true from hrest))
  obtain ⟨hc0, hd0⟩ := and_e hn
  obtain ⟨hc1, hd1⟩ := and_e hd0
  obtain ⟨hc2, hd2⟩ := and_e hd1
  obtain ⟨oC, ev_oC⟩ := exa_v hc0
  have S_oC := Sta.start ev_oC (Or.inr ⟨(W 6 rfl), (W 7 rfl)⟩)
  have E_oC := Exa.start ev_oC hc0
  obtain ⟨oW, ev_oW⟩ := exa_v hc1
  have S_oW := Sta.start ev_oW (Or.inr ⟨(W 6 rfl), (W 53 rfl)⟩)
  have E_oW := Exa.start ev_oW hc1
  have O_oW := Fld.start ((fld_at ev_oW).symm.trans (own_eqI hc2))
  have O_oC := Fld.start ((fld_at ev_oC).symm.trans (own_eqI hd2))
  have hne := Fld.ne O_oC O_oW (by decide)
  have S_hi := Sta.start (own_eqI (Cond.before_iff.mp (hsets _ (List.mem_of_getElem? (i := 3) rfl)))) (Or.inl (hsets _ (List.mem_of_getElem? (i := 1) rfl)))
  obtain ⟨ca, ev_ca⟩ := arr_v (Cond.before_iff.mp (hsets _ (List.mem_of_getElem? (i := 4) rfl)))
  have S_ca := Sta.start ev_ca (Or.inr ⟨(W 40 rfl), (hsets _ (List.mem_of_getElem? (i := 2) rfl))⟩)
  have X_ca : own_Cache s s.heap ca := own_cacheStart (fun _ => ev_ca) (Cond.before_iff.mp (hsets _ (List.mem_of_getElem? (i := 4) rfl))) (Cond.before_iff.mp (hsets _ (List.mem_of_getElem? (i := 6) rfl))) (Cond.before_iff.mp (hsets _ (List.mem_of_getElem? (i := 7) rfl)))
  obtain ⟨n, o, h1, h2, h3, _, L, rfl, ⟨rfl, N⟩, hq⟩ := rm0 l s _ hw tables_1 i0 i1 i2 oC oW ca s.heap s.heap.size (Nat.le_refl _) S_oC E_oC S_oW E_oW hne S_hi S_ca X_ca p e ha hc hk s m _ below hf ((Spec.applies_iff_loose hf).mp happ).1 ⟨rfl, State.Warmed39.refl s, rfl⟩ trivial
  refine ⟨n, _, h1, h2, h3, hpost _ _ _ _ _ _ ⟨Cond.after_iff.mpr rfl, Cond.after_iff.mpr (eq_i res_at (Term.int_eval (1)) rfl), trivial⟩ ⟨hq.1, hq.2.1, hq.2.2.1, (hq.2.2.2.sift fun y hy => Or.inr (N y hy)).mono (by decide) (by decide)⟩⟩
theorem main_1_1 : Claimed_1_1 := comes_1 fun _ _ _ _ _ _ h hF => ⟨h.1, hF⟩
theorem main_1_2 : Claimed_1_2 := comes_1 fun _ _ _ _ _ _ h hF => ⟨h.2.1, hF⟩
end Jvm.Pilot.@@N@@
namespace Jvm.Pilot.@@N@@
open Jvm Jvm.ClassFile Sem Op Lib Jvm.Free Jvm.Stand Jvm.Pilot.@@N@@.Jvm.D
/-! MADE BY PROGRAM (witnessworld.py) out of the Statement's table words and the real class files: 22 classes; the members and pool entries that the words name. The judged class is class 1, her method 1. -/
namespace start1
open Jvm.ClassFile
def u (s : String) : CpInfo := .utf8 (stringToUtf16 s)
/-- a pool by its gaps: so many unusable entries, then the entry; so many at the end -/
def gap : Nat → List CpInfo → List CpInfo
  | 0, r => r
  | n + 1, r => .unusable :: gap n r
def poolList (es : List (Nat × CpInfo)) (last : Nat) : List CpInfo := es.foldr (fun e r => gap e.1 (e.2 :: r)) (gap last [])
def pool (es : List (Nat × CpInfo)) (last : Nat) : Array CpInfo := ⟨poolList es last⟩
def fileOf (pool : Array CpInfo) (this : Nat) (attrs : Array Attribute := #[]) (ms : Array MethodInfo := #[]) (fl : Nat := 33) (sup : Nat := 0) (ifs : Array Nat := #[]) (fds : Array FieldInfo := #[]) : ClassFile where
  minorVersion := 0
  majorVersion := 65
  constantPool := pool
  accessFlags := fl
  thisClass := this
  superClass := sup
  interfaces := ifs
  fields := fds
  methods := ms
  attributes := attrs
def plain (name : String) (sup : Option ClassId) : Class where
  name := name
  kind := .ordinary
  loader := none
  accessFlags := 33
  super := sup
  interfaces := #[]
  cf := none
  fields := #[]
  methods := #[]
  instanceTypes := #[]
  staticTypes := #[]
  resolved := #[]
  callSites := []
  init := .initialized
  statics := none
  mirror := none

def pool0 : Array CpInfo := pool [(5, u "<init>"), (0, u "()V"), (1, .class_ 10), (1, u "java/lang/Object")] 113

def k0c0 : Code := { maxStack := 0, maxLocals := 1, code := object_method_1_code, exceptionTable := #[], attributes := #[] }
def k0m0 : Method := { name := "<init>", desc := "()V", sig := { parameters := [], returnType := none }, accessFlags := 1, code := some k0c0 }
/-- java/lang/Object -/
def k0 : Class := { plain "java/lang/Object" none with
  accessFlags := 33
  interfaces := #[]
  cf := some (fileOf pool0 8 #[] #[{ accessFlags := 1, nameIndex := 5, descriptorIndex := 6, attributes := #[] }] 33 0 #[] #[])
  fields := #[]
  methods := #[k0m0]
  instanceTypes := #[]
  staticTypes := #[]
  resolved := Array.replicate 124 none
  statics := none }

def pool1 : Array CpInfo := pool [(2, .class_ 4), (1, u "java/lang/Object"), (0, u "<init>"), (0, u "()V"), (0, .integer 2147483647), (0, .methodref 9 10), (0, .class_ 11), (0, .nameAndType 12 13), (0, u "java/lang/Math"), (0, u "max"), (0, u "(II)I"), (0, .fieldref 15 16), (0, .class_ 17), (0, .nameAndType 18 19), (0, u "com/example/near_duplicate_finder/nearduplicatefinder/Shingling$Unit"), (0, u "WORD"), (0, u "Lcom/example/near_duplicate_finder/nearduplicatefinder/Shingling$Unit;"), (0, .fieldref 15 21), (0, .nameAndType 22 19), (0, u "CHAR"), (0, .class_ 24), (0, u "com/example/near_duplicate_finder/nearduplicatefinder/Shingling"), (0, .methodref 23 26), (0, .nameAndType 5 27), (0, u "(Lcom/example/near_duplicate_finder/nearduplicatefinder/Shingling$Unit;I)V"), (0, .methodref 29 30), (0, .class_ 31), (0, .nameAndType 32 33), (0, u "java/lang/Integer"), (0, u "valueOf"), (0, u "(I)Ljava/lang/Integer;"), (0, .methodref 23 35), (0, .nameAndType 36 37), (0, u "equals"), (0, u "(Ljava/lang/Object;)Z"), (0, .class_ 39), (0, u "com/example/near_duplicate_finder/nearduplicatefinder/ShinglingEqualsPinLaw"), (2, u "law"), (0, u "(III)Z")] 5

def k1m0 : Method := { name := "<init>", desc := "()V", sig := { parameters := [], returnType := none }, accessFlags := 1, code := none }
def k1c1 : Code := { maxStack := 4, maxLocals := 11, code := code, exceptionTable := #[], attributes := #[] }
def k1m1 : Method := { name := "law", desc := "(III)Z", sig := { parameters := [.int, .int, .int], returnType := some .boolean }, accessFlags := 9, code := some k1c1 }
/-- com/example/near_duplicate_finder/nearduplicatefinder/ShinglingEqualsPinLaw -/
def k1 : Class := { plain "com/example/near_duplicate_finder/nearduplicatefinder/ShinglingEqualsPinLaw" (some 0) with
  accessFlags := 49
  interfaces := #[]
  cf := some (fileOf pool1 38 #[] #[{ accessFlags := 1, nameIndex := 5, descriptorIndex := 6, attributes := #[] }, { accessFlags := 9, nameIndex := 42, descriptorIndex := 43, attributes := #[] }] 49 2 #[] #[])
  fields := #[]
  methods := #[k1m0, k1m1]
  instanceTypes := #[]
  staticTypes := #[]
  resolved := Array.replicate 49 none
  statics := none }

def pool2 : Array CpInfo := pool [(1, .class_ 2), (0, u "java/lang/Math"), (1, .class_ 6), (1, u "java/lang/Object"), (0, u "<init>"), (0, u "()V"), (89, .class_ 100), (1, u "java/lang/Math$RandomNumberGeneratorHolder"), (71, u "negativeZeroFloatBits"), (0, u "J"), (2, u "negativeZeroDoubleBits"), (21, u "max"), (46, u "$assertionsDisabled"), (0, u "Z"), (88, u "(II)I"), (2, u "twoToTheDoubleScaleDown"), (0, u "D"), (4, u "twoToTheDoubleScaleUp"), (9, u "E"), (3, u "PI"), (2, u "TAU"), (2, u "DEGREES_TO_RADIANS"), (0, u "RADIANS_TO_DEGREES")] 94

def k2m0 : Method := { name := "<init>", desc := "()V", sig := { parameters := [], returnType := none }, accessFlags := 2, code := none }
def k2c1 : Code := { maxStack := 2, maxLocals := 2, code := jdk_29_method_65_code, exceptionTable := #[], attributes := #[] }
def k2m1 : Method := { name := "max", desc := "(II)I", sig := { parameters := [.int, .int], returnType := some .int }, accessFlags := 9, code := some k2c1 }
/-- java/lang/Math -/
def k2 : Class := { plain "java/lang/Math" (some 0) with
  accessFlags := 49
  interfaces := #[]
  cf := some (fileOf pool2 1 #[.nestMembers #[98]] #[{ accessFlags := 2, nameIndex := 7, descriptorIndex := 8, attributes := #[] }, { accessFlags := 9, nameIndex := 198, descriptorIndex := 335, attributes := #[] }] 49 4 #[] #[{ accessFlags := 25, nameIndex := 354, descriptorIndex := 339, attributes := #[] }, { accessFlags := 25, nameIndex := 358, descriptorIndex := 339, attributes := #[] }, { accessFlags := 25, nameIndex := 361, descriptorIndex := 339, attributes := #[] }, { accessFlags := 26, nameIndex := 364, descriptorIndex := 339, attributes := #[] }, { accessFlags := 26, nameIndex := 365, descriptorIndex := 339, attributes := #[] }, { accessFlags := 26, nameIndex := 172, descriptorIndex := 173, attributes := #[] }, { accessFlags := 26, nameIndex := 176, descriptorIndex := 173, attributes := #[] }, { accessFlags := 8, nameIndex := 344, descriptorIndex := 339, attributes := #[] }, { accessFlags := 8, nameIndex := 338, descriptorIndex := 339, attributes := #[] }, { accessFlags := 4120, nameIndex := 245, descriptorIndex := 246, attributes := #[] }])
  fields := #[{ name := "E", type := .double, accessFlags := 25, slot := 0, constantValue := 0 }, { name := "PI", type := .double, accessFlags := 25, slot := 1, constantValue := 0 }, { name := "TAU", type := .double, accessFlags := 25, slot := 2, constantValue := 0 }, { name := "DEGREES_TO_RADIANS", type := .double, accessFlags := 26, slot := 3, constantValue := 0 }, { name := "RADIANS_TO_DEGREES", type := .double, accessFlags := 26, slot := 4, constantValue := 0 }, { name := "negativeZeroFloatBits", type := .long, accessFlags := 26, slot := 5, constantValue := 0 }, { name := "negativeZeroDoubleBits", type := .long, accessFlags := 26, slot := 6, constantValue := 0 }, { name := "twoToTheDoubleScaleUp", type := .double, accessFlags := 8, slot := 7, constantValue := 0 }, { name := "twoToTheDoubleScaleDown", type := .double, accessFlags := 8, slot := 8, constantValue := 0 }, { name := "$assertionsDisabled", type := .boolean, accessFlags := 4120, slot := 9, constantValue := 0 }]
  methods := #[k2m0, k2m1]
  instanceTypes := #[]
  staticTypes := #[.double, .double, .double, .double, .double, .long, .long, .double, .double, .boolean]
  resolved := Array.replicate 460 none
  statics := none }

def pool3 : Array CpInfo := pool [(1, .class_ 2), (0, u "java/lang/constant/Constable"), (0, .class_ 4), (0, u "java/lang/Object")] 6

/-- java/lang/constant/Constable -/
def k3 : Class := { plain "java/lang/constant/Constable" (some 0) with
  accessFlags := 1537
  interfaces := #[]
  cf := some (fileOf pool3 1 #[] #[] 1537 3 #[] #[])
  fields := #[]
  methods := #[]
  instanceTypes := #[]
  staticTypes := #[]
  resolved := Array.replicate 11 none
  statics := none }

def pool4 : Array CpInfo := pool [(1, .class_ 2), (0, u "java/lang/Comparable"), (0, .class_ 4), (0, u "java/lang/Object")] 7

/-- java/lang/Comparable -/
def k4 : Class := { plain "java/lang/Comparable" (some 0) with
  accessFlags := 1537
  interfaces := #[]
  cf := some (fileOf pool4 1 #[] #[] 1537 3 #[] #[])
  fields := #[]
  methods := #[]
  instanceTypes := #[]
  staticTypes := #[]
  resolved := Array.replicate 12 none
  statics := none }

def pool5 : Array CpInfo := pool [(1, .class_ 2), (0, u "java/io/Serializable"), (0, .class_ 4), (0, u "java/lang/Object")] 2

/-- java/io/Serializable -/
def k5 : Class := { plain "java/io/Serializable" (some 0) with
  accessFlags := 1537
  interfaces := #[]
  cf := some (fileOf pool5 1 #[] #[] 1537 3 #[] #[])
  fields := #[]
  methods := #[]
  instanceTypes := #[]
  staticTypes := #[]
  resolved := Array.replicate 7 none
  statics := none }

def pool6 : Array CpInfo := pool [(2, .class_ 4), (1, u "java/lang/Enum"), (0, u "name"), (0, u "Ljava/lang/String;"), (2, u "ordinal"), (0, u "I"), (1, .class_ 14), (1, u "java/lang/Object"), (4, u "hash"), (86, .class_ 108), (1, u "java/lang/Enum$EnumDesc"), (2, .class_ 112), (0, u "java/lang/constant/Constable"), (0, .class_ 114), (0, u "java/lang/Comparable"), (0, .class_ 116), (0, u "java/io/Serializable")] 87

/-- java/lang/Enum -/
def k6 : Class := { plain "java/lang/Enum" (some 0) with
  accessFlags := 1057
  interfaces := #[3, 4, 5]
  cf := some (fileOf pool6 2 #[.nestMembers #[106]] #[] 1057 12 #[111, 113, 115] #[{ accessFlags := 18, nameIndex := 5, descriptorIndex := 6, attributes := #[] }, { accessFlags := 18, nameIndex := 9, descriptorIndex := 10, attributes := #[] }, { accessFlags := 2, nameIndex := 19, descriptorIndex := 10, attributes := #[] }])
  fields := #[{ name := "name", type := (.object "java/lang/String"), accessFlags := 18, slot := 0, constantValue := 0 }, { name := "ordinal", type := .int, accessFlags := 18, slot := 1, constantValue := 0 }, { name := "hash", type := .int, accessFlags := 2, slot := 2, constantValue := 0 }]
  methods := #[]
  instanceTypes := #[(.object "java/lang/String"), .int, .int]
  staticTypes := #[]
  resolved := Array.replicate 204 none
  statics := none }

def pool7 : Array CpInfo := pool [(1, .class_ 2), (0, u "com/example/near_duplicate_finder/nearduplicatefinder/Shingling$Unit"), (2, u "CHAR"), (0, u "Lcom/example/near_duplicate_finder/nearduplicatefinder/Shingling$Unit;"), (2, u "WORD"), (2, u "$VALUES"), (0, u "[Lcom/example/near_duplicate_finder/nearduplicatefinder/Shingling$Unit;"), (6, .class_ 22), (1, u "java/lang/Enum"), (42, .class_ 66), (0, u "com/example/near_duplicate_finder/nearduplicatefinder/Shingling")] 2

/-- com/example/near_duplicate_finder/nearduplicatefinder/Shingling$Unit -/
def k7 : Class := { plain "com/example/near_duplicate_finder/nearduplicatefinder/Shingling$Unit" (some 6) with
  accessFlags := 16433
  interfaces := #[]
  cf := some (fileOf pool7 1 #[.nestHost 65] #[] 16433 20 #[] #[{ accessFlags := 16409, nameIndex := 5, descriptorIndex := 6, attributes := #[] }, { accessFlags := 16409, nameIndex := 9, descriptorIndex := 6, attributes := #[] }, { accessFlags := 4122, nameIndex := 12, descriptorIndex := 13, attributes := #[] }])
  fields := #[{ name := "CHAR", type := (.object "com/example/near_duplicate_finder/nearduplicatefinder/Shingling$Unit"), accessFlags := 16409, slot := 0, constantValue := 0 }, { name := "WORD", type := (.object "com/example/near_duplicate_finder/nearduplicatefinder/Shingling$Unit"), accessFlags := 16409, slot := 1, constantValue := 0 }, { name := "$VALUES", type := (.array (.object "com/example/near_duplicate_finder/nearduplicatefinder/Shingling$Unit")), accessFlags := 4122, slot := 2, constantValue := 0 }]
  methods := #[]
  instanceTypes := #[(.object "java/lang/String"), .int, .int]
  staticTypes := #[(.object "com/example/near_duplicate_finder/nearduplicatefinder/Shingling$Unit"), (.object "com/example/near_duplicate_finder/nearduplicatefinder/Shingling$Unit"), (.array (.object "com/example/near_duplicate_finder/nearduplicatefinder/Shingling$Unit"))]
  resolved := Array.replicate 69 none
  statics := some 0 }

def pool8 : Array CpInfo := pool [(1, .methodref 2 3), (0, .class_ 4), (0, .nameAndType 5 6), (0, u "java/lang/Object"), (0, u "<init>"), (0, u "()V"), (0, .string 8), (0, u "unit"), (0, .methodref 10 11), (0, .class_ 12), (0, .nameAndType 13 14), (0, u "java/util/Objects"), (0, u "requireNonNull"), (0, u "(Ljava/lang/Object;Ljava/lang/String;)Ljava/lang/Object;"), (0, .class_ 16), (0, u "com/example/near_duplicate_finder/nearduplicatefinder/Shingling$Unit"), (0, .fieldref 18 19), (0, .class_ 20), (0, .nameAndType 8 21), (0, u "com/example/near_duplicate_finder/nearduplicatefinder/Shingling"), (0, u "Lcom/example/near_duplicate_finder/nearduplicatefinder/Shingling$Unit;"), (9, .fieldref 18 32), (0, .nameAndType 33 34), (0, u "size"), (0, u "I"), (20, u "equals"), (0, u "(Ljava/lang/Object;)Z"), (19, u "(Lcom/example/near_duplicate_finder/nearduplicatefinder/Shingling$Unit;I)V")] 130

def k8c0 : Code := { maxStack := 3, maxLocals := 3, code := prog_35_method_1_code, exceptionTable := #[], attributes := #[] }
def k8m0 : Method := { name := "<init>", desc := "(Lcom/example/near_duplicate_finder/nearduplicatefinder/Shingling$Unit;I)V", sig := { parameters := [(.object "com/example/near_duplicate_finder/nearduplicatefinder/Shingling$Unit"), .int], returnType := none }, accessFlags := 1, code := some k8c0 }
def k8c1 : Code := { maxStack := 2, maxLocals := 3, code := prog_35_method_6_code, exceptionTable := #[], attributes := #[] }
def k8m1 : Method := { name := "equals", desc := "(Ljava/lang/Object;)Z", sig := { parameters := [(.object "java/lang/Object")], returnType := some .boolean }, accessFlags := 1, code := some k8c1 }
/-- com/example/near_duplicate_finder/nearduplicatefinder/Shingling -/
def k8 : Class := { plain "com/example/near_duplicate_finder/nearduplicatefinder/Shingling" (some 0) with
  accessFlags := 33
  interfaces := #[]
  cf := some (fileOf pool8 18 #[.nestMembers #[15]] #[{ accessFlags := 1, nameIndex := 5, descriptorIndex := 76, attributes := #[] }, { accessFlags := 1, nameIndex := 55, descriptorIndex := 56, attributes := #[] }] 33 2 #[] #[{ accessFlags := 18, nameIndex := 8, descriptorIndex := 21, attributes := #[] }, { accessFlags := 18, nameIndex := 33, descriptorIndex := 34, attributes := #[] }])
  fields := #[{ name := "unit", type := (.object "com/example/near_duplicate_finder/nearduplicatefinder/Shingling$Unit"), accessFlags := 18, slot := 0, constantValue := 0 }, { name := "size", type := .int, accessFlags := 18, slot := 1, constantValue := 0 }]
  methods := #[k8m0, k8m1]
  instanceTypes := #[(.object "com/example/near_duplicate_finder/nearduplicatefinder/Shingling$Unit"), .int]
  staticTypes := #[]
  resolved := Array.replicate 207 none
  statics := none }

def pool9 : Array CpInfo := pool [(2, .class_ 4), (1, u "java/lang/CharSequence"), (42, .class_ 48), (0, u "java/lang/CharSequence$1CodePointIterator"), (10, .class_ 60), (0, u "java/lang/CharSequence$1CharIterator"), (5, .class_ 67), (0, u "java/lang/Object")] 63

/-- java/lang/CharSequence -/
def k9 : Class := { plain "java/lang/CharSequence" (some 0) with
  accessFlags := 1537
  interfaces := #[]
  cf := some (fileOf pool9 2 #[.nestMembers #[47, 59]] #[] 1537 66 #[] #[])
  fields := #[]
  methods := #[]
  instanceTypes := #[]
  staticTypes := #[]
  resolved := Array.replicate 131 none
  statics := none }

def pool10 : Array CpInfo := pool [(1, .class_ 2), (0, u "java/lang/constant/ConstantDesc"), (0, .class_ 4), (0, u "java/lang/Object")] 32

/-- java/lang/constant/ConstantDesc -/
def k10 : Class := { plain "java/lang/constant/ConstantDesc" (some 0) with
  accessFlags := 1537
  interfaces := #[]
  cf := some (fileOf pool10 1 #[] #[] 1537 3 #[] #[])
  fields := #[]
  methods := #[]
  instanceTypes := #[]
  staticTypes := #[]
  resolved := Array.replicate 37 none
  statics := none }

def pool11 : Array CpInfo := pool [(2, .class_ 4), (1, u "java/lang/Object"), (0, u "<init>"), (0, u "()V"), (3, .class_ 12), (1, u "java/lang/String"), (0, u "value"), (0, u "[B"), (2, u "coder"), (0, u "B"), (2, u "hash"), (0, u "I"), (2, u "hashIsZero"), (0, u "Z"), (13, u "COMPACT_STRINGS"), (534, .class_ 576), (0, u "java/lang/CharSequence"), (22, u "CASE_INSENSITIVE_ORDER"), (0, u "Ljava/util/Comparator;"), (500, u "serialPersistentFields"), (0, u "[Ljava/io/ObjectStreamField;"), (0, .class_ 1104), (0, u "java/lang/String$CaseInsensitiveComparator"), (1, .class_ 1107), (0, u "java/io/Serializable"), (0, .class_ 1109), (0, u "java/lang/Comparable"), (0, .class_ 1111), (0, u "java/lang/constant/Constable"), (0, .class_ 1113), (0, u "java/lang/constant/ConstantDesc"), (2, u "serialVersionUID"), (0, u "J"), (3, u "REPL"), (0, u "C"), (2, u "LATIN1"), (1, u "UTF16")] 323

def k11m0 : Method := { name := "<init>", desc := "()V", sig := { parameters := [], returnType := none }, accessFlags := 1, code := none }
/-- java/lang/String -/
def k11 : Class := { plain "java/lang/String" (some 0) with
  accessFlags := 49
  interfaces := #[5, 4, 9, 3, 10]
  cf := some (fileOf pool11 10 #[.nestMembers #[1103]] #[{ accessFlags := 1, nameIndex := 5, descriptorIndex := 6, attributes := #[] }] 49 2 #[1106, 1108, 575, 1110, 1112] #[{ accessFlags := 18, nameIndex := 13, descriptorIndex := 14, attributes := #[] }, { accessFlags := 18, nameIndex := 17, descriptorIndex := 18, attributes := #[] }, { accessFlags := 2, nameIndex := 21, descriptorIndex := 22, attributes := #[] }, { accessFlags := 2, nameIndex := 25, descriptorIndex := 26, attributes := #[] }, { accessFlags := 26, nameIndex := 1116, descriptorIndex := 1117, attributes := #[] }, { accessFlags := 24, nameIndex := 40, descriptorIndex := 26, attributes := #[] }, { accessFlags := 26, nameIndex := 1101, descriptorIndex := 1102, attributes := #[] }, { accessFlags := 26, nameIndex := 1121, descriptorIndex := 1122, attributes := #[] }, { accessFlags := 25, nameIndex := 599, descriptorIndex := 600, attributes := #[] }, { accessFlags := 24, nameIndex := 1125, descriptorIndex := 18, attributes := #[] }, { accessFlags := 24, nameIndex := 1127, descriptorIndex := 18, attributes := #[] }])
  fields := #[{ name := "value", type := (.array .byte), accessFlags := 18, slot := 0, constantValue := 0 }, { name := "coder", type := .byte, accessFlags := 18, slot := 1, constantValue := 0 }, { name := "hash", type := .int, accessFlags := 2, slot := 2, constantValue := 0 }, { name := "hashIsZero", type := .boolean, accessFlags := 2, slot := 3, constantValue := 0 }, { name := "serialVersionUID", type := .long, accessFlags := 26, slot := 0, constantValue := 0 }, { name := "COMPACT_STRINGS", type := .boolean, accessFlags := 24, slot := 1, constantValue := 0 }, { name := "serialPersistentFields", type := (.array (.object "java/io/ObjectStreamField")), accessFlags := 26, slot := 2, constantValue := 0 }, { name := "REPL", type := .char, accessFlags := 26, slot := 3, constantValue := 0 }, { name := "CASE_INSENSITIVE_ORDER", type := (.object "java/util/Comparator"), accessFlags := 25, slot := 4, constantValue := 0 }, { name := "LATIN1", type := .byte, accessFlags := 24, slot := 5, constantValue := 0 }, { name := "UTF16", type := .byte, accessFlags := 24, slot := 6, constantValue := 0 }]
  methods := #[k11m0]
  instanceTypes := #[(.array .byte), .byte, .int, .boolean]
  staticTypes := #[.long, .boolean, (.array (.object "java/io/ObjectStreamField")), .char, (.object "java/util/Comparator"), .byte, .byte]
  resolved := Array.replicate 1451 none
  statics := none }

def pool12 : Array CpInfo := pool [(2, .class_ 4), (1, u "java/lang/Object"), (0, u "<init>"), (0, u "()V"), (35, .class_ 44), (1, u "java/util/Objects"), (0, u "requireNonNull"), (48, u "(Ljava/lang/Object;Ljava/lang/String;)Ljava/lang/Object;")] 89

def k12m0 : Method := { name := "<init>", desc := "()V", sig := { parameters := [], returnType := none }, accessFlags := 2, code := none }
def k12c1 : Code := { maxStack := 3, maxLocals := 2, code := jdk_31_method_11_code, exceptionTable := #[], attributes := #[] }
def k12m1 : Method := { name := "requireNonNull", desc := "(Ljava/lang/Object;Ljava/lang/String;)Ljava/lang/Object;", sig := { parameters := [(.object "java/lang/Object"), (.object "java/lang/String")], returnType := some (.object "java/lang/Object") }, accessFlags := 9, code := some k12c1 }
/-- java/util/Objects -/
def k12 : Class := { plain "java/util/Objects" (some 0) with
  accessFlags := 49
  interfaces := #[]
  cf := some (fileOf pool12 42 #[] #[{ accessFlags := 2, nameIndex := 5, descriptorIndex := 6, attributes := #[] }, { accessFlags := 9, nameIndex := 45, descriptorIndex := 94, attributes := #[] }] 49 2 #[] #[])
  fields := #[]
  methods := #[k12m0, k12m1]
  instanceTypes := #[]
  staticTypes := #[]
  resolved := Array.replicate 184 none
  statics := none }

def pool13 : Array CpInfo := pool [(1, .methodref 2 3), (0, .class_ 4), (0, .nameAndType 5 6), (0, u "java/lang/Object"), (0, u "<init>"), (0, u "()V"), (1, .class_ 10), (1, u "java/lang/Number"), (2, .class_ 14), (0, u "java/io/Serializable"), (0, u "serialVersionUID"), (0, u "J")] 20

def k13c0 : Code := { maxStack := 1, maxLocals := 1, code := jdk_18_method_1_code, exceptionTable := #[], attributes := #[] }
def k13m0 : Method := { name := "<init>", desc := "()V", sig := { parameters := [], returnType := none }, accessFlags := 1, code := some k13c0 }
/-- java/lang/Number -/
def k13 : Class := { plain "java/lang/Number" (some 0) with
  accessFlags := 1057
  interfaces := #[5]
  cf := some (fileOf pool13 8 #[] #[{ accessFlags := 1, nameIndex := 5, descriptorIndex := 6, attributes := #[] }] 1057 2 #[13] #[{ accessFlags := 26, nameIndex := 15, descriptorIndex := 16, attributes := #[] }])
  fields := #[{ name := "serialVersionUID", type := .long, accessFlags := 26, slot := 0, constantValue := 0 }]
  methods := #[k13m0]
  instanceTypes := #[]
  staticTypes := #[.long]
  resolved := Array.replicate 37 none
  statics := none }

def pool14 : Array CpInfo := pool [(1, .class_ 2), (0, u "java/lang/Integer"), (16, u "digits"), (0, u "[C"), (46, u "<init>"), (17, u "DigitOnes"), (0, u "[B"), (2, u "DigitTens"), (10, .nameAndType 67 101), (0, u "()V"), (85, u "valueOf"), (0, u "(I)Ljava/lang/Integer;"), (0, .class_ 190), (0, u "java/lang/Integer$IntegerCache"), (0, .fieldref 189 192), (0, .nameAndType 193 194), (0, u "high"), (0, u "I"), (0, .fieldref 189 196), (0, .nameAndType 197 198), (0, u "cache"), (0, u "[Ljava/lang/Integer;"), (0, .methodref 1 200), (0, .nameAndType 67 201), (0, u "(I)V"), (0, .methodref 203 100), (0, .class_ 204), (0, u "java/lang/Number"), (0, .fieldref 1 206), (0, .nameAndType 207 194), (0, u "value"), (94, u "TYPE"), (0, u "Ljava/lang/Class;"), (0, .class_ 305), (0, u "java/lang/Comparable"), (0, .class_ 307), (0, u "java/lang/constant/Constable"), (0, .class_ 309), (0, u "java/lang/constant/ConstantDesc"), (0, u "MIN_VALUE"), (1, u "MAX_VALUE"), (3, u "SIZE"), (1, u "BYTES"), (1, u "serialVersionUID"), (0, u "J")] 131

def k14c0 : Code := { maxStack := 3, maxLocals := 1, code := jdk_33_method_22_code, exceptionTable := #[], attributes := #[] }
def k14m0 : Method := { name := "valueOf", desc := "(I)Ljava/lang/Integer;", sig := { parameters := [.int], returnType := some (.object "java/lang/Integer") }, accessFlags := 9, code := some k14c0 }
def k14c1 : Code := { maxStack := 2, maxLocals := 2, code := jdk_33_method_23_code, exceptionTable := #[], attributes := #[] }
def k14m1 : Method := { name := "<init>", desc := "(I)V", sig := { parameters := [.int], returnType := none }, accessFlags := 1, code := some k14c1 }
/-- java/lang/Integer -/
def k14 : Class := { plain "java/lang/Integer" (some 13) with
  accessFlags := 49
  interfaces := #[4, 3, 10]
  cf := some (fileOf pool14 1 #[.nestMembers #[189]] #[{ accessFlags := 9, nameIndex := 187, descriptorIndex := 188, attributes := #[] }, { accessFlags := 1, nameIndex := 67, descriptorIndex := 201, attributes := #[] }] 49 203 #[304, 306, 308] #[{ accessFlags := 25, nameIndex := 310, descriptorIndex := 194, attributes := #[] }, { accessFlags := 25, nameIndex := 312, descriptorIndex := 194, attributes := #[] }, { accessFlags := 25, nameIndex := 302, descriptorIndex := 303, attributes := #[] }, { accessFlags := 24, nameIndex := 19, descriptorIndex := 20, attributes := #[] }, { accessFlags := 24, nameIndex := 89, descriptorIndex := 86, attributes := #[] }, { accessFlags := 24, nameIndex := 85, descriptorIndex := 86, attributes := #[] }, { accessFlags := 18, nameIndex := 207, descriptorIndex := 194, attributes := #[] }, { accessFlags := 25, nameIndex := 316, descriptorIndex := 194, attributes := #[] }, { accessFlags := 25, nameIndex := 318, descriptorIndex := 194, attributes := #[] }, { accessFlags := 26, nameIndex := 320, descriptorIndex := 321, attributes := #[] }])
  fields := #[{ name := "MIN_VALUE", type := .int, accessFlags := 25, slot := 0, constantValue := 0 }, { name := "MAX_VALUE", type := .int, accessFlags := 25, slot := 1, constantValue := 0 }, { name := "TYPE", type := (.object "java/lang/Class"), accessFlags := 25, slot := 2, constantValue := 0 }, { name := "digits", type := (.array .char), accessFlags := 24, slot := 3, constantValue := 0 }, { name := "DigitTens", type := (.array .byte), accessFlags := 24, slot := 4, constantValue := 0 }, { name := "DigitOnes", type := (.array .byte), accessFlags := 24, slot := 5, constantValue := 0 }, { name := "value", type := .int, accessFlags := 18, slot := 0, constantValue := 0 }, { name := "SIZE", type := .int, accessFlags := 25, slot := 6, constantValue := 0 }, { name := "BYTES", type := .int, accessFlags := 25, slot := 7, constantValue := 0 }, { name := "serialVersionUID", type := .long, accessFlags := 26, slot := 8, constantValue := 0 }]
  methods := #[k14m0, k14m1]
  instanceTypes := #[.int]
  staticTypes := #[.int, .int, (.object "java/lang/Class"), (.array .char), (.array .byte), (.array .byte), .int, .int, .long]
  resolved := Array.replicate 453 none
  statics := none }

def pool15 : Array CpInfo := pool [(2, .class_ 4), (1, u "java/lang/Object"), (0, u "<init>"), (0, u "()V"), (0, .class_ 8), (0, u "java/lang/Integer"), (7, .class_ 18), (1, u "java/lang/Integer$IntegerCache"), (0, u "$assertionsDisabled"), (0, u "Z"), (26, u "high"), (0, u "I"), (8, u "archivedCache"), (0, u "[Ljava/lang/Integer;"), (12, u "cache"), (0, u "low")] 27

def k15m0 : Method := { name := "<init>", desc := "()V", sig := { parameters := [], returnType := none }, accessFlags := 2, code := none }
/-- java/lang/Integer$IntegerCache -/
def k15 : Class := { plain "java/lang/Integer$IntegerCache" (some 0) with
  accessFlags := 48
  interfaces := #[]
  cf := some (fileOf pool15 16 #[.nestHost 7] #[{ accessFlags := 2, nameIndex := 5, descriptorIndex := 6, attributes := #[] }] 48 2 #[] #[{ accessFlags := 24, nameIndex := 72, descriptorIndex := 48, attributes := #[] }, { accessFlags := 24, nameIndex := 47, descriptorIndex := 48, attributes := #[] }, { accessFlags := 24, nameIndex := 71, descriptorIndex := 58, attributes := #[] }, { accessFlags := 8, nameIndex := 57, descriptorIndex := 58, attributes := #[] }, { accessFlags := 4120, nameIndex := 19, descriptorIndex := 20, attributes := #[] }])
  fields := #[{ name := "low", type := .int, accessFlags := 24, slot := 0, constantValue := 0 }, { name := "high", type := .int, accessFlags := 24, slot := 1, constantValue := 0 }, { name := "cache", type := (.array (.object "java/lang/Integer")), accessFlags := 24, slot := 2, constantValue := 0 }, { name := "archivedCache", type := (.array (.object "java/lang/Integer")), accessFlags := 8, slot := 3, constantValue := 0 }, { name := "$assertionsDisabled", type := .boolean, accessFlags := 4120, slot := 4, constantValue := 0 }]
  methods := #[k15m0]
  instanceTypes := #[]
  staticTypes := #[.int, .int, (.array (.object "java/lang/Integer")), (.array (.object "java/lang/Integer")), .boolean]
  resolved := Array.replicate 100 none
  statics := some 1 }

def pool16 : Array CpInfo := pool [(1, u "java/lang/Cloneable"), (0, .class_ 1), (0, u "java/lang/Object"), (0, .class_ 3)] 3

/-- java/lang/Cloneable -/
def k16 : Class := { plain "java/lang/Cloneable" (some 0) with
  accessFlags := 1537
  interfaces := #[]
  cf := some (fileOf pool16 2 #[] #[] 1537 4 #[] #[])
  fields := #[]
  methods := #[]
  instanceTypes := #[]
  staticTypes := #[]
  resolved := Array.replicate 8 none
  statics := none }

/-- the primitive byte -/
def k17 : Class := { plain "byte" none with kind := .primitive 'B', accessFlags := 0x411 }
/-- [B -/
def k18 : Class := { plain "[B" (some 0) with kind := .array 17 .byte, interfaces := #[16, 5], accessFlags := 1041 }

/-- the primitive int -/
def k19 : Class := { plain "int" none with kind := .primitive 'I', accessFlags := 0x411 }
/-- [I -/
def k20 : Class := { plain "[I" (some 0) with kind := .array 19 .int, interfaces := #[16, 5], accessFlags := 1041 }

/-- [Ljava/lang/Integer; -/
def k21 : Class := { plain "[Ljava/lang/Integer;" (some 0) with kind := .array 14 (.object "java/lang/Integer"), interfaces := #[16, 5], accessFlags := 1041 }

def heap : Heap := #[{ cls := 7, slots := #[.ref 259, .ref 260, .null], vm := .statics 7 },
  { cls := 15, slots := #[.int 0, .int 127, .ref 2, .null, .int 0], vm := .statics 15 },
  { cls := 21, slots := #[.ref 3, .ref 4, .ref 5, .ref 6, .ref 7, .ref 8, .ref 9, .ref 10, .ref 11, .ref 12, .ref 13, .ref 14, .ref 15, .ref 16, .ref 17, .ref 18, .ref 19, .ref 20, .ref 21, .ref 22, .ref 23, .ref 24, .ref 25, .ref 26, .ref 27, .ref 28, .ref 29, .ref 30, .ref 31, .ref 32, .ref 33, .ref 34, .ref 35, .ref 36, .ref 37, .ref 38, .ref 39, .ref 40, .ref 41, .ref 42, .ref 43, .ref 44, .ref 45, .ref 46, .ref 47, .ref 48, .ref 49, .ref 50, .ref 51, .ref 52, .ref 53, .ref 54, .ref 55, .ref 56, .ref 57, .ref 58, .ref 59, .ref 60, .ref 61, .ref 62, .ref 63, .ref 64, .ref 65, .ref 66, .ref 67, .ref 68, .ref 69, .ref 70, .ref 71, .ref 72, .ref 73, .ref 74, .ref 75, .ref 76, .ref 77, .ref 78, .ref 79, .ref 80, .ref 81, .ref 82, .ref 83, .ref 84, .ref 85, .ref 86, .ref 87, .ref 88, .ref 89, .ref 90, .ref 91, .ref 92, .ref 93, .ref 94, .ref 95, .ref 96, .ref 97, .ref 98, .ref 99, .ref 100, .ref 101, .ref 102, .ref 103, .ref 104, .ref 105, .ref 106, .ref 107, .ref 108, .ref 109, .ref 110, .ref 111, .ref 112, .ref 113, .ref 114, .ref 115, .ref 116, .ref 117, .ref 118, .ref 119, .ref 120, .ref 121, .ref 122, .ref 123, .ref 124, .ref 125, .ref 126, .ref 127, .ref 128, .ref 129, .ref 130, .ref 131, .ref 132, .ref 133, .ref 134, .ref 135, .ref 136, .ref 137, .ref 138, .ref 139, .ref 140, .ref 141, .ref 142, .ref 143, .ref 144, .ref 145, .ref 146, .ref 147, .ref 148, .ref 149, .ref 150, .ref 151, .ref 152, .ref 153, .ref 154, .ref 155, .ref 156, .ref 157, .ref 158, .ref 159, .ref 160, .ref 161, .ref 162, .ref 163, .ref 164, .ref 165, .ref 166, .ref 167, .ref 168, .ref 169, .ref 170, .ref 171, .ref 172, .ref 173, .ref 174, .ref 175, .ref 176, .ref 177, .ref 178, .ref 179, .ref 180, .ref 181, .ref 182, .ref 183, .ref 184, .ref 185, .ref 186, .ref 187, .ref 188, .ref 189, .ref 190, .ref 191, .ref 192, .ref 193, .ref 194, .ref 195, .ref 196, .ref 197, .ref 198, .ref 199, .ref 200, .ref 201, .ref 202, .ref 203, .ref 204, .ref 205, .ref 206, .ref 207, .ref 208, .ref 209, .ref 210, .ref 211, .ref 212, .ref 213, .ref 214, .ref 215, .ref 216, .ref 217, .ref 218, .ref 219, .ref 220, .ref 221, .ref 222, .ref 223, .ref 224, .ref 225, .ref 226, .ref 227, .ref 228, .ref 229, .ref 230, .ref 231, .ref 232, .ref 233, .ref 234, .ref 235, .ref 236, .ref 237, .ref 238, .ref 239, .ref 240, .ref 241, .ref 242, .ref 243, .ref 244, .ref 245, .ref 246, .ref 247, .ref 248, .ref 249, .ref 250, .ref 251, .ref 252, .ref 253, .ref 254, .ref 255, .ref 256, .ref 257, .ref 258], vm := .none },
  { cls := 14, slots := #[.int (-128)], vm := .none },
  { cls := 14, slots := #[.int (-127)], vm := .none },
  { cls := 14, slots := #[.int (-126)], vm := .none },
  { cls := 14, slots := #[.int (-125)], vm := .none },
  { cls := 14, slots := #[.int (-124)], vm := .none },
  { cls := 14, slots := #[.int (-123)], vm := .none },
  { cls := 14, slots := #[.int (-122)], vm := .none },
  { cls := 14, slots := #[.int (-121)], vm := .none },
  { cls := 14, slots := #[.int (-120)], vm := .none },
  { cls := 14, slots := #[.int (-119)], vm := .none },
  { cls := 14, slots := #[.int (-118)], vm := .none },
  { cls := 14, slots := #[.int (-117)], vm := .none },
  { cls := 14, slots := #[.int (-116)], vm := .none },
  { cls := 14, slots := #[.int (-115)], vm := .none },
  { cls := 14, slots := #[.int (-114)], vm := .none },
  { cls := 14, slots := #[.int (-113)], vm := .none },
  { cls := 14, slots := #[.int (-112)], vm := .none },
  { cls := 14, slots := #[.int (-111)], vm := .none },
  { cls := 14, slots := #[.int (-110)], vm := .none },
  { cls := 14, slots := #[.int (-109)], vm := .none },
  { cls := 14, slots := #[.int (-108)], vm := .none },
  { cls := 14, slots := #[.int (-107)], vm := .none },
  { cls := 14, slots := #[.int (-106)], vm := .none },
  { cls := 14, slots := #[.int (-105)], vm := .none },
  { cls := 14, slots := #[.int (-104)], vm := .none },
  { cls := 14, slots := #[.int (-103)], vm := .none },
  { cls := 14, slots := #[.int (-102)], vm := .none },
  { cls := 14, slots := #[.int (-101)], vm := .none },
  { cls := 14, slots := #[.int (-100)], vm := .none },
  { cls := 14, slots := #[.int (-99)], vm := .none },
  { cls := 14, slots := #[.int (-98)], vm := .none },
  { cls := 14, slots := #[.int (-97)], vm := .none },
  { cls := 14, slots := #[.int (-96)], vm := .none },
  { cls := 14, slots := #[.int (-95)], vm := .none },
  { cls := 14, slots := #[.int (-94)], vm := .none },
  { cls := 14, slots := #[.int (-93)], vm := .none },
  { cls := 14, slots := #[.int (-92)], vm := .none },
  { cls := 14, slots := #[.int (-91)], vm := .none },
  { cls := 14, slots := #[.int (-90)], vm := .none },
  { cls := 14, slots := #[.int (-89)], vm := .none },
  { cls := 14, slots := #[.int (-88)], vm := .none },
  { cls := 14, slots := #[.int (-87)], vm := .none },
  { cls := 14, slots := #[.int (-86)], vm := .none },
  { cls := 14, slots := #[.int (-85)], vm := .none },
  { cls := 14, slots := #[.int (-84)], vm := .none },
  { cls := 14, slots := #[.int (-83)], vm := .none },
  { cls := 14, slots := #[.int (-82)], vm := .none },
  { cls := 14, slots := #[.int (-81)], vm := .none },
  { cls := 14, slots := #[.int (-80)], vm := .none },
  { cls := 14, slots := #[.int (-79)], vm := .none },
  { cls := 14, slots := #[.int (-78)], vm := .none },
  { cls := 14, slots := #[.int (-77)], vm := .none },
  { cls := 14, slots := #[.int (-76)], vm := .none },
  { cls := 14, slots := #[.int (-75)], vm := .none },
  { cls := 14, slots := #[.int (-74)], vm := .none },
  { cls := 14, slots := #[.int (-73)], vm := .none },
  { cls := 14, slots := #[.int (-72)], vm := .none },
  { cls := 14, slots := #[.int (-71)], vm := .none },
  { cls := 14, slots := #[.int (-70)], vm := .none },
  { cls := 14, slots := #[.int (-69)], vm := .none },
  { cls := 14, slots := #[.int (-68)], vm := .none },
  { cls := 14, slots := #[.int (-67)], vm := .none },
  { cls := 14, slots := #[.int (-66)], vm := .none },
  { cls := 14, slots := #[.int (-65)], vm := .none },
  { cls := 14, slots := #[.int (-64)], vm := .none },
  { cls := 14, slots := #[.int (-63)], vm := .none },
  { cls := 14, slots := #[.int (-62)], vm := .none },
  { cls := 14, slots := #[.int (-61)], vm := .none },
  { cls := 14, slots := #[.int (-60)], vm := .none },
  { cls := 14, slots := #[.int (-59)], vm := .none },
  { cls := 14, slots := #[.int (-58)], vm := .none },
  { cls := 14, slots := #[.int (-57)], vm := .none },
  { cls := 14, slots := #[.int (-56)], vm := .none },
  { cls := 14, slots := #[.int (-55)], vm := .none },
  { cls := 14, slots := #[.int (-54)], vm := .none },
  { cls := 14, slots := #[.int (-53)], vm := .none },
  { cls := 14, slots := #[.int (-52)], vm := .none },
  { cls := 14, slots := #[.int (-51)], vm := .none },
  { cls := 14, slots := #[.int (-50)], vm := .none },
  { cls := 14, slots := #[.int (-49)], vm := .none },
  { cls := 14, slots := #[.int (-48)], vm := .none },
  { cls := 14, slots := #[.int (-47)], vm := .none },
  { cls := 14, slots := #[.int (-46)], vm := .none },
  { cls := 14, slots := #[.int (-45)], vm := .none },
  { cls := 14, slots := #[.int (-44)], vm := .none },
  { cls := 14, slots := #[.int (-43)], vm := .none },
  { cls := 14, slots := #[.int (-42)], vm := .none },
  { cls := 14, slots := #[.int (-41)], vm := .none },
  { cls := 14, slots := #[.int (-40)], vm := .none },
  { cls := 14, slots := #[.int (-39)], vm := .none },
  { cls := 14, slots := #[.int (-38)], vm := .none },
  { cls := 14, slots := #[.int (-37)], vm := .none },
  { cls := 14, slots := #[.int (-36)], vm := .none },
  { cls := 14, slots := #[.int (-35)], vm := .none },
  { cls := 14, slots := #[.int (-34)], vm := .none },
  { cls := 14, slots := #[.int (-33)], vm := .none },
  { cls := 14, slots := #[.int (-32)], vm := .none },
  { cls := 14, slots := #[.int (-31)], vm := .none },
  { cls := 14, slots := #[.int (-30)], vm := .none },
  { cls := 14, slots := #[.int (-29)], vm := .none },
  { cls := 14, slots := #[.int (-28)], vm := .none },
  { cls := 14, slots := #[.int (-27)], vm := .none },
  { cls := 14, slots := #[.int (-26)], vm := .none },
  { cls := 14, slots := #[.int (-25)], vm := .none },
  { cls := 14, slots := #[.int (-24)], vm := .none },
  { cls := 14, slots := #[.int (-23)], vm := .none },
  { cls := 14, slots := #[.int (-22)], vm := .none },
  { cls := 14, slots := #[.int (-21)], vm := .none },
  { cls := 14, slots := #[.int (-20)], vm := .none },
  { cls := 14, slots := #[.int (-19)], vm := .none },
  { cls := 14, slots := #[.int (-18)], vm := .none },
  { cls := 14, slots := #[.int (-17)], vm := .none },
  { cls := 14, slots := #[.int (-16)], vm := .none },
  { cls := 14, slots := #[.int (-15)], vm := .none },
  { cls := 14, slots := #[.int (-14)], vm := .none },
  { cls := 14, slots := #[.int (-13)], vm := .none },
  { cls := 14, slots := #[.int (-12)], vm := .none },
  { cls := 14, slots := #[.int (-11)], vm := .none },
  { cls := 14, slots := #[.int (-10)], vm := .none },
  { cls := 14, slots := #[.int (-9)], vm := .none },
  { cls := 14, slots := #[.int (-8)], vm := .none },
  { cls := 14, slots := #[.int (-7)], vm := .none },
  { cls := 14, slots := #[.int (-6)], vm := .none },
  { cls := 14, slots := #[.int (-5)], vm := .none },
  { cls := 14, slots := #[.int (-4)], vm := .none },
  { cls := 14, slots := #[.int (-3)], vm := .none },
  { cls := 14, slots := #[.int (-2)], vm := .none },
  { cls := 14, slots := #[.int (-1)], vm := .none },
  { cls := 14, slots := #[.int (0)], vm := .none },
  { cls := 14, slots := #[.int (1)], vm := .none },
  { cls := 14, slots := #[.int (2)], vm := .none },
  { cls := 14, slots := #[.int (3)], vm := .none },
  { cls := 14, slots := #[.int (4)], vm := .none },
  { cls := 14, slots := #[.int (5)], vm := .none },
  { cls := 14, slots := #[.int (6)], vm := .none },
  { cls := 14, slots := #[.int (7)], vm := .none },
  { cls := 14, slots := #[.int (8)], vm := .none },
  { cls := 14, slots := #[.int (9)], vm := .none },
  { cls := 14, slots := #[.int (10)], vm := .none },
  { cls := 14, slots := #[.int (11)], vm := .none },
  { cls := 14, slots := #[.int (12)], vm := .none },
  { cls := 14, slots := #[.int (13)], vm := .none },
  { cls := 14, slots := #[.int (14)], vm := .none },
  { cls := 14, slots := #[.int (15)], vm := .none },
  { cls := 14, slots := #[.int (16)], vm := .none },
  { cls := 14, slots := #[.int (17)], vm := .none },
  { cls := 14, slots := #[.int (18)], vm := .none },
  { cls := 14, slots := #[.int (19)], vm := .none },
  { cls := 14, slots := #[.int (20)], vm := .none },
  { cls := 14, slots := #[.int (21)], vm := .none },
  { cls := 14, slots := #[.int (22)], vm := .none },
  { cls := 14, slots := #[.int (23)], vm := .none },
  { cls := 14, slots := #[.int (24)], vm := .none },
  { cls := 14, slots := #[.int (25)], vm := .none },
  { cls := 14, slots := #[.int (26)], vm := .none },
  { cls := 14, slots := #[.int (27)], vm := .none },
  { cls := 14, slots := #[.int (28)], vm := .none },
  { cls := 14, slots := #[.int (29)], vm := .none },
  { cls := 14, slots := #[.int (30)], vm := .none },
  { cls := 14, slots := #[.int (31)], vm := .none },
  { cls := 14, slots := #[.int (32)], vm := .none },
  { cls := 14, slots := #[.int (33)], vm := .none },
  { cls := 14, slots := #[.int (34)], vm := .none },
  { cls := 14, slots := #[.int (35)], vm := .none },
  { cls := 14, slots := #[.int (36)], vm := .none },
  { cls := 14, slots := #[.int (37)], vm := .none },
  { cls := 14, slots := #[.int (38)], vm := .none },
  { cls := 14, slots := #[.int (39)], vm := .none },
  { cls := 14, slots := #[.int (40)], vm := .none },
  { cls := 14, slots := #[.int (41)], vm := .none },
  { cls := 14, slots := #[.int (42)], vm := .none },
  { cls := 14, slots := #[.int (43)], vm := .none },
  { cls := 14, slots := #[.int (44)], vm := .none },
  { cls := 14, slots := #[.int (45)], vm := .none },
  { cls := 14, slots := #[.int (46)], vm := .none },
  { cls := 14, slots := #[.int (47)], vm := .none },
  { cls := 14, slots := #[.int (48)], vm := .none },
  { cls := 14, slots := #[.int (49)], vm := .none },
  { cls := 14, slots := #[.int (50)], vm := .none },
  { cls := 14, slots := #[.int (51)], vm := .none },
  { cls := 14, slots := #[.int (52)], vm := .none },
  { cls := 14, slots := #[.int (53)], vm := .none },
  { cls := 14, slots := #[.int (54)], vm := .none },
  { cls := 14, slots := #[.int (55)], vm := .none },
  { cls := 14, slots := #[.int (56)], vm := .none },
  { cls := 14, slots := #[.int (57)], vm := .none },
  { cls := 14, slots := #[.int (58)], vm := .none },
  { cls := 14, slots := #[.int (59)], vm := .none },
  { cls := 14, slots := #[.int (60)], vm := .none },
  { cls := 14, slots := #[.int (61)], vm := .none },
  { cls := 14, slots := #[.int (62)], vm := .none },
  { cls := 14, slots := #[.int (63)], vm := .none },
  { cls := 14, slots := #[.int (64)], vm := .none },
  { cls := 14, slots := #[.int (65)], vm := .none },
  { cls := 14, slots := #[.int (66)], vm := .none },
  { cls := 14, slots := #[.int (67)], vm := .none },
  { cls := 14, slots := #[.int (68)], vm := .none },
  { cls := 14, slots := #[.int (69)], vm := .none },
  { cls := 14, slots := #[.int (70)], vm := .none },
  { cls := 14, slots := #[.int (71)], vm := .none },
  { cls := 14, slots := #[.int (72)], vm := .none },
  { cls := 14, slots := #[.int (73)], vm := .none },
  { cls := 14, slots := #[.int (74)], vm := .none },
  { cls := 14, slots := #[.int (75)], vm := .none },
  { cls := 14, slots := #[.int (76)], vm := .none },
  { cls := 14, slots := #[.int (77)], vm := .none },
  { cls := 14, slots := #[.int (78)], vm := .none },
  { cls := 14, slots := #[.int (79)], vm := .none },
  { cls := 14, slots := #[.int (80)], vm := .none },
  { cls := 14, slots := #[.int (81)], vm := .none },
  { cls := 14, slots := #[.int (82)], vm := .none },
  { cls := 14, slots := #[.int (83)], vm := .none },
  { cls := 14, slots := #[.int (84)], vm := .none },
  { cls := 14, slots := #[.int (85)], vm := .none },
  { cls := 14, slots := #[.int (86)], vm := .none },
  { cls := 14, slots := #[.int (87)], vm := .none },
  { cls := 14, slots := #[.int (88)], vm := .none },
  { cls := 14, slots := #[.int (89)], vm := .none },
  { cls := 14, slots := #[.int (90)], vm := .none },
  { cls := 14, slots := #[.int (91)], vm := .none },
  { cls := 14, slots := #[.int (92)], vm := .none },
  { cls := 14, slots := #[.int (93)], vm := .none },
  { cls := 14, slots := #[.int (94)], vm := .none },
  { cls := 14, slots := #[.int (95)], vm := .none },
  { cls := 14, slots := #[.int (96)], vm := .none },
  { cls := 14, slots := #[.int (97)], vm := .none },
  { cls := 14, slots := #[.int (98)], vm := .none },
  { cls := 14, slots := #[.int (99)], vm := .none },
  { cls := 14, slots := #[.int (100)], vm := .none },
  { cls := 14, slots := #[.int (101)], vm := .none },
  { cls := 14, slots := #[.int (102)], vm := .none },
  { cls := 14, slots := #[.int (103)], vm := .none },
  { cls := 14, slots := #[.int (104)], vm := .none },
  { cls := 14, slots := #[.int (105)], vm := .none },
  { cls := 14, slots := #[.int (106)], vm := .none },
  { cls := 14, slots := #[.int (107)], vm := .none },
  { cls := 14, slots := #[.int (108)], vm := .none },
  { cls := 14, slots := #[.int (109)], vm := .none },
  { cls := 14, slots := #[.int (110)], vm := .none },
  { cls := 14, slots := #[.int (111)], vm := .none },
  { cls := 14, slots := #[.int (112)], vm := .none },
  { cls := 14, slots := #[.int (113)], vm := .none },
  { cls := 14, slots := #[.int (114)], vm := .none },
  { cls := 14, slots := #[.int (115)], vm := .none },
  { cls := 14, slots := #[.int (116)], vm := .none },
  { cls := 14, slots := #[.int (117)], vm := .none },
  { cls := 14, slots := #[.int (118)], vm := .none },
  { cls := 14, slots := #[.int (119)], vm := .none },
  { cls := 14, slots := #[.int (120)], vm := .none },
  { cls := 14, slots := #[.int (121)], vm := .none },
  { cls := 14, slots := #[.int (122)], vm := .none },
  { cls := 14, slots := #[.int (123)], vm := .none },
  { cls := 14, slots := #[.int (124)], vm := .none },
  { cls := 14, slots := #[.int (125)], vm := .none },
  { cls := 14, slots := #[.int (126)], vm := .none },
  { cls := 14, slots := #[.int (127)], vm := .none },
  { cls := 7, slots := #[.null, .int 0, .int 0], vm := .none },
  { cls := 7, slots := #[.null, .int 1, .int 0], vm := .none }]
def classes : Array Class := #[k0, k1, k2, k3, k4, k5, k6, k7, k8, k9, k10, k11, k12, k13, k14, k15, k16, k17, k18, k19, k20, k21]
def interned : List (Array UInt16 × Addr) := []
def slotsUsed : Nat := 526
def theMethod : MethodId := ⟨1, 1⟩
def args0 : Array Value := #[.int 5, .int 6, .int 7]
def aboutOver (below : List Frame) : State where
  vm := { classes := classes, interned := interned.toArray }
  heap := heap
  slotsUsed := slotsUsed
  threads := #[{ frames := .invoking theMethod args0 :: below }]
def below0 : List Frame := [.native { method := ⟨0, 0⟩, args := #[] }]
def about1 : State := aboutOver below0
def p0 : Program := .bare "" "" ""
def e0 : Env := launch0.env 0 0 0
theorem w_frames : about1.frames = Frame.invoking theMethod args0 :: below0 := rfl
set_option maxRecDepth 65536 in
theorem w_args : argsFit about1.vm theMethod args0 = true := by decide +kernel
set_option maxRecDepth 65536 in
theorem w_heap : heapFits about1 = true := by decide +kernel
set_option maxRecDepth 65536 in
theorem w_runnable : about1.curStatus? = some .runnable := by decide +kernel
set_option maxRecDepth 65536 in
theorem w_alone : about1.alone = true := by decide +kernel
set_option maxRecDepth 65536 in
theorem w_named : about1.methodNamed? x = some theMethod := by decide +kernel
set_option maxRecDepth 65536 in
theorem w_hears : about1.hears theMethod below0 = true := by decide +kernel
set_option maxRecDepth 65536 in
theorem w_ripe : about1.ripe theMethod args0 below0 = true := by decide +kernel
theorem w_running : about1.status = .running := rfl
set_option maxRecDepth 65536 in
theorem w_room : about1.hasRoom e0.platform room_1 = true :=
  launch0.hasRoom_least _ room_1 (by decide +kernel) (by decide +kernel) (by decide +kernel) (by decide +kernel) (by decide +kernel) (by decide +kernel)
theorem allAtoms_all (ts : List Jvm.Cond) (a : Array Jvm.Value) (st : Jvm.State) : (allAtoms ts).before a st = ts.all (fun c => c.before a st) := by
  induction ts with
  | nil => rfl
  | cons c t ih =>
    show (Jvm.Cond.and c (allAtoms t)).before a st = _
    rw [Jvm.Cond.before_and, ih, List.all_cons]
def words1 : List Jvm.Cond := Jvm.Cond.code x code maxLocals ret :: tables_1
/-- a 'code' word, met by the world's own term for the bytes: nothing is compared byte by byte -/
theorem code_word {y : MethodName} {bytes : ByteArray} {mx : Nat} {rt : Option FieldType} {a : Array Value} {s : State} {m : MethodId} {meth : Method} {c : Code} (h1 : s.methodNamed? y = some m) (h2 : s.vm.method? m = some meth) (h3 : meth.code = some c) (h4 : c.code = bytes)
    (h5 : (c.maxLocals == mx && c.exceptionTable.isEmpty && decide (c.maxStack ≤ mostOperands) && decide (meth.sig.returnType = rt) && !meth.locks && decide (parseMethodDescriptor y.desc = some meth.sig)) = true) : (Jvm.Cond.code y bytes mx rt).before a s = true := by
  simp only [Bool.and_eq_true, beq_iff_eq, Bool.not_eq_true', decide_eq_true_eq] at h5
  obtain ⟨⟨⟨⟨⟨g1, g2⟩, g3⟩, g4⟩, g5⟩, g6⟩ := h5
  simp [Cond.before, Cond.holds, Cond.value, h1, h2, h3, h4, g1, g2, g3, g4, g5, g6]
def isCode : Jvm.Cond → Bool
  | .code _ _ _ _ => true
  | _ => false
theorem all_split {L : List Jvm.Cond} {P : Jvm.Cond → Bool} (h1 : L.all (fun c => isCode c || P c) = true) (h2 : ∀ c ∈ L.filter isCode, P c = true) : L.all P = true := by
  refine List.all_eq_true.mpr fun c hc => ?_
  have h := List.all_eq_true.mp h1 c hc
  rcases Bool.eq_false_or_eq_true (isCode c) with hi | hi
  · exact h2 c (List.mem_filter.mpr ⟨hc, hi⟩)
  · simpa [hi] using h
set_option maxRecDepth 65536 in
theorem w_c0 : (Jvm.Cond.code x code maxLocals ret).before args0 about1 = true := code_word (m := ⟨1, 1⟩) (meth := k1m1) (c := k1c1) (by decide +kernel) rfl rfl rfl (by decide +kernel)
set_option maxRecDepth 65536 in
theorem w_c1 : (Jvm.Cond.code ({ cls := "java/lang/Math", name := "max", desc := "(II)I" } : Jvm.MethodName) jdk_29_method_65_code (2 : Nat) (Option.some Jvm.ClassFile.FieldType.int)).before args0 about1 = true := code_word (m := ⟨2, 1⟩) (meth := k2m1) (c := k2c1) (by decide +kernel) rfl rfl rfl (by decide +kernel)
set_option maxRecDepth 65536 in
theorem w_c2 : (Jvm.Cond.code ({ cls := "com/example/near_duplicate_finder/nearduplicatefinder/Shingling", name := "<init>", desc := "(Lcom/example/near_duplicate_finder/nearduplicatefinder/Shingling$Unit;I)V" } : Jvm.MethodName) prog_35_method_1_code (3 : Nat) (Option.none : Option Jvm.ClassFile.FieldType)).before args0 about1 = true := code_word (m := ⟨8, 0⟩) (meth := k8m0) (c := k8c0) (by decide +kernel) rfl rfl rfl (by decide +kernel)
set_option maxRecDepth 65536 in
theorem w_c3 : (Jvm.Cond.code ({ cls := "java/lang/Object", name := "<init>", desc := "()V" } : Jvm.MethodName) object_method_1_code (1 : Nat) (Option.none : Option Jvm.ClassFile.FieldType)).before args0 about1 = true := code_word (m := ⟨0, 0⟩) (meth := k0m0) (c := k0c0) (by decide +kernel) rfl rfl rfl (by decide +kernel)
set_option maxRecDepth 65536 in
theorem w_c4 : (Jvm.Cond.code ({ cls := "java/util/Objects", name := "requireNonNull", desc := "(Ljava/lang/Object;Ljava/lang/String;)Ljava/lang/Object;" } : Jvm.MethodName) jdk_31_method_11_code (2 : Nat) (Option.some (Jvm.ClassFile.FieldType.object "java/lang/Object"))).before args0 about1 = true := code_word (m := ⟨12, 1⟩) (meth := k12m1) (c := k12c1) (by decide +kernel) rfl rfl rfl (by decide +kernel)
set_option maxRecDepth 65536 in
theorem w_c5 : (Jvm.Cond.code ({ cls := "java/lang/Integer", name := "valueOf", desc := "(I)Ljava/lang/Integer;" } : Jvm.MethodName) jdk_33_method_22_code (1 : Nat) (Option.some (Jvm.ClassFile.FieldType.object "java/lang/Integer"))).before args0 about1 = true := code_word (m := ⟨14, 0⟩) (meth := k14m0) (c := k14c0) (by decide +kernel) rfl rfl rfl (by decide +kernel)
set_option maxRecDepth 65536 in
theorem w_c6 : (Jvm.Cond.code ({ cls := "com/example/near_duplicate_finder/nearduplicatefinder/Shingling", name := "equals", desc := "(Ljava/lang/Object;)Z" } : Jvm.MethodName) prog_35_method_6_code (3 : Nat) (Option.some Jvm.ClassFile.FieldType.boolean)).before args0 about1 = true := code_word (m := ⟨8, 1⟩) (meth := k8m1) (c := k8c1) (by decide +kernel) rfl rfl rfl (by decide +kernel)
set_option maxRecDepth 65536 in
theorem w_c7 : (Jvm.Cond.code ({ cls := "java/lang/Integer", name := "<init>", desc := "(I)V" } : Jvm.MethodName) jdk_33_method_23_code (2 : Nat) (Option.none : Option Jvm.ClassFile.FieldType)).before args0 about1 = true := code_word (m := ⟨14, 1⟩) (meth := k14m1) (c := k14c1) (by decide +kernel) rfl rfl rfl (by decide +kernel)
set_option maxRecDepth 65536 in
theorem w_c8 : (Jvm.Cond.code ({ cls := "java/lang/Number", name := "<init>", desc := "()V" } : Jvm.MethodName) jdk_18_method_1_code (1 : Nat) (Option.none : Option Jvm.ClassFile.FieldType)).before args0 about1 = true := code_word (m := ⟨13, 0⟩) (meth := k13m0) (c := k13c0) (by decide +kernel) rfl rfl rfl (by decide +kernel)
def codes1 : List Jvm.Cond := [Jvm.Cond.code x code maxLocals ret, Jvm.Cond.code ({ cls := "java/lang/Math", name := "max", desc := "(II)I" } : Jvm.MethodName) jdk_29_method_65_code (2 : Nat) (Option.some Jvm.ClassFile.FieldType.int), Jvm.Cond.code ({ cls := "com/example/near_duplicate_finder/nearduplicatefinder/Shingling", name := "<init>", desc := "(Lcom/example/near_duplicate_finder/nearduplicatefinder/Shingling$Unit;I)V" } : Jvm.MethodName) prog_35_method_1_code (3 : Nat) (Option.none : Option Jvm.ClassFile.FieldType), Jvm.Cond.code ({ cls := "java/lang/Object", name := "<init>", desc := "()V" } : Jvm.MethodName) object_method_1_code (1 : Nat) (Option.none : Option Jvm.ClassFile.FieldType), Jvm.Cond.code ({ cls := "java/util/Objects", name := "requireNonNull", desc := "(Ljava/lang/Object;Ljava/lang/String;)Ljava/lang/Object;" } : Jvm.MethodName) jdk_31_method_11_code (2 : Nat) (Option.some (Jvm.ClassFile.FieldType.object "java/lang/Object")), Jvm.Cond.code ({ cls := "java/lang/Integer", name := "valueOf", desc := "(I)Ljava/lang/Integer;" } : Jvm.MethodName) jdk_33_method_22_code (1 : Nat) (Option.some (Jvm.ClassFile.FieldType.object "java/lang/Integer")), Jvm.Cond.code ({ cls := "com/example/near_duplicate_finder/nearduplicatefinder/Shingling", name := "equals", desc := "(Ljava/lang/Object;)Z" } : Jvm.MethodName) prog_35_method_6_code (3 : Nat) (Option.some Jvm.ClassFile.FieldType.boolean), Jvm.Cond.code ({ cls := "java/lang/Integer", name := "<init>", desc := "(I)V" } : Jvm.MethodName) jdk_33_method_23_code (2 : Nat) (Option.none : Option Jvm.ClassFile.FieldType), Jvm.Cond.code ({ cls := "java/lang/Number", name := "<init>", desc := "()V" } : Jvm.MethodName) jdk_18_method_1_code (1 : Nat) (Option.none : Option Jvm.ClassFile.FieldType)]
set_option maxRecDepth 65536 in
theorem codes_eq : words1.filter isCode = codes1 := rfl
theorem w_codes : ∀ c ∈ words1.filter isCode, c.before args0 about1 = true := by
  rw [codes_eq]
  intro c hc
  simp only [codes1, List.mem_cons, List.not_mem_nil, or_false] at hc
  rcases hc with rfl | rfl | rfl | rfl | rfl | rfl | rfl | rfl | rfl
  · exact w_c0
  · exact w_c1
  · exact w_c2
  · exact w_c3
  · exact w_c4
  · exact w_c5
  · exact w_c6
  · exact w_c7
  · exact w_c8
set_option maxRecDepth 65536 in
theorem w_t1 : (words1.take 24).all (fun c => isCode c || c.before args0 about1) = true := by decide +kernel
set_option maxRecDepth 65536 in
theorem w_t2 : ((words1.drop 24).take 24).all (fun c => isCode c || c.before args0 about1) = true := by decide +kernel
set_option maxRecDepth 65536 in
theorem w_t3 : ((words1.drop 24).drop 24).all (fun c => isCode c || c.before args0 about1) = true := by decide +kernel
theorem w_tables : (allAtoms (Jvm.Cond.code x code maxLocals ret :: tables_1)).before args0 about1 = true := by
  rw [allAtoms_all]
  show words1.all (fun c => c.before args0 about1) = true
  refine all_split ?_ w_codes
  rw [← List.take_append_drop 24 words1, List.all_append, w_t1, ← List.take_append_drop 24 (words1.drop 24), List.all_append, w_t2, w_t3]
  rfl
set_option maxRecDepth 65536 in
theorem w_rest : rest_1_c.before args0 about1 = true := by decide +kernel
set_option maxRecDepth 65536 in
theorem w_case : (Jvm.Cond.and given_1 narrow_1).before args0 about1 = true := by decide +kernel
theorem w_applies : (headSpec (Jvm.Cond.code x code maxLocals ret :: tables_1) room_1).applies x e0.platform about1 = true :=
  (Spec.applies_iff w_frames).mpr ⟨w_running, w_runnable, w_alone, w_named, w_hears, w_ripe, w_room, w_tables⟩
theorem atStart : AtStart classFile x code maxLocals ret World_1 tables_1 room_1 Calls_1 rest_1 Pre_1 launch0 p0 e0 about1 theMethod args0 below0 :=
  ⟨lists_1, trivial, launch0.admits_env _ _ _, launch0.least_env, fairChoices_fair.cas, fairChoices_fair.clock, w_frames, w_args, w_heap, w_applies, trivial, w_rest, w_case⟩
end start1
theorem witness_1 : WitnessClaimed_1 := ⟨start1.p0, start1.e0, start1.about1, start1.theMethod, start1.args0, start1.below0, start1.atStart⟩
end Jvm.Pilot.@@N@@
